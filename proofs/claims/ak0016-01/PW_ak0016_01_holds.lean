import PyProof.Rows.All
import KE.KNest
import KE.KNestM
import Wide.FinOn
import OpenK.AllK
import Wide.All
import PySem.Challenge.RW_ak0016_01

open PySem PySem.W PySem.Spec PySem.Calls PyProof.Rows
set_option Elab.async false
set_option maxRecDepth 100000
namespace Mine
local macro_rules | `(tactic| case' fr9 => $t:tacticSeq) => do
  let mut ns : List Lean.Name := []
  for s in t.raw.topDown do
    let k := s.getKind
    let l := if k == `Lean.Parser.Term.syntheticHole then [s[1]] else if k == `Lean.Parser.Tactic.rcasesPat.one then [s[0]] else if k == `Lean.Parser.Tactic.intro || k == `Lean.Parser.Tactic.renameI || k == `Lean.Parser.Tactic.caseArg then s[1].getArgs.toList else if k == `Lean.Parser.Term.haveId || k == `Lean.Parser.Term.letId then s.getArgs.toList else []
    ns := (l.filter fun x => x.isIdent && x.getId != `rfl).map (·.getId) ++ ns
  let scp ← Lean.MonadQuotation.getCurrMacroScope
  let mod ← Lean.MonadQuotation.getContext
  let u ← t.raw.replaceM fun s => return if s.isIdent && ns.contains s.getId.getRoot then some (Lean.mkIdentFrom s (Lean.addMacroScope mod s.getId scp)) else none
  let v : Lean.TSyntax `Lean.Parser.Tactic.tacticSeq := ⟨u⟩
  `(tactic| ($v))
local macro_rules | `(tactic| walk_at $s:str) => do
  let t := Lean.Syntax.mkStrLit ("~" ++ s.getString)
  `(tactic| k_extra $t)
local macro_rules | `(tactic| k_room) => `(tactic| k_extra "~k_room")
local macro_rules | `(tactic| k_mem) => `(tactic| k_extra "~k_mem")
local macro_rules | `(tactic| k_inst) => `(tactic| k_extra "~k_inst")
local macro_rules | `(tactic| k_all) => `(tactic| k_extra "~k_all")
local macro_rules | `(tactic| lcg_src) => `(tactic| k_extra "~lcg_src")
local macro_rules | `(tactic| lcg_sub) => `(tactic| k_extra "~lcg_sub")
section secHead
noncomputable def stmtAt (l : List Stmt) : Nat → Stmt
  | 0 => match l with | s :: _ => s | [] => .Pass default
  | n + 1 => match l with | _ :: r => stmtAt r n | [] => .Pass default
noncomputable def clsBody : Stmt → List Stmt
  | .ClassDef _ _ _ b _ _ _ _ _ _ _ => b
  | _ => []
noncomputable def defParts : Stmt → Arguments × List Stmt × Scope
  | .FunctionDef _ a b _ _ _ sc _ _ _ => (a, b, sc)
  | _ => default
noncomputable def docV (d : Arguments × List Stmt × Scope) (t : Tok) : Value := match d.2.1 with
  | .Expr (.Constant (.str s) _ _) _ :: _ => .str s t
  | _ => .none
noncomputable def docC (i : Nat) (t : Tok) : Value := match clsBody (stmtAt PySem.Challenge.pw_ak0016_01.main.body i) with
  | .Expr (.Constant (.str s) _ _) _ :: _ => .str s t
  | _ => .none
@[reducible] noncomputable def de (P : Params) (k : Str) (t : Tok) (v : Value) : DictEntry := { hash := PyData.keyHash P k, key := .str k t, val := v }
@[reducible] noncomputable def tupO (l : List Value) : Obj := ⟨.type "tuple", none, .seq l.toArray 0, #[]⟩
@[reducible] noncomputable def fldO (l : List Value) : Obj := ⟨.none, none, .fields l.toArray, #[]⟩
@[reducible] noncomputable def cdO (nm ql : Str) (t : Tok) (ln a b c fl : Int) (r8 : Addr) (i : Bool) (r11 : Addr) (v12 v13 v14 v15 : Value) (u : Int) (t4 : Tok) : Obj :=
  ⟨.type "code", none, .fields #[.str nm t, .str ql (t + 1), .str (.ofString "/claim/cut.py") (t + 2), .int ln 0, .int a 0, .int b 0, .int c 0, .int fl 0, .ref r8, .bool i, .int 181 0, .ref r11, v12, v13, v14, v15, .int u 0, .int ln 0, .str (.ofString "/claim/cut.py") t4], #[]⟩
@[reducible] noncomputable def fn0 (nm ql : Str) (d : Arguments × List Stmt × Scope) : Obj := ⟨.none, none, .func ⟨nm, ql, d.1, .stmts d.2.1, d.2.2, 0, [], .none, .none, .none, .none, none, .none, .none, 0⟩, #[]⟩
@[reducible] noncomputable def fnO (nm ql : Str) (d : Arguments × List Stmt × Scope) (dv kv doc pm : Value) (c : Addr) : Obj := ⟨.type "function", none, .func ⟨nm, ql, d.1, .stmts d.2.1, d.2.2, 3, [], dv, kv, doc, pm, none, .ref c, .none, 0⟩, #[]⟩
@[reducible] noncomputable def fnC (nm ql : Str) (d : Arguments × List Stmt × Scope) (cl : List (Str × Addr)) (dv kv doc pm : Value) (c : Addr) (ct : Value) : Obj := ⟨.type "function", none, .func ⟨nm, ql, d.1, .stmts d.2.1, d.2.2, 3, cl, dv, kv, doc, pm, none, .ref c, ct, 0⟩, #[]⟩
noncomputable abbrev pw : Program := PySem.Challenge.pw_ak0016_01
noncomputable def env9 : Env := { scope := PySem.Challenge.pw_ak0016_01.main.scope, locals := mainNs, globals := mainNs, cells := [], code := .ref 13, frame := some 14 }
noncomputable abbrev q9 : Pos := ⟨0, 0, 0, 0⟩
noncomputable abbrev ann9 : Option Value := some (.ref 6)
noncomputable abbrev B9 : List Frame := [topFrame q9]
noncomputable abbrev cd9 (b : List Stmt) : Code := .body b env9
noncomputable def fp0 : Arguments × List Stmt × Scope := defParts (stmtAt PySem.Challenge.pw_ak0016_01.main.body 0)
noncomputable def fp2x0 : Arguments × List Stmt × Scope := defParts (stmtAt (clsBody (stmtAt PySem.Challenge.pw_ak0016_01.main.body 2)) 0)
noncomputable def fp2x1 : Arguments × List Stmt × Scope := defParts (stmtAt (clsBody (stmtAt PySem.Challenge.pw_ak0016_01.main.body 2)) 1)
noncomputable def fp2x2 : Arguments × List Stmt × Scope := defParts (stmtAt (clsBody (stmtAt PySem.Challenge.pw_ak0016_01.main.body 2)) 2)
noncomputable def fp2x3 : Arguments × List Stmt × Scope := defParts (stmtAt (clsBody (stmtAt PySem.Challenge.pw_ak0016_01.main.body 2)) 3)
noncomputable def fp2x4 : Arguments × List Stmt × Scope := defParts (stmtAt (clsBody (stmtAt PySem.Challenge.pw_ak0016_01.main.body 2)) 4)
noncomputable def fp2x5 : Arguments × List Stmt × Scope := defParts (stmtAt (clsBody (stmtAt PySem.Challenge.pw_ak0016_01.main.body 2)) 5)
noncomputable def fp2x6 : Arguments × List Stmt × Scope := defParts (stmtAt (clsBody (stmtAt PySem.Challenge.pw_ak0016_01.main.body 2)) 6)
noncomputable def fp2x7 : Arguments × List Stmt × Scope := defParts (stmtAt (clsBody (stmtAt PySem.Challenge.pw_ak0016_01.main.body 2)) 7)
noncomputable def fp2x8 : Arguments × List Stmt × Scope := defParts (stmtAt (clsBody (stmtAt PySem.Challenge.pw_ak0016_01.main.body 2)) 8)
noncomputable def fp2x9 : Arguments × List Stmt × Scope := defParts (stmtAt (clsBody (stmtAt PySem.Challenge.pw_ak0016_01.main.body 2)) 9)
noncomputable def fp2x10 : Arguments × List Stmt × Scope := defParts (stmtAt (clsBody (stmtAt PySem.Challenge.pw_ak0016_01.main.body 2)) 10)
noncomputable def fp2x11 : Arguments × List Stmt × Scope := defParts (stmtAt (clsBody (stmtAt PySem.Challenge.pw_ak0016_01.main.body 2)) 11)
noncomputable def fp2x12 : Arguments × List Stmt × Scope := defParts (stmtAt (clsBody (stmtAt PySem.Challenge.pw_ak0016_01.main.body 2)) 12)
noncomputable def fp2x13 : Arguments × List Stmt × Scope := defParts (stmtAt (clsBody (stmtAt PySem.Challenge.pw_ak0016_01.main.body 2)) 13)
noncomputable def fp2x14 : Arguments × List Stmt × Scope := defParts (stmtAt (clsBody (stmtAt PySem.Challenge.pw_ak0016_01.main.body 2)) 14)
noncomputable def fp2x15 : Arguments × List Stmt × Scope := defParts (stmtAt (clsBody (stmtAt PySem.Challenge.pw_ak0016_01.main.body 2)) 15)
noncomputable def fp4x0 : Arguments × List Stmt × Scope := defParts (stmtAt (clsBody (stmtAt PySem.Challenge.pw_ak0016_01.main.body 4)) 0)
noncomputable def fp4x1 : Arguments × List Stmt × Scope := defParts (stmtAt (clsBody (stmtAt PySem.Challenge.pw_ak0016_01.main.body 4)) 1)
noncomputable def fp4x2 : Arguments × List Stmt × Scope := defParts (stmtAt (clsBody (stmtAt PySem.Challenge.pw_ak0016_01.main.body 4)) 2)
noncomputable def fp4x3 : Arguments × List Stmt × Scope := defParts (stmtAt (clsBody (stmtAt PySem.Challenge.pw_ak0016_01.main.body 4)) 3)
noncomputable def fp5 : Arguments × List Stmt × Scope := defParts (stmtAt PySem.Challenge.pw_ak0016_01.main.body 5)
noncomputable def fp6x1 : Arguments × List Stmt × Scope := defParts (stmtAt (clsBody (stmtAt PySem.Challenge.pw_ak0016_01.main.body 6)) 1)
noncomputable def fp6x2 : Arguments × List Stmt × Scope := defParts (stmtAt (clsBody (stmtAt PySem.Challenge.pw_ak0016_01.main.body 6)) 2)
noncomputable def fp6x3 : Arguments × List Stmt × Scope := defParts (stmtAt (clsBody (stmtAt PySem.Challenge.pw_ak0016_01.main.body 6)) 3)
noncomputable def fp6x4 : Arguments × List Stmt × Scope := defParts (stmtAt (clsBody (stmtAt PySem.Challenge.pw_ak0016_01.main.body 6)) 4)
noncomputable def fp6x5 : Arguments × List Stmt × Scope := defParts (stmtAt (clsBody (stmtAt PySem.Challenge.pw_ak0016_01.main.body 6)) 5)
noncomputable def fp6x6 : Arguments × List Stmt × Scope := defParts (stmtAt (clsBody (stmtAt PySem.Challenge.pw_ak0016_01.main.body 6)) 6)
noncomputable def fp6x7 : Arguments × List Stmt × Scope := defParts (stmtAt (clsBody (stmtAt PySem.Challenge.pw_ak0016_01.main.body 6)) 7)
noncomputable def fp6x8 : Arguments × List Stmt × Scope := defParts (stmtAt (clsBody (stmtAt PySem.Challenge.pw_ak0016_01.main.body 6)) 8)
noncomputable def fp6x9 : Arguments × List Stmt × Scope := defParts (stmtAt (clsBody (stmtAt PySem.Challenge.pw_ak0016_01.main.body 6)) 9)
noncomputable def fp6x10 : Arguments × List Stmt × Scope := defParts (stmtAt (clsBody (stmtAt PySem.Challenge.pw_ak0016_01.main.body 6)) 10)
noncomputable def fp6x11 : Arguments × List Stmt × Scope := defParts (stmtAt (clsBody (stmtAt PySem.Challenge.pw_ak0016_01.main.body 6)) 11)
noncomputable def fp6x12 : Arguments × List Stmt × Scope := defParts (stmtAt (clsBody (stmtAt PySem.Challenge.pw_ak0016_01.main.body 6)) 12)
noncomputable def fp6x13 : Arguments × List Stmt × Scope := defParts (stmtAt (clsBody (stmtAt PySem.Challenge.pw_ak0016_01.main.body 6)) 13)
noncomputable def fp6x14 : Arguments × List Stmt × Scope := defParts (stmtAt (clsBody (stmtAt PySem.Challenge.pw_ak0016_01.main.body 6)) 14)
noncomputable def fp7x4 : Arguments × List Stmt × Scope := defParts (stmtAt (clsBody (stmtAt PySem.Challenge.pw_ak0016_01.main.body 7)) 4)
noncomputable def fp7x5 : Arguments × List Stmt × Scope := defParts (stmtAt (clsBody (stmtAt PySem.Challenge.pw_ak0016_01.main.body 7)) 5)
noncomputable def fp7x6 : Arguments × List Stmt × Scope := defParts (stmtAt (clsBody (stmtAt PySem.Challenge.pw_ak0016_01.main.body 7)) 6)
noncomputable def fp7x8 : Arguments × List Stmt × Scope := defParts (stmtAt (clsBody (stmtAt PySem.Challenge.pw_ak0016_01.main.body 7)) 8)
noncomputable def fp7x9 : Arguments × List Stmt × Scope := defParts (stmtAt (clsBody (stmtAt PySem.Challenge.pw_ak0016_01.main.body 7)) 9)
noncomputable def fp7x10 : Arguments × List Stmt × Scope := defParts (stmtAt (clsBody (stmtAt PySem.Challenge.pw_ak0016_01.main.body 7)) 10)
noncomputable def fp8x1 : Arguments × List Stmt × Scope := defParts (stmtAt (clsBody (stmtAt PySem.Challenge.pw_ak0016_01.main.body 8)) 1)
noncomputable def fp8x2 : Arguments × List Stmt × Scope := defParts (stmtAt (clsBody (stmtAt PySem.Challenge.pw_ak0016_01.main.body 8)) 2)
noncomputable def fp8x3 : Arguments × List Stmt × Scope := defParts (stmtAt (clsBody (stmtAt PySem.Challenge.pw_ak0016_01.main.body 8)) 3)
noncomputable def fp9x1 : Arguments × List Stmt × Scope := defParts (stmtAt (clsBody (stmtAt PySem.Challenge.pw_ak0016_01.main.body 9)) 1)
noncomputable def fp9x2 : Arguments × List Stmt × Scope := defParts (stmtAt (clsBody (stmtAt PySem.Challenge.pw_ak0016_01.main.body 9)) 2)
noncomputable def fp9x3 : Arguments × List Stmt × Scope := defParts (stmtAt (clsBody (stmtAt PySem.Challenge.pw_ak0016_01.main.body 9)) 3)
noncomputable def fp9x4 : Arguments × List Stmt × Scope := defParts (stmtAt (clsBody (stmtAt PySem.Challenge.pw_ak0016_01.main.body 9)) 4)
noncomputable def fp9x5 : Arguments × List Stmt × Scope := defParts (stmtAt (clsBody (stmtAt PySem.Challenge.pw_ak0016_01.main.body 9)) 5)
noncomputable def fp9x6 : Arguments × List Stmt × Scope := defParts (stmtAt (clsBody (stmtAt PySem.Challenge.pw_ak0016_01.main.body 9)) 6)
noncomputable def fp9x7 : Arguments × List Stmt × Scope := defParts (stmtAt (clsBody (stmtAt PySem.Challenge.pw_ak0016_01.main.body 9)) 7)
noncomputable def fp9x8 : Arguments × List Stmt × Scope := defParts (stmtAt (clsBody (stmtAt PySem.Challenge.pw_ak0016_01.main.body 9)) 8)
noncomputable def fp9x9 : Arguments × List Stmt × Scope := defParts (stmtAt (clsBody (stmtAt PySem.Challenge.pw_ak0016_01.main.body 9)) 9)
noncomputable def fp9x10 : Arguments × List Stmt × Scope := defParts (stmtAt (clsBody (stmtAt PySem.Challenge.pw_ak0016_01.main.body 9)) 10)
noncomputable def fp9x11 : Arguments × List Stmt × Scope := defParts (stmtAt (clsBody (stmtAt PySem.Challenge.pw_ak0016_01.main.body 9)) 11)
noncomputable def fp9x12 : Arguments × List Stmt × Scope := defParts (stmtAt (clsBody (stmtAt PySem.Challenge.pw_ak0016_01.main.body 9)) 12)
noncomputable def fp9x13 : Arguments × List Stmt × Scope := defParts (stmtAt (clsBody (stmtAt PySem.Challenge.pw_ak0016_01.main.body 9)) 13)
noncomputable def fp9x14 : Arguments × List Stmt × Scope := defParts (stmtAt (clsBody (stmtAt PySem.Challenge.pw_ak0016_01.main.body 9)) 14)
noncomputable def fp9x15 : Arguments × List Stmt × Scope := defParts (stmtAt (clsBody (stmtAt PySem.Challenge.pw_ak0016_01.main.body 9)) 15)
noncomputable def fp9x16 : Arguments × List Stmt × Scope := defParts (stmtAt (clsBody (stmtAt PySem.Challenge.pw_ak0016_01.main.body 9)) 16)
noncomputable def fp9x17 : Arguments × List Stmt × Scope := defParts (stmtAt (clsBody (stmtAt PySem.Challenge.pw_ak0016_01.main.body 9)) 17)
noncomputable def fp11x1 : Arguments × List Stmt × Scope := defParts (stmtAt (clsBody (stmtAt PySem.Challenge.pw_ak0016_01.main.body 11)) 1)
noncomputable def fp11x2 : Arguments × List Stmt × Scope := defParts (stmtAt (clsBody (stmtAt PySem.Challenge.pw_ak0016_01.main.body 11)) 2)
noncomputable def fp11x3 : Arguments × List Stmt × Scope := defParts (stmtAt (clsBody (stmtAt PySem.Challenge.pw_ak0016_01.main.body 11)) 3)
noncomputable def fp11x4 : Arguments × List Stmt × Scope := defParts (stmtAt (clsBody (stmtAt PySem.Challenge.pw_ak0016_01.main.body 11)) 4)
noncomputable def fp11x5 : Arguments × List Stmt × Scope := defParts (stmtAt (clsBody (stmtAt PySem.Challenge.pw_ak0016_01.main.body 11)) 5)
noncomputable def fp11x6 : Arguments × List Stmt × Scope := defParts (stmtAt (clsBody (stmtAt PySem.Challenge.pw_ak0016_01.main.body 11)) 6)
noncomputable def fp11x7 : Arguments × List Stmt × Scope := defParts (stmtAt (clsBody (stmtAt PySem.Challenge.pw_ak0016_01.main.body 11)) 7)
noncomputable def fp12x1 : Arguments × List Stmt × Scope := defParts (stmtAt (clsBody (stmtAt PySem.Challenge.pw_ak0016_01.main.body 12)) 1)
noncomputable def fp12x2 : Arguments × List Stmt × Scope := defParts (stmtAt (clsBody (stmtAt PySem.Challenge.pw_ak0016_01.main.body 12)) 2)
noncomputable def fp12x3 : Arguments × List Stmt × Scope := defParts (stmtAt (clsBody (stmtAt PySem.Challenge.pw_ak0016_01.main.body 12)) 3)
noncomputable def fp12x4 : Arguments × List Stmt × Scope := defParts (stmtAt (clsBody (stmtAt PySem.Challenge.pw_ak0016_01.main.body 12)) 4)
noncomputable def fp12x5 : Arguments × List Stmt × Scope := defParts (stmtAt (clsBody (stmtAt PySem.Challenge.pw_ak0016_01.main.body 12)) 5)
noncomputable def fp12x6 : Arguments × List Stmt × Scope := defParts (stmtAt (clsBody (stmtAt PySem.Challenge.pw_ak0016_01.main.body 12)) 6)
noncomputable def fp12x7 : Arguments × List Stmt × Scope := defParts (stmtAt (clsBody (stmtAt PySem.Challenge.pw_ak0016_01.main.body 12)) 7)
noncomputable def fp12x8 : Arguments × List Stmt × Scope := defParts (stmtAt (clsBody (stmtAt PySem.Challenge.pw_ak0016_01.main.body 12)) 8)
noncomputable def fp12x9 : Arguments × List Stmt × Scope := defParts (stmtAt (clsBody (stmtAt PySem.Challenge.pw_ak0016_01.main.body 12)) 9)
noncomputable def fp12x10 : Arguments × List Stmt × Scope := defParts (stmtAt (clsBody (stmtAt PySem.Challenge.pw_ak0016_01.main.body 12)) 10)
noncomputable def fp12x11 : Arguments × List Stmt × Scope := defParts (stmtAt (clsBody (stmtAt PySem.Challenge.pw_ak0016_01.main.body 12)) 11)
noncomputable def fp14 : Arguments × List Stmt × Scope := defParts (stmtAt PySem.Challenge.pw_ak0016_01.main.body 14)
noncomputable def fp15 : Arguments × List Stmt × Scope := defParts (stmtAt PySem.Challenge.pw_ak0016_01.main.body 15)
noncomputable def fp16 : Arguments × List Stmt × Scope := defParts (stmtAt PySem.Challenge.pw_ak0016_01.main.body 16)
noncomputable def fp18x1 : Arguments × List Stmt × Scope := defParts (stmtAt (clsBody (stmtAt PySem.Challenge.pw_ak0016_01.main.body 18)) 1)
noncomputable def fp18x2 : Arguments × List Stmt × Scope := defParts (stmtAt (clsBody (stmtAt PySem.Challenge.pw_ak0016_01.main.body 18)) 2)
noncomputable def fp18x3 : Arguments × List Stmt × Scope := defParts (stmtAt (clsBody (stmtAt PySem.Challenge.pw_ak0016_01.main.body 18)) 3)
noncomputable def fp18x4 : Arguments × List Stmt × Scope := defParts (stmtAt (clsBody (stmtAt PySem.Challenge.pw_ak0016_01.main.body 18)) 4)
noncomputable def fp18x5 : Arguments × List Stmt × Scope := defParts (stmtAt (clsBody (stmtAt PySem.Challenge.pw_ak0016_01.main.body 18)) 5)
noncomputable def fp18x6 : Arguments × List Stmt × Scope := defParts (stmtAt (clsBody (stmtAt PySem.Challenge.pw_ak0016_01.main.body 18)) 6)
noncomputable def fp18x7 : Arguments × List Stmt × Scope := defParts (stmtAt (clsBody (stmtAt PySem.Challenge.pw_ak0016_01.main.body 18)) 7)
noncomputable def fp18x8 : Arguments × List Stmt × Scope := defParts (stmtAt (clsBody (stmtAt PySem.Challenge.pw_ak0016_01.main.body 18)) 8)
noncomputable def fp18x9 : Arguments × List Stmt × Scope := defParts (stmtAt (clsBody (stmtAt PySem.Challenge.pw_ak0016_01.main.body 18)) 9)
noncomputable def fp18x10 : Arguments × List Stmt × Scope := defParts (stmtAt (clsBody (stmtAt PySem.Challenge.pw_ak0016_01.main.body 18)) 10)
noncomputable def fp18x11 : Arguments × List Stmt × Scope := defParts (stmtAt (clsBody (stmtAt PySem.Challenge.pw_ak0016_01.main.body 18)) 11)
noncomputable def fp21 : Arguments × List Stmt × Scope := defParts (stmtAt PySem.Challenge.pw_ak0016_01.main.body 21)
noncomputable def fp22 : Arguments × List Stmt × Scope := defParts (stmtAt PySem.Challenge.pw_ak0016_01.main.body 22)
noncomputable def fp23 : Arguments × List Stmt × Scope := defParts (stmtAt PySem.Challenge.pw_ak0016_01.main.body 23)
noncomputable def fp24 : Arguments × List Stmt × Scope := defParts (stmtAt PySem.Challenge.pw_ak0016_01.main.body 24)
noncomputable def fp25 : Arguments × List Stmt × Scope := defParts (stmtAt PySem.Challenge.pw_ak0016_01.main.body 25)
noncomputable def fp26 : Arguments × List Stmt × Scope := defParts (stmtAt PySem.Challenge.pw_ak0016_01.main.body 26)
noncomputable def o11 (_ : Params) : Obj := tupO []
noncomputable def o12 (_ : Params) : Obj := fldO []
noncomputable def o13 (_ : Params) : Obj := cdO (.ofString "<module>") (.ofString "<module>") 182 1 0 0 0 0 11 false 12 .none .none .none .none 185 186
noncomputable def o14 (_ : Params) : Obj := ⟨(.type "frame"), none, .plain, #[(some (.ref 13)), (some (.ref 3)), (some (.ref 3)), none, (some (.str (.ofString "__main__") 164)), none, (some (.ref 0))]⟩
noncomputable def t0 (P : Params) : BT := (.node (boot_o_0 P) (.node (boot_o_1 P) (.node (boot_o_3 P) (.node (boot_o_7 P) .nil .nil) (.node (o11 P) .nil .nil)) (.node (boot_o_5 P) (.node (boot_o_9 P) .nil .nil) (.node (o13 P) .nil .nil))) (.node (boot_o_2 P) (.node (boot_o_4 P) (.node (boot_o_8 P) .nil .nil) (.node (o12 P) .nil .nil)) (.node (boot_o_6 P) (.node (boot_o_10 P) .nil .nil) (.node (o14 P) .nil .nil))))
noncomputable def s0 (w : World) (os : OsState) : SharedT := ⟨t0 w.params, 15, {}, #[], {}, 187, os⟩
noncomputable def o3 (P : Params) : Obj := ⟨(.type "dict"), none, .dict #[de P (.ofString "__name__") 165 (.str (.ofString "matchpy.utils") 194), de P (.ofString "__doc__") 166 .none, de P (.ofString "__package__") 167 .none, de P (.ofString "__loader__") 168 (.builtin "__main__.__loader__#opaque"), de P (.ofString "__spec__") 169 .none, de P (.ofString "__annotations__") 170 (.ref 6), de P (.ofString "__builtins__") 171 (.ref 4), de P (.ofString "__file__") 173 (.str (.ofString "/claim/cut.py") 172), de P (.ofString "__cached__") 174 .none, de P (.ofString "_wall") 193 (.ref 21), de P (.ofString "Multiset") 342 (.ref 135)] 11, #[]⟩
noncomputable def o12v1 (_ : Params) : Obj := fldO [(.int 1 0), (.int 0 0), (.ref 20), (.int 5 0), (.int 0 0), (.ref 27)]
noncomputable def o17 (_ : Params) : Obj := tupO [(.str (.ofString "k") 190)]
noncomputable def o19 (_ : Params) : Obj := fn0 (.ofString "_wall") (.ofString "_wall") fp0
noncomputable def o20 (_ : Params) : Obj := cdO (.ofString "_wall") (.ofString "_wall") 187 1 1 0 0 3 15 true 16 .none (.ref 17) (.ref 18) (.ref 19) 191 192
noncomputable def o21 (_ : Params) : Obj := fnO (.ofString "_wall") (.ofString "_wall") fp0 .none .none .none (.str (.ofString "__main__") 164) 20
noncomputable def o23 (_ : Params) : Obj := ⟨(.type "builtin_function_or_method"), none, .fields #[(.builtin "type.__prepare__"), (.type "type")], #[]⟩
noncomputable def o24 (P : Params) : Obj := ⟨(.type "dict"), none, .dict #[de P (.ofString "__module__") 203 (.str (.ofString "matchpy.utils") 194), de P (.ofString "__qualname__") 205 (.str (.ofString "Multiset") 204), de P (.ofString "__firstlineno__") 207 (.int 5 206), de P (.ofString "__init__") 213 (.ref 35), de P (.ofString "__getitem__") 222 (.ref 42), de P (.ofString "__setitem__") 228 (.ref 47), de P (.ofString "__contains__") 236 (.ref 54), de P (.ofString "__len__") 245 (.ref 61), de P (.ofString "__iter__") 254 (.ref 68), de P (.ofString "items") 260 (.ref 73), de P (.ofString "distinct_elements") 267 (.ref 80), de P (.ofString "copy") 274 (.ref 87), de P (.ofString "add") 282 (.ref 94), de P (.ofString "__eq__") 288 (.ref 99), de P (.ofString "__ne__") 296 (.ref 106), de P (.ofString "__le__") 302 (.ref 111), de P (.ofString "__add__") 312 (.ref 118), de P (.ofString "__sub__") 322 (.ref 125), de P (.ofString "__mul__") 332 (.ref 132), de P (.ofString "__static_attributes__") 334 (.ref 133)] 20, #[]⟩
noncomputable def o26 (_ : Params) : Obj := fldO [(.int 7 0), (.int 4 0), (.ref 34), (.int 18 0), (.int 4 0), (.ref 41), (.int 24 0), (.int 4 0), (.ref 46), (.int 34 0), (.int 4 0), (.ref 53), (.int 37 0), (.int 4 0), (.ref 60), (.int 43 0), (.int 4 0), (.ref 67), (.int 48 0), (.int 4 0), (.ref 72), (.int 51 0), (.int 4 0), (.ref 79), (.int 54 0), (.int 4 0), (.ref 86), (.int 57 0), (.int 4 0), (.ref 93), (.int 60 0), (.int 4 0), (.ref 98), (.int 65 0), (.int 4 0), (.ref 105), (.int 68 0), (.int 4 0), (.ref 110), (.int 71 0), (.int 4 0), (.ref 117), (.int 77 0), (.int 4 0), (.ref 124), (.int 83 0), (.int 4 0), (.ref 131)]
noncomputable def o27 (_ : Params) : Obj := cdO (.ofString "Multiset") (.ofString "Multiset") 198 5 0 0 0 0 25 false 26 .none .none .none .none 201 202
noncomputable def o28 (_ : Params) : Obj := ⟨(.type "frame"), none, .plain, #[(some (.ref 27)), (some (.ref 3)), (some (.ref 24)), none, (some (.str (.ofString "matchpy.utils") 194)), none, (some (.ref 0))]⟩
noncomputable def o30 (_ : Params) : Obj := tupO [(.ref 29)]
noncomputable def o33 (_ : Params) : Obj := fn0 (.ofString "__init__") (.ofString "Multiset.__init__") fp2x0
noncomputable def o34 (_ : Params) : Obj := cdO (.ofString "__init__") (.ofString "Multiset.__init__") 208 7 2 0 0 3 31 true 32 .none .none .none (.ref 33) 211 212
noncomputable def o35 (_ : Params) : Obj := fnO (.ofString "__init__") (.ofString "Multiset.__init__") fp2x0 (.ref 30) .none .none (.str (.ofString "matchpy.utils") 194) 34
noncomputable def o38 (_ : Params) : Obj := tupO [(.str (.ofString "self") 217), (.str (.ofString "item") 218), (.str (.ofString "row") 219)]
noncomputable def o40 (_ : Params) : Obj := fn0 (.ofString "__getitem__") (.ofString "Multiset.__getitem__") fp2x1
noncomputable def o41 (_ : Params) : Obj := cdO (.ofString "__getitem__") (.ofString "Multiset.__getitem__") 214 18 2 0 0 3 36 true 37 .none (.ref 38) (.ref 39) (.ref 40) 220 221
noncomputable def o42 (_ : Params) : Obj := fnO (.ofString "__getitem__") (.ofString "Multiset.__getitem__") fp2x1 .none .none .none (.str (.ofString "matchpy.utils") 194) 41
noncomputable def o45 (_ : Params) : Obj := fn0 (.ofString "__setitem__") (.ofString "Multiset.__setitem__") fp2x2
noncomputable def o46 (_ : Params) : Obj := cdO (.ofString "__setitem__") (.ofString "Multiset.__setitem__") 223 24 3 0 0 3 43 true 44 .none .none .none (.ref 45) 226 227
noncomputable def o47 (_ : Params) : Obj := fnO (.ofString "__setitem__") (.ofString "Multiset.__setitem__") fp2x2 .none .none .none (.str (.ofString "matchpy.utils") 194) 46
noncomputable def o50 (_ : Params) : Obj := tupO [(.str (.ofString "self") 232), (.str (.ofString "item") 233)]
noncomputable def o52 (_ : Params) : Obj := fn0 (.ofString "__contains__") (.ofString "Multiset.__contains__") fp2x3
noncomputable def o53 (_ : Params) : Obj := cdO (.ofString "__contains__") (.ofString "Multiset.__contains__") 229 34 2 0 0 3 48 true 49 .none (.ref 50) (.ref 51) (.ref 52) 234 235
noncomputable def o54 (_ : Params) : Obj := fnO (.ofString "__contains__") (.ofString "Multiset.__contains__") fp2x3 .none .none .none (.str (.ofString "matchpy.utils") 194) 53
noncomputable def o57 (_ : Params) : Obj := tupO [(.str (.ofString "self") 240), (.str (.ofString "total") 241), (.str (.ofString "row") 242)]
noncomputable def o59 (_ : Params) : Obj := fn0 (.ofString "__len__") (.ofString "Multiset.__len__") fp2x4
noncomputable def o60 (_ : Params) : Obj := cdO (.ofString "__len__") (.ofString "Multiset.__len__") 237 37 1 0 0 3 55 true 56 .none (.ref 57) (.ref 58) (.ref 59) 243 244
noncomputable def o61 (_ : Params) : Obj := fnO (.ofString "__len__") (.ofString "Multiset.__len__") fp2x4 .none .none .none (.str (.ofString "matchpy.utils") 194) 60
noncomputable def o64 (_ : Params) : Obj := tupO [(.str (.ofString "self") 249), (.str (.ofString "row") 250), (.str (.ofString "k") 251)]
noncomputable def o66 (_ : Params) : Obj := fn0 (.ofString "__iter__") (.ofString "Multiset.__iter__") fp2x5
noncomputable def o67 (_ : Params) : Obj := cdO (.ofString "__iter__") (.ofString "Multiset.__iter__") 246 43 1 0 0 35 62 true 63 .none (.ref 64) (.ref 65) (.ref 66) 252 253
noncomputable def o68 (_ : Params) : Obj := fnO (.ofString "__iter__") (.ofString "Multiset.__iter__") fp2x5 .none .none .none (.str (.ofString "matchpy.utils") 194) 67
noncomputable def o71 (_ : Params) : Obj := fn0 (.ofString "items") (.ofString "Multiset.items") fp2x6
noncomputable def o72 (_ : Params) : Obj := cdO (.ofString "items") (.ofString "Multiset.items") 255 48 1 0 0 3 69 true 70 .none .none .none (.ref 71) 258 259
noncomputable def o73 (_ : Params) : Obj := fnO (.ofString "items") (.ofString "Multiset.items") fp2x6 .none .none .none (.str (.ofString "matchpy.utils") 194) 72
noncomputable def o76 (_ : Params) : Obj := tupO [(.str (.ofString "self") 264)]
noncomputable def o78 (_ : Params) : Obj := fn0 (.ofString "distinct_elements") (.ofString "Multiset.distinct_elements") fp2x7
noncomputable def o79 (_ : Params) : Obj := cdO (.ofString "distinct_elements") (.ofString "Multiset.distinct_elements") 261 51 1 0 0 3 74 true 75 .none (.ref 76) (.ref 77) (.ref 78) 265 266
noncomputable def o80 (_ : Params) : Obj := fnO (.ofString "distinct_elements") (.ofString "Multiset.distinct_elements") fp2x7 .none .none .none (.str (.ofString "matchpy.utils") 194) 79
noncomputable def o83 (_ : Params) : Obj := tupO [(.str (.ofString "self") 271)]
noncomputable def o85 (_ : Params) : Obj := fn0 (.ofString "copy") (.ofString "Multiset.copy") fp2x8
noncomputable def o86 (_ : Params) : Obj := cdO (.ofString "copy") (.ofString "Multiset.copy") 268 54 1 0 0 3 81 true 82 .none (.ref 83) (.ref 84) (.ref 85) 272 273
noncomputable def o87 (_ : Params) : Obj := fnO (.ofString "copy") (.ofString "Multiset.copy") fp2x8 .none .none .none (.str (.ofString "matchpy.utils") 194) 86
noncomputable def o90 (_ : Params) : Obj := tupO [(.str (.ofString "self") 278), (.str (.ofString "item") 279)]
noncomputable def o92 (_ : Params) : Obj := fn0 (.ofString "add") (.ofString "Multiset.add") fp2x9
noncomputable def o93 (_ : Params) : Obj := cdO (.ofString "add") (.ofString "Multiset.add") 275 57 2 0 0 3 88 true 89 .none (.ref 90) (.ref 91) (.ref 92) 280 281
noncomputable def o94 (_ : Params) : Obj := fnO (.ofString "add") (.ofString "Multiset.add") fp2x9 .none .none .none (.str (.ofString "matchpy.utils") 194) 93
noncomputable def o97 (_ : Params) : Obj := fn0 (.ofString "__eq__") (.ofString "Multiset.__eq__") fp2x10
noncomputable def o98 (_ : Params) : Obj := cdO (.ofString "__eq__") (.ofString "Multiset.__eq__") 283 60 2 0 0 3 95 true 96 .none .none .none (.ref 97) 286 287
noncomputable def o99 (_ : Params) : Obj := fnO (.ofString "__eq__") (.ofString "Multiset.__eq__") fp2x10 .none .none .none (.str (.ofString "matchpy.utils") 194) 98
noncomputable def o102 (_ : Params) : Obj := tupO [(.str (.ofString "self") 292), (.str (.ofString "other") 293)]
noncomputable def o104 (_ : Params) : Obj := fn0 (.ofString "__ne__") (.ofString "Multiset.__ne__") fp2x11
noncomputable def o105 (_ : Params) : Obj := cdO (.ofString "__ne__") (.ofString "Multiset.__ne__") 289 65 2 0 0 3 100 true 101 .none (.ref 102) (.ref 103) (.ref 104) 294 295
noncomputable def o106 (_ : Params) : Obj := fnO (.ofString "__ne__") (.ofString "Multiset.__ne__") fp2x11 .none .none .none (.str (.ofString "matchpy.utils") 194) 105
noncomputable def o109 (_ : Params) : Obj := fn0 (.ofString "__le__") (.ofString "Multiset.__le__") fp2x12
noncomputable def o110 (_ : Params) : Obj := cdO (.ofString "__le__") (.ofString "Multiset.__le__") 297 68 2 0 0 3 107 true 108 .none .none .none (.ref 109) 300 301
noncomputable def o111 (_ : Params) : Obj := fnO (.ofString "__le__") (.ofString "Multiset.__le__") fp2x12 .none .none .none (.str (.ofString "matchpy.utils") 194) 110
noncomputable def o114 (_ : Params) : Obj := tupO [(.str (.ofString "self") 306), (.str (.ofString "other") 307), (.str (.ofString "made") 308), (.str (.ofString "row") 309)]
noncomputable def o116 (_ : Params) : Obj := fn0 (.ofString "__add__") (.ofString "Multiset.__add__") fp2x13
noncomputable def o117 (_ : Params) : Obj := cdO (.ofString "__add__") (.ofString "Multiset.__add__") 303 71 2 0 0 3 112 true 113 .none (.ref 114) (.ref 115) (.ref 116) 310 311
noncomputable def o118 (_ : Params) : Obj := fnO (.ofString "__add__") (.ofString "Multiset.__add__") fp2x13 .none .none .none (.str (.ofString "matchpy.utils") 194) 117
noncomputable def o121 (_ : Params) : Obj := tupO [(.str (.ofString "self") 316), (.str (.ofString "other") 317), (.str (.ofString "made") 318), (.str (.ofString "row") 319)]
noncomputable def o123 (_ : Params) : Obj := fn0 (.ofString "__sub__") (.ofString "Multiset.__sub__") fp2x14
noncomputable def o124 (_ : Params) : Obj := cdO (.ofString "__sub__") (.ofString "Multiset.__sub__") 313 77 2 0 0 3 119 true 120 .none (.ref 121) (.ref 122) (.ref 123) 320 321
noncomputable def o125 (_ : Params) : Obj := fnO (.ofString "__sub__") (.ofString "Multiset.__sub__") fp2x14 .none .none .none (.str (.ofString "matchpy.utils") 194) 124
noncomputable def o128 (_ : Params) : Obj := tupO [(.str (.ofString "self") 326), (.str (.ofString "count") 327), (.str (.ofString "made") 328), (.str (.ofString "row") 329)]
noncomputable def o130 (_ : Params) : Obj := fn0 (.ofString "__mul__") (.ofString "Multiset.__mul__") fp2x15
noncomputable def o131 (_ : Params) : Obj := cdO (.ofString "__mul__") (.ofString "Multiset.__mul__") 323 83 2 0 0 3 126 true 127 .none (.ref 128) (.ref 129) (.ref 130) 330 331
noncomputable def o132 (_ : Params) : Obj := fnO (.ofString "__mul__") (.ofString "Multiset.__mul__") fp2x15 .none .none .none (.str (.ofString "matchpy.utils") 194) 131
noncomputable def o133 (_ : Params) : Obj := tupO [(.str (.ofString "rows") 333)]
noncomputable def o134 (P : Params) : Obj := ⟨(.type "dict"), none, .dict #[de P (.ofString "__module__") 203 (.str (.ofString "matchpy.utils") 194), de P (.ofString "__firstlineno__") 207 (.int 5 206), de P (.ofString "__init__") 213 (.ref 35), de P (.ofString "__getitem__") 222 (.ref 42), de P (.ofString "__setitem__") 228 (.ref 47), de P (.ofString "__contains__") 236 (.ref 54), de P (.ofString "__len__") 245 (.ref 61), de P (.ofString "__iter__") 254 (.ref 68), de P (.ofString "items") 260 (.ref 73), de P (.ofString "distinct_elements") 267 (.ref 80), de P (.ofString "copy") 274 (.ref 87), de P (.ofString "add") 282 (.ref 94), de P (.ofString "__eq__") 288 (.ref 99), de P (.ofString "__ne__") 296 (.ref 106), de P (.ofString "__le__") 302 (.ref 111), de P (.ofString "__add__") 312 (.ref 118), de P (.ofString "__sub__") 322 (.ref 125), de P (.ofString "__mul__") 332 (.ref 132), de P (.ofString "__static_attributes__") 334 (.ref 133), de P (.ofString "__dict__") 336 (.ref 136), de P (.ofString "__weakref__") 338 (.ref 137), de P (.ofString "__doc__") 339 .none, de P (.ofString "__hash__") 340 .none] 5, #[]⟩
noncomputable def o135 (_ : Params) : Obj := ⟨(.type "type"), none, .cls ⟨(.ofString "Multiset"), [(.type "object")], [(.ref 135), (.type "object")], 134, (.ofString "Multiset"), true, [], [], false, none, false⟩, #[none, none, (some (.str (.ofString "Multiset") 196)), (some (.str (.ofString "Multiset") 204)), (some (.builtin "object.__new__")), (some (.bool true))]⟩
noncomputable def o136 (_ : Params) : Obj := ⟨(.type "getset_descriptor"), none, .fields #[(.str (.ofString "__dict__") 335), (.ref 135), (.builtin "function.__dict__"), (.builtin "function.__dict__#set")], #[]⟩
noncomputable def o137 (_ : Params) : Obj := ⟨(.type "getset_descriptor"), none, .fields #[(.str (.ofString "__weakref__") 337), (.ref 135), (.builtin "ExceptionGroup.__weakref__"), .none], #[]⟩
noncomputable def o138 (_ : Params) : Obj := ⟨(.type "super"), none, .fields #[(.ref 135), (.ref 135), (.ref 135)], #[]⟩
noncomputable def o139 (_ : Params) : Obj := ⟨(.type "builtin_function_or_method"), none, .fields #[(.builtin "object.__init_subclass__"), (.ref 135)], #[]⟩
noncomputable def t1 (P : Params) : BT := (.node (boot_o_0 P) (.node (boot_o_1 P) (.node (o3 P) (.node (boot_o_7 P) (.node (o11 P) (.node (o11 P) (.node (o12 P) (.node (o12 P) .nil .nil) .nil) (.node (o11 P) .nil .nil)) (.node (o47 P) (.node (o79 P) .nil .nil) (.node (o111 P) .nil .nil))) (.node (o23 P) (.node (o11 P) (.node (o71 P) (.node (o135 P) .nil .nil) .nil) (.node (o11 P) .nil .nil)) (.node (o11 P) (.node (o87 P) .nil .nil) (.node (o11 P) .nil .nil)))) (.node (o11 P) (.node (o19 P) (.node (o35 P) (.node (o67 P) (.node (o131 P) .nil .nil) .nil) (.node (o99 P) .nil .nil)) (.node (o11 P) (.node (o83 P) .nil .nil) (.node (o11 P) .nil .nil))) (.node (o27 P) (.node (o11 P) (.node (o12 P) (.node (o139 P) .nil .nil) .nil) (.node (o11 P) .nil .nil)) (.node (o59 P) (.node (o11 P) .nil .nil) (.node (o123 P) .nil .nil))))) (.node (boot_o_5 P) (.node (boot_o_9 P) (.node (o17 P) (.node (o33 P) (.node (o11 P) (.node (o11 P) .nil .nil) .nil) (.node (o97 P) .nil .nil)) (.node (o12 P) (.node (o11 P) .nil .nil) (.node (o12 P) .nil .nil))) (.node (o11 P) (.node (o41 P) (.node (o73 P) (.node (o137 P) .nil .nil) .nil) (.node (o105 P) .nil .nil)) (.node (o57 P) (.node (o12 P) .nil .nil) (.node (o121 P) .nil .nil)))) (.node (o13 P) (.node (o21 P) (.node (o12 P) (.node (o11 P) (.node (o133 P) .nil .nil) .nil) (.node (o12 P) .nil .nil)) (.node (o53 P) (.node (o85 P) .nil .nil) (.node (o117 P) .nil .nil))) (.node (o11 P) (.node (o45 P) (.node (o11 P) .nil .nil) (.node (o109 P) .nil .nil)) (.node (o61 P) (.node (o93 P) .nil .nil) (.node (o125 P) .nil .nil)))))) (.node (boot_o_2 P) (.node (boot_o_4 P) (.node (boot_o_8 P) (.node (o12 P) (.node (o12 P) (.node (o64 P) (.node (o128 P) .nil .nil) .nil) (.node (o12 P) .nil .nil)) (.node (o11 P) (.node (o80 P) .nil .nil) (.node (o11 P) .nil .nil))) (.node (o24 P) (.node (o40 P) (.node (o72 P) (.node (o136 P) .nil .nil) .nil) (.node (o104 P) .nil .nil)) (.node (o12 P) (.node (o11 P) .nil .nil) (.node (o12 P) .nil .nil)))) (.node (o12v1 P) (.node (o20 P) (.node (o11 P) (.node (o68 P) (.node (o132 P) .nil .nil) .nil) (.node (o11 P) .nil .nil)) (.node (o52 P) (.node (o11 P) .nil .nil) (.node (o116 P) .nil .nil))) (.node (o28 P) (.node (o12 P) (.node (o76 P) .nil .nil) (.node (o12 P) .nil .nil)) (.node (o60 P) (.node (o92 P) .nil .nil) (.node (o124 P) .nil .nil))))) (.node (boot_o_6 P) (.node (boot_o_10 P) (.node (o11 P) (.node (o34 P) (.node (o66 P) (.node (o130 P) .nil .nil) .nil) (.node (o98 P) .nil .nil)) (.node (o50 P) (.node (o12 P) .nil .nil) (.node (o114 P) .nil .nil))) (.node (o26 P) (.node (o42 P) (.node (o11 P) (.node (o138 P) .nil .nil) .nil) (.node (o106 P) .nil .nil)) (.node (o11 P) (.node (o90 P) .nil .nil) (.node (o11 P) .nil .nil)))) (.node (o14 P) (.node (o11 P) (.node (o38 P) (.node (o12 P) (.node (o134 P) .nil .nil) .nil) (.node (o102 P) .nil .nil)) (.node (o54 P) (.node (o86 P) .nil .nil) (.node (o118 P) .nil .nil))) (.node (o30 P) (.node (o46 P) (.node (o78 P) .nil .nil) (.node (o110 P) .nil .nil)) (.node (o11 P) (.node (o94 P) .nil .nil) (.node (o11 P) .nil .nil)))))))
noncomputable def s1 (w : World) (os : OsState) : SharedT := ⟨t1 w.params, 140, {}, #[], {}, 343, os⟩
noncomputable def g1 : List Stmt := [stmtAt PySem.Challenge.pw_ak0016_01.main.body 0, stmtAt PySem.Challenge.pw_ak0016_01.main.body 1, stmtAt PySem.Challenge.pw_ak0016_01.main.body 2]
theorem pc1 (p : Program) (b : List Stmt) (w : World) (os : OsState) : segRunT treeTable p w 11 ann9 1 776 (s0 w os) (piecesOf g1 env9 (cd9 b) ⟨0, 0, 0, 0⟩ B9) = some (.next, s1 w os, cd9 b, ⟨5, 0, 87, 19⟩) := by
  rw [PySem.W.Fast.te10110043849684766642, PySem.W.Fast.te14364793385576792824]; kernel_rfl
noncomputable def o3v1 (P : Params) : Obj := ⟨(.type "dict"), none, .dict #[de P (.ofString "__name__") 165 (.str (.ofString "matchpy.expressions.expressions") 343), de P (.ofString "__doc__") 166 .none, de P (.ofString "__package__") 167 .none, de P (.ofString "__loader__") 168 (.builtin "__main__.__loader__#opaque"), de P (.ofString "__spec__") 169 .none, de P (.ofString "__annotations__") 170 (.ref 6), de P (.ofString "__builtins__") 171 (.ref 4), de P (.ofString "__file__") 173 (.str (.ofString "/claim/cut.py") 172), de P (.ofString "__cached__") 174 .none, de P (.ofString "_wall") 193 (.ref 21), de P (.ofString "Multiset") 342 (.ref 135), de P (.ofString "_tuplegetter") 401 (.ref 178), de P (.ofString "_sort") 410 (.ref 189)] 13, #[]⟩
noncomputable def o12v2 (_ : Params) : Obj := fldO [(.int 1 0), (.int 0 0), (.ref 20), (.int 5 0), (.int 0 0), (.ref 27), (.int 89 0), (.int 0 0), (.ref 145), (.int 107 0), (.int 0 0), (.ref 188)]
noncomputable def o142 (P : Params) : Obj := ⟨(.type "dict"), none, .dict #[de P (.ofString "__module__") 352 (.str (.ofString "matchpy.expressions.expressions") 343), de P (.ofString "__qualname__") 354 (.str (.ofString "_tuplegetter") 353), de P (.ofString "__firstlineno__") 356 (.int 89 355), de P (.ofString "__init__") 365 (.ref 153), de P (.ofString "__get__") 374 (.ref 161), de P (.ofString "__set__") 383 (.ref 168), de P (.ofString "__delete__") 391 (.ref 175), de P (.ofString "__static_attributes__") 394 (.ref 176)] 8, #[]⟩
noncomputable def o144 (_ : Params) : Obj := fldO [(.int 91 0), (.int 4 0), (.ref 152), (.int 95 0), (.int 4 0), (.ref 160), (.int 102 0), (.int 4 0), (.ref 167), (.int 105 0), (.int 4 0), (.ref 174)]
noncomputable def o145 (_ : Params) : Obj := cdO (.ofString "_tuplegetter") (.ofString "_tuplegetter") 347 89 0 0 0 0 143 false 144 .none .none .none .none 350 351
noncomputable def o146 (_ : Params) : Obj := ⟨(.type "frame"), none, .plain, #[(some (.ref 145)), (some (.ref 3)), (some (.ref 142)), none, (some (.str (.ofString "matchpy.expressions.expressions") 343)), none, (some (.ref 0))]⟩
noncomputable def o149 (_ : Params) : Obj := tupO [(.str (.ofString "self") 360), (.str (.ofString "index") 361), (.str (.ofString "doc") 362)]
noncomputable def o151 (_ : Params) : Obj := fn0 (.ofString "__init__") (.ofString "_tuplegetter.__init__") fp4x0
noncomputable def o152 (_ : Params) : Obj := cdO (.ofString "__init__") (.ofString "_tuplegetter.__init__") 357 91 3 0 0 3 147 true 148 .none (.ref 149) (.ref 150) (.ref 151) 363 364
noncomputable def o153 (_ : Params) : Obj := fnO (.ofString "__init__") (.ofString "_tuplegetter.__init__") fp4x0 .none .none .none (.str (.ofString "matchpy.expressions.expressions") 343) 152
noncomputable def o154 (_ : Params) : Obj := tupO [.none]
noncomputable def o157 (_ : Params) : Obj := tupO [(.str (.ofString "self") 369), (.str (.ofString "obj") 370), (.str (.ofString "objtype") 371)]
noncomputable def o159 (_ : Params) : Obj := fn0 (.ofString "__get__") (.ofString "_tuplegetter.__get__") fp4x1
noncomputable def o160 (_ : Params) : Obj := cdO (.ofString "__get__") (.ofString "_tuplegetter.__get__") 366 95 3 0 0 3 155 true 156 .none (.ref 157) (.ref 158) (.ref 159) 372 373
noncomputable def o161 (_ : Params) : Obj := fnO (.ofString "__get__") (.ofString "_tuplegetter.__get__") fp4x1 (.ref 154) .none .none (.str (.ofString "matchpy.expressions.expressions") 343) 160
noncomputable def o164 (_ : Params) : Obj := tupO [(.str (.ofString "self") 378), (.str (.ofString "obj") 379), (.str (.ofString "value") 380)]
noncomputable def o166 (_ : Params) : Obj := fn0 (.ofString "__set__") (.ofString "_tuplegetter.__set__") fp4x2
noncomputable def o167 (_ : Params) : Obj := cdO (.ofString "__set__") (.ofString "_tuplegetter.__set__") 375 102 3 0 0 3 162 true 163 .none (.ref 164) (.ref 165) (.ref 166) 381 382
noncomputable def o168 (_ : Params) : Obj := fnO (.ofString "__set__") (.ofString "_tuplegetter.__set__") fp4x2 .none .none .none (.str (.ofString "matchpy.expressions.expressions") 343) 167
noncomputable def o171 (_ : Params) : Obj := tupO [(.str (.ofString "self") 387), (.str (.ofString "obj") 388)]
noncomputable def o173 (_ : Params) : Obj := fn0 (.ofString "__delete__") (.ofString "_tuplegetter.__delete__") fp4x3
noncomputable def o174 (_ : Params) : Obj := cdO (.ofString "__delete__") (.ofString "_tuplegetter.__delete__") 384 105 2 0 0 3 169 true 170 .none (.ref 171) (.ref 172) (.ref 173) 389 390
noncomputable def o175 (_ : Params) : Obj := fnO (.ofString "__delete__") (.ofString "_tuplegetter.__delete__") fp4x3 .none .none .none (.str (.ofString "matchpy.expressions.expressions") 343) 174
noncomputable def o176 (_ : Params) : Obj := tupO [(.str (.ofString "__doc__") 392), (.str (.ofString "index") 393)]
noncomputable def o177 (P : Params) : Obj := ⟨(.type "dict"), none, .dict #[de P (.ofString "__module__") 352 (.str (.ofString "matchpy.expressions.expressions") 343), de P (.ofString "__firstlineno__") 356 (.int 89 355), de P (.ofString "__init__") 365 (.ref 153), de P (.ofString "__get__") 374 (.ref 161), de P (.ofString "__set__") 383 (.ref 168), de P (.ofString "__delete__") 391 (.ref 175), de P (.ofString "__static_attributes__") 394 (.ref 176), de P (.ofString "__dict__") 396 (.ref 179), de P (.ofString "__weakref__") 398 (.ref 180), de P (.ofString "__doc__") 399 .none] 4, #[]⟩
noncomputable def o178 (_ : Params) : Obj := ⟨(.type "type"), none, .cls ⟨(.ofString "_tuplegetter"), [(.type "object")], [(.ref 178), (.type "object")], 177, (.ofString "_tuplegetter"), true, [], [], false, none, false⟩, #[none, none, (some (.str (.ofString "_tuplegetter") 345)), (some (.str (.ofString "_tuplegetter") 353)), (some (.builtin "object.__new__")), (some (.bool true))]⟩
noncomputable def o179 (_ : Params) : Obj := ⟨(.type "getset_descriptor"), none, .fields #[(.str (.ofString "__dict__") 395), (.ref 178), (.builtin "function.__dict__"), (.builtin "function.__dict__#set")], #[]⟩
noncomputable def o180 (_ : Params) : Obj := ⟨(.type "getset_descriptor"), none, .fields #[(.str (.ofString "__weakref__") 397), (.ref 178), (.builtin "ExceptionGroup.__weakref__"), .none], #[]⟩
noncomputable def o181 (_ : Params) : Obj := ⟨(.type "super"), none, .fields #[(.ref 178), (.ref 178), (.ref 178)], #[]⟩
noncomputable def o182 (_ : Params) : Obj := ⟨(.type "builtin_function_or_method"), none, .fields #[(.builtin "object.__init_subclass__"), (.ref 178)], #[]⟩
noncomputable def o185 (_ : Params) : Obj := tupO [(.str (.ofString "rows") 405), (.str (.ofString "place") 406), (.str (.ofString "one") 407)]
noncomputable def o187 (_ : Params) : Obj := fn0 (.ofString "_sort") (.ofString "_sort") fp5
noncomputable def o188 (_ : Params) : Obj := cdO (.ofString "_sort") (.ofString "_sort") 402 107 1 0 0 3 183 true 184 .none (.ref 185) (.ref 186) (.ref 187) 408 409
noncomputable def o189 (_ : Params) : Obj := fnO (.ofString "_sort") (.ofString "_sort") fp5 .none .none .none (.str (.ofString "matchpy.expressions.expressions") 343) 188
noncomputable def t2 (P : Params) : BT := (.node (boot_o_0 P) (.node (boot_o_1 P) (.node (o3v1 P) (.node (boot_o_7 P) (.node (o11 P) (.node (o11 P) (.node (o12 P) (.node (o12 P) .nil .nil) .nil) (.node (o11 P) (.node (o159 P) .nil .nil) .nil)) (.node (o47 P) (.node (o79 P) (.node (o11 P) .nil .nil) .nil) (.node (o111 P) (.node (o175 P) .nil .nil) .nil))) (.node (o23 P) (.node (o11 P) (.node (o71 P) (.node (o135 P) .nil .nil) .nil) (.node (o11 P) (.node (o167 P) .nil .nil) .nil)) (.node (o11 P) (.node (o87 P) (.node (o151 P) .nil .nil) .nil) (.node (o11 P) (.node (o11 P) .nil .nil) .nil)))) (.node (o11 P) (.node (o19 P) (.node (o35 P) (.node (o67 P) (.node (o131 P) .nil .nil) .nil) (.node (o99 P) (.node (o12 P) .nil .nil) .nil)) (.node (o11 P) (.node (o83 P) (.node (o11 P) .nil .nil) .nil) (.node (o11 P) (.node (o179 P) .nil .nil) .nil))) (.node (o27 P) (.node (o11 P) (.node (o12 P) (.node (o139 P) .nil .nil) .nil) (.node (o11 P) (.node (o171 P) .nil .nil) .nil)) (.node (o59 P) (.node (o11 P) (.node (o11 P) .nil .nil) .nil) (.node (o123 P) (.node (o187 P) .nil .nil) .nil))))) (.node (boot_o_5 P) (.node (boot_o_9 P) (.node (o17 P) (.node (o33 P) (.node (o11 P) (.node (o11 P) .nil .nil) .nil) (.node (o97 P) (.node (o161 P) .nil .nil) .nil)) (.node (o12 P) (.node (o11 P) (.node (o145 P) .nil .nil) .nil) (.node (o12 P) (.node (o177 P) .nil .nil) .nil))) (.node (o11 P) (.node (o41 P) (.node (o73 P) (.node (o137 P) .nil .nil) .nil) (.node (o105 P) (.node (o11 P) .nil .nil) .nil)) (.node (o57 P) (.node (o12 P) (.node (o153 P) .nil .nil) .nil) (.node (o121 P) (.node (o185 P) .nil .nil) .nil)))) (.node (o13 P) (.node (o21 P) (.node (o12 P) (.node (o11 P) (.node (o133 P) .nil .nil) .nil) (.node (o12 P) (.node (o11 P) .nil .nil) .nil)) (.node (o53 P) (.node (o85 P) (.node (o149 P) .nil .nil) .nil) (.node (o117 P) (.node (o181 P) .nil .nil) .nil))) (.node (o11 P) (.node (o45 P) (.node (o11 P) (.node (o23 P) .nil .nil) .nil) (.node (o109 P) (.node (o173 P) .nil .nil) .nil)) (.node (o61 P) (.node (o93 P) (.node (o157 P) .nil .nil) .nil) (.node (o125 P) (.node (o189 P) .nil .nil) .nil)))))) (.node (boot_o_2 P) (.node (boot_o_4 P) (.node (boot_o_8 P) (.node (o12 P) (.node (o12 P) (.node (o64 P) (.node (o128 P) .nil .nil) .nil) (.node (o12 P) (.node (o160 P) .nil .nil) .nil)) (.node (o11 P) (.node (o80 P) (.node (o144 P) .nil .nil) .nil) (.node (o11 P) (.node (o176 P) .nil .nil) .nil))) (.node (o24 P) (.node (o40 P) (.node (o72 P) (.node (o136 P) .nil .nil) .nil) (.node (o104 P) (.node (o168 P) .nil .nil) .nil)) (.node (o12 P) (.node (o11 P) (.node (o152 P) .nil .nil) .nil) (.node (o12 P) (.node (o12 P) .nil .nil) .nil)))) (.node (o12v2 P) (.node (o20 P) (.node (o11 P) (.node (o68 P) (.node (o132 P) .nil .nil) .nil) (.node (o11 P) (.node (o164 P) .nil .nil) .nil)) (.node (o52 P) (.node (o11 P) (.node (o12 P) .nil .nil) .nil) (.node (o116 P) (.node (o180 P) .nil .nil) .nil))) (.node (o28 P) (.node (o12 P) (.node (o76 P) (.node (o11 P) .nil .nil) .nil) (.node (o12 P) (.node (o11 P) .nil .nil) .nil)) (.node (o60 P) (.node (o92 P) (.node (o12 P) .nil .nil) .nil) (.node (o124 P) (.node (o188 P) .nil .nil) .nil))))) (.node (boot_o_6 P) (.node (boot_o_10 P) (.node (o11 P) (.node (o34 P) (.node (o66 P) (.node (o130 P) .nil .nil) .nil) (.node (o98 P) (.node (o11 P) .nil .nil) .nil)) (.node (o50 P) (.node (o12 P) (.node (o146 P) .nil .nil) .nil) (.node (o114 P) (.node (o178 P) .nil .nil) .nil))) (.node (o26 P) (.node (o42 P) (.node (o11 P) (.node (o138 P) .nil .nil) .nil) (.node (o106 P) (.node (o12 P) .nil .nil) .nil)) (.node (o11 P) (.node (o90 P) (.node (o154 P) .nil .nil) .nil) (.node (o11 P) (.node (o11 P) .nil .nil) .nil)))) (.node (o14 P) (.node (o11 P) (.node (o38 P) (.node (o12 P) (.node (o134 P) .nil .nil) .nil) (.node (o102 P) (.node (o166 P) .nil .nil) .nil)) (.node (o54 P) (.node (o86 P) (.node (o11 P) .nil .nil) .nil) (.node (o118 P) (.node (o182 P) .nil .nil) .nil))) (.node (o30 P) (.node (o46 P) (.node (o78 P) (.node (o142 P) .nil .nil) .nil) (.node (o110 P) (.node (o174 P) .nil .nil) .nil)) (.node (o11 P) (.node (o94 P) (.node (o11 P) .nil .nil) .nil) (.node (o11 P) .nil .nil)))))))
noncomputable def s2 (w : World) (os : OsState) : SharedT := ⟨t2 w.params, 190, {}, #[], {}, 411, os⟩
noncomputable def g2 : List Stmt := [stmtAt PySem.Challenge.pw_ak0016_01.main.body 3, stmtAt PySem.Challenge.pw_ak0016_01.main.body 4, stmtAt PySem.Challenge.pw_ak0016_01.main.body 5]
theorem pc2 (p : Program) (b : List Stmt) (w : World) (os : OsState) : segRunT treeTable p w 11 ann9 1 403 (s1 w os) (piecesOf g2 env9 (cd9 b) ⟨5, 0, 87, 19⟩ B9) = some (.next, s2 w os, cd9 b, ⟨107, 0, 113, 25⟩) := by
  rw [PySem.W.Fast.te10110043849684766642, PySem.W.Fast.te14364793385576792824]; kernel_rfl
noncomputable def o3v2 (P : Params) : Obj := ⟨(.type "dict"), none, .dict #[de P (.ofString "__name__") 165 (.str (.ofString "matchpy.expressions.expressions") 343), de P (.ofString "__doc__") 166 .none, de P (.ofString "__package__") 167 .none, de P (.ofString "__loader__") 168 (.builtin "__main__.__loader__#opaque"), de P (.ofString "__spec__") 169 .none, de P (.ofString "__annotations__") 170 (.ref 6), de P (.ofString "__builtins__") 171 (.ref 4), de P (.ofString "__file__") 173 (.str (.ofString "/claim/cut.py") 172), de P (.ofString "__cached__") 174 .none, de P (.ofString "_wall") 193 (.ref 21), de P (.ofString "Multiset") 342 (.ref 135), de P (.ofString "_tuplegetter") 401 (.ref 178), de P (.ofString "_sort") 410 (.ref 189), de P (.ofString "Expression") 571 (.ref 308)] 14, #[]⟩
noncomputable def o12v3 (_ : Params) : Obj := fldO [(.int 1 0), (.int 0 0), (.ref 20), (.int 5 0), (.int 0 0), (.ref 27), (.int 89 0), (.int 0 0), (.ref 145), (.int 107 0), (.int 0 0), (.ref 188), (.int 114 0), (.int 0 0), (.ref 195)]
noncomputable def o192 (P : Params) : Obj := ⟨(.type "dict"), none, .dict #[de P (.ofString "__module__") 418 (.str (.ofString "matchpy.expressions.expressions") 343), de P (.ofString "__qualname__") 420 (.str (.ofString "Expression") 419), de P (.ofString "__firstlineno__") 422 (.int 114 421), de P (.ofString "__doc__") 424 (docC 6 423), de P (.ofString "__init__") 433 (.ref 203), de P (.ofString "variables") 443 (.ref 211), de P (.ofString "collect_variables") 452 (.ref 218), de P (.ofString "symbols") 460 (.ref 226), de P (.ofString "collect_symbols") 468 (.ref 233), de P (.ofString "is_constant") 476 (.ref 241), de P (.ofString "_is_constant") 494 (.ref 250), de P (.ofString "is_syntactic") 502 (.ref 259), de P (.ofString "_is_syntactic") 520 (.ref 268), de P (.ofString "with_renamed_vars") 528 (.ref 276), de P (.ofString "preorder_iter") 537 (.ref 284), de P (.ofString "_preorder_iter") 546 (.ref 291), de P (.ofString "__getitem__") 555 (.ref 298), de P (.ofString "__contains__") 563 (.ref 305), de P (.ofString "__static_attributes__") 565 (.ref 306)] 19, #[]⟩
noncomputable def o194 (_ : Params) : Obj := fldO [(.int 126 0), (.int 4 0), (.ref 202), (.int 130 0), (.int 4 0), (.ref 209), (.int 136 0), (.int 4 0), (.ref 217), (.int 151 0), (.int 4 0), (.ref 224), (.int 154 0), (.int 4 0), (.ref 232), (.int 158 0), (.int 4 0), (.ref 239), (.int 162 0), (.int 4 0), (.ref 247), (.int 166 0), (.int 4 0), (.ref 257), (.int 170 0), (.int 4 0), (.ref 265), (.int 173 0), (.int 4 0), (.ref 275), (.int 176 0), (.int 4 0), (.ref 283), (.int 198 0), (.int 4 0), (.ref 290), (.int 202 0), (.int 4 0), (.ref 297), (.int 226 0), (.int 4 0), (.ref 304)]
noncomputable def o195 (_ : Params) : Obj := cdO (.ofString "Expression") (.ofString "Expression") 413 114 0 0 0 0 193 false 194 .none .none .none .none 416 417
noncomputable def o196 (_ : Params) : Obj := ⟨(.type "frame"), none, .plain, #[(some (.ref 195)), (some (.ref 3)), (some (.ref 192)), none, (some (.str (.ofString "matchpy.expressions.expressions") 343)), none, (some (.ref 0))]⟩
noncomputable def o199 (_ : Params) : Obj := tupO [(.str (.ofString "self") 429), (.str (.ofString "variable_name") 430)]
noncomputable def o201 (_ : Params) : Obj := fn0 (.ofString "__init__") (.ofString "Expression.__init__") fp6x1
noncomputable def o202 (_ : Params) : Obj := cdO (.ofString "__init__") (.ofString "Expression.__init__") 426 126 2 0 0 3 197 true 198 .none (.ref 199) (.ref 200) (.ref 201) 431 432
noncomputable def o203 (_ : Params) : Obj := fnO (.ofString "__init__") (.ofString "Expression.__init__") fp6x1 .none .none .none (.str (.ofString "matchpy.expressions.expressions") 343) 202
noncomputable def o206 (_ : Params) : Obj := tupO [(.str (.ofString "self") 437), (.str (.ofString "variables") 438)]
noncomputable def o208 (_ : Params) : Obj := fn0 (.ofString "variables") (.ofString "Expression.variables") fp6x2
noncomputable def o209 (_ : Params) : Obj := cdO (.ofString "variables") (.ofString "Expression.variables") 434 129 1 0 0 3 204 true 205 .none (.ref 206) (.ref 207) (.ref 208) 439 440
noncomputable def o210 (_ : Params) : Obj := fnO (.ofString "variables") (.ofString "Expression.variables") fp6x2 .none .none (docV fp6x2 441) (.str (.ofString "matchpy.expressions.expressions") 343) 209
noncomputable def o211 (_ : Params) : Obj := ⟨(.type "property"), none, .fields #[(.ref 210), .none, .none, (docV fp6x2 441), (.str (.ofString "variables") 443), (.bool true)], #[]⟩
noncomputable def o214 (_ : Params) : Obj := tupO [(.str (.ofString "self") 447), (.str (.ofString "variables") 448)]
noncomputable def o216 (_ : Params) : Obj := fn0 (.ofString "collect_variables") (.ofString "Expression.collect_variables") fp6x3
noncomputable def o217 (_ : Params) : Obj := cdO (.ofString "collect_variables") (.ofString "Expression.collect_variables") 444 136 2 0 0 3 212 true 213 .none (.ref 214) (.ref 215) (.ref 216) 449 450
noncomputable def o218 (_ : Params) : Obj := fnO (.ofString "collect_variables") (.ofString "Expression.collect_variables") fp6x3 .none .none (docV fp6x3 451) (.str (.ofString "matchpy.expressions.expressions") 343) 217
noncomputable def o221 (_ : Params) : Obj := tupO [(.str (.ofString "self") 456)]
noncomputable def o223 (_ : Params) : Obj := fn0 (.ofString "symbols") (.ofString "Expression.symbols") fp6x4
noncomputable def o224 (_ : Params) : Obj := cdO (.ofString "symbols") (.ofString "Expression.symbols") 453 150 1 0 0 3 219 true 220 .none (.ref 221) (.ref 222) (.ref 223) 457 458
noncomputable def o225 (_ : Params) : Obj := fnO (.ofString "symbols") (.ofString "Expression.symbols") fp6x4 .none .none .none (.str (.ofString "matchpy.expressions.expressions") 343) 224
noncomputable def o226 (_ : Params) : Obj := ⟨(.type "property"), none, .fields #[(.ref 225), .none, .none, .none, (.str (.ofString "symbols") 460), (.bool false)], #[]⟩
noncomputable def o229 (_ : Params) : Obj := tupO [(.str (.ofString "self") 464), (.str (.ofString "symbols") 465)]
noncomputable def o231 (_ : Params) : Obj := fn0 (.ofString "collect_symbols") (.ofString "Expression.collect_symbols") fp6x5
noncomputable def o232 (_ : Params) : Obj := cdO (.ofString "collect_symbols") (.ofString "Expression.collect_symbols") 461 154 2 0 0 3 227 true 228 .none (.ref 229) (.ref 230) (.ref 231) 466 467
noncomputable def o233 (_ : Params) : Obj := fnO (.ofString "collect_symbols") (.ofString "Expression.collect_symbols") fp6x5 .none .none .none (.str (.ofString "matchpy.expressions.expressions") 343) 232
noncomputable def o236 (_ : Params) : Obj := tupO [(.str (.ofString "self") 472)]
noncomputable def o238 (_ : Params) : Obj := fn0 (.ofString "is_constant") (.ofString "Expression.is_constant") fp6x6
noncomputable def o239 (_ : Params) : Obj := cdO (.ofString "is_constant") (.ofString "Expression.is_constant") 469 157 1 0 0 3 234 true 235 .none (.ref 236) (.ref 237) (.ref 238) 473 474
noncomputable def o240 (_ : Params) : Obj := fnO (.ofString "is_constant") (.ofString "Expression.is_constant") fp6x6 .none .none .none (.str (.ofString "matchpy.expressions.expressions") 343) 239
noncomputable def o241 (_ : Params) : Obj := ⟨(.type "property"), none, .fields #[(.ref 240), .none, .none, .none, (.str (.ofString "is_constant") 476), (.bool false)], #[]⟩
noncomputable def o246 (_ : Params) : Obj := fn0 (.ofString "_is_constant") (.ofString "Expression._is_constant") fp6x7
noncomputable def o247 (_ : Params) : Obj := cdO (.ofString "_is_constant") (.ofString "Expression._is_constant") 477 161 0 0 0 3 242 true 243 .none (.ref 244) (.ref 245) (.ref 246) 480 481
noncomputable def o248 (_ : Params) : Obj := ⟨(.type "function"), none, .func ⟨(.ofString "_is_constant"), (.ofString "Expression._is_constant"), fp6x7.1, .stmts fp6x7.2.1, fp6x7.2.2, 3, [], .none, .none, .none, (.str (.ofString "matchpy.expressions.expressions") 343), (some 251), (.ref 247), .none, 0⟩, #[]⟩
noncomputable def o249 (P : Params) : Obj := ⟨(.type "dict"), none, .dict #[de P (.ofString "__module__") 483 (.str (.ofString "matchpy.expressions.expressions") 343), de P (.ofString "__name__") 486 (.str (.ofString "_is_constant") 485), de P (.ofString "__qualname__") 489 (.str (.ofString "Expression._is_constant") 488), de P (.ofString "__doc__") 491 .none, de P (.ofString "__annotations__") 493 (.ref 251)] 5, #[]⟩
noncomputable def o250 (_ : Params) : Obj := ⟨(.type "staticmethod"), (some 249), .fields #[(.ref 248), (.bool false)], #[]⟩
noncomputable def o251 (_ : Params) : Obj := ⟨(.type "dict"), none, .dict #[] 0, #[]⟩
noncomputable def o254 (_ : Params) : Obj := tupO [(.str (.ofString "self") 498)]
noncomputable def o256 (_ : Params) : Obj := fn0 (.ofString "is_syntactic") (.ofString "Expression.is_syntactic") fp6x8
noncomputable def o257 (_ : Params) : Obj := cdO (.ofString "is_syntactic") (.ofString "Expression.is_syntactic") 495 165 1 0 0 3 252 true 253 .none (.ref 254) (.ref 255) (.ref 256) 499 500
noncomputable def o258 (_ : Params) : Obj := fnO (.ofString "is_syntactic") (.ofString "Expression.is_syntactic") fp6x8 .none .none .none (.str (.ofString "matchpy.expressions.expressions") 343) 257
noncomputable def o259 (_ : Params) : Obj := ⟨(.type "property"), none, .fields #[(.ref 258), .none, .none, .none, (.str (.ofString "is_syntactic") 502), (.bool false)], #[]⟩
noncomputable def o264 (_ : Params) : Obj := fn0 (.ofString "_is_syntactic") (.ofString "Expression._is_syntactic") fp6x9
noncomputable def o265 (_ : Params) : Obj := cdO (.ofString "_is_syntactic") (.ofString "Expression._is_syntactic") 503 169 0 0 0 3 260 true 261 .none (.ref 262) (.ref 263) (.ref 264) 506 507
noncomputable def o266 (_ : Params) : Obj := ⟨(.type "function"), none, .func ⟨(.ofString "_is_syntactic"), (.ofString "Expression._is_syntactic"), fp6x9.1, .stmts fp6x9.2.1, fp6x9.2.2, 3, [], .none, .none, .none, (.str (.ofString "matchpy.expressions.expressions") 343), (some 269), (.ref 265), .none, 0⟩, #[]⟩
noncomputable def o267 (P : Params) : Obj := ⟨(.type "dict"), none, .dict #[de P (.ofString "__module__") 509 (.str (.ofString "matchpy.expressions.expressions") 343), de P (.ofString "__name__") 512 (.str (.ofString "_is_syntactic") 511), de P (.ofString "__qualname__") 515 (.str (.ofString "Expression._is_syntactic") 514), de P (.ofString "__doc__") 517 .none, de P (.ofString "__annotations__") 519 (.ref 269)] 5, #[]⟩
noncomputable def o268 (_ : Params) : Obj := ⟨(.type "staticmethod"), (some 267), .fields #[(.ref 266), (.bool false)], #[]⟩
noncomputable def o272 (_ : Params) : Obj := tupO [(.str (.ofString "self") 524), (.str (.ofString "renaming") 525)]
noncomputable def o274 (_ : Params) : Obj := fn0 (.ofString "with_renamed_vars") (.ofString "Expression.with_renamed_vars") fp6x10
noncomputable def o275 (_ : Params) : Obj := cdO (.ofString "with_renamed_vars") (.ofString "Expression.with_renamed_vars") 521 173 2 0 0 3 270 true 271 .none (.ref 272) (.ref 273) (.ref 274) 526 527
noncomputable def o276 (_ : Params) : Obj := fnO (.ofString "with_renamed_vars") (.ofString "Expression.with_renamed_vars") fp6x10 .none .none .none (.str (.ofString "matchpy.expressions.expressions") 343) 275
noncomputable def o280 (_ : Params) : Obj := tupO [(.str (.ofString "self") 532), (.str (.ofString "predicate") 533)]
noncomputable def o282 (_ : Params) : Obj := fn0 (.ofString "preorder_iter") (.ofString "Expression.preorder_iter") fp6x11
noncomputable def o283 (_ : Params) : Obj := cdO (.ofString "preorder_iter") (.ofString "Expression.preorder_iter") 529 176 2 0 0 35 278 true 279 .none (.ref 280) (.ref 281) (.ref 282) 534 535
noncomputable def o284 (_ : Params) : Obj := fnO (.ofString "preorder_iter") (.ofString "Expression.preorder_iter") fp6x11 (.ref 277) .none (docV fp6x11 536) (.str (.ofString "matchpy.expressions.expressions") 343) 283
noncomputable def o287 (_ : Params) : Obj := tupO [(.str (.ofString "self") 541), (.str (.ofString "predicate") 542), (.str (.ofString "position") 543)]
noncomputable def o289 (_ : Params) : Obj := fn0 (.ofString "_preorder_iter") (.ofString "Expression._preorder_iter") fp6x12
noncomputable def o290 (_ : Params) : Obj := cdO (.ofString "_preorder_iter") (.ofString "Expression._preorder_iter") 538 198 3 0 0 35 285 true 286 .none (.ref 287) (.ref 288) (.ref 289) 544 545
noncomputable def o291 (_ : Params) : Obj := fnO (.ofString "_preorder_iter") (.ofString "Expression._preorder_iter") fp6x12 .none .none .none (.str (.ofString "matchpy.expressions.expressions") 343) 290
noncomputable def o294 (_ : Params) : Obj := tupO [(.str (.ofString "self") 550), (.str (.ofString "position") 551)]
noncomputable def o296 (_ : Params) : Obj := fn0 (.ofString "__getitem__") (.ofString "Expression.__getitem__") fp6x13
noncomputable def o297 (_ : Params) : Obj := cdO (.ofString "__getitem__") (.ofString "Expression.__getitem__") 547 202 2 0 0 3 292 true 293 .none (.ref 294) (.ref 295) (.ref 296) 552 553
noncomputable def o298 (_ : Params) : Obj := fnO (.ofString "__getitem__") (.ofString "Expression.__getitem__") fp6x13 .none .none (docV fp6x13 554) (.str (.ofString "matchpy.expressions.expressions") 343) 297
noncomputable def o301 (_ : Params) : Obj := tupO [(.str (.ofString "self") 559), (.str (.ofString "expression") 560)]
noncomputable def o303 (_ : Params) : Obj := fn0 (.ofString "__contains__") (.ofString "Expression.__contains__") fp6x14
noncomputable def o304 (_ : Params) : Obj := cdO (.ofString "__contains__") (.ofString "Expression.__contains__") 556 226 2 0 0 3 299 true 300 .none (.ref 301) (.ref 302) (.ref 303) 561 562
noncomputable def o305 (_ : Params) : Obj := fnO (.ofString "__contains__") (.ofString "Expression.__contains__") fp6x14 .none .none .none (.str (.ofString "matchpy.expressions.expressions") 343) 304
noncomputable def o306 (_ : Params) : Obj := tupO [(.str (.ofString "variable_name") 564)]
noncomputable def o307 (P : Params) : Obj := ⟨(.type "dict"), none, .dict #[de P (.ofString "__module__") 418 (.str (.ofString "matchpy.expressions.expressions") 343), de P (.ofString "__firstlineno__") 422 (.int 114 421), de P (.ofString "__doc__") 424 (docC 6 423), de P (.ofString "__init__") 433 (.ref 203), de P (.ofString "variables") 443 (.ref 211), de P (.ofString "collect_variables") 452 (.ref 218), de P (.ofString "symbols") 460 (.ref 226), de P (.ofString "collect_symbols") 468 (.ref 233), de P (.ofString "is_constant") 476 (.ref 241), de P (.ofString "_is_constant") 494 (.ref 250), de P (.ofString "is_syntactic") 502 (.ref 259), de P (.ofString "_is_syntactic") 520 (.ref 268), de P (.ofString "with_renamed_vars") 528 (.ref 276), de P (.ofString "preorder_iter") 537 (.ref 284), de P (.ofString "_preorder_iter") 546 (.ref 291), de P (.ofString "__getitem__") 555 (.ref 298), de P (.ofString "__contains__") 563 (.ref 305), de P (.ofString "__static_attributes__") 565 (.ref 306), de P (.ofString "__dict__") 567 (.ref 309), de P (.ofString "__weakref__") 569 (.ref 310)] 3, #[]⟩
noncomputable def o308 (_ : Params) : Obj := ⟨(.type "type"), none, .cls ⟨(.ofString "Expression"), [(.type "object")], [(.ref 308), (.type "object")], 307, (.ofString "Expression"), true, [], [], false, none, false⟩, #[none, none, (some (.str (.ofString "Expression") 411)), (some (.str (.ofString "Expression") 419)), (some (.builtin "object.__new__")), (some (.bool true))]⟩
noncomputable def o309 (_ : Params) : Obj := ⟨(.type "getset_descriptor"), none, .fields #[(.str (.ofString "__dict__") 566), (.ref 308), (.builtin "function.__dict__"), (.builtin "function.__dict__#set")], #[]⟩
noncomputable def o310 (_ : Params) : Obj := ⟨(.type "getset_descriptor"), none, .fields #[(.str (.ofString "__weakref__") 568), (.ref 308), (.builtin "ExceptionGroup.__weakref__"), .none], #[]⟩
noncomputable def o311 (_ : Params) : Obj := ⟨(.type "super"), none, .fields #[(.ref 308), (.ref 308), (.ref 308)], #[]⟩
noncomputable def o312 (_ : Params) : Obj := ⟨(.type "builtin_function_or_method"), none, .fields #[(.builtin "object.__init_subclass__"), (.ref 308)], #[]⟩
noncomputable def t3 (P : Params) : BT := (.node (boot_o_0 P) (.node (boot_o_1 P) (.node (o3v2 P) (.node (boot_o_7 P) (.node (o11 P) (.node (o11 P) (.node (o12 P) (.node (o12 P) (.node (o11 P) .nil .nil) .nil) (.node (o23 P) .nil .nil)) (.node (o11 P) (.node (o159 P) (.node (o287 P) .nil .nil) .nil) (.node (o223 P) .nil .nil))) (.node (o47 P) (.node (o79 P) (.node (o11 P) (.node (o12 P) .nil .nil) .nil) (.node (o11 P) .nil .nil)) (.node (o111 P) (.node (o175 P) (.node (o303 P) .nil .nil) .nil) (.node (o239 P) .nil .nil)))) (.node (o23 P) (.node (o11 P) (.node (o71 P) (.node (o135 P) (.node (o11 P) .nil .nil) .nil) (.node (o199 P) .nil .nil)) (.node (o11 P) (.node (o167 P) (.node (o11 P) .nil .nil) .nil) (.node (o231 P) .nil .nil))) (.node (o11 P) (.node (o87 P) (.node (o151 P) (.node (o12 P) .nil .nil) .nil) (.node (o11 P) .nil .nil)) (.node (o11 P) (.node (o11 P) (.node (o311 P) .nil .nil) .nil) (.node (o247 P) .nil .nil))))) (.node (o11 P) (.node (o19 P) (.node (o35 P) (.node (o67 P) (.node (o131 P) (.node (o259 P) .nil .nil) .nil) (.node (o195 P) .nil .nil)) (.node (o99 P) (.node (o12 P) (.node (o291 P) .nil .nil) .nil) (.node (o11 P) .nil .nil))) (.node (o11 P) (.node (o83 P) (.node (o11 P) (.node (o275 P) .nil .nil) .nil) (.node (o211 P) .nil .nil)) (.node (o11 P) (.node (o179 P) (.node (o307 P) .nil .nil) .nil) (.node (o12 P) .nil .nil)))) (.node (o27 P) (.node (o11 P) (.node (o12 P) (.node (o139 P) (.node (o267 P) .nil .nil) .nil) (.node (o203 P) .nil .nil)) (.node (o11 P) (.node (o171 P) (.node (o11 P) .nil .nil) .nil) (.node (o12 P) .nil .nil))) (.node (o59 P) (.node (o11 P) (.node (o11 P) (.node (o283 P) .nil .nil) .nil) (.node (o11 P) .nil .nil)) (.node (o123 P) (.node (o187 P) .nil .nil) (.node (o251 P) .nil .nil)))))) (.node (boot_o_5 P) (.node (boot_o_9 P) (.node (o17 P) (.node (o33 P) (.node (o11 P) (.node (o11 P) (.node (o257 P) .nil .nil) .nil) (.node (o11 P) .nil .nil)) (.node (o97 P) (.node (o161 P) (.node (o289 P) .nil .nil) .nil) (.node (o225 P) .nil .nil))) (.node (o12 P) (.node (o11 P) (.node (o145 P) (.node (o11 P) .nil .nil) .nil) (.node (o209 P) .nil .nil)) (.node (o12 P) (.node (o177 P) (.node (o305 P) .nil .nil) .nil) (.node (o241 P) .nil .nil)))) (.node (o11 P) (.node (o41 P) (.node (o73 P) (.node (o137 P) (.node (o265 P) .nil .nil) .nil) (.node (o201 P) .nil .nil)) (.node (o105 P) (.node (o11 P) (.node (o297 P) .nil .nil) .nil) (.node (o233 P) .nil .nil))) (.node (o57 P) (.node (o12 P) (.node (o153 P) (.node (o11 P) .nil .nil) .nil) (.node (o217 P) .nil .nil)) (.node (o121 P) (.node (o185 P) .nil .nil) (.node (o249 P) .nil .nil))))) (.node (o13 P) (.node (o21 P) (.node (o12 P) (.node (o11 P) (.node (o133 P) (.node (o12 P) .nil .nil) .nil) (.node (o11 P) .nil .nil)) (.node (o12 P) (.node (o11 P) (.node (o12 P) .nil .nil) .nil) (.node (o229 P) .nil .nil))) (.node (o53 P) (.node (o85 P) (.node (o149 P) (.node (o154 P) .nil .nil) .nil) (.node (o12 P) .nil .nil)) (.node (o117 P) (.node (o181 P) (.node (o309 P) .nil .nil) .nil) (.node (o11 P) .nil .nil)))) (.node (o11 P) (.node (o45 P) (.node (o11 P) (.node (o23 P) (.node (o251 P) .nil .nil) .nil) (.node (o12 P) .nil .nil)) (.node (o109 P) (.node (o173 P) (.node (o301 P) .nil .nil) .nil) (.node (o11 P) .nil .nil))) (.node (o61 P) (.node (o93 P) (.node (o157 P) (.node (o11 P) .nil .nil) .nil) (.node (o221 P) .nil .nil)) (.node (o125 P) (.node (o189 P) .nil .nil) (.node (o12 P) .nil .nil))))))) (.node (boot_o_2 P) (.node (boot_o_4 P) (.node (boot_o_8 P) (.node (o12 P) (.node (o12 P) (.node (o64 P) (.node (o128 P) (.node (o256 P) .nil .nil) .nil) (.node (o192 P) .nil .nil)) (.node (o12 P) (.node (o160 P) (.node (o11 P) .nil .nil) .nil) (.node (o224 P) .nil .nil))) (.node (o11 P) (.node (o80 P) (.node (o144 P) (.node (o272 P) .nil .nil) .nil) (.node (o208 P) .nil .nil)) (.node (o11 P) (.node (o176 P) (.node (o304 P) .nil .nil) .nil) (.node (o240 P) .nil .nil)))) (.node (o24 P) (.node (o40 P) (.node (o72 P) (.node (o136 P) (.node (o264 P) .nil .nil) .nil) (.node (o11 P) .nil .nil)) (.node (o104 P) (.node (o168 P) (.node (o296 P) .nil .nil) .nil) (.node (o232 P) .nil .nil))) (.node (o12 P) (.node (o11 P) (.node (o152 P) (.node (o280 P) .nil .nil) .nil) (.node (o216 P) .nil .nil)) (.node (o12 P) (.node (o12 P) (.node (o312 P) .nil .nil) .nil) (.node (o248 P) .nil .nil))))) (.node (o12v3 P) (.node (o20 P) (.node (o11 P) (.node (o68 P) (.node (o132 P) (.node (o11 P) .nil .nil) .nil) (.node (o196 P) .nil .nil)) (.node (o11 P) (.node (o164 P) (.node (o11 P) .nil .nil) .nil) (.node (o12 P) .nil .nil))) (.node (o52 P) (.node (o11 P) (.node (o12 P) (.node (o276 P) .nil .nil) .nil) (.node (o11 P) .nil .nil)) (.node (o116 P) (.node (o180 P) (.node (o308 P) .nil .nil) .nil) (.node (o11 P) .nil .nil)))) (.node (o28 P) (.node (o12 P) (.node (o76 P) (.node (o11 P) (.node (o268 P) .nil .nil) .nil) (.node (o11 P) .nil .nil)) (.node (o12 P) (.node (o11 P) (.node (o12 P) .nil .nil) .nil) (.node (o236 P) .nil .nil))) (.node (o60 P) (.node (o92 P) (.node (o12 P) (.node (o284 P) .nil .nil) .nil) (.node (o12 P) .nil .nil)) (.node (o124 P) (.node (o188 P) .nil .nil) (.node (o11 P) .nil .nil)))))) (.node (boot_o_6 P) (.node (boot_o_10 P) (.node (o11 P) (.node (o34 P) (.node (o66 P) (.node (o130 P) (.node (o258 P) .nil .nil) .nil) (.node (o194 P) .nil .nil)) (.node (o98 P) (.node (o11 P) (.node (o290 P) .nil .nil) .nil) (.node (o226 P) .nil .nil))) (.node (o50 P) (.node (o12 P) (.node (o146 P) (.node (o274 P) .nil .nil) .nil) (.node (o210 P) .nil .nil)) (.node (o114 P) (.node (o178 P) (.node (o306 P) .nil .nil) .nil) (.node (o11 P) .nil .nil)))) (.node (o26 P) (.node (o42 P) (.node (o11 P) (.node (o138 P) (.node (o266 P) .nil .nil) .nil) (.node (o202 P) .nil .nil)) (.node (o106 P) (.node (o12 P) (.node (o298 P) .nil .nil) .nil) (.node (o11 P) .nil .nil))) (.node (o11 P) (.node (o90 P) (.node (o154 P) (.node (o282 P) .nil .nil) .nil) (.node (o218 P) .nil .nil)) (.node (o11 P) (.node (o11 P) .nil .nil) (.node (o250 P) .nil .nil))))) (.node (o14 P) (.node (o11 P) (.node (o38 P) (.node (o12 P) (.node (o134 P) (.node (o11 P) .nil .nil) .nil) (.node (o12 P) .nil .nil)) (.node (o102 P) (.node (o166 P) (.node (o294 P) .nil .nil) .nil) (.node (o11 P) .nil .nil))) (.node (o54 P) (.node (o86 P) (.node (o11 P) (.node (o11 P) .nil .nil) .nil) (.node (o214 P) .nil .nil)) (.node (o118 P) (.node (o182 P) (.node (o310 P) .nil .nil) .nil) (.node (o246 P) .nil .nil)))) (.node (o30 P) (.node (o46 P) (.node (o78 P) (.node (o142 P) (.node (o11 P) .nil .nil) .nil) (.node (o206 P) .nil .nil)) (.node (o110 P) (.node (o174 P) (.node (o11 P) .nil .nil) .nil) (.node (o238 P) .nil .nil))) (.node (o11 P) (.node (o94 P) (.node (o11 P) (.node (o12 P) .nil .nil) .nil) (.node (o11 P) .nil .nil)) (.node (o11 P) (.node (o11 P) .nil .nil) (.node (o254 P) .nil .nil))))))))
noncomputable def s3 (w : World) (os : OsState) : SharedT := ⟨t3 w.params, 313, {}, #[], {}, 572, os⟩
noncomputable def g3 : List Stmt := [stmtAt PySem.Challenge.pw_ak0016_01.main.body 6]
theorem pc3 (p : Program) (b : List Stmt) (w : World) (os : OsState) : segRunT treeTable p w 11 ann9 1 1180 (s2 w os) (piecesOf g3 env9 (cd9 b) ⟨107, 0, 113, 25⟩ B9) = some (.next, s3 w os, cd9 b, ⟨114, 0, 227, 33⟩) := by
  rw [PySem.W.Fast.te10110043849684766642, PySem.W.Fast.te14364793385576792824]; kernel_rfl
noncomputable def o3v3 (P : Params) : Obj := ⟨(.type "dict"), none, .dict #[de P (.ofString "__name__") 165 (.str (.ofString "matchpy.expressions.expressions") 343), de P (.ofString "__doc__") 166 .none, de P (.ofString "__package__") 167 .none, de P (.ofString "__loader__") 168 (.builtin "__main__.__loader__#opaque"), de P (.ofString "__spec__") 169 .none, de P (.ofString "__annotations__") 170 (.ref 6), de P (.ofString "__builtins__") 171 (.ref 4), de P (.ofString "__file__") 173 (.str (.ofString "/claim/cut.py") 172), de P (.ofString "__cached__") 174 .none, de P (.ofString "_wall") 193 (.ref 21), de P (.ofString "Multiset") 342 (.ref 135), de P (.ofString "_tuplegetter") 401 (.ref 178), de P (.ofString "_sort") 410 (.ref 189), de P (.ofString "Expression") 571 (.ref 308), de P (.ofString "Arity") 686 (.ref 380)] 15, #[]⟩
noncomputable def o12v4 (_ : Params) : Obj := fldO [(.int 1 0), (.int 0 0), (.ref 20), (.int 5 0), (.int 0 0), (.ref 27), (.int 89 0), (.int 0 0), (.ref 145), (.int 107 0), (.int 0 0), (.ref 188), (.int 114 0), (.int 0 0), (.ref 195), (.int 228 0), (.int 0 0), (.ref 319)]
noncomputable def o313 (_ : Params) : Obj := tupO [(.type "tuple")]
noncomputable def o315 (P : Params) : Obj := ⟨(.type "dict"), none, .dict #[de P (.ofString "__module__") 579 (.str (.ofString "matchpy.expressions.expressions") 343), de P (.ofString "__qualname__") 581 (.str (.ofString "Arity") 580), de P (.ofString "__firstlineno__") 583 (.int 228 582), de P (.ofString "__doc__") 585 (docC 7 584), de P (.ofString "__slots__") 587 (.ref 321), de P (.ofString "_fields") 590 (.ref 322), de P (.ofString "_field_defaults") 591 (.ref 323), de P (.ofString "__new__") 601 (.ref 330), de P (.ofString "_make") 623 (.ref 339), de P (.ofString "_replace") 634 (.ref 348), de P (.ofString "__replace__") 635 (.ref 348), de P (.ofString "__repr__") 643 (.ref 355), de P (.ofString "_asdict") 650 (.ref 362), de P (.ofString "__getnewargs__") 658 (.ref 369), de P (.ofString "__match_args__") 661 (.ref 370), de P (.ofString "min_count") 671 (.ref 372), de P (.ofString "fixed_size") 681 (.ref 375), de P (.ofString "__static_attributes__") 682 (.ref 377), de P (.ofString "__classcell__") 683 (.ref 316)] 19, #[]⟩
noncomputable def o316 (_ : Params) : Obj := ⟨(.type "cell"), none, .cell (some (.ref 380)), #[]⟩
noncomputable def o318 (_ : Params) : Obj := fldO [(.int 234 0), (.int 4 0), (.ref 329), (.int 239 0), (.int 4 0), (.ref 336), (.int 246 0), (.int 4 0), (.ref 347), (.int 257 0), (.int 4 0), (.ref 354), (.int 261 0), (.int 4 0), (.ref 361), (.int 264 0), (.int 4 0), (.ref 368)]
noncomputable def o319 (_ : Params) : Obj := cdO (.ofString "Arity") (.ofString "Arity") 574 228 0 0 0 0 317 false 318 .none .none .none .none 577 578
noncomputable def o320 (_ : Params) : Obj := ⟨(.type "frame"), none, .plain, #[(some (.ref 319)), (some (.ref 3)), (some (.ref 315)), none, (some (.str (.ofString "matchpy.expressions.expressions") 343)), none, (some (.ref 0))]⟩
noncomputable def o322 (_ : Params) : Obj := tupO [(.str (.ofString "min_count") 588), (.str (.ofString "fixed_size") 589)]
noncomputable def o326 (_ : Params) : Obj := tupO [(.str (.ofString "_cls") 595), (.str (.ofString "min_count") 596), (.str (.ofString "fixed_size") 597)]
noncomputable def o328 (_ : Params) : Obj := fn0 (.ofString "__new__") (.ofString "Arity.__new__") fp7x4
noncomputable def o329 (_ : Params) : Obj := cdO (.ofString "__new__") (.ofString "Arity.__new__") 592 234 3 0 0 3 324 true 325 .none (.ref 326) (.ref 327) (.ref 328) 598 599
noncomputable def o330 (_ : Params) : Obj := fnO (.ofString "__new__") (.ofString "Arity.__new__") fp7x4 .none .none (docV fp7x4 600) (.str (.ofString "matchpy.expressions.expressions") 343) 329
noncomputable def o333 (_ : Params) : Obj := tupO [(.str (.ofString "cls") 605), (.str (.ofString "iterable") 606), (.str (.ofString "result") 607)]
noncomputable def o335 (_ : Params) : Obj := fn0 (.ofString "_make") (.ofString "Arity._make") fp7x5
noncomputable def o336 (_ : Params) : Obj := cdO (.ofString "_make") (.ofString "Arity._make") 602 238 2 0 0 3 331 true 332 .none (.ref 333) (.ref 334) (.ref 335) 608 609
noncomputable def o337 (_ : Params) : Obj := ⟨(.type "function"), none, .func ⟨(.ofString "_make"), (.ofString "Arity._make"), fp7x5.1, .stmts fp7x5.2.1, fp7x5.2.2, 3, [], .none, .none, (docV fp7x5 610), (.str (.ofString "matchpy.expressions.expressions") 343), (some 340), (.ref 336), .none, 0⟩, #[]⟩
noncomputable def o338 (P : Params) : Obj := ⟨(.type "dict"), none, .dict #[de P (.ofString "__module__") 612 (.str (.ofString "matchpy.expressions.expressions") 343), de P (.ofString "__name__") 615 (.str (.ofString "_make") 614), de P (.ofString "__qualname__") 618 (.str (.ofString "Arity._make") 617), de P (.ofString "__doc__") 620 (docV fp7x5 610), de P (.ofString "__annotations__") 622 (.ref 340)] 5, #[]⟩
noncomputable def o339 (_ : Params) : Obj := ⟨(.type "classmethod"), (some 338), .fields #[(.ref 337), (.bool false)], #[]⟩
noncomputable def o341 (_ : Params) : Obj := tupO [(.ref 316)]
noncomputable def o342 (_ : Params) : Obj := tupO [(.str (.ofString "__class__") 627)]
noncomputable def o344 (_ : Params) : Obj := tupO [(.str (.ofString "self") 628), (.str (.ofString "kwds") 629), (.str (.ofString "result") 630)]
noncomputable def o346 (_ : Params) : Obj := fn0 (.ofString "_replace") (.ofString "Arity._replace") fp7x6
noncomputable def o347 (_ : Params) : Obj := cdO (.ofString "_replace") (.ofString "Arity._replace") 624 246 1 1 0 11 342 true 343 .none (.ref 344) (.ref 345) (.ref 346) 631 632
noncomputable def o348 (_ : Params) : Obj := fnC (.ofString "_replace") (.ofString "Arity._replace") fp7x6 [((.ofString "__class__"), 316)] .none .none (docV fp7x6 633) (.str (.ofString "matchpy.expressions.expressions") 343) 347 (.ref 341)
noncomputable def o351 (_ : Params) : Obj := tupO [(.str (.ofString "self") 639)]
noncomputable def o353 (_ : Params) : Obj := fn0 (.ofString "__repr__") (.ofString "Arity.__repr__") fp7x8
noncomputable def o354 (_ : Params) : Obj := cdO (.ofString "__repr__") (.ofString "Arity.__repr__") 636 257 1 0 0 3 349 true 350 .none (.ref 351) (.ref 352) (.ref 353) 640 641
noncomputable def o355 (_ : Params) : Obj := fnO (.ofString "__repr__") (.ofString "Arity.__repr__") fp7x8 .none .none (docV fp7x8 642) (.str (.ofString "matchpy.expressions.expressions") 343) 354
noncomputable def o358 (_ : Params) : Obj := tupO [(.str (.ofString "self") 647)]
noncomputable def o360 (_ : Params) : Obj := fn0 (.ofString "_asdict") (.ofString "Arity._asdict") fp7x9
noncomputable def o361 (_ : Params) : Obj := cdO (.ofString "_asdict") (.ofString "Arity._asdict") 644 261 1 0 0 3 356 true 357 .none (.ref 358) (.ref 359) (.ref 360) 648 649
noncomputable def o362 (_ : Params) : Obj := fnO (.ofString "_asdict") (.ofString "Arity._asdict") fp7x9 .none .none .none (.str (.ofString "matchpy.expressions.expressions") 343) 361
noncomputable def o365 (_ : Params) : Obj := tupO [(.str (.ofString "self") 654)]
noncomputable def o367 (_ : Params) : Obj := fn0 (.ofString "__getnewargs__") (.ofString "Arity.__getnewargs__") fp7x10
noncomputable def o368 (_ : Params) : Obj := cdO (.ofString "__getnewargs__") (.ofString "Arity.__getnewargs__") 651 264 1 0 0 3 363 true 364 .none (.ref 365) (.ref 366) (.ref 367) 655 656
noncomputable def o369 (_ : Params) : Obj := fnO (.ofString "__getnewargs__") (.ofString "Arity.__getnewargs__") fp7x10 .none .none (docV fp7x10 657) (.str (.ofString "matchpy.expressions.expressions") 343) 368
noncomputable def o370 (_ : Params) : Obj := tupO [(.str (.ofString "min_count") 659), (.str (.ofString "fixed_size") 660)]
noncomputable def o371 (P : Params) : Obj := ⟨(.type "dict"), none, .dict #[de P (.ofString "index") 668 (.int 0 662), de P (.ofString "__doc__") 670 (.str (.ofString "Alias for field number 0") 663)] 2, #[]⟩
noncomputable def o372 (_ : Params) : Obj := ⟨(.ref 178), (some 371), .plain, #[]⟩
noncomputable def o373 (P : Params) : Obj := ⟨(.type "frame"), none, .dict #[de P (.ofString "self") 664 (.ref 372), de P (.ofString "index") 665 (.int 0 662), de P (.ofString "doc") 666 (.str (.ofString "Alias for field number 0") 663)] 3, #[]⟩
noncomputable def o374 (P : Params) : Obj := ⟨(.type "dict"), none, .dict #[de P (.ofString "index") 678 (.int 1 672), de P (.ofString "__doc__") 680 (.str (.ofString "Alias for field number 1") 673)] 2, #[]⟩
noncomputable def o375 (_ : Params) : Obj := ⟨(.ref 178), (some 374), .plain, #[]⟩
noncomputable def o376 (P : Params) : Obj := ⟨(.type "frame"), none, .dict #[de P (.ofString "self") 674 (.ref 375), de P (.ofString "index") 675 (.int 1 672), de P (.ofString "doc") 676 (.str (.ofString "Alias for field number 1") 673)] 3, #[]⟩
noncomputable def o378 (_ : Params) : Obj := ⟨(.type "list"), none, .seq #[] 0, #[]⟩
noncomputable def o379 (P : Params) : Obj := ⟨(.type "dict"), none, .dict #[de P (.ofString "__module__") 579 (.str (.ofString "matchpy.expressions.expressions") 343), de P (.ofString "__firstlineno__") 583 (.int 228 582), de P (.ofString "__doc__") 585 (docC 7 584), de P (.ofString "__slots__") 587 (.ref 321), de P (.ofString "_fields") 590 (.ref 322), de P (.ofString "_field_defaults") 591 (.ref 323), de P (.ofString "__new__") 601 (.ref 381), de P (.ofString "_make") 623 (.ref 339), de P (.ofString "_replace") 634 (.ref 348), de P (.ofString "__replace__") 635 (.ref 348), de P (.ofString "__repr__") 643 (.ref 355), de P (.ofString "_asdict") 650 (.ref 362), de P (.ofString "__getnewargs__") 658 (.ref 369), de P (.ofString "__match_args__") 661 (.ref 370), de P (.ofString "min_count") 671 (.ref 372), de P (.ofString "fixed_size") 681 (.ref 375), de P (.ofString "__static_attributes__") 682 (.ref 377)] 2, #[]⟩
noncomputable def o380 (_ : Params) : Obj := ⟨(.type "type"), none, .cls ⟨(.ofString "Arity"), [(.type "tuple")], [(.ref 380), (.type "tuple"), (.type "object")], 379, (.ofString "Arity"), false, [], [], false, none, false⟩, #[(some (.ref 313)), none, (some (.str (.ofString "Arity") 572)), (some (.str (.ofString "Arity") 580)), (some .none), (some (.bool false))]⟩
noncomputable def o381 (_ : Params) : Obj := ⟨(.type "staticmethod"), none, .fields #[(.ref 330)], #[]⟩
noncomputable def o382 (_ : Params) : Obj := ⟨(.type "super"), none, .fields #[(.ref 380), (.ref 380), (.ref 380)], #[]⟩
noncomputable def o383 (_ : Params) : Obj := ⟨(.type "builtin_function_or_method"), none, .fields #[(.builtin "object.__init_subclass__"), (.ref 380)], #[]⟩
noncomputable def t4 (P : Params) : BT := (.node (boot_o_0 P) (.node (boot_o_1 P) (.node (o3v3 P) (.node (boot_o_7 P) (.node (o11 P) (.node (o11 P) (.node (o12 P) (.node (o12 P) (.node (o11 P) .nil .nil) (.node (o383 P) .nil .nil)) (.node (o23 P) (.node (o319 P) .nil .nil) .nil)) (.node (o11 P) (.node (o159 P) (.node (o287 P) .nil .nil) .nil) (.node (o223 P) (.node (o351 P) .nil .nil) .nil))) (.node (o47 P) (.node (o79 P) (.node (o11 P) (.node (o12 P) .nil .nil) .nil) (.node (o11 P) (.node (o335 P) .nil .nil) .nil)) (.node (o111 P) (.node (o175 P) (.node (o303 P) .nil .nil) .nil) (.node (o239 P) (.node (o367 P) .nil .nil) .nil)))) (.node (o23 P) (.node (o11 P) (.node (o71 P) (.node (o135 P) (.node (o11 P) .nil .nil) .nil) (.node (o199 P) (.node (o11 P) .nil .nil) .nil)) (.node (o11 P) (.node (o167 P) (.node (o11 P) .nil .nil) .nil) (.node (o231 P) (.node (o11 P) .nil .nil) .nil))) (.node (o11 P) (.node (o87 P) (.node (o151 P) (.node (o12 P) .nil .nil) .nil) (.node (o11 P) (.node (o12 P) .nil .nil) .nil)) (.node (o11 P) (.node (o11 P) (.node (o311 P) .nil .nil) .nil) (.node (o247 P) (.node (o375 P) .nil .nil) .nil))))) (.node (o11 P) (.node (o19 P) (.node (o35 P) (.node (o67 P) (.node (o131 P) (.node (o259 P) .nil .nil) .nil) (.node (o195 P) (.node (o251 P) .nil .nil) .nil)) (.node (o99 P) (.node (o12 P) (.node (o291 P) .nil .nil) .nil) (.node (o11 P) (.node (o355 P) .nil .nil) .nil))) (.node (o11 P) (.node (o83 P) (.node (o11 P) (.node (o275 P) .nil .nil) .nil) (.node (o211 P) (.node (o339 P) .nil .nil) .nil)) (.node (o11 P) (.node (o179 P) (.node (o307 P) .nil .nil) .nil) (.node (o12 P) (.node (o371 P) .nil .nil) .nil)))) (.node (o27 P) (.node (o11 P) (.node (o12 P) (.node (o139 P) (.node (o267 P) .nil .nil) .nil) (.node (o203 P) (.node (o11 P) .nil .nil) .nil)) (.node (o11 P) (.node (o171 P) (.node (o11 P) .nil .nil) .nil) (.node (o12 P) (.node (o11 P) .nil .nil) .nil))) (.node (o59 P) (.node (o11 P) (.node (o11 P) (.node (o283 P) .nil .nil) .nil) (.node (o11 P) (.node (o347 P) .nil .nil) .nil)) (.node (o123 P) (.node (o187 P) (.node (o315 P) .nil .nil) .nil) (.node (o251 P) (.node (o379 P) .nil .nil) .nil)))))) (.node (boot_o_5 P) (.node (boot_o_9 P) (.node (o17 P) (.node (o33 P) (.node (o11 P) (.node (o11 P) (.node (o257 P) .nil .nil) .nil) (.node (o11 P) (.node (o11 P) .nil .nil) .nil)) (.node (o97 P) (.node (o161 P) (.node (o289 P) .nil .nil) .nil) (.node (o225 P) (.node (o353 P) .nil .nil) .nil))) (.node (o12 P) (.node (o11 P) (.node (o145 P) (.node (o11 P) .nil .nil) .nil) (.node (o209 P) (.node (o337 P) .nil .nil) .nil)) (.node (o12 P) (.node (o177 P) (.node (o305 P) .nil .nil) .nil) (.node (o241 P) (.node (o369 P) .nil .nil) .nil)))) (.node (o11 P) (.node (o41 P) (.node (o73 P) (.node (o137 P) (.node (o265 P) .nil .nil) .nil) (.node (o201 P) (.node (o329 P) .nil .nil) .nil)) (.node (o105 P) (.node (o11 P) (.node (o297 P) .nil .nil) .nil) (.node (o233 P) (.node (o361 P) .nil .nil) .nil))) (.node (o57 P) (.node (o12 P) (.node (o153 P) (.node (o11 P) .nil .nil) .nil) (.node (o217 P) (.node (o11 P) .nil .nil) .nil)) (.node (o121 P) (.node (o185 P) (.node (o313 P) .nil .nil) .nil) (.node (o249 P) (.node (o11 P) .nil .nil) .nil))))) (.node (o13 P) (.node (o21 P) (.node (o12 P) (.node (o11 P) (.node (o133 P) (.node (o12 P) .nil .nil) .nil) (.node (o11 P) (.node (o12 P) .nil .nil) .nil)) (.node (o12 P) (.node (o11 P) (.node (o12 P) .nil .nil) .nil) (.node (o229 P) (.node (o12 P) .nil .nil) .nil))) (.node (o53 P) (.node (o85 P) (.node (o149 P) (.node (o154 P) .nil .nil) .nil) (.node (o12 P) (.node (o341 P) .nil .nil) .nil)) (.node (o117 P) (.node (o181 P) (.node (o309 P) .nil .nil) .nil) (.node (o11 P) (.node (o373 P) .nil .nil) .nil)))) (.node (o11 P) (.node (o45 P) (.node (o11 P) (.node (o23 P) (.node (o251 P) .nil .nil) .nil) (.node (o12 P) (.node (o333 P) .nil .nil) .nil)) (.node (o109 P) (.node (o173 P) (.node (o301 P) .nil .nil) .nil) (.node (o11 P) (.node (o365 P) .nil .nil) .nil))) (.node (o61 P) (.node (o93 P) (.node (o157 P) (.node (o11 P) .nil .nil) .nil) (.node (o221 P) (.node (o11 P) .nil .nil) .nil)) (.node (o125 P) (.node (o189 P) (.node (o11 P) .nil .nil) .nil) (.node (o12 P) (.node (o381 P) .nil .nil) .nil))))))) (.node (boot_o_2 P) (.node (boot_o_4 P) (.node (boot_o_8 P) (.node (o12 P) (.node (o12 P) (.node (o64 P) (.node (o128 P) (.node (o256 P) .nil .nil) .nil) (.node (o192 P) (.node (o320 P) .nil .nil) .nil)) (.node (o12 P) (.node (o160 P) (.node (o11 P) .nil .nil) .nil) (.node (o224 P) (.node (o11 P) .nil .nil) .nil))) (.node (o11 P) (.node (o80 P) (.node (o144 P) (.node (o272 P) .nil .nil) .nil) (.node (o208 P) (.node (o336 P) .nil .nil) .nil)) (.node (o11 P) (.node (o176 P) (.node (o304 P) .nil .nil) .nil) (.node (o240 P) (.node (o368 P) .nil .nil) .nil)))) (.node (o24 P) (.node (o40 P) (.node (o72 P) (.node (o136 P) (.node (o264 P) .nil .nil) .nil) (.node (o11 P) (.node (o328 P) .nil .nil) .nil)) (.node (o104 P) (.node (o168 P) (.node (o296 P) .nil .nil) .nil) (.node (o232 P) (.node (o360 P) .nil .nil) .nil))) (.node (o12 P) (.node (o11 P) (.node (o152 P) (.node (o280 P) .nil .nil) .nil) (.node (o216 P) (.node (o344 P) .nil .nil) .nil)) (.node (o12 P) (.node (o12 P) (.node (o312 P) .nil .nil) .nil) (.node (o248 P) (.node (o376 P) .nil .nil) .nil))))) (.node (o12v4 P) (.node (o20 P) (.node (o11 P) (.node (o68 P) (.node (o132 P) (.node (o11 P) .nil .nil) .nil) (.node (o196 P) (.node (o11 P) .nil .nil) .nil)) (.node (o11 P) (.node (o164 P) (.node (o11 P) .nil .nil) .nil) (.node (o12 P) (.node (o11 P) .nil .nil) .nil))) (.node (o52 P) (.node (o11 P) (.node (o12 P) (.node (o276 P) .nil .nil) .nil) (.node (o11 P) (.node (o251 P) .nil .nil) .nil)) (.node (o116 P) (.node (o180 P) (.node (o308 P) .nil .nil) .nil) (.node (o11 P) (.node (o372 P) .nil .nil) .nil)))) (.node (o28 P) (.node (o12 P) (.node (o76 P) (.node (o11 P) (.node (o268 P) .nil .nil) .nil) (.node (o11 P) (.node (o12 P) .nil .nil) .nil)) (.node (o12 P) (.node (o11 P) (.node (o12 P) .nil .nil) .nil) (.node (o236 P) (.node (o12 P) .nil .nil) .nil))) (.node (o60 P) (.node (o92 P) (.node (o12 P) (.node (o284 P) .nil .nil) .nil) (.node (o12 P) (.node (o348 P) .nil .nil) .nil)) (.node (o124 P) (.node (o188 P) (.node (o316 P) .nil .nil) .nil) (.node (o11 P) (.node (o380 P) .nil .nil) .nil)))))) (.node (boot_o_6 P) (.node (boot_o_10 P) (.node (o11 P) (.node (o34 P) (.node (o66 P) (.node (o130 P) (.node (o258 P) .nil .nil) .nil) (.node (o194 P) (.node (o322 P) .nil .nil) .nil)) (.node (o98 P) (.node (o11 P) (.node (o290 P) .nil .nil) .nil) (.node (o226 P) (.node (o354 P) .nil .nil) .nil))) (.node (o50 P) (.node (o12 P) (.node (o146 P) (.node (o274 P) .nil .nil) .nil) (.node (o210 P) (.node (o338 P) .nil .nil) .nil)) (.node (o114 P) (.node (o178 P) (.node (o306 P) .nil .nil) .nil) (.node (o11 P) (.node (o370 P) .nil .nil) .nil)))) (.node (o26 P) (.node (o42 P) (.node (o11 P) (.node (o138 P) (.node (o266 P) .nil .nil) .nil) (.node (o202 P) (.node (o330 P) .nil .nil) .nil)) (.node (o106 P) (.node (o12 P) (.node (o298 P) .nil .nil) .nil) (.node (o11 P) (.node (o362 P) .nil .nil) .nil))) (.node (o11 P) (.node (o90 P) (.node (o154 P) (.node (o282 P) .nil .nil) .nil) (.node (o218 P) (.node (o346 P) .nil .nil) .nil)) (.node (o11 P) (.node (o11 P) (.node (o23 P) .nil .nil) .nil) (.node (o250 P) (.node (o378 P) .nil .nil) .nil))))) (.node (o14 P) (.node (o11 P) (.node (o38 P) (.node (o12 P) (.node (o134 P) (.node (o11 P) .nil .nil) .nil) (.node (o12 P) (.node (o326 P) .nil .nil) .nil)) (.node (o102 P) (.node (o166 P) (.node (o294 P) .nil .nil) .nil) (.node (o11 P) (.node (o358 P) .nil .nil) .nil))) (.node (o54 P) (.node (o86 P) (.node (o11 P) (.node (o11 P) .nil .nil) .nil) (.node (o214 P) (.node (o342 P) .nil .nil) .nil)) (.node (o118 P) (.node (o182 P) (.node (o310 P) .nil .nil) .nil) (.node (o246 P) (.node (o374 P) .nil .nil) .nil)))) (.node (o30 P) (.node (o46 P) (.node (o78 P) (.node (o142 P) (.node (o11 P) .nil .nil) .nil) (.node (o206 P) (.node (o11 P) .nil .nil) .nil)) (.node (o110 P) (.node (o174 P) (.node (o11 P) .nil .nil) .nil) (.node (o238 P) (.node (o11 P) .nil .nil) .nil))) (.node (o11 P) (.node (o94 P) (.node (o11 P) (.node (o12 P) .nil .nil) .nil) (.node (o11 P) (.node (o12 P) .nil .nil) .nil)) (.node (o11 P) (.node (o11 P) (.node (o318 P) .nil .nil) .nil) (.node (o254 P) (.node (o382 P) .nil .nil) .nil))))))))
noncomputable def s4 (w : World) (os : OsState) : SharedT := ⟨t4 w.params, 384, {}, #[], {}, 687, os⟩
noncomputable def g4 : List Stmt := [stmtAt PySem.Challenge.pw_ak0016_01.main.body 7]
theorem pc4 (p : Program) (b : List Stmt) (w : World) (os : OsState) : segRunT treeTable p w 11 ann9 1 939 (s3 w os) (piecesOf g4 env9 (cd9 b) ⟨114, 0, 227, 33⟩ B9) = some (.next, s4 w os, cd9 b, ⟨228, 0, 269, 60⟩) := by
  rw [PySem.W.Fast.te10110043849684766642, PySem.W.Fast.te14364793385576792824]; kernel_rfl
noncomputable def o3v4 (P : Params) : Obj := ⟨(.type "dict"), none, .dict #[de P (.ofString "__name__") 165 (.str (.ofString "matchpy.expressions.expressions") 343), de P (.ofString "__doc__") 166 .none, de P (.ofString "__package__") 167 .none, de P (.ofString "__loader__") 168 (.builtin "__main__.__loader__#opaque"), de P (.ofString "__spec__") 169 .none, de P (.ofString "__annotations__") 170 (.ref 6), de P (.ofString "__builtins__") 171 (.ref 4), de P (.ofString "__file__") 173 (.str (.ofString "/claim/cut.py") 172), de P (.ofString "__cached__") 174 .none, de P (.ofString "_wall") 193 (.ref 21), de P (.ofString "Multiset") 342 (.ref 135), de P (.ofString "_tuplegetter") 401 (.ref 178), de P (.ofString "_sort") 410 (.ref 189), de P (.ofString "Expression") 571 (.ref 308), de P (.ofString "Arity") 686 (.ref 380), de P (.ofString "_OperationMeta") 744 (.ref 415)] 16, #[]⟩
noncomputable def o12v5 (_ : Params) : Obj := fldO [(.int 1 0), (.int 0 0), (.ref 20), (.int 5 0), (.int 0 0), (.ref 27), (.int 89 0), (.int 0 0), (.ref 145), (.int 107 0), (.int 0 0), (.ref 188), (.int 114 0), (.int 0 0), (.ref 195), (.int 228 0), (.int 0 0), (.ref 319), (.int 270 0), (.int 0 0), (.ref 389)]
noncomputable def o386 (P : Params) : Obj := ⟨(.type "dict"), none, .dict #[de P (.ofString "__module__") 694 (.str (.ofString "matchpy.expressions.expressions") 343), de P (.ofString "__qualname__") 696 (.str (.ofString "_OperationMeta") 695), de P (.ofString "__firstlineno__") 698 (.int 270 697), de P (.ofString "__doc__") 700 (docC 8 699), de P (.ofString "__init__") 714 (.ref 397), de P (.ofString "__call__") 725 (.ref 405), de P (.ofString "_simplify") 737 (.ref 412), de P (.ofString "__static_attributes__") 738 (.ref 413)] 8, #[]⟩
noncomputable def o388 (_ : Params) : Obj := fldO [(.int 277 0), (.int 4 0), (.ref 396), (.int 287 0), (.int 4 0), (.ref 404), (.int 294 0), (.int 4 0), (.ref 411)]
noncomputable def o389 (_ : Params) : Obj := cdO (.ofString "_OperationMeta") (.ofString "_OperationMeta") 689 270 0 0 0 0 387 false 388 .none .none .none .none 692 693
noncomputable def o390 (_ : Params) : Obj := ⟨(.type "frame"), none, .plain, #[(some (.ref 389)), (some (.ref 3)), (some (.ref 386)), none, (some (.str (.ofString "matchpy.expressions.expressions") 343)), none, (some (.ref 0))]⟩
noncomputable def o393 (_ : Params) : Obj := tupO [(.str (.ofString "cls") 705), (.str (.ofString "name") 706), (.str (.ofString "arity") 707), (.str (.ofString "class_name") 708), (.str (.ofString "associative") 709), (.str (.ofString "commutative") 710), (.str (.ofString "one_identity") 711)]
noncomputable def o395 (_ : Params) : Obj := fn0 (.ofString "__init__") (.ofString "_OperationMeta.__init__") fp8x1
noncomputable def o396 (_ : Params) : Obj := cdO (.ofString "__init__") (.ofString "_OperationMeta.__init__") 702 277 7 0 0 3 391 true 392 .none (.ref 393) (.ref 394) (.ref 395) 712 713
noncomputable def o397 (_ : Params) : Obj := fnO (.ofString "__init__") (.ofString "_OperationMeta.__init__") fp8x1 .none .none .none (.str (.ofString "matchpy.expressions.expressions") 343) 396
noncomputable def o398 (P : Params) : Obj := ⟨(.type "dict"), none, .dict #[de P (.ofString "variable_name") 715 .none] 1, #[]⟩
noncomputable def o401 (_ : Params) : Obj := tupO [(.str (.ofString "cls") 719), (.str (.ofString "variable_name") 720), (.str (.ofString "operands") 721), (.str (.ofString "one_identity_applies") 722)]
noncomputable def o403 (_ : Params) : Obj := fn0 (.ofString "__call__") (.ofString "_OperationMeta.__call__") fp8x2
noncomputable def o404 (_ : Params) : Obj := cdO (.ofString "__call__") (.ofString "_OperationMeta.__call__") 716 287 1 0 1 7 399 true 400 .none (.ref 401) (.ref 402) (.ref 403) 723 724
noncomputable def o405 (_ : Params) : Obj := fnO (.ofString "__call__") (.ofString "_OperationMeta.__call__") fp8x2 .none (.ref 398) .none (.str (.ofString "matchpy.expressions.expressions") 343) 404
noncomputable def o408 (_ : Params) : Obj := tupO [(.str (.ofString "cls") 729), (.str (.ofString "operands") 730), (.str (.ofString "new_operands") 731), (.str (.ofString "operand") 732), (.str (.ofString "expr") 733)]
noncomputable def o410 (_ : Params) : Obj := fn0 (.ofString "_simplify") (.ofString "_OperationMeta._simplify") fp8x3
noncomputable def o411 (_ : Params) : Obj := cdO (.ofString "_simplify") (.ofString "_OperationMeta._simplify") 726 294 2 0 0 3 406 true 407 .none (.ref 408) (.ref 409) (.ref 410) 734 735
noncomputable def o412 (_ : Params) : Obj := fnO (.ofString "_simplify") (.ofString "_OperationMeta._simplify") fp8x3 .none .none (docV fp8x3 736) (.str (.ofString "matchpy.expressions.expressions") 343) 411
noncomputable def o414 (P : Params) : Obj := ⟨(.type "dict"), none, .dict #[de P (.ofString "__module__") 694 (.str (.ofString "matchpy.expressions.expressions") 343), de P (.ofString "__firstlineno__") 698 (.int 270 697), de P (.ofString "__doc__") 700 (docC 8 699), de P (.ofString "__init__") 714 (.ref 397), de P (.ofString "__call__") 725 (.ref 405), de P (.ofString "_simplify") 737 (.ref 412), de P (.ofString "__static_attributes__") 738 (.ref 413), de P (.ofString "__dict__") 740 (.ref 416), de P (.ofString "__weakref__") 742 (.ref 417)] 3, #[]⟩
noncomputable def o415 (_ : Params) : Obj := ⟨(.type "type"), none, .cls ⟨(.ofString "_OperationMeta"), [(.type "object")], [(.ref 415), (.type "object")], 414, (.ofString "_OperationMeta"), true, [], [], false, none, false⟩, #[none, none, (some (.str (.ofString "_OperationMeta") 687)), (some (.str (.ofString "_OperationMeta") 695)), (some (.builtin "object.__new__")), (some (.bool true))]⟩
noncomputable def o416 (_ : Params) : Obj := ⟨(.type "getset_descriptor"), none, .fields #[(.str (.ofString "__dict__") 739), (.ref 415), (.builtin "function.__dict__"), (.builtin "function.__dict__#set")], #[]⟩
noncomputable def o417 (_ : Params) : Obj := ⟨(.type "getset_descriptor"), none, .fields #[(.str (.ofString "__weakref__") 741), (.ref 415), (.builtin "ExceptionGroup.__weakref__"), .none], #[]⟩
noncomputable def o418 (_ : Params) : Obj := ⟨(.type "super"), none, .fields #[(.ref 415), (.ref 415), (.ref 415)], #[]⟩
noncomputable def o419 (_ : Params) : Obj := ⟨(.type "builtin_function_or_method"), none, .fields #[(.builtin "object.__init_subclass__"), (.ref 415)], #[]⟩
noncomputable def t5 (P : Params) : BT := (.node (boot_o_0 P) (.node (boot_o_1 P) (.node (o3v4 P) (.node (boot_o_7 P) (.node (o11 P) (.node (o11 P) (.node (o12 P) (.node (o12 P) (.node (o11 P) .nil .nil) (.node (o383 P) .nil .nil)) (.node (o23 P) (.node (o319 P) .nil .nil) .nil)) (.node (o11 P) (.node (o159 P) (.node (o287 P) .nil .nil) (.node (o415 P) .nil .nil)) (.node (o223 P) (.node (o351 P) .nil .nil) .nil))) (.node (o47 P) (.node (o79 P) (.node (o11 P) (.node (o12 P) .nil .nil) (.node (o11 P) .nil .nil)) (.node (o11 P) (.node (o335 P) .nil .nil) .nil)) (.node (o111 P) (.node (o175 P) (.node (o303 P) .nil .nil) .nil) (.node (o239 P) (.node (o367 P) .nil .nil) .nil)))) (.node (o23 P) (.node (o11 P) (.node (o71 P) (.node (o135 P) (.node (o11 P) .nil .nil) (.node (o11 P) .nil .nil)) (.node (o199 P) (.node (o11 P) .nil .nil) .nil)) (.node (o11 P) (.node (o167 P) (.node (o11 P) .nil .nil) .nil) (.node (o231 P) (.node (o11 P) .nil .nil) .nil))) (.node (o11 P) (.node (o87 P) (.node (o151 P) (.node (o12 P) .nil .nil) (.node (o12 P) .nil .nil)) (.node (o11 P) (.node (o12 P) .nil .nil) .nil)) (.node (o11 P) (.node (o11 P) (.node (o311 P) .nil .nil) .nil) (.node (o247 P) (.node (o375 P) .nil .nil) .nil))))) (.node (o11 P) (.node (o19 P) (.node (o35 P) (.node (o67 P) (.node (o131 P) (.node (o259 P) .nil .nil) (.node (o11 P) .nil .nil)) (.node (o195 P) (.node (o251 P) .nil .nil) .nil)) (.node (o99 P) (.node (o12 P) (.node (o291 P) .nil .nil) (.node (o419 P) .nil .nil)) (.node (o11 P) (.node (o355 P) .nil .nil) .nil))) (.node (o11 P) (.node (o83 P) (.node (o11 P) (.node (o275 P) .nil .nil) (.node (o403 P) .nil .nil)) (.node (o211 P) (.node (o339 P) .nil .nil) .nil)) (.node (o11 P) (.node (o179 P) (.node (o307 P) .nil .nil) .nil) (.node (o12 P) (.node (o371 P) .nil .nil) .nil)))) (.node (o27 P) (.node (o11 P) (.node (o12 P) (.node (o139 P) (.node (o267 P) .nil .nil) (.node (o395 P) .nil .nil)) (.node (o203 P) (.node (o11 P) .nil .nil) .nil)) (.node (o11 P) (.node (o171 P) (.node (o11 P) .nil .nil) .nil) (.node (o12 P) (.node (o11 P) .nil .nil) .nil))) (.node (o59 P) (.node (o11 P) (.node (o11 P) (.node (o283 P) .nil .nil) (.node (o411 P) .nil .nil)) (.node (o11 P) (.node (o347 P) .nil .nil) .nil)) (.node (o123 P) (.node (o187 P) (.node (o315 P) .nil .nil) .nil) (.node (o251 P) (.node (o379 P) .nil .nil) .nil)))))) (.node (boot_o_5 P) (.node (boot_o_9 P) (.node (o17 P) (.node (o33 P) (.node (o11 P) (.node (o11 P) (.node (o257 P) .nil .nil) (.node (o23 P) .nil .nil)) (.node (o11 P) (.node (o11 P) .nil .nil) .nil)) (.node (o97 P) (.node (o161 P) (.node (o289 P) .nil .nil) (.node (o417 P) .nil .nil)) (.node (o225 P) (.node (o353 P) .nil .nil) .nil))) (.node (o12 P) (.node (o11 P) (.node (o145 P) (.node (o11 P) .nil .nil) (.node (o401 P) .nil .nil)) (.node (o209 P) (.node (o337 P) .nil .nil) .nil)) (.node (o12 P) (.node (o177 P) (.node (o305 P) .nil .nil) .nil) (.node (o241 P) (.node (o369 P) .nil .nil) .nil)))) (.node (o11 P) (.node (o41 P) (.node (o73 P) (.node (o137 P) (.node (o265 P) .nil .nil) (.node (o393 P) .nil .nil)) (.node (o201 P) (.node (o329 P) .nil .nil) .nil)) (.node (o105 P) (.node (o11 P) (.node (o297 P) .nil .nil) .nil) (.node (o233 P) (.node (o361 P) .nil .nil) .nil))) (.node (o57 P) (.node (o12 P) (.node (o153 P) (.node (o11 P) .nil .nil) (.node (o11 P) .nil .nil)) (.node (o217 P) (.node (o11 P) .nil .nil) .nil)) (.node (o121 P) (.node (o185 P) (.node (o313 P) .nil .nil) .nil) (.node (o249 P) (.node (o11 P) .nil .nil) .nil))))) (.node (o13 P) (.node (o21 P) (.node (o12 P) (.node (o11 P) (.node (o133 P) (.node (o12 P) .nil .nil) (.node (o389 P) .nil .nil)) (.node (o11 P) (.node (o12 P) .nil .nil) .nil)) (.node (o12 P) (.node (o11 P) (.node (o12 P) .nil .nil) .nil) (.node (o229 P) (.node (o12 P) .nil .nil) .nil))) (.node (o53 P) (.node (o85 P) (.node (o149 P) (.node (o154 P) .nil .nil) (.node (o405 P) .nil .nil)) (.node (o12 P) (.node (o341 P) .nil .nil) .nil)) (.node (o117 P) (.node (o181 P) (.node (o309 P) .nil .nil) .nil) (.node (o11 P) (.node (o373 P) .nil .nil) .nil)))) (.node (o11 P) (.node (o45 P) (.node (o11 P) (.node (o23 P) (.node (o251 P) .nil .nil) (.node (o397 P) .nil .nil)) (.node (o12 P) (.node (o333 P) .nil .nil) .nil)) (.node (o109 P) (.node (o173 P) (.node (o301 P) .nil .nil) .nil) (.node (o11 P) (.node (o365 P) .nil .nil) .nil))) (.node (o61 P) (.node (o93 P) (.node (o157 P) (.node (o11 P) .nil .nil) (.node (o11 P) .nil .nil)) (.node (o221 P) (.node (o11 P) .nil .nil) .nil)) (.node (o125 P) (.node (o189 P) (.node (o11 P) .nil .nil) .nil) (.node (o12 P) (.node (o381 P) .nil .nil) .nil))))))) (.node (boot_o_2 P) (.node (boot_o_4 P) (.node (boot_o_8 P) (.node (o12 P) (.node (o12 P) (.node (o64 P) (.node (o128 P) (.node (o256 P) .nil .nil) (.node (o11 P) .nil .nil)) (.node (o192 P) (.node (o320 P) .nil .nil) .nil)) (.node (o12 P) (.node (o160 P) (.node (o11 P) .nil .nil) (.node (o416 P) .nil .nil)) (.node (o224 P) (.node (o11 P) .nil .nil) .nil))) (.node (o11 P) (.node (o80 P) (.node (o144 P) (.node (o272 P) .nil .nil) (.node (o12 P) .nil .nil)) (.node (o208 P) (.node (o336 P) .nil .nil) .nil)) (.node (o11 P) (.node (o176 P) (.node (o304 P) .nil .nil) .nil) (.node (o240 P) (.node (o368 P) .nil .nil) .nil)))) (.node (o24 P) (.node (o40 P) (.node (o72 P) (.node (o136 P) (.node (o264 P) .nil .nil) (.node (o12 P) .nil .nil)) (.node (o11 P) (.node (o328 P) .nil .nil) .nil)) (.node (o104 P) (.node (o168 P) (.node (o296 P) .nil .nil) .nil) (.node (o232 P) (.node (o360 P) .nil .nil) .nil))) (.node (o12 P) (.node (o11 P) (.node (o152 P) (.node (o280 P) .nil .nil) (.node (o408 P) .nil .nil)) (.node (o216 P) (.node (o344 P) .nil .nil) .nil)) (.node (o12 P) (.node (o12 P) (.node (o312 P) .nil .nil) .nil) (.node (o248 P) (.node (o376 P) .nil .nil) .nil))))) (.node (o12v5 P) (.node (o20 P) (.node (o11 P) (.node (o68 P) (.node (o132 P) (.node (o11 P) .nil .nil) (.node (o388 P) .nil .nil)) (.node (o196 P) (.node (o11 P) .nil .nil) .nil)) (.node (o11 P) (.node (o164 P) (.node (o11 P) .nil .nil) .nil) (.node (o12 P) (.node (o11 P) .nil .nil) .nil))) (.node (o52 P) (.node (o11 P) (.node (o12 P) (.node (o276 P) .nil .nil) (.node (o404 P) .nil .nil)) (.node (o11 P) (.node (o251 P) .nil .nil) .nil)) (.node (o116 P) (.node (o180 P) (.node (o308 P) .nil .nil) .nil) (.node (o11 P) (.node (o372 P) .nil .nil) .nil)))) (.node (o28 P) (.node (o12 P) (.node (o76 P) (.node (o11 P) (.node (o268 P) .nil .nil) (.node (o396 P) .nil .nil)) (.node (o11 P) (.node (o12 P) .nil .nil) .nil)) (.node (o12 P) (.node (o11 P) (.node (o12 P) .nil .nil) .nil) (.node (o236 P) (.node (o12 P) .nil .nil) .nil))) (.node (o60 P) (.node (o92 P) (.node (o12 P) (.node (o284 P) .nil .nil) (.node (o412 P) .nil .nil)) (.node (o12 P) (.node (o348 P) .nil .nil) .nil)) (.node (o124 P) (.node (o188 P) (.node (o316 P) .nil .nil) .nil) (.node (o11 P) (.node (o380 P) .nil .nil) .nil)))))) (.node (boot_o_6 P) (.node (boot_o_10 P) (.node (o11 P) (.node (o34 P) (.node (o66 P) (.node (o130 P) (.node (o258 P) .nil .nil) (.node (o386 P) .nil .nil)) (.node (o194 P) (.node (o322 P) .nil .nil) .nil)) (.node (o98 P) (.node (o11 P) (.node (o290 P) .nil .nil) (.node (o418 P) .nil .nil)) (.node (o226 P) (.node (o354 P) .nil .nil) .nil))) (.node (o50 P) (.node (o12 P) (.node (o146 P) (.node (o274 P) .nil .nil) (.node (o11 P) .nil .nil)) (.node (o210 P) (.node (o338 P) .nil .nil) .nil)) (.node (o114 P) (.node (o178 P) (.node (o306 P) .nil .nil) .nil) (.node (o11 P) (.node (o370 P) .nil .nil) .nil)))) (.node (o26 P) (.node (o42 P) (.node (o11 P) (.node (o138 P) (.node (o266 P) .nil .nil) (.node (o11 P) .nil .nil)) (.node (o202 P) (.node (o330 P) .nil .nil) .nil)) (.node (o106 P) (.node (o12 P) (.node (o298 P) .nil .nil) .nil) (.node (o11 P) (.node (o362 P) .nil .nil) .nil))) (.node (o11 P) (.node (o90 P) (.node (o154 P) (.node (o282 P) .nil .nil) (.node (o410 P) .nil .nil)) (.node (o218 P) (.node (o346 P) .nil .nil) .nil)) (.node (o11 P) (.node (o11 P) (.node (o23 P) .nil .nil) .nil) (.node (o250 P) (.node (o378 P) .nil .nil) .nil))))) (.node (o14 P) (.node (o11 P) (.node (o38 P) (.node (o12 P) (.node (o134 P) (.node (o11 P) .nil .nil) (.node (o390 P) .nil .nil)) (.node (o12 P) (.node (o326 P) .nil .nil) .nil)) (.node (o102 P) (.node (o166 P) (.node (o294 P) .nil .nil) .nil) (.node (o11 P) (.node (o358 P) .nil .nil) .nil))) (.node (o54 P) (.node (o86 P) (.node (o11 P) (.node (o11 P) .nil .nil) (.node (o11 P) .nil .nil)) (.node (o214 P) (.node (o342 P) .nil .nil) .nil)) (.node (o118 P) (.node (o182 P) (.node (o310 P) .nil .nil) .nil) (.node (o246 P) (.node (o374 P) .nil .nil) .nil)))) (.node (o30 P) (.node (o46 P) (.node (o78 P) (.node (o142 P) (.node (o11 P) .nil .nil) (.node (o398 P) .nil .nil)) (.node (o206 P) (.node (o11 P) .nil .nil) .nil)) (.node (o110 P) (.node (o174 P) (.node (o11 P) .nil .nil) .nil) (.node (o238 P) (.node (o11 P) .nil .nil) .nil))) (.node (o11 P) (.node (o94 P) (.node (o11 P) (.node (o12 P) .nil .nil) (.node (o414 P) .nil .nil)) (.node (o11 P) (.node (o12 P) .nil .nil) .nil)) (.node (o11 P) (.node (o11 P) (.node (o318 P) .nil .nil) .nil) (.node (o254 P) (.node (o382 P) .nil .nil) .nil))))))))
noncomputable def s5 (w : World) (os : OsState) : SharedT := ⟨t5 w.params, 420, {}, #[], {}, 745, os⟩
noncomputable def g5 : List Stmt := [stmtAt PySem.Challenge.pw_ak0016_01.main.body 8]
theorem pc5 (p : Program) (b : List Stmt) (w : World) (os : OsState) : segRunT treeTable p w 11 ann9 1 345 (s4 w os) (piecesOf g5 env9 (cd9 b) ⟨228, 0, 269, 60⟩ B9) = some (.next, s5 w os, cd9 b, ⟨270, 0, 316, 20⟩) := by
  rw [PySem.W.Fast.te10110043849684766642, PySem.W.Fast.te14364793385576792824]; kernel_rfl
noncomputable def o3v5 (P : Params) : Obj := ⟨(.type "dict"), none, .dict #[de P (.ofString "__name__") 165 (.str (.ofString "matchpy.expressions.expressions") 343), de P (.ofString "__doc__") 166 .none, de P (.ofString "__package__") 167 .none, de P (.ofString "__loader__") 168 (.builtin "__main__.__loader__#opaque"), de P (.ofString "__spec__") 169 .none, de P (.ofString "__annotations__") 170 (.ref 6), de P (.ofString "__builtins__") 171 (.ref 4), de P (.ofString "__file__") 173 (.str (.ofString "/claim/cut.py") 172), de P (.ofString "__cached__") 174 .none, de P (.ofString "_wall") 193 (.ref 21), de P (.ofString "Multiset") 342 (.ref 135), de P (.ofString "_tuplegetter") 401 (.ref 178), de P (.ofString "_sort") 410 (.ref 189), de P (.ofString "Expression") 571 (.ref 308), de P (.ofString "Arity") 686 (.ref 380), de P (.ofString "_OperationMeta") 744 (.ref 415), de P (.ofString "Operation") 949 (.ref 561)] 17, #[]⟩
noncomputable def o12v6 (_ : Params) : Obj := fldO [(.int 1 0), (.int 0 0), (.ref 20), (.int 5 0), (.int 0 0), (.ref 27), (.int 89 0), (.int 0 0), (.ref 145), (.int 107 0), (.int 0 0), (.ref 188), (.int 114 0), (.int 0 0), (.ref 195), (.int 228 0), (.int 0 0), (.ref 319), (.int 270 0), (.int 0 0), (.ref 389), (.int 317 0), (.int 0 0), (.ref 426)]
noncomputable def o308v1 (_ : Params) : Obj := ⟨(.type "type"), none, .cls ⟨(.ofString "Expression"), [(.type "object")], [(.ref 308), (.type "object")], 307, (.ofString "Expression"), true, [], [(.ref 561)], false, none, false⟩, #[none, none, (some (.str (.ofString "Expression") 411)), (some (.str (.ofString "Expression") 419)), (some (.builtin "object.__new__")), (some (.bool true))]⟩
noncomputable def o420 (_ : Params) : Obj := tupO [(.ref 308)]
noncomputable def o422 (P : Params) : Obj := ⟨(.type "dict"), none, .dict #[de P (.ofString "__module__") 752 (.str (.ofString "matchpy.expressions.expressions") 343), de P (.ofString "__qualname__") 754 (.str (.ofString "Operation") 753), de P (.ofString "__firstlineno__") 756 (.int 317 755), de P (.ofString "__doc__") 758 (docC 9 757), de P (.ofString "__init__") 773 (.ref 436), de P (.ofString "_count_operands") 795 (.ref 445), de P (.ofString "new") 823 (.ref 457), de P (.ofString "type_name") 830 (.ref 465), de P (.ofString "__lt__") 840 (.ref 472), de P (.ofString "__eq__") 848 (.ref 479), de P (.ofString "__iter__") 856 (.ref 486), de P (.ofString "__len__") 863 (.ref 493), de P (.ofString "__getitem__") 871 (.ref 500), de P (.ofString "__contains__") 880 (.ref 507), de P (.ofString "_is_constant") 887 (.ref 514), de P (.ofString "_is_syntactic") 894 (.ref 521), de P (.ofString "collect_variables") 903 (.ref 528), de P (.ofString "collect_symbols") 911 (.ref 535), de P (.ofString "_preorder_iter") 922 (.ref 544), de P (.ofString "with_renamed_vars") 930 (.ref 551), de P (.ofString "__copy__") 937 (.ref 558), de P (.ofString "__static_attributes__") 945 (.ref 559), de P (.ofString "__classcell__") 946 (.ref 423)] 23, #[]⟩
noncomputable def o423 (_ : Params) : Obj := ⟨(.type "cell"), none, .cell (some (.ref 561)), #[]⟩
noncomputable def o425 (_ : Params) : Obj := fldO [(.int 324 0), (.int 4 0), (.ref 435), (.int 354 0), (.int 4 0), (.ref 442), (.int 367 0), (.int 4 0), (.ref 454), (.int 404 0), (.int 4 0), (.ref 464), (.int 407 0), (.int 4 0), (.ref 471), (.int 423 0), (.int 4 0), (.ref 478), (.int 428 0), (.int 4 0), (.ref 485), (.int 432 0), (.int 4 0), (.ref 492), (.int 435 0), (.int 4 0), (.ref 499), (.int 444 0), (.int 4 0), (.ref 506), (.int 457 0), (.int 4 0), (.ref 513), (.int 460 0), (.int 4 0), (.ref 520), (.int 463 0), (.int 4 0), (.ref 527), (.int 469 0), (.int 4 0), (.ref 534), (.int 472 0), (.int 4 0), (.ref 543), (.int 478 0), (.int 4 0), (.ref 550), (.int 481 0), (.int 4 0), (.ref 557)]
noncomputable def o426 (_ : Params) : Obj := cdO (.ofString "Operation") (.ofString "Operation") 747 317 0 0 0 0 424 false 425 .none .none .none .none 750 751
noncomputable def o427 (_ : Params) : Obj := ⟨(.type "frame"), none, .plain, #[(some (.ref 426)), (some (.ref 3)), (some (.ref 422)), none, (some (.str (.ofString "matchpy.expressions.expressions") 343)), none, (some (.ref 0))]⟩
noncomputable def o429 (_ : Params) : Obj := tupO [(.ref 423)]
noncomputable def o430 (_ : Params) : Obj := tupO [(.str (.ofString "__class__") 763)]
noncomputable def o432 (_ : Params) : Obj := tupO [(.str (.ofString "self") 764), (.str (.ofString "kind") 765), (.str (.ofString "operands") 766), (.str (.ofString "variable_name") 767), (.str (.ofString "operand_count") 768), (.str (.ofString "variable_count") 769)]
noncomputable def o434 (_ : Params) : Obj := fn0 (.ofString "__init__") (.ofString "Operation.__init__") fp9x1
noncomputable def o435 (_ : Params) : Obj := cdO (.ofString "__init__") (.ofString "Operation.__init__") 760 324 4 0 0 3 430 true 431 .none (.ref 432) (.ref 433) (.ref 434) 770 771
noncomputable def o436 (_ : Params) : Obj := fnC (.ofString "__init__") (.ofString "Operation.__init__") fp9x1 [((.ofString "__class__"), 423)] (.ref 428) .none (docV fp9x1 772) (.str (.ofString "matchpy.expressions.expressions") 343) 435 (.ref 429)
noncomputable def o439 (_ : Params) : Obj := tupO [(.str (.ofString "operands") 777), (.str (.ofString "operand_count") 778), (.str (.ofString "variable") 779), (.str (.ofString "operand") 780)]
noncomputable def o441 (_ : Params) : Obj := fn0 (.ofString "_count_operands") (.ofString "Operation._count_operands") fp9x2
noncomputable def o442 (_ : Params) : Obj := cdO (.ofString "_count_operands") (.ofString "Operation._count_operands") 774 353 1 0 0 3 437 true 438 .none (.ref 439) (.ref 440) (.ref 441) 781 782
noncomputable def o443 (_ : Params) : Obj := ⟨(.type "function"), none, .func ⟨(.ofString "_count_operands"), (.ofString "Operation._count_operands"), fp9x2.1, .stmts fp9x2.2.1, fp9x2.2.2, 3, [], .none, .none, .none, (.str (.ofString "matchpy.expressions.expressions") 343), (some 446), (.ref 442), .none, 0⟩, #[]⟩
noncomputable def o444 (P : Params) : Obj := ⟨(.type "dict"), none, .dict #[de P (.ofString "__module__") 784 (.str (.ofString "matchpy.expressions.expressions") 343), de P (.ofString "__name__") 787 (.str (.ofString "_count_operands") 786), de P (.ofString "__qualname__") 790 (.str (.ofString "Operation._count_operands") 789), de P (.ofString "__doc__") 792 .none, de P (.ofString "__annotations__") 794 (.ref 446)] 5, #[]⟩
noncomputable def o445 (_ : Params) : Obj := ⟨(.type "staticmethod"), (some 444), .fields #[(.ref 443), (.bool false)], #[]⟩
noncomputable def o448 (P : Params) : Obj := ⟨(.type "dict"), none, .dict #[de P (.ofString "associative") 796 (.bool false), de P (.ofString "commutative") 797 (.bool false), de P (.ofString "one_identity") 798 (.bool false)] 3, #[]⟩
noncomputable def o451 (_ : Params) : Obj := tupO [(.str (.ofString "name") 802), (.str (.ofString "arity") 803), (.str (.ofString "class_name") 804), (.str (.ofString "associative") 805), (.str (.ofString "commutative") 806), (.str (.ofString "one_identity") 807)]
noncomputable def o453 (_ : Params) : Obj := fn0 (.ofString "new") (.ofString "Operation.new") fp9x3
noncomputable def o454 (_ : Params) : Obj := cdO (.ofString "new") (.ofString "Operation.new") 799 366 3 0 3 3 449 true 450 .none (.ref 451) (.ref 452) (.ref 453) 808 809
noncomputable def o455 (_ : Params) : Obj := ⟨(.type "function"), none, .func ⟨(.ofString "new"), (.ofString "Operation.new"), fp9x3.1, .stmts fp9x3.2.1, fp9x3.2.2, 3, [], (.ref 447), (.ref 448), (docV fp9x3 810), (.str (.ofString "matchpy.expressions.expressions") 343), (some 458), (.ref 454), .none, 0⟩, #[]⟩
noncomputable def o456 (P : Params) : Obj := ⟨(.type "dict"), none, .dict #[de P (.ofString "__module__") 812 (.str (.ofString "matchpy.expressions.expressions") 343), de P (.ofString "__name__") 815 (.str (.ofString "new") 814), de P (.ofString "__qualname__") 818 (.str (.ofString "Operation.new") 817), de P (.ofString "__doc__") 820 (docV fp9x3 810), de P (.ofString "__annotations__") 822 (.ref 458)] 5, #[]⟩
noncomputable def o457 (_ : Params) : Obj := ⟨(.type "staticmethod"), (some 456), .fields #[(.ref 455), (.bool false)], #[]⟩
noncomputable def o461 (_ : Params) : Obj := tupO [(.str (.ofString "self") 827)]
noncomputable def o463 (_ : Params) : Obj := fn0 (.ofString "type_name") (.ofString "Operation.type_name") fp9x4
noncomputable def o464 (_ : Params) : Obj := cdO (.ofString "type_name") (.ofString "Operation.type_name") 824 404 1 0 0 3 459 true 460 .none (.ref 461) (.ref 462) (.ref 463) 828 829
noncomputable def o465 (_ : Params) : Obj := fnO (.ofString "type_name") (.ofString "Operation.type_name") fp9x4 .none .none .none (.str (.ofString "matchpy.expressions.expressions") 343) 464
noncomputable def o468 (_ : Params) : Obj := tupO [(.str (.ofString "self") 834), (.str (.ofString "other") 835), (.str (.ofString "left") 836), (.str (.ofString "right") 837)]
noncomputable def o470 (_ : Params) : Obj := fn0 (.ofString "__lt__") (.ofString "Operation.__lt__") fp9x5
noncomputable def o471 (_ : Params) : Obj := cdO (.ofString "__lt__") (.ofString "Operation.__lt__") 831 407 2 0 0 3 466 true 467 .none (.ref 468) (.ref 469) (.ref 470) 838 839
noncomputable def o472 (_ : Params) : Obj := fnO (.ofString "__lt__") (.ofString "Operation.__lt__") fp9x5 .none .none .none (.str (.ofString "matchpy.expressions.expressions") 343) 471
noncomputable def o475 (_ : Params) : Obj := tupO [(.str (.ofString "self") 844), (.str (.ofString "other") 845)]
noncomputable def o477 (_ : Params) : Obj := fn0 (.ofString "__eq__") (.ofString "Operation.__eq__") fp9x6
noncomputable def o478 (_ : Params) : Obj := cdO (.ofString "__eq__") (.ofString "Operation.__eq__") 841 423 2 0 0 3 473 true 474 .none (.ref 475) (.ref 476) (.ref 477) 846 847
noncomputable def o479 (_ : Params) : Obj := fnO (.ofString "__eq__") (.ofString "Operation.__eq__") fp9x6 .none .none .none (.str (.ofString "matchpy.expressions.expressions") 343) 478
noncomputable def o482 (_ : Params) : Obj := tupO [(.str (.ofString "self") 852), (.str (.ofString "operand") 853)]
noncomputable def o484 (_ : Params) : Obj := fn0 (.ofString "__iter__") (.ofString "Operation.__iter__") fp9x7
noncomputable def o485 (_ : Params) : Obj := cdO (.ofString "__iter__") (.ofString "Operation.__iter__") 849 428 1 0 0 35 480 true 481 .none (.ref 482) (.ref 483) (.ref 484) 854 855
noncomputable def o486 (_ : Params) : Obj := fnO (.ofString "__iter__") (.ofString "Operation.__iter__") fp9x7 .none .none .none (.str (.ofString "matchpy.expressions.expressions") 343) 485
noncomputable def o489 (_ : Params) : Obj := tupO [(.str (.ofString "self") 860)]
noncomputable def o491 (_ : Params) : Obj := fn0 (.ofString "__len__") (.ofString "Operation.__len__") fp9x8
noncomputable def o492 (_ : Params) : Obj := cdO (.ofString "__len__") (.ofString "Operation.__len__") 857 432 1 0 0 3 487 true 488 .none (.ref 489) (.ref 490) (.ref 491) 861 862
noncomputable def o493 (_ : Params) : Obj := fnO (.ofString "__len__") (.ofString "Operation.__len__") fp9x8 .none .none .none (.str (.ofString "matchpy.expressions.expressions") 343) 492
noncomputable def o496 (_ : Params) : Obj := tupO [(.str (.ofString "self") 867), (.str (.ofString "key") 868)]
noncomputable def o498 (_ : Params) : Obj := fn0 (.ofString "__getitem__") (.ofString "Operation.__getitem__") fp9x9
noncomputable def o499 (_ : Params) : Obj := cdO (.ofString "__getitem__") (.ofString "Operation.__getitem__") 864 435 2 0 0 3 494 true 495 .none (.ref 496) (.ref 497) (.ref 498) 869 870
noncomputable def o500 (_ : Params) : Obj := fnO (.ofString "__getitem__") (.ofString "Operation.__getitem__") fp9x9 .none .none .none (.str (.ofString "matchpy.expressions.expressions") 343) 499
noncomputable def o503 (_ : Params) : Obj := tupO [(.str (.ofString "self") 875), (.str (.ofString "expression") 876), (.str (.ofString "operand") 877)]
noncomputable def o505 (_ : Params) : Obj := fn0 (.ofString "__contains__") (.ofString "Operation.__contains__") fp9x10
noncomputable def o506 (_ : Params) : Obj := cdO (.ofString "__contains__") (.ofString "Operation.__contains__") 872 444 2 0 0 3 501 true 502 .none (.ref 503) (.ref 504) (.ref 505) 878 879
noncomputable def o507 (_ : Params) : Obj := fnO (.ofString "__contains__") (.ofString "Operation.__contains__") fp9x10 .none .none .none (.str (.ofString "matchpy.expressions.expressions") 343) 506
noncomputable def o510 (_ : Params) : Obj := tupO [(.str (.ofString "self") 884)]
noncomputable def o512 (_ : Params) : Obj := fn0 (.ofString "_is_constant") (.ofString "Operation._is_constant") fp9x11
noncomputable def o513 (_ : Params) : Obj := cdO (.ofString "_is_constant") (.ofString "Operation._is_constant") 881 457 1 0 0 3 508 true 509 .none (.ref 510) (.ref 511) (.ref 512) 885 886
noncomputable def o514 (_ : Params) : Obj := fnO (.ofString "_is_constant") (.ofString "Operation._is_constant") fp9x11 .none .none .none (.str (.ofString "matchpy.expressions.expressions") 343) 513
noncomputable def o517 (_ : Params) : Obj := tupO [(.str (.ofString "self") 891)]
noncomputable def o519 (_ : Params) : Obj := fn0 (.ofString "_is_syntactic") (.ofString "Operation._is_syntactic") fp9x12
noncomputable def o520 (_ : Params) : Obj := cdO (.ofString "_is_syntactic") (.ofString "Operation._is_syntactic") 888 460 1 0 0 3 515 true 516 .none (.ref 517) (.ref 518) (.ref 519) 892 893
noncomputable def o521 (_ : Params) : Obj := fnO (.ofString "_is_syntactic") (.ofString "Operation._is_syntactic") fp9x12 .none .none .none (.str (.ofString "matchpy.expressions.expressions") 343) 520
noncomputable def o524 (_ : Params) : Obj := tupO [(.str (.ofString "self") 898), (.str (.ofString "variables") 899), (.str (.ofString "operand") 900)]
noncomputable def o526 (_ : Params) : Obj := fn0 (.ofString "collect_variables") (.ofString "Operation.collect_variables") fp9x13
noncomputable def o527 (_ : Params) : Obj := cdO (.ofString "collect_variables") (.ofString "Operation.collect_variables") 895 463 2 0 0 3 522 true 523 .none (.ref 524) (.ref 525) (.ref 526) 901 902
noncomputable def o528 (_ : Params) : Obj := fnO (.ofString "collect_variables") (.ofString "Operation.collect_variables") fp9x13 .none .none .none (.str (.ofString "matchpy.expressions.expressions") 343) 527
noncomputable def o531 (_ : Params) : Obj := tupO [(.str (.ofString "self") 907), (.str (.ofString "symbols") 908)]
noncomputable def o533 (_ : Params) : Obj := fn0 (.ofString "collect_symbols") (.ofString "Operation.collect_symbols") fp9x14
noncomputable def o534 (_ : Params) : Obj := cdO (.ofString "collect_symbols") (.ofString "Operation.collect_symbols") 904 469 2 0 0 3 529 true 530 .none (.ref 531) (.ref 532) (.ref 533) 909 910
noncomputable def o535 (_ : Params) : Obj := fnO (.ofString "collect_symbols") (.ofString "Operation.collect_symbols") fp9x14 .none .none .none (.str (.ofString "matchpy.expressions.expressions") 343) 534
noncomputable def o537 (_ : Params) : Obj := tupO [.none, (.ref 536)]
noncomputable def o540 (_ : Params) : Obj := tupO [(.str (.ofString "self") 915), (.str (.ofString "predicate") 916), (.str (.ofString "position") 917), (.str (.ofString "i") 918), (.str (.ofString "operand") 919)]
noncomputable def o542 (_ : Params) : Obj := fn0 (.ofString "_preorder_iter") (.ofString "Operation._preorder_iter") fp9x15
noncomputable def o543 (_ : Params) : Obj := cdO (.ofString "_preorder_iter") (.ofString "Operation._preorder_iter") 912 472 3 0 0 35 538 true 539 .none (.ref 540) (.ref 541) (.ref 542) 920 921
noncomputable def o544 (_ : Params) : Obj := fnO (.ofString "_preorder_iter") (.ofString "Operation._preorder_iter") fp9x15 (.ref 537) .none .none (.str (.ofString "matchpy.expressions.expressions") 343) 543
noncomputable def o547 (_ : Params) : Obj := tupO [(.str (.ofString "self") 926), (.str (.ofString "renaming") 927)]
noncomputable def o549 (_ : Params) : Obj := fn0 (.ofString "with_renamed_vars") (.ofString "Operation.with_renamed_vars") fp9x16
noncomputable def o550 (_ : Params) : Obj := cdO (.ofString "with_renamed_vars") (.ofString "Operation.with_renamed_vars") 923 478 2 0 0 3 545 true 546 .none (.ref 547) (.ref 548) (.ref 549) 928 929
noncomputable def o551 (_ : Params) : Obj := fnO (.ofString "with_renamed_vars") (.ofString "Operation.with_renamed_vars") fp9x16 .none .none .none (.str (.ofString "matchpy.expressions.expressions") 343) 550
noncomputable def o554 (_ : Params) : Obj := tupO [(.str (.ofString "self") 934)]
noncomputable def o556 (_ : Params) : Obj := fn0 (.ofString "__copy__") (.ofString "Operation.__copy__") fp9x17
noncomputable def o557 (_ : Params) : Obj := cdO (.ofString "__copy__") (.ofString "Operation.__copy__") 931 481 1 0 0 3 552 true 553 .none (.ref 554) (.ref 555) (.ref 556) 935 936
noncomputable def o558 (_ : Params) : Obj := fnO (.ofString "__copy__") (.ofString "Operation.__copy__") fp9x17 .none .none .none (.str (.ofString "matchpy.expressions.expressions") 343) 557
noncomputable def o559 (_ : Params) : Obj := tupO [(.str (.ofString "arity") 938), (.str (.ofString "associative") 939), (.str (.ofString "commutative") 940), (.str (.ofString "head") 941), (.str (.ofString "name") 942), (.str (.ofString "one_identity") 943), (.str (.ofString "operands") 944)]
noncomputable def o560 (P : Params) : Obj := ⟨(.type "dict"), none, .dict #[de P (.ofString "__module__") 752 (.str (.ofString "matchpy.expressions.expressions") 343), de P (.ofString "__firstlineno__") 756 (.int 317 755), de P (.ofString "__doc__") 758 (docC 9 757), de P (.ofString "__init__") 773 (.ref 436), de P (.ofString "_count_operands") 795 (.ref 445), de P (.ofString "new") 823 (.ref 457), de P (.ofString "type_name") 830 (.ref 465), de P (.ofString "__lt__") 840 (.ref 472), de P (.ofString "__eq__") 848 (.ref 479), de P (.ofString "__iter__") 856 (.ref 486), de P (.ofString "__len__") 863 (.ref 493), de P (.ofString "__getitem__") 871 (.ref 500), de P (.ofString "__contains__") 880 (.ref 507), de P (.ofString "_is_constant") 887 (.ref 514), de P (.ofString "_is_syntactic") 894 (.ref 521), de P (.ofString "collect_variables") 903 (.ref 528), de P (.ofString "collect_symbols") 911 (.ref 535), de P (.ofString "_preorder_iter") 922 (.ref 544), de P (.ofString "with_renamed_vars") 930 (.ref 551), de P (.ofString "__copy__") 937 (.ref 558), de P (.ofString "__static_attributes__") 945 (.ref 559), de P (.ofString "__hash__") 947 .none] 3, #[]⟩
noncomputable def o561 (_ : Params) : Obj := ⟨(.type "type"), none, .cls ⟨(.ofString "Operation"), [(.ref 308)], [(.ref 561), (.ref 308), (.type "object")], 560, (.ofString "Operation"), true, [], [], false, none, false⟩, #[(some (.ref 420)), none, (some (.str (.ofString "Operation") 745)), (some (.str (.ofString "Operation") 753)), (some (.builtin "object.__new__")), (some (.bool true))]⟩
noncomputable def o562 (_ : Params) : Obj := ⟨(.type "super"), none, .fields #[(.ref 561), (.ref 561), (.ref 561)], #[]⟩
noncomputable def o563 (_ : Params) : Obj := ⟨(.type "builtin_function_or_method"), none, .fields #[(.builtin "object.__init_subclass__"), (.ref 561)], #[]⟩
noncomputable def t6 (P : Params) : BT := (.node (boot_o_0 P) (.node (boot_o_1 P) (.node (o3v5 P) (.node (boot_o_7 P) (.node (o11 P) (.node (o11 P) (.node (o12 P) (.node (o12 P) (.node (o11 P) (.node (o11 P) .nil .nil) .nil) (.node (o383 P) .nil .nil)) (.node (o23 P) (.node (o319 P) .nil .nil) (.node (o154 P) .nil .nil))) (.node (o11 P) (.node (o159 P) (.node (o287 P) (.node (o543 P) .nil .nil) .nil) (.node (o415 P) .nil .nil)) (.node (o223 P) (.node (o351 P) .nil .nil) (.node (o479 P) .nil .nil)))) (.node (o47 P) (.node (o79 P) (.node (o11 P) (.node (o12 P) (.node (o527 P) .nil .nil) .nil) (.node (o11 P) .nil .nil)) (.node (o11 P) (.node (o335 P) .nil .nil) (.node (o463 P) .nil .nil))) (.node (o111 P) (.node (o175 P) (.node (o303 P) (.node (o559 P) .nil .nil) .nil) (.node (o12 P) .nil .nil)) (.node (o239 P) (.node (o367 P) .nil .nil) (.node (o12 P) .nil .nil))))) (.node (o23 P) (.node (o11 P) (.node (o71 P) (.node (o135 P) (.node (o11 P) (.node (o519 P) .nil .nil) .nil) (.node (o11 P) .nil .nil)) (.node (o199 P) (.node (o11 P) .nil .nil) (.node (o455 P) .nil .nil))) (.node (o11 P) (.node (o167 P) (.node (o11 P) (.node (o551 P) .nil .nil) .nil) (.node (o423 P) .nil .nil)) (.node (o231 P) (.node (o11 P) .nil .nil) (.node (o11 P) .nil .nil)))) (.node (o11 P) (.node (o87 P) (.node (o151 P) (.node (o12 P) (.node (o535 P) .nil .nil) .nil) (.node (o12 P) .nil .nil)) (.node (o11 P) (.node (o12 P) .nil .nil) (.node (o471 P) .nil .nil))) (.node (o11 P) (.node (o11 P) (.node (o311 P) .nil .nil) (.node (o439 P) .nil .nil)) (.node (o247 P) (.node (o375 P) .nil .nil) (.node (o503 P) .nil .nil)))))) (.node (o11 P) (.node (o19 P) (.node (o35 P) (.node (o67 P) (.node (o131 P) (.node (o259 P) (.node (o11 P) .nil .nil) .nil) (.node (o11 P) .nil .nil)) (.node (o195 P) (.node (o251 P) .nil .nil) (.node (o451 P) .nil .nil))) (.node (o99 P) (.node (o12 P) (.node (o291 P) (.node (o547 P) .nil .nil) .nil) (.node (o419 P) .nil .nil)) (.node (o11 P) (.node (o355 P) .nil .nil) (.node (o11 P) .nil .nil)))) (.node (o11 P) (.node (o83 P) (.node (o11 P) (.node (o275 P) (.node (o531 P) .nil .nil) .nil) (.node (o403 P) .nil .nil)) (.node (o211 P) (.node (o339 P) .nil .nil) (.node (o12 P) .nil .nil))) (.node (o11 P) (.node (o179 P) (.node (o307 P) (.node (o563 P) .nil .nil) .nil) (.node (o435 P) .nil .nil)) (.node (o12 P) (.node (o371 P) .nil .nil) (.node (o499 P) .nil .nil))))) (.node (o27 P) (.node (o11 P) (.node (o12 P) (.node (o139 P) (.node (o267 P) (.node (o12 P) .nil .nil) .nil) (.node (o395 P) .nil .nil)) (.node (o203 P) (.node (o11 P) .nil .nil) (.node (o11 P) .nil .nil))) (.node (o11 P) (.node (o171 P) (.node (o11 P) (.node (o11 P) .nil .nil) .nil) (.node (o427 P) .nil .nil)) (.node (o12 P) (.node (o11 P) .nil .nil) (.node (o491 P) .nil .nil)))) (.node (o59 P) (.node (o11 P) (.node (o11 P) (.node (o283 P) (.node (o12 P) .nil .nil) .nil) (.node (o411 P) .nil .nil)) (.node (o11 P) (.node (o347 P) .nil .nil) (.node (o475 P) .nil .nil))) (.node (o123 P) (.node (o187 P) (.node (o315 P) .nil .nil) (.node (o443 P) .nil .nil)) (.node (o251 P) (.node (o379 P) .nil .nil) (.node (o507 P) .nil .nil))))))) (.node (boot_o_5 P) (.node (boot_o_9 P) (.node (o17 P) (.node (o33 P) (.node (o11 P) (.node (o11 P) (.node (o257 P) (.node (o513 P) .nil .nil) .nil) (.node (o23 P) .nil .nil)) (.node (o11 P) (.node (o11 P) .nil .nil) (.node (o11 P) .nil .nil))) (.node (o97 P) (.node (o161 P) (.node (o289 P) (.node (o11 P) .nil .nil) .nil) (.node (o417 P) .nil .nil)) (.node (o225 P) (.node (o353 P) .nil .nil) (.node (o12 P) .nil .nil)))) (.node (o12 P) (.node (o11 P) (.node (o145 P) (.node (o11 P) (.node (o11 P) .nil .nil) .nil) (.node (o401 P) .nil .nil)) (.node (o209 P) (.node (o337 P) .nil .nil) (.node (o465 P) .nil .nil))) (.node (o12 P) (.node (o177 P) (.node (o305 P) (.node (o561 P) .nil .nil) .nil) (.node (o11 P) .nil .nil)) (.node (o241 P) (.node (o369 P) .nil .nil) (.node (o11 P) .nil .nil))))) (.node (o11 P) (.node (o41 P) (.node (o73 P) (.node (o137 P) (.node (o265 P) (.node (o521 P) .nil .nil) .nil) (.node (o393 P) .nil .nil)) (.node (o201 P) (.node (o329 P) .nil .nil) (.node (o457 P) .nil .nil))) (.node (o105 P) (.node (o11 P) (.node (o297 P) (.node (o12 P) .nil .nil) .nil) (.node (o425 P) .nil .nil)) (.node (o233 P) (.node (o361 P) .nil .nil) (.node (o489 P) .nil .nil)))) (.node (o57 P) (.node (o12 P) (.node (o153 P) (.node (o11 P) (.node (o537 P) .nil .nil) .nil) (.node (o11 P) .nil .nil)) (.node (o217 P) (.node (o11 P) .nil .nil) (.node (o11 P) .nil .nil))) (.node (o121 P) (.node (o185 P) (.node (o313 P) .nil .nil) (.node (o441 P) .nil .nil)) (.node (o249 P) (.node (o11 P) .nil .nil) (.node (o505 P) .nil .nil)))))) (.node (o13 P) (.node (o21 P) (.node (o12 P) (.node (o11 P) (.node (o133 P) (.node (o12 P) (.node (o517 P) .nil .nil) .nil) (.node (o389 P) .nil .nil)) (.node (o11 P) (.node (o12 P) .nil .nil) (.node (o453 P) .nil .nil))) (.node (o12 P) (.node (o11 P) (.node (o12 P) (.node (o549 P) .nil .nil) .nil) (.node (o23 P) .nil .nil)) (.node (o229 P) (.node (o12 P) .nil .nil) (.node (o485 P) .nil .nil)))) (.node (o53 P) (.node (o85 P) (.node (o149 P) (.node (o154 P) (.node (o533 P) .nil .nil) .nil) (.node (o405 P) .nil .nil)) (.node (o12 P) (.node (o341 P) .nil .nil) (.node (o11 P) .nil .nil))) (.node (o117 P) (.node (o181 P) (.node (o309 P) .nil .nil) (.node (o11 P) .nil .nil)) (.node (o11 P) (.node (o373 P) .nil .nil) (.node (o11 P) .nil .nil))))) (.node (o11 P) (.node (o45 P) (.node (o11 P) (.node (o23 P) (.node (o251 P) (.node (o11 P) .nil .nil) .nil) (.node (o397 P) .nil .nil)) (.node (o12 P) (.node (o333 P) .nil .nil) (.node (o461 P) .nil .nil))) (.node (o109 P) (.node (o173 P) (.node (o301 P) (.node (o557 P) .nil .nil) .nil) (.node (o429 P) .nil .nil)) (.node (o11 P) (.node (o365 P) .nil .nil) (.node (o493 P) .nil .nil)))) (.node (o61 P) (.node (o93 P) (.node (o157 P) (.node (o11 P) (.node (o11 P) .nil .nil) .nil) (.node (o11 P) .nil .nil)) (.node (o221 P) (.node (o11 P) .nil .nil) (.node (o477 P) .nil .nil))) (.node (o125 P) (.node (o189 P) (.node (o11 P) .nil .nil) (.node (o445 P) .nil .nil)) (.node (o12 P) (.node (o381 P) .nil .nil) (.node (o12 P) .nil .nil)))))))) (.node (boot_o_2 P) (.node (boot_o_4 P) (.node (boot_o_8 P) (.node (o12 P) (.node (o12 P) (.node (o64 P) (.node (o128 P) (.node (o256 P) (.node (o512 P) .nil .nil) .nil) (.node (o11 P) .nil .nil)) (.node (o192 P) (.node (o320 P) .nil .nil) (.node (o448 P) .nil .nil))) (.node (o12 P) (.node (o160 P) (.node (o11 P) (.node (o544 P) .nil .nil) .nil) (.node (o416 P) .nil .nil)) (.node (o224 P) (.node (o11 P) .nil .nil) (.node (o11 P) .nil .nil)))) (.node (o11 P) (.node (o80 P) (.node (o144 P) (.node (o272 P) (.node (o528 P) .nil .nil) .nil) (.node (o12 P) .nil .nil)) (.node (o208 P) (.node (o336 P) .nil .nil) (.node (o464 P) .nil .nil))) (.node (o11 P) (.node (o176 P) (.node (o304 P) (.node (o560 P) .nil .nil) .nil) (.node (o432 P) .nil .nil)) (.node (o240 P) (.node (o368 P) .nil .nil) (.node (o496 P) .nil .nil))))) (.node (o24 P) (.node (o40 P) (.node (o72 P) (.node (o136 P) (.node (o264 P) (.node (o520 P) .nil .nil) .nil) (.node (o12 P) .nil .nil)) (.node (o11 P) (.node (o328 P) .nil .nil) (.node (o456 P) .nil .nil))) (.node (o104 P) (.node (o168 P) (.node (o296 P) (.node (o11 P) .nil .nil) .nil) (.node (o11 P) .nil .nil)) (.node (o232 P) (.node (o360 P) .nil .nil) (.node (o12 P) .nil .nil)))) (.node (o12 P) (.node (o11 P) (.node (o152 P) (.node (o280 P) (.node (o11 P) .nil .nil) .nil) (.node (o408 P) .nil .nil)) (.node (o216 P) (.node (o344 P) .nil .nil) (.node (o472 P) .nil .nil))) (.node (o12 P) (.node (o12 P) (.node (o312 P) .nil .nil) (.node (o11 P) .nil .nil)) (.node (o248 P) (.node (o376 P) .nil .nil) (.node (o11 P) .nil .nil)))))) (.node (o12v6 P) (.node (o20 P) (.node (o11 P) (.node (o68 P) (.node (o132 P) (.node (o11 P) (.node (o12 P) .nil .nil) .nil) (.node (o388 P) .nil .nil)) (.node (o196 P) (.node (o11 P) .nil .nil) (.node (o11 P) .nil .nil))) (.node (o11 P) (.node (o164 P) (.node (o11 P) (.node (o11 P) .nil .nil) .nil) (.node (o420 P) .nil .nil)) (.node (o12 P) (.node (o11 P) .nil .nil) (.node (o484 P) .nil .nil)))) (.node (o52 P) (.node (o11 P) (.node (o12 P) (.node (o276 P) (.node (o11 P) .nil .nil) .nil) (.node (o404 P) .nil .nil)) (.node (o11 P) (.node (o251 P) .nil .nil) (.node (o468 P) .nil .nil))) (.node (o116 P) (.node (o180 P) (.node (o308v1 P) .nil .nil) (.node (o436 P) .nil .nil)) (.node (o11 P) (.node (o372 P) .nil .nil) (.node (o500 P) .nil .nil))))) (.node (o28 P) (.node (o12 P) (.node (o76 P) (.node (o11 P) (.node (o268 P) (.node (o524 P) .nil .nil) .nil) (.node (o396 P) .nil .nil)) (.node (o11 P) (.node (o12 P) .nil .nil) (.node (o12 P) .nil .nil))) (.node (o12 P) (.node (o11 P) (.node (o12 P) (.node (o556 P) .nil .nil) .nil) (.node (o154 P) .nil .nil)) (.node (o236 P) (.node (o12 P) .nil .nil) (.node (o492 P) .nil .nil)))) (.node (o60 P) (.node (o92 P) (.node (o12 P) (.node (o284 P) (.node (o540 P) .nil .nil) .nil) (.node (o412 P) .nil .nil)) (.node (o12 P) (.node (o348 P) .nil .nil) (.node (o11 P) .nil .nil))) (.node (o124 P) (.node (o188 P) (.node (o316 P) .nil .nil) (.node (o444 P) .nil .nil)) (.node (o11 P) (.node (o380 P) .nil .nil) (.node (o11 P) .nil .nil))))))) (.node (boot_o_6 P) (.node (boot_o_10 P) (.node (o11 P) (.node (o34 P) (.node (o66 P) (.node (o130 P) (.node (o258 P) (.node (o514 P) .nil .nil) .nil) (.node (o386 P) .nil .nil)) (.node (o194 P) (.node (o322 P) .nil .nil) (.node (o12 P) .nil .nil))) (.node (o98 P) (.node (o11 P) (.node (o290 P) (.node (o12 P) .nil .nil) .nil) (.node (o418 P) .nil .nil)) (.node (o226 P) (.node (o354 P) .nil .nil) (.node (o482 P) .nil .nil)))) (.node (o50 P) (.node (o12 P) (.node (o146 P) (.node (o274 P) (.node (o12 P) .nil .nil) .nil) (.node (o11 P) .nil .nil)) (.node (o210 P) (.node (o338 P) .nil .nil) (.node (o11 P) .nil .nil))) (.node (o114 P) (.node (o178 P) (.node (o306 P) (.node (o562 P) .nil .nil) .nil) (.node (o434 P) .nil .nil)) (.node (o11 P) (.node (o370 P) .nil .nil) (.node (o498 P) .nil .nil))))) (.node (o26 P) (.node (o42 P) (.node (o11 P) (.node (o138 P) (.node (o266 P) (.node (o11 P) .nil .nil) .nil) (.node (o11 P) .nil .nil)) (.node (o202 P) (.node (o330 P) .nil .nil) (.node (o251 P) .nil .nil))) (.node (o106 P) (.node (o12 P) (.node (o298 P) (.node (o554 P) .nil .nil) .nil) (.node (o426 P) .nil .nil)) (.node (o11 P) (.node (o362 P) .nil .nil) (.node (o11 P) .nil .nil)))) (.node (o11 P) (.node (o90 P) (.node (o154 P) (.node (o282 P) (.node (o11 P) .nil .nil) .nil) (.node (o410 P) .nil .nil)) (.node (o218 P) (.node (o346 P) .nil .nil) (.node (o12 P) .nil .nil))) (.node (o11 P) (.node (o11 P) (.node (o23 P) .nil .nil) (.node (o442 P) .nil .nil)) (.node (o250 P) (.node (o378 P) .nil .nil) (.node (o506 P) .nil .nil)))))) (.node (o14 P) (.node (o11 P) (.node (o38 P) (.node (o12 P) (.node (o134 P) (.node (o11 P) (.node (o11 P) .nil .nil) .nil) (.node (o390 P) .nil .nil)) (.node (o12 P) (.node (o326 P) .nil .nil) (.node (o454 P) .nil .nil))) (.node (o102 P) (.node (o166 P) (.node (o294 P) (.node (o550 P) .nil .nil) .nil) (.node (o422 P) .nil .nil)) (.node (o11 P) (.node (o358 P) .nil .nil) (.node (o486 P) .nil .nil)))) (.node (o54 P) (.node (o86 P) (.node (o11 P) (.node (o11 P) (.node (o534 P) .nil .nil) .nil) (.node (o11 P) .nil .nil)) (.node (o214 P) (.node (o342 P) .nil .nil) (.node (o470 P) .nil .nil))) (.node (o118 P) (.node (o182 P) (.node (o310 P) .nil .nil) (.node (o12 P) .nil .nil)) (.node (o246 P) (.node (o374 P) .nil .nil) (.node (o12 P) .nil .nil))))) (.node (o30 P) (.node (o46 P) (.node (o78 P) (.node (o142 P) (.node (o11 P) (.node (o526 P) .nil .nil) .nil) (.node (o398 P) .nil .nil)) (.node (o206 P) (.node (o11 P) .nil .nil) (.node (o11 P) .nil .nil))) (.node (o110 P) (.node (o174 P) (.node (o11 P) (.node (o558 P) .nil .nil) .nil) (.node (o430 P) .nil .nil)) (.node (o238 P) (.node (o11 P) .nil .nil) (.node (o11 P) .nil .nil)))) (.node (o11 P) (.node (o94 P) (.node (o11 P) (.node (o12 P) (.node (o542 P) .nil .nil) .nil) (.node (o414 P) .nil .nil)) (.node (o11 P) (.node (o12 P) .nil .nil) (.node (o478 P) .nil .nil))) (.node (o11 P) (.node (o11 P) (.node (o318 P) .nil .nil) (.node (o251 P) .nil .nil)) (.node (o254 P) (.node (o382 P) .nil .nil) (.node (o510 P) .nil .nil)))))))))
noncomputable def s6 (w : World) (os : OsState) : SharedT := ⟨t6 w.params, 564, {}, #[], {}, 950, os⟩
noncomputable def g6 : List Stmt := [stmtAt PySem.Challenge.pw_ak0016_01.main.body 9]
theorem pc6 (p : Program) (b : List Stmt) (w : World) (os : OsState) : segRunT treeTable p w 11 ann9 1 1125 (s5 w os) (piecesOf g6 env9 (cd9 b) ⟨270, 0, 316, 20⟩ B9) = some (.next, s6 w os, cd9 b, ⟨317, 0, 482, 74⟩) := by
  rw [PySem.W.Fast.te10110043849684766642, PySem.W.Fast.te14364793385576792824]; kernel_rfl
noncomputable def o3v6 (P : Params) : Obj := ⟨(.type "dict"), none, .dict #[de P (.ofString "__name__") 165 (.str (.ofString "matchpy.expressions.expressions") 343), de P (.ofString "__doc__") 166 .none, de P (.ofString "__package__") 167 .none, de P (.ofString "__loader__") 168 (.builtin "__main__.__loader__#opaque"), de P (.ofString "__spec__") 169 .none, de P (.ofString "__annotations__") 170 (.ref 6), de P (.ofString "__builtins__") 171 (.ref 4), de P (.ofString "__file__") 173 (.str (.ofString "/claim/cut.py") 172), de P (.ofString "__cached__") 174 .none, de P (.ofString "_wall") 193 (.ref 21), de P (.ofString "Multiset") 342 (.ref 135), de P (.ofString "_tuplegetter") 401 (.ref 178), de P (.ofString "_sort") 410 (.ref 189), de P (.ofString "Expression") 571 (.ref 308), de P (.ofString "Arity") 686 (.ref 380), de P (.ofString "_OperationMeta") 744 (.ref 415), de P (.ofString "Operation") 949 (.ref 561), de P (.ofString "Atom") 967 (.ref 573), de P (.ofString "Symbol") 1045 (.ref 637)] 19, #[]⟩
noncomputable def o12v7 (_ : Params) : Obj := fldO [(.int 1 0), (.int 0 0), (.ref 20), (.int 5 0), (.int 0 0), (.ref 27), (.int 89 0), (.int 0 0), (.ref 145), (.int 107 0), (.int 0 0), (.ref 188), (.int 114 0), (.int 0 0), (.ref 195), (.int 228 0), (.int 0 0), (.ref 319), (.int 270 0), (.int 0 0), (.ref 389), (.int 317 0), (.int 0 0), (.ref 426), (.int 483 0), (.int 0 0), (.ref 569), (.int 485 0), (.int 0 0), (.ref 582)]
noncomputable def o308v2 (_ : Params) : Obj := ⟨(.type "type"), none, .cls ⟨(.ofString "Expression"), [(.type "object")], [(.ref 308), (.type "object")], 307, (.ofString "Expression"), true, [], [(.ref 561), (.ref 573)], false, none, false⟩, #[none, none, (some (.str (.ofString "Expression") 411)), (some (.str (.ofString "Expression") 419)), (some (.builtin "object.__new__")), (some (.bool true))]⟩
noncomputable def o566 (P : Params) : Obj := ⟨(.type "dict"), none, .dict #[de P (.ofString "__module__") 957 (.str (.ofString "matchpy.expressions.expressions") 343), de P (.ofString "__qualname__") 959 (.str (.ofString "Atom") 958), de P (.ofString "__firstlineno__") 961 (.int 483 960), de P (.ofString "__doc__") 963 (docC 10 962), de P (.ofString "__static_attributes__") 965 (.ref 571)] 5, #[]⟩
noncomputable def o569 (_ : Params) : Obj := cdO (.ofString "Atom") (.ofString "Atom") 952 483 0 0 0 0 567 false 568 .none .none .none .none 955 956
noncomputable def o570 (_ : Params) : Obj := ⟨(.type "frame"), none, .plain, #[(some (.ref 569)), (some (.ref 3)), (some (.ref 566)), none, (some (.str (.ofString "matchpy.expressions.expressions") 343)), none, (some (.ref 0))]⟩
noncomputable def o572 (P : Params) : Obj := ⟨(.type "dict"), none, .dict #[de P (.ofString "__module__") 957 (.str (.ofString "matchpy.expressions.expressions") 343), de P (.ofString "__firstlineno__") 961 (.int 483 960), de P (.ofString "__doc__") 963 (docC 10 962), de P (.ofString "__static_attributes__") 965 (.ref 571)] 1, #[]⟩
noncomputable def o573 (_ : Params) : Obj := ⟨(.type "type"), none, .cls ⟨(.ofString "Atom"), [(.ref 308)], [(.ref 573), (.ref 308), (.type "object")], 572, (.ofString "Atom"), true, [], [(.ref 637)], false, none, false⟩, #[(some (.ref 564)), none, (some (.str (.ofString "Atom") 950)), (some (.str (.ofString "Atom") 958)), (some (.builtin "object.__new__")), (some (.bool true))]⟩
noncomputable def o574 (_ : Params) : Obj := ⟨(.type "super"), none, .fields #[(.ref 573), (.ref 573), (.ref 573)], #[]⟩
noncomputable def o575 (_ : Params) : Obj := ⟨(.type "builtin_function_or_method"), none, .fields #[(.builtin "object.__init_subclass__"), (.ref 573)], #[]⟩
noncomputable def o576 (_ : Params) : Obj := tupO [(.ref 573)]
noncomputable def o578 (P : Params) : Obj := ⟨(.type "dict"), none, .dict #[de P (.ofString "__module__") 975 (.str (.ofString "matchpy.expressions.expressions") 343), de P (.ofString "__qualname__") 977 (.str (.ofString "Symbol") 976), de P (.ofString "__firstlineno__") 979 (.int 485 978), de P (.ofString "__doc__") 981 (docC 11 980), de P (.ofString "__init__") 993 (.ref 592), de P (.ofString "collect_symbols") 1001 (.ref 599), de P (.ofString "with_renamed_vars") 1009 (.ref 606), de P (.ofString "__copy__") 1016 (.ref 613), de P (.ofString "type_name") 1023 (.ref 620), de P (.ofString "__lt__") 1031 (.ref 627), de P (.ofString "__eq__") 1039 (.ref 634), de P (.ofString "__static_attributes__") 1041 (.ref 635), de P (.ofString "__classcell__") 1042 (.ref 579)] 13, #[]⟩
noncomputable def o579 (_ : Params) : Obj := ⟨(.type "cell"), none, .cell (some (.ref 637)), #[]⟩
noncomputable def o581 (_ : Params) : Obj := fldO [(.int 495 0), (.int 4 0), (.ref 591), (.int 504 0), (.int 4 0), (.ref 598), (.int 507 0), (.int 4 0), (.ref 605), (.int 510 0), (.int 4 0), (.ref 612), (.int 513 0), (.int 4 0), (.ref 619), (.int 516 0), (.int 4 0), (.ref 626), (.int 525 0), (.int 4 0), (.ref 633)]
noncomputable def o582 (_ : Params) : Obj := cdO (.ofString "Symbol") (.ofString "Symbol") 970 485 0 0 0 0 580 false 581 .none .none .none .none 973 974
noncomputable def o583 (_ : Params) : Obj := ⟨(.type "frame"), none, .plain, #[(some (.ref 582)), (some (.ref 3)), (some (.ref 578)), none, (some (.str (.ofString "matchpy.expressions.expressions") 343)), none, (some (.ref 0))]⟩
noncomputable def o585 (_ : Params) : Obj := tupO [(.ref 579)]
noncomputable def o586 (_ : Params) : Obj := tupO [(.str (.ofString "__class__") 986)]
noncomputable def o588 (_ : Params) : Obj := tupO [(.str (.ofString "self") 987), (.str (.ofString "name") 988), (.str (.ofString "variable_name") 989)]
noncomputable def o590 (_ : Params) : Obj := fn0 (.ofString "__init__") (.ofString "Symbol.__init__") fp11x1
noncomputable def o591 (_ : Params) : Obj := cdO (.ofString "__init__") (.ofString "Symbol.__init__") 983 495 3 0 0 3 586 true 587 .none (.ref 588) (.ref 589) (.ref 590) 990 991
noncomputable def o592 (_ : Params) : Obj := fnC (.ofString "__init__") (.ofString "Symbol.__init__") fp11x1 [((.ofString "__class__"), 579)] (.ref 584) .none (docV fp11x1 992) (.str (.ofString "matchpy.expressions.expressions") 343) 591 (.ref 585)
noncomputable def o595 (_ : Params) : Obj := tupO [(.str (.ofString "self") 997), (.str (.ofString "symbols") 998)]
noncomputable def o597 (_ : Params) : Obj := fn0 (.ofString "collect_symbols") (.ofString "Symbol.collect_symbols") fp11x2
noncomputable def o598 (_ : Params) : Obj := cdO (.ofString "collect_symbols") (.ofString "Symbol.collect_symbols") 994 504 2 0 0 3 593 true 594 .none (.ref 595) (.ref 596) (.ref 597) 999 1000
noncomputable def o599 (_ : Params) : Obj := fnO (.ofString "collect_symbols") (.ofString "Symbol.collect_symbols") fp11x2 .none .none .none (.str (.ofString "matchpy.expressions.expressions") 343) 598
noncomputable def o602 (_ : Params) : Obj := tupO [(.str (.ofString "self") 1005), (.str (.ofString "renaming") 1006)]
noncomputable def o604 (_ : Params) : Obj := fn0 (.ofString "with_renamed_vars") (.ofString "Symbol.with_renamed_vars") fp11x3
noncomputable def o605 (_ : Params) : Obj := cdO (.ofString "with_renamed_vars") (.ofString "Symbol.with_renamed_vars") 1002 507 2 0 0 3 600 true 601 .none (.ref 602) (.ref 603) (.ref 604) 1007 1008
noncomputable def o606 (_ : Params) : Obj := fnO (.ofString "with_renamed_vars") (.ofString "Symbol.with_renamed_vars") fp11x3 .none .none .none (.str (.ofString "matchpy.expressions.expressions") 343) 605
noncomputable def o609 (_ : Params) : Obj := tupO [(.str (.ofString "self") 1013)]
noncomputable def o611 (_ : Params) : Obj := fn0 (.ofString "__copy__") (.ofString "Symbol.__copy__") fp11x4
noncomputable def o612 (_ : Params) : Obj := cdO (.ofString "__copy__") (.ofString "Symbol.__copy__") 1010 510 1 0 0 3 607 true 608 .none (.ref 609) (.ref 610) (.ref 611) 1014 1015
noncomputable def o613 (_ : Params) : Obj := fnO (.ofString "__copy__") (.ofString "Symbol.__copy__") fp11x4 .none .none .none (.str (.ofString "matchpy.expressions.expressions") 343) 612
noncomputable def o616 (_ : Params) : Obj := tupO [(.str (.ofString "self") 1020)]
noncomputable def o618 (_ : Params) : Obj := fn0 (.ofString "type_name") (.ofString "Symbol.type_name") fp11x5
noncomputable def o619 (_ : Params) : Obj := cdO (.ofString "type_name") (.ofString "Symbol.type_name") 1017 513 1 0 0 3 614 true 615 .none (.ref 616) (.ref 617) (.ref 618) 1021 1022
noncomputable def o620 (_ : Params) : Obj := fnO (.ofString "type_name") (.ofString "Symbol.type_name") fp11x5 .none .none .none (.str (.ofString "matchpy.expressions.expressions") 343) 619
noncomputable def o623 (_ : Params) : Obj := tupO [(.str (.ofString "self") 1027), (.str (.ofString "other") 1028)]
noncomputable def o625 (_ : Params) : Obj := fn0 (.ofString "__lt__") (.ofString "Symbol.__lt__") fp11x6
noncomputable def o626 (_ : Params) : Obj := cdO (.ofString "__lt__") (.ofString "Symbol.__lt__") 1024 516 2 0 0 3 621 true 622 .none (.ref 623) (.ref 624) (.ref 625) 1029 1030
noncomputable def o627 (_ : Params) : Obj := fnO (.ofString "__lt__") (.ofString "Symbol.__lt__") fp11x6 .none .none .none (.str (.ofString "matchpy.expressions.expressions") 343) 626
noncomputable def o630 (_ : Params) : Obj := tupO [(.str (.ofString "self") 1035), (.str (.ofString "other") 1036)]
noncomputable def o632 (_ : Params) : Obj := fn0 (.ofString "__eq__") (.ofString "Symbol.__eq__") fp11x7
noncomputable def o633 (_ : Params) : Obj := cdO (.ofString "__eq__") (.ofString "Symbol.__eq__") 1032 525 2 0 0 3 628 true 629 .none (.ref 630) (.ref 631) (.ref 632) 1037 1038
noncomputable def o634 (_ : Params) : Obj := fnO (.ofString "__eq__") (.ofString "Symbol.__eq__") fp11x7 .none .none .none (.str (.ofString "matchpy.expressions.expressions") 343) 633
noncomputable def o635 (_ : Params) : Obj := tupO [(.str (.ofString "name") 1040)]
noncomputable def o636 (P : Params) : Obj := ⟨(.type "dict"), none, .dict #[de P (.ofString "__module__") 975 (.str (.ofString "matchpy.expressions.expressions") 343), de P (.ofString "__firstlineno__") 979 (.int 485 978), de P (.ofString "__doc__") 981 (docC 11 980), de P (.ofString "__init__") 993 (.ref 592), de P (.ofString "collect_symbols") 1001 (.ref 599), de P (.ofString "with_renamed_vars") 1009 (.ref 606), de P (.ofString "__copy__") 1016 (.ref 613), de P (.ofString "type_name") 1023 (.ref 620), de P (.ofString "__lt__") 1031 (.ref 627), de P (.ofString "__eq__") 1039 (.ref 634), de P (.ofString "__static_attributes__") 1041 (.ref 635), de P (.ofString "__hash__") 1043 .none] 3, #[]⟩
noncomputable def o637 (_ : Params) : Obj := ⟨(.type "type"), none, .cls ⟨(.ofString "Symbol"), [(.ref 573)], [(.ref 637), (.ref 573), (.ref 308), (.type "object")], 636, (.ofString "Symbol"), true, [], [], false, none, false⟩, #[(some (.ref 576)), none, (some (.str (.ofString "Symbol") 968)), (some (.str (.ofString "Symbol") 976)), (some (.builtin "object.__new__")), (some (.bool true))]⟩
noncomputable def o638 (_ : Params) : Obj := ⟨(.type "super"), none, .fields #[(.ref 637), (.ref 637), (.ref 637)], #[]⟩
noncomputable def o639 (_ : Params) : Obj := ⟨(.type "builtin_function_or_method"), none, .fields #[(.builtin "object.__init_subclass__"), (.ref 637)], #[]⟩
noncomputable def t7 (P : Params) : BT := (.node (boot_o_0 P) (.node (boot_o_1 P) (.node (o3v6 P) (.node (boot_o_7 P) (.node (o11 P) (.node (o11 P) (.node (o12 P) (.node (o12 P) (.node (o11 P) (.node (o11 P) .nil .nil) .nil) (.node (o383 P) (.node (o639 P) .nil .nil) .nil)) (.node (o23 P) (.node (o319 P) (.node (o575 P) .nil .nil) .nil) (.node (o154 P) .nil .nil))) (.node (o11 P) (.node (o159 P) (.node (o287 P) (.node (o543 P) .nil .nil) .nil) (.node (o415 P) .nil .nil)) (.node (o223 P) (.node (o351 P) (.node (o11 P) .nil .nil) .nil) (.node (o479 P) .nil .nil)))) (.node (o47 P) (.node (o79 P) (.node (o11 P) (.node (o12 P) (.node (o527 P) .nil .nil) .nil) (.node (o11 P) .nil .nil)) (.node (o11 P) (.node (o335 P) (.node (o591 P) .nil .nil) .nil) (.node (o463 P) .nil .nil))) (.node (o111 P) (.node (o175 P) (.node (o303 P) (.node (o559 P) .nil .nil) .nil) (.node (o12 P) .nil .nil)) (.node (o239 P) (.node (o367 P) (.node (o623 P) .nil .nil) .nil) (.node (o12 P) .nil .nil))))) (.node (o23 P) (.node (o11 P) (.node (o71 P) (.node (o135 P) (.node (o11 P) (.node (o519 P) .nil .nil) .nil) (.node (o11 P) .nil .nil)) (.node (o199 P) (.node (o11 P) (.node (o583 P) .nil .nil) .nil) (.node (o455 P) .nil .nil))) (.node (o11 P) (.node (o167 P) (.node (o11 P) (.node (o551 P) .nil .nil) .nil) (.node (o423 P) .nil .nil)) (.node (o231 P) (.node (o11 P) (.node (o12 P) .nil .nil) .nil) (.node (o11 P) .nil .nil)))) (.node (o11 P) (.node (o87 P) (.node (o151 P) (.node (o12 P) (.node (o535 P) .nil .nil) .nil) (.node (o12 P) .nil .nil)) (.node (o11 P) (.node (o12 P) (.node (o599 P) .nil .nil) .nil) (.node (o471 P) .nil .nil))) (.node (o11 P) (.node (o11 P) (.node (o311 P) (.node (o11 P) .nil .nil) .nil) (.node (o439 P) .nil .nil)) (.node (o247 P) (.node (o375 P) (.node (o11 P) .nil .nil) .nil) (.node (o503 P) .nil .nil)))))) (.node (o11 P) (.node (o19 P) (.node (o35 P) (.node (o67 P) (.node (o131 P) (.node (o259 P) (.node (o11 P) .nil .nil) .nil) (.node (o11 P) .nil .nil)) (.node (o195 P) (.node (o251 P) (.node (o579 P) .nil .nil) .nil) (.node (o451 P) .nil .nil))) (.node (o99 P) (.node (o12 P) (.node (o291 P) (.node (o547 P) .nil .nil) .nil) (.node (o419 P) .nil .nil)) (.node (o11 P) (.node (o355 P) (.node (o611 P) .nil .nil) .nil) (.node (o11 P) .nil .nil)))) (.node (o11 P) (.node (o83 P) (.node (o11 P) (.node (o275 P) (.node (o531 P) .nil .nil) .nil) (.node (o403 P) .nil .nil)) (.node (o211 P) (.node (o339 P) (.node (o595 P) .nil .nil) .nil) (.node (o12 P) .nil .nil))) (.node (o11 P) (.node (o179 P) (.node (o307 P) (.node (o563 P) .nil .nil) .nil) (.node (o435 P) .nil .nil)) (.node (o12 P) (.node (o371 P) (.node (o627 P) .nil .nil) .nil) (.node (o499 P) .nil .nil))))) (.node (o27 P) (.node (o11 P) (.node (o12 P) (.node (o139 P) (.node (o267 P) (.node (o12 P) .nil .nil) .nil) (.node (o395 P) .nil .nil)) (.node (o203 P) (.node (o11 P) (.node (o12 P) .nil .nil) .nil) (.node (o11 P) .nil .nil))) (.node (o11 P) (.node (o171 P) (.node (o11 P) (.node (o11 P) .nil .nil) .nil) (.node (o427 P) .nil .nil)) (.node (o12 P) (.node (o11 P) (.node (o619 P) .nil .nil) .nil) (.node (o491 P) .nil .nil)))) (.node (o59 P) (.node (o11 P) (.node (o11 P) (.node (o283 P) (.node (o12 P) .nil .nil) .nil) (.node (o411 P) .nil .nil)) (.node (o11 P) (.node (o347 P) (.node (o11 P) .nil .nil) .nil) (.node (o475 P) .nil .nil))) (.node (o123 P) (.node (o187 P) (.node (o315 P) (.node (o11 P) .nil .nil) .nil) (.node (o443 P) .nil .nil)) (.node (o251 P) (.node (o379 P) (.node (o635 P) .nil .nil) .nil) (.node (o507 P) .nil .nil))))))) (.node (boot_o_5 P) (.node (boot_o_9 P) (.node (o17 P) (.node (o33 P) (.node (o11 P) (.node (o11 P) (.node (o257 P) (.node (o513 P) .nil .nil) .nil) (.node (o23 P) .nil .nil)) (.node (o11 P) (.node (o11 P) (.node (o23 P) .nil .nil) .nil) (.node (o11 P) .nil .nil))) (.node (o97 P) (.node (o161 P) (.node (o289 P) (.node (o11 P) .nil .nil) .nil) (.node (o417 P) .nil .nil)) (.node (o225 P) (.node (o353 P) (.node (o609 P) .nil .nil) .nil) (.node (o12 P) .nil .nil)))) (.node (o12 P) (.node (o11 P) (.node (o145 P) (.node (o11 P) (.node (o11 P) .nil .nil) .nil) (.node (o401 P) .nil .nil)) (.node (o209 P) (.node (o337 P) (.node (o11 P) .nil .nil) .nil) (.node (o465 P) .nil .nil))) (.node (o12 P) (.node (o177 P) (.node (o305 P) (.node (o561 P) .nil .nil) .nil) (.node (o11 P) .nil .nil)) (.node (o241 P) (.node (o369 P) (.node (o625 P) .nil .nil) .nil) (.node (o11 P) .nil .nil))))) (.node (o11 P) (.node (o41 P) (.node (o73 P) (.node (o137 P) (.node (o265 P) (.node (o521 P) .nil .nil) .nil) (.node (o393 P) .nil .nil)) (.node (o201 P) (.node (o329 P) (.node (o585 P) .nil .nil) .nil) (.node (o457 P) .nil .nil))) (.node (o105 P) (.node (o11 P) (.node (o297 P) (.node (o12 P) .nil .nil) .nil) (.node (o425 P) .nil .nil)) (.node (o233 P) (.node (o361 P) (.node (o11 P) .nil .nil) .nil) (.node (o489 P) .nil .nil)))) (.node (o57 P) (.node (o12 P) (.node (o153 P) (.node (o11 P) (.node (o537 P) .nil .nil) .nil) (.node (o11 P) .nil .nil)) (.node (o217 P) (.node (o11 P) (.node (o12 P) .nil .nil) .nil) (.node (o11 P) .nil .nil))) (.node (o121 P) (.node (o185 P) (.node (o313 P) (.node (o569 P) .nil .nil) .nil) (.node (o441 P) .nil .nil)) (.node (o249 P) (.node (o11 P) (.node (o633 P) .nil .nil) .nil) (.node (o505 P) .nil .nil)))))) (.node (o13 P) (.node (o21 P) (.node (o12 P) (.node (o11 P) (.node (o133 P) (.node (o12 P) (.node (o517 P) .nil .nil) .nil) (.node (o389 P) .nil .nil)) (.node (o11 P) (.node (o12 P) (.node (o581 P) .nil .nil) .nil) (.node (o453 P) .nil .nil))) (.node (o12 P) (.node (o11 P) (.node (o12 P) (.node (o549 P) .nil .nil) .nil) (.node (o23 P) .nil .nil)) (.node (o229 P) (.node (o12 P) (.node (o613 P) .nil .nil) .nil) (.node (o485 P) .nil .nil)))) (.node (o53 P) (.node (o85 P) (.node (o149 P) (.node (o154 P) (.node (o533 P) .nil .nil) .nil) (.node (o405 P) .nil .nil)) (.node (o12 P) (.node (o341 P) (.node (o597 P) .nil .nil) .nil) (.node (o11 P) .nil .nil))) (.node (o117 P) (.node (o181 P) (.node (o309 P) (.node (o23 P) .nil .nil) .nil) (.node (o11 P) .nil .nil)) (.node (o11 P) (.node (o373 P) (.node (o12 P) .nil .nil) .nil) (.node (o11 P) .nil .nil))))) (.node (o11 P) (.node (o45 P) (.node (o11 P) (.node (o23 P) (.node (o251 P) (.node (o11 P) .nil .nil) .nil) (.node (o397 P) .nil .nil)) (.node (o12 P) (.node (o333 P) (.node (o11 P) .nil .nil) .nil) (.node (o461 P) .nil .nil))) (.node (o109 P) (.node (o173 P) (.node (o301 P) (.node (o557 P) .nil .nil) .nil) (.node (o429 P) .nil .nil)) (.node (o11 P) (.node (o365 P) (.node (o11 P) .nil .nil) .nil) (.node (o493 P) .nil .nil)))) (.node (o61 P) (.node (o93 P) (.node (o157 P) (.node (o11 P) (.node (o11 P) .nil .nil) .nil) (.node (o11 P) .nil .nil)) (.node (o221 P) (.node (o11 P) (.node (o605 P) .nil .nil) .nil) (.node (o477 P) .nil .nil))) (.node (o125 P) (.node (o189 P) (.node (o11 P) (.node (o573 P) .nil .nil) .nil) (.node (o445 P) .nil .nil)) (.node (o12 P) (.node (o381 P) (.node (o637 P) .nil .nil) .nil) (.node (o12 P) .nil .nil)))))))) (.node (boot_o_2 P) (.node (boot_o_4 P) (.node (boot_o_8 P) (.node (o12 P) (.node (o12 P) (.node (o64 P) (.node (o128 P) (.node (o256 P) (.node (o512 P) .nil .nil) .nil) (.node (o11 P) .nil .nil)) (.node (o192 P) (.node (o320 P) (.node (o576 P) .nil .nil) .nil) (.node (o448 P) .nil .nil))) (.node (o12 P) (.node (o160 P) (.node (o11 P) (.node (o544 P) .nil .nil) .nil) (.node (o416 P) .nil .nil)) (.node (o224 P) (.node (o11 P) (.node (o12 P) .nil .nil) .nil) (.node (o11 P) .nil .nil)))) (.node (o11 P) (.node (o80 P) (.node (o144 P) (.node (o272 P) (.node (o528 P) .nil .nil) .nil) (.node (o12 P) .nil .nil)) (.node (o208 P) (.node (o336 P) (.node (o592 P) .nil .nil) .nil) (.node (o464 P) .nil .nil))) (.node (o11 P) (.node (o176 P) (.node (o304 P) (.node (o560 P) .nil .nil) .nil) (.node (o432 P) .nil .nil)) (.node (o240 P) (.node (o368 P) (.node (o11 P) .nil .nil) .nil) (.node (o496 P) .nil .nil))))) (.node (o24 P) (.node (o40 P) (.node (o72 P) (.node (o136 P) (.node (o264 P) (.node (o520 P) .nil .nil) .nil) (.node (o12 P) .nil .nil)) (.node (o11 P) (.node (o328 P) (.node (o154 P) .nil .nil) .nil) (.node (o456 P) .nil .nil))) (.node (o104 P) (.node (o168 P) (.node (o296 P) (.node (o11 P) .nil .nil) .nil) (.node (o11 P) .nil .nil)) (.node (o232 P) (.node (o360 P) (.node (o616 P) .nil .nil) .nil) (.node (o12 P) .nil .nil)))) (.node (o12 P) (.node (o11 P) (.node (o152 P) (.node (o280 P) (.node (o11 P) .nil .nil) .nil) (.node (o408 P) .nil .nil)) (.node (o216 P) (.node (o344 P) (.node (o11 P) .nil .nil) .nil) (.node (o472 P) .nil .nil))) (.node (o12 P) (.node (o12 P) (.node (o312 P) (.node (o12 P) .nil .nil) .nil) (.node (o11 P) .nil .nil)) (.node (o248 P) (.node (o376 P) (.node (o632 P) .nil .nil) .nil) (.node (o11 P) .nil .nil)))))) (.node (o12v7 P) (.node (o20 P) (.node (o11 P) (.node (o68 P) (.node (o132 P) (.node (o11 P) (.node (o12 P) .nil .nil) .nil) (.node (o388 P) .nil .nil)) (.node (o196 P) (.node (o11 P) (.node (o11 P) .nil .nil) .nil) (.node (o11 P) .nil .nil))) (.node (o11 P) (.node (o164 P) (.node (o11 P) (.node (o11 P) .nil .nil) .nil) (.node (o420 P) .nil .nil)) (.node (o12 P) (.node (o11 P) (.node (o612 P) .nil .nil) .nil) (.node (o484 P) .nil .nil)))) (.node (o52 P) (.node (o11 P) (.node (o12 P) (.node (o276 P) (.node (o11 P) .nil .nil) .nil) (.node (o404 P) .nil .nil)) (.node (o11 P) (.node (o251 P) (.node (o11 P) .nil .nil) .nil) (.node (o468 P) .nil .nil))) (.node (o116 P) (.node (o180 P) (.node (o308v2 P) (.node (o420 P) .nil .nil) .nil) (.node (o436 P) .nil .nil)) (.node (o11 P) (.node (o372 P) (.node (o11 P) .nil .nil) .nil) (.node (o500 P) .nil .nil))))) (.node (o28 P) (.node (o12 P) (.node (o76 P) (.node (o11 P) (.node (o268 P) (.node (o524 P) .nil .nil) .nil) (.node (o396 P) .nil .nil)) (.node (o11 P) (.node (o12 P) (.node (o588 P) .nil .nil) .nil) (.node (o12 P) .nil .nil))) (.node (o12 P) (.node (o11 P) (.node (o12 P) (.node (o556 P) .nil .nil) .nil) (.node (o154 P) .nil .nil)) (.node (o236 P) (.node (o12 P) (.node (o620 P) .nil .nil) .nil) (.node (o492 P) .nil .nil)))) (.node (o60 P) (.node (o92 P) (.node (o12 P) (.node (o284 P) (.node (o540 P) .nil .nil) .nil) (.node (o412 P) .nil .nil)) (.node (o12 P) (.node (o348 P) (.node (o604 P) .nil .nil) .nil) (.node (o11 P) .nil .nil))) (.node (o124 P) (.node (o188 P) (.node (o316 P) (.node (o572 P) .nil .nil) .nil) (.node (o444 P) .nil .nil)) (.node (o11 P) (.node (o380 P) (.node (o636 P) .nil .nil) .nil) (.node (o11 P) .nil .nil))))))) (.node (boot_o_6 P) (.node (boot_o_10 P) (.node (o11 P) (.node (o34 P) (.node (o66 P) (.node (o130 P) (.node (o258 P) (.node (o514 P) .nil .nil) .nil) (.node (o386 P) .nil .nil)) (.node (o194 P) (.node (o322 P) (.node (o578 P) .nil .nil) .nil) (.node (o12 P) .nil .nil))) (.node (o98 P) (.node (o11 P) (.node (o290 P) (.node (o12 P) .nil .nil) .nil) (.node (o418 P) .nil .nil)) (.node (o226 P) (.node (o354 P) (.node (o11 P) .nil .nil) .nil) (.node (o482 P) .nil .nil)))) (.node (o50 P) (.node (o12 P) (.node (o146 P) (.node (o274 P) (.node (o12 P) .nil .nil) .nil) (.node (o11 P) .nil .nil)) (.node (o210 P) (.node (o338 P) (.node (o12 P) .nil .nil) .nil) (.node (o11 P) .nil .nil))) (.node (o114 P) (.node (o178 P) (.node (o306 P) (.node (o562 P) .nil .nil) .nil) (.node (o434 P) .nil .nil)) (.node (o11 P) (.node (o370 P) (.node (o626 P) .nil .nil) .nil) (.node (o498 P) .nil .nil))))) (.node (o26 P) (.node (o42 P) (.node (o11 P) (.node (o138 P) (.node (o266 P) (.node (o11 P) .nil .nil) .nil) (.node (o11 P) .nil .nil)) (.node (o202 P) (.node (o330 P) (.node (o586 P) .nil .nil) .nil) (.node (o251 P) .nil .nil))) (.node (o106 P) (.node (o12 P) (.node (o298 P) (.node (o554 P) .nil .nil) .nil) (.node (o426 P) .nil .nil)) (.node (o11 P) (.node (o362 P) (.node (o618 P) .nil .nil) .nil) (.node (o11 P) .nil .nil)))) (.node (o11 P) (.node (o90 P) (.node (o154 P) (.node (o282 P) (.node (o11 P) .nil .nil) .nil) (.node (o410 P) .nil .nil)) (.node (o218 P) (.node (o346 P) (.node (o602 P) .nil .nil) .nil) (.node (o12 P) .nil .nil))) (.node (o11 P) (.node (o11 P) (.node (o23 P) (.node (o570 P) .nil .nil) .nil) (.node (o442 P) .nil .nil)) (.node (o250 P) (.node (o378 P) (.node (o634 P) .nil .nil) .nil) (.node (o506 P) .nil .nil)))))) (.node (o14 P) (.node (o11 P) (.node (o38 P) (.node (o12 P) (.node (o134 P) (.node (o11 P) (.node (o11 P) .nil .nil) .nil) (.node (o390 P) .nil .nil)) (.node (o12 P) (.node (o326 P) (.node (o582 P) .nil .nil) .nil) (.node (o454 P) .nil .nil))) (.node (o102 P) (.node (o166 P) (.node (o294 P) (.node (o550 P) .nil .nil) .nil) (.node (o422 P) .nil .nil)) (.node (o11 P) (.node (o358 P) (.node (o11 P) .nil .nil) .nil) (.node (o486 P) .nil .nil)))) (.node (o54 P) (.node (o86 P) (.node (o11 P) (.node (o11 P) (.node (o534 P) .nil .nil) .nil) (.node (o11 P) .nil .nil)) (.node (o214 P) (.node (o342 P) (.node (o598 P) .nil .nil) .nil) (.node (o470 P) .nil .nil))) (.node (o118 P) (.node (o182 P) (.node (o310 P) (.node (o566 P) .nil .nil) .nil) (.node (o12 P) .nil .nil)) (.node (o246 P) (.node (o374 P) (.node (o630 P) .nil .nil) .nil) (.node (o12 P) .nil .nil))))) (.node (o30 P) (.node (o46 P) (.node (o78 P) (.node (o142 P) (.node (o11 P) (.node (o526 P) .nil .nil) .nil) (.node (o398 P) .nil .nil)) (.node (o206 P) (.node (o11 P) (.node (o590 P) .nil .nil) .nil) (.node (o11 P) .nil .nil))) (.node (o110 P) (.node (o174 P) (.node (o11 P) (.node (o558 P) .nil .nil) .nil) (.node (o430 P) .nil .nil)) (.node (o238 P) (.node (o11 P) (.node (o12 P) .nil .nil) .nil) (.node (o11 P) .nil .nil)))) (.node (o11 P) (.node (o94 P) (.node (o11 P) (.node (o12 P) (.node (o542 P) .nil .nil) .nil) (.node (o414 P) .nil .nil)) (.node (o11 P) (.node (o12 P) (.node (o606 P) .nil .nil) .nil) (.node (o478 P) .nil .nil))) (.node (o11 P) (.node (o11 P) (.node (o318 P) (.node (o574 P) .nil .nil) .nil) (.node (o251 P) .nil .nil)) (.node (o254 P) (.node (o382 P) (.node (o638 P) .nil .nil) .nil) (.node (o510 P) .nil .nil)))))))))
noncomputable def s7 (w : World) (os : OsState) : SharedT := ⟨t7 w.params, 640, {}, #[], {}, 1046, os⟩
noncomputable def g7 : List Stmt := [stmtAt PySem.Challenge.pw_ak0016_01.main.body 10, stmtAt PySem.Challenge.pw_ak0016_01.main.body 11]
theorem pc7 (p : Program) (b : List Stmt) (w : World) (os : OsState) : segRunT treeTable p w 11 ann9 1 734 (s6 w os) (piecesOf g7 env9 (cd9 b) ⟨317, 0, 482, 74⟩ B9) = some (.next, s7 w os, cd9 b, ⟨485, 0, 528, 84⟩) := by
  rw [PySem.W.Fast.te10110043849684766642, PySem.W.Fast.te14364793385576792824]; kernel_rfl
noncomputable def o3v7 (P : Params) : Obj := ⟨(.type "dict"), none, .dict #[de P (.ofString "__name__") 165 (.str (.ofString "matchpy.expressions.expressions") 343), de P (.ofString "__doc__") 166 .none, de P (.ofString "__package__") 167 .none, de P (.ofString "__loader__") 168 (.builtin "__main__.__loader__#opaque"), de P (.ofString "__spec__") 169 .none, de P (.ofString "__annotations__") 170 (.ref 6), de P (.ofString "__builtins__") 171 (.ref 4), de P (.ofString "__file__") 173 (.str (.ofString "/claim/cut.py") 172), de P (.ofString "__cached__") 174 .none, de P (.ofString "_wall") 193 (.ref 21), de P (.ofString "Multiset") 342 (.ref 135), de P (.ofString "_tuplegetter") 401 (.ref 178), de P (.ofString "_sort") 410 (.ref 189), de P (.ofString "Expression") 571 (.ref 308), de P (.ofString "Arity") 686 (.ref 380), de P (.ofString "_OperationMeta") 744 (.ref 415), de P (.ofString "Operation") 949 (.ref 561), de P (.ofString "Atom") 967 (.ref 573), de P (.ofString "Symbol") 1045 (.ref 637), de P (.ofString "Wildcard") 1190 (.ref 741)] 20, #[]⟩
noncomputable def o12v8 (_ : Params) : Obj := fldO [(.int 1 0), (.int 0 0), (.ref 20), (.int 5 0), (.int 0 0), (.ref 27), (.int 89 0), (.int 0 0), (.ref 145), (.int 107 0), (.int 0 0), (.ref 188), (.int 114 0), (.int 0 0), (.ref 195), (.int 228 0), (.int 0 0), (.ref 319), (.int 270 0), (.int 0 0), (.ref 389), (.int 317 0), (.int 0 0), (.ref 426), (.int 483 0), (.int 0 0), (.ref 569), (.int 485 0), (.int 0 0), (.ref 582), (.int 529 0), (.int 0 0), (.ref 646)]
noncomputable def o573v1 (_ : Params) : Obj := ⟨(.type "type"), none, .cls ⟨(.ofString "Atom"), [(.ref 308)], [(.ref 573), (.ref 308), (.type "object")], 572, (.ofString "Atom"), true, [], [(.ref 637), (.ref 741)], false, none, false⟩, #[(some (.ref 564)), none, (some (.str (.ofString "Atom") 950)), (some (.str (.ofString "Atom") 958)), (some (.builtin "object.__new__")), (some (.bool true))]⟩
noncomputable def o642 (P : Params) : Obj := ⟨(.type "dict"), none, .dict #[de P (.ofString "__module__") 1053 (.str (.ofString "matchpy.expressions.expressions") 343), de P (.ofString "__qualname__") 1055 (.str (.ofString "Wildcard") 1054), de P (.ofString "__firstlineno__") 1057 (.int 529 1056), de P (.ofString "__doc__") 1059 (docC 12 1058), de P (.ofString "__init__") 1073 (.ref 656), de P (.ofString "_is_constant") 1080 (.ref 663), de P (.ofString "_is_syntactic") 1087 (.ref 670), de P (.ofString "with_renamed_vars") 1095 (.ref 677), de P (.ofString "dot") 1114 (.ref 687), de P (.ofString "star") 1133 (.ref 698), de P (.ofString "plus") 1152 (.ref 709), de P (.ofString "type_name") 1159 (.ref 717), de P (.ofString "__lt__") 1167 (.ref 724), de P (.ofString "__eq__") 1175 (.ref 731), de P (.ofString "__copy__") 1182 (.ref 738), de P (.ofString "__static_attributes__") 1186 (.ref 739), de P (.ofString "__classcell__") 1187 (.ref 643)] 17, #[]⟩
noncomputable def o643 (_ : Params) : Obj := ⟨(.type "cell"), none, .cell (some (.ref 741)), #[]⟩
noncomputable def o645 (_ : Params) : Obj := fldO [(.int 543 0), (.int 4 0), (.ref 655), (.int 564 0), (.int 4 0), (.ref 662), (.int 567 0), (.int 4 0), (.ref 669), (.int 570 0), (.int 4 0), (.ref 676), (.int 574 0), (.int 4 0), (.ref 684), (.int 578 0), (.int 4 0), (.ref 695), (.int 582 0), (.int 4 0), (.ref 706), (.int 585 0), (.int 4 0), (.ref 716), (.int 588 0), (.int 4 0), (.ref 723), (.int 599 0), (.int 4 0), (.ref 730), (.int 604 0), (.int 4 0), (.ref 737)]
noncomputable def o646 (_ : Params) : Obj := cdO (.ofString "Wildcard") (.ofString "Wildcard") 1048 529 0 0 0 0 644 false 645 .none .none .none .none 1051 1052
noncomputable def o647 (_ : Params) : Obj := ⟨(.type "frame"), none, .plain, #[(some (.ref 646)), (some (.ref 3)), (some (.ref 642)), none, (some (.str (.ofString "matchpy.expressions.expressions") 343)), none, (some (.ref 0))]⟩
noncomputable def o648 (_ : Params) : Obj := tupO [.none, .none]
noncomputable def o649 (_ : Params) : Obj := tupO [(.ref 643)]
noncomputable def o650 (_ : Params) : Obj := tupO [(.str (.ofString "__class__") 1064)]
noncomputable def o652 (_ : Params) : Obj := tupO [(.str (.ofString "self") 1065), (.str (.ofString "min_count") 1066), (.str (.ofString "fixed_size") 1067), (.str (.ofString "variable_name") 1068), (.str (.ofString "optional") 1069)]
noncomputable def o654 (_ : Params) : Obj := fn0 (.ofString "__init__") (.ofString "Wildcard.__init__") fp12x1
noncomputable def o655 (_ : Params) : Obj := cdO (.ofString "__init__") (.ofString "Wildcard.__init__") 1061 543 5 0 0 3 650 true 651 .none (.ref 652) (.ref 653) (.ref 654) 1070 1071
noncomputable def o656 (_ : Params) : Obj := fnC (.ofString "__init__") (.ofString "Wildcard.__init__") fp12x1 [((.ofString "__class__"), 643)] (.ref 648) .none (docV fp12x1 1072) (.str (.ofString "matchpy.expressions.expressions") 343) 655 (.ref 649)
noncomputable def o659 (_ : Params) : Obj := tupO [(.str (.ofString "self") 1077)]
noncomputable def o661 (_ : Params) : Obj := fn0 (.ofString "_is_constant") (.ofString "Wildcard._is_constant") fp12x2
noncomputable def o662 (_ : Params) : Obj := cdO (.ofString "_is_constant") (.ofString "Wildcard._is_constant") 1074 564 1 0 0 3 657 true 658 .none (.ref 659) (.ref 660) (.ref 661) 1078 1079
noncomputable def o663 (_ : Params) : Obj := fnO (.ofString "_is_constant") (.ofString "Wildcard._is_constant") fp12x2 .none .none .none (.str (.ofString "matchpy.expressions.expressions") 343) 662
noncomputable def o666 (_ : Params) : Obj := tupO [(.str (.ofString "self") 1084)]
noncomputable def o668 (_ : Params) : Obj := fn0 (.ofString "_is_syntactic") (.ofString "Wildcard._is_syntactic") fp12x3
noncomputable def o669 (_ : Params) : Obj := cdO (.ofString "_is_syntactic") (.ofString "Wildcard._is_syntactic") 1081 567 1 0 0 3 664 true 665 .none (.ref 666) (.ref 667) (.ref 668) 1085 1086
noncomputable def o670 (_ : Params) : Obj := fnO (.ofString "_is_syntactic") (.ofString "Wildcard._is_syntactic") fp12x3 .none .none .none (.str (.ofString "matchpy.expressions.expressions") 343) 669
noncomputable def o673 (_ : Params) : Obj := tupO [(.str (.ofString "self") 1091), (.str (.ofString "renaming") 1092)]
noncomputable def o675 (_ : Params) : Obj := fn0 (.ofString "with_renamed_vars") (.ofString "Wildcard.with_renamed_vars") fp12x4
noncomputable def o676 (_ : Params) : Obj := cdO (.ofString "with_renamed_vars") (.ofString "Wildcard.with_renamed_vars") 1088 570 2 0 0 3 671 true 672 .none (.ref 673) (.ref 674) (.ref 675) 1093 1094
noncomputable def o677 (_ : Params) : Obj := fnO (.ofString "with_renamed_vars") (.ofString "Wildcard.with_renamed_vars") fp12x4 .none .none .none (.str (.ofString "matchpy.expressions.expressions") 343) 676
noncomputable def o681 (_ : Params) : Obj := tupO [(.str (.ofString "name") 1099)]
noncomputable def o683 (_ : Params) : Obj := fn0 (.ofString "dot") (.ofString "Wildcard.dot") fp12x5
noncomputable def o684 (_ : Params) : Obj := cdO (.ofString "dot") (.ofString "Wildcard.dot") 1096 573 1 0 0 3 679 true 680 .none (.ref 681) (.ref 682) (.ref 683) 1100 1101
noncomputable def o685 (_ : Params) : Obj := ⟨(.type "function"), none, .func ⟨(.ofString "dot"), (.ofString "Wildcard.dot"), fp12x5.1, .stmts fp12x5.2.1, fp12x5.2.2, 3, [], (.ref 678), .none, .none, (.str (.ofString "matchpy.expressions.expressions") 343), (some 688), (.ref 684), .none, 0⟩, #[]⟩
noncomputable def o686 (P : Params) : Obj := ⟨(.type "dict"), none, .dict #[de P (.ofString "__module__") 1103 (.str (.ofString "matchpy.expressions.expressions") 343), de P (.ofString "__name__") 1106 (.str (.ofString "dot") 1105), de P (.ofString "__qualname__") 1109 (.str (.ofString "Wildcard.dot") 1108), de P (.ofString "__doc__") 1111 .none, de P (.ofString "__annotations__") 1113 (.ref 688)] 5, #[]⟩
noncomputable def o687 (_ : Params) : Obj := ⟨(.type "staticmethod"), (some 686), .fields #[(.ref 685), (.bool false)], #[]⟩
noncomputable def o692 (_ : Params) : Obj := tupO [(.str (.ofString "name") 1118)]
noncomputable def o694 (_ : Params) : Obj := fn0 (.ofString "star") (.ofString "Wildcard.star") fp12x6
noncomputable def o695 (_ : Params) : Obj := cdO (.ofString "star") (.ofString "Wildcard.star") 1115 577 1 0 0 3 690 true 691 .none (.ref 692) (.ref 693) (.ref 694) 1119 1120
noncomputable def o696 (_ : Params) : Obj := ⟨(.type "function"), none, .func ⟨(.ofString "star"), (.ofString "Wildcard.star"), fp12x6.1, .stmts fp12x6.2.1, fp12x6.2.2, 3, [], (.ref 689), .none, .none, (.str (.ofString "matchpy.expressions.expressions") 343), (some 699), (.ref 695), .none, 0⟩, #[]⟩
noncomputable def o697 (P : Params) : Obj := ⟨(.type "dict"), none, .dict #[de P (.ofString "__module__") 1122 (.str (.ofString "matchpy.expressions.expressions") 343), de P (.ofString "__name__") 1125 (.str (.ofString "star") 1124), de P (.ofString "__qualname__") 1128 (.str (.ofString "Wildcard.star") 1127), de P (.ofString "__doc__") 1130 .none, de P (.ofString "__annotations__") 1132 (.ref 699)] 5, #[]⟩
noncomputable def o698 (_ : Params) : Obj := ⟨(.type "staticmethod"), (some 697), .fields #[(.ref 696), (.bool false)], #[]⟩
noncomputable def o703 (_ : Params) : Obj := tupO [(.str (.ofString "name") 1137)]
noncomputable def o705 (_ : Params) : Obj := fn0 (.ofString "plus") (.ofString "Wildcard.plus") fp12x7
noncomputable def o706 (_ : Params) : Obj := cdO (.ofString "plus") (.ofString "Wildcard.plus") 1134 581 1 0 0 3 701 true 702 .none (.ref 703) (.ref 704) (.ref 705) 1138 1139
noncomputable def o707 (_ : Params) : Obj := ⟨(.type "function"), none, .func ⟨(.ofString "plus"), (.ofString "Wildcard.plus"), fp12x7.1, .stmts fp12x7.2.1, fp12x7.2.2, 3, [], (.ref 700), .none, .none, (.str (.ofString "matchpy.expressions.expressions") 343), (some 710), (.ref 706), .none, 0⟩, #[]⟩
noncomputable def o708 (P : Params) : Obj := ⟨(.type "dict"), none, .dict #[de P (.ofString "__module__") 1141 (.str (.ofString "matchpy.expressions.expressions") 343), de P (.ofString "__name__") 1144 (.str (.ofString "plus") 1143), de P (.ofString "__qualname__") 1147 (.str (.ofString "Wildcard.plus") 1146), de P (.ofString "__doc__") 1149 .none, de P (.ofString "__annotations__") 1151 (.ref 710)] 5, #[]⟩
noncomputable def o709 (_ : Params) : Obj := ⟨(.type "staticmethod"), (some 708), .fields #[(.ref 707), (.bool false)], #[]⟩
noncomputable def o713 (_ : Params) : Obj := tupO [(.str (.ofString "self") 1156)]
noncomputable def o715 (_ : Params) : Obj := fn0 (.ofString "type_name") (.ofString "Wildcard.type_name") fp12x8
noncomputable def o716 (_ : Params) : Obj := cdO (.ofString "type_name") (.ofString "Wildcard.type_name") 1153 585 1 0 0 3 711 true 712 .none (.ref 713) (.ref 714) (.ref 715) 1157 1158
noncomputable def o717 (_ : Params) : Obj := fnO (.ofString "type_name") (.ofString "Wildcard.type_name") fp12x8 .none .none .none (.str (.ofString "matchpy.expressions.expressions") 343) 716
noncomputable def o720 (_ : Params) : Obj := tupO [(.str (.ofString "self") 1163), (.str (.ofString "other") 1164)]
noncomputable def o722 (_ : Params) : Obj := fn0 (.ofString "__lt__") (.ofString "Wildcard.__lt__") fp12x9
noncomputable def o723 (_ : Params) : Obj := cdO (.ofString "__lt__") (.ofString "Wildcard.__lt__") 1160 588 2 0 0 3 718 true 719 .none (.ref 720) (.ref 721) (.ref 722) 1165 1166
noncomputable def o724 (_ : Params) : Obj := fnO (.ofString "__lt__") (.ofString "Wildcard.__lt__") fp12x9 .none .none .none (.str (.ofString "matchpy.expressions.expressions") 343) 723
noncomputable def o727 (_ : Params) : Obj := tupO [(.str (.ofString "self") 1171), (.str (.ofString "other") 1172)]
noncomputable def o729 (_ : Params) : Obj := fn0 (.ofString "__eq__") (.ofString "Wildcard.__eq__") fp12x10
noncomputable def o730 (_ : Params) : Obj := cdO (.ofString "__eq__") (.ofString "Wildcard.__eq__") 1168 599 2 0 0 3 725 true 726 .none (.ref 727) (.ref 728) (.ref 729) 1173 1174
noncomputable def o731 (_ : Params) : Obj := fnO (.ofString "__eq__") (.ofString "Wildcard.__eq__") fp12x10 .none .none .none (.str (.ofString "matchpy.expressions.expressions") 343) 730
noncomputable def o734 (_ : Params) : Obj := tupO [(.str (.ofString "self") 1179)]
noncomputable def o736 (_ : Params) : Obj := fn0 (.ofString "__copy__") (.ofString "Wildcard.__copy__") fp12x11
noncomputable def o737 (_ : Params) : Obj := cdO (.ofString "__copy__") (.ofString "Wildcard.__copy__") 1176 604 1 0 0 3 732 true 733 .none (.ref 734) (.ref 735) (.ref 736) 1180 1181
noncomputable def o738 (_ : Params) : Obj := fnO (.ofString "__copy__") (.ofString "Wildcard.__copy__") fp12x11 .none .none .none (.str (.ofString "matchpy.expressions.expressions") 343) 737
noncomputable def o739 (_ : Params) : Obj := tupO [(.str (.ofString "fixed_size") 1183), (.str (.ofString "min_count") 1184), (.str (.ofString "optional") 1185)]
noncomputable def o740 (P : Params) : Obj := ⟨(.type "dict"), none, .dict #[de P (.ofString "__module__") 1053 (.str (.ofString "matchpy.expressions.expressions") 343), de P (.ofString "__firstlineno__") 1057 (.int 529 1056), de P (.ofString "__doc__") 1059 (docC 12 1058), de P (.ofString "__init__") 1073 (.ref 656), de P (.ofString "_is_constant") 1080 (.ref 663), de P (.ofString "_is_syntactic") 1087 (.ref 670), de P (.ofString "with_renamed_vars") 1095 (.ref 677), de P (.ofString "dot") 1114 (.ref 687), de P (.ofString "star") 1133 (.ref 698), de P (.ofString "plus") 1152 (.ref 709), de P (.ofString "type_name") 1159 (.ref 717), de P (.ofString "__lt__") 1167 (.ref 724), de P (.ofString "__eq__") 1175 (.ref 731), de P (.ofString "__copy__") 1182 (.ref 738), de P (.ofString "__static_attributes__") 1186 (.ref 739), de P (.ofString "__hash__") 1188 .none] 3, #[]⟩
noncomputable def o741 (_ : Params) : Obj := ⟨(.type "type"), none, .cls ⟨(.ofString "Wildcard"), [(.ref 573)], [(.ref 741), (.ref 573), (.ref 308), (.type "object")], 740, (.ofString "Wildcard"), true, [], [], false, none, false⟩, #[(some (.ref 640)), none, (some (.str (.ofString "Wildcard") 1046)), (some (.str (.ofString "Wildcard") 1054)), (some (.builtin "object.__new__")), (some (.bool true))]⟩
noncomputable def o742 (_ : Params) : Obj := ⟨(.type "super"), none, .fields #[(.ref 741), (.ref 741), (.ref 741)], #[]⟩
noncomputable def o743 (_ : Params) : Obj := ⟨(.type "builtin_function_or_method"), none, .fields #[(.builtin "object.__init_subclass__"), (.ref 741)], #[]⟩
noncomputable def t8 (P : Params) : BT := (.node (boot_o_0 P) (.node (boot_o_1 P) (.node (o3v7 P) (.node (boot_o_7 P) (.node (o11 P) (.node (o11 P) (.node (o12 P) (.node (o12 P) (.node (o11 P) (.node (o11 P) .nil .nil) .nil) (.node (o383 P) (.node (o639 P) .nil .nil) .nil)) (.node (o23 P) (.node (o319 P) (.node (o575 P) .nil .nil) .nil) (.node (o154 P) (.node (o703 P) .nil .nil) .nil))) (.node (o11 P) (.node (o159 P) (.node (o287 P) (.node (o543 P) .nil .nil) .nil) (.node (o415 P) (.node (o11 P) .nil .nil) .nil)) (.node (o223 P) (.node (o351 P) (.node (o11 P) .nil .nil) .nil) (.node (o479 P) (.node (o11 P) .nil .nil) .nil)))) (.node (o47 P) (.node (o79 P) (.node (o11 P) (.node (o12 P) (.node (o527 P) .nil .nil) .nil) (.node (o11 P) (.node (o655 P) .nil .nil) .nil)) (.node (o11 P) (.node (o335 P) (.node (o591 P) .nil .nil) .nil) (.node (o463 P) (.node (o12 P) .nil .nil) .nil))) (.node (o111 P) (.node (o175 P) (.node (o303 P) (.node (o559 P) .nil .nil) .nil) (.node (o12 P) (.node (o687 P) .nil .nil) .nil)) (.node (o239 P) (.node (o367 P) (.node (o623 P) .nil .nil) .nil) (.node (o12 P) .nil .nil))))) (.node (o23 P) (.node (o11 P) (.node (o71 P) (.node (o135 P) (.node (o11 P) (.node (o519 P) .nil .nil) .nil) (.node (o11 P) (.node (o647 P) .nil .nil) .nil)) (.node (o199 P) (.node (o11 P) (.node (o583 P) .nil .nil) .nil) (.node (o455 P) (.node (o11 P) .nil .nil) .nil))) (.node (o11 P) (.node (o167 P) (.node (o11 P) (.node (o551 P) .nil .nil) .nil) (.node (o423 P) (.node (o11 P) .nil .nil) .nil)) (.node (o231 P) (.node (o11 P) (.node (o12 P) .nil .nil) .nil) (.node (o11 P) (.node (o743 P) .nil .nil) .nil)))) (.node (o11 P) (.node (o87 P) (.node (o151 P) (.node (o12 P) (.node (o535 P) .nil .nil) .nil) (.node (o12 P) (.node (o663 P) .nil .nil) .nil)) (.node (o11 P) (.node (o12 P) (.node (o599 P) .nil .nil) .nil) (.node (o471 P) (.node (o727 P) .nil .nil) .nil))) (.node (o11 P) (.node (o11 P) (.node (o311 P) (.node (o11 P) .nil .nil) .nil) (.node (o439 P) (.node (o695 P) .nil .nil) .nil)) (.node (o247 P) (.node (o375 P) (.node (o11 P) .nil .nil) .nil) (.node (o503 P) .nil .nil)))))) (.node (o11 P) (.node (o19 P) (.node (o35 P) (.node (o67 P) (.node (o131 P) (.node (o259 P) (.node (o11 P) .nil .nil) .nil) (.node (o11 P) (.node (o643 P) .nil .nil) .nil)) (.node (o195 P) (.node (o251 P) (.node (o579 P) .nil .nil) .nil) (.node (o451 P) (.node (o707 P) .nil .nil) .nil))) (.node (o99 P) (.node (o12 P) (.node (o291 P) (.node (o547 P) .nil .nil) .nil) (.node (o419 P) (.node (o675 P) .nil .nil) .nil)) (.node (o11 P) (.node (o355 P) (.node (o611 P) .nil .nil) .nil) (.node (o11 P) (.node (o739 P) .nil .nil) .nil)))) (.node (o11 P) (.node (o83 P) (.node (o11 P) (.node (o275 P) (.node (o531 P) .nil .nil) .nil) (.node (o403 P) (.node (o659 P) .nil .nil) .nil)) (.node (o211 P) (.node (o339 P) (.node (o595 P) .nil .nil) .nil) (.node (o12 P) (.node (o723 P) .nil .nil) .nil))) (.node (o11 P) (.node (o179 P) (.node (o307 P) (.node (o563 P) .nil .nil) .nil) (.node (o435 P) (.node (o12 P) .nil .nil) .nil)) (.node (o12 P) (.node (o371 P) (.node (o627 P) .nil .nil) .nil) (.node (o499 P) .nil .nil))))) (.node (o27 P) (.node (o11 P) (.node (o12 P) (.node (o139 P) (.node (o267 P) (.node (o12 P) .nil .nil) .nil) (.node (o395 P) (.node (o12 P) .nil .nil) .nil)) (.node (o203 P) (.node (o11 P) (.node (o12 P) .nil .nil) .nil) (.node (o11 P) (.node (o715 P) .nil .nil) .nil))) (.node (o11 P) (.node (o171 P) (.node (o11 P) (.node (o11 P) .nil .nil) .nil) (.node (o427 P) (.node (o683 P) .nil .nil) .nil)) (.node (o12 P) (.node (o11 P) (.node (o619 P) .nil .nil) .nil) (.node (o491 P) .nil .nil)))) (.node (o59 P) (.node (o11 P) (.node (o11 P) (.node (o283 P) (.node (o12 P) .nil .nil) .nil) (.node (o411 P) (.node (o11 P) .nil .nil) .nil)) (.node (o11 P) (.node (o347 P) (.node (o11 P) .nil .nil) .nil) (.node (o475 P) (.node (o731 P) .nil .nil) .nil))) (.node (o123 P) (.node (o187 P) (.node (o315 P) (.node (o11 P) .nil .nil) .nil) (.node (o443 P) (.node (o251 P) .nil .nil) .nil)) (.node (o251 P) (.node (o379 P) (.node (o635 P) .nil .nil) .nil) (.node (o507 P) .nil .nil))))))) (.node (boot_o_5 P) (.node (boot_o_9 P) (.node (o17 P) (.node (o33 P) (.node (o11 P) (.node (o11 P) (.node (o257 P) (.node (o513 P) .nil .nil) .nil) (.node (o23 P) (.node (o23 P) .nil .nil) .nil)) (.node (o11 P) (.node (o11 P) (.node (o23 P) .nil .nil) .nil) (.node (o11 P) (.node (o705 P) .nil .nil) .nil))) (.node (o97 P) (.node (o161 P) (.node (o289 P) (.node (o11 P) .nil .nil) .nil) (.node (o417 P) (.node (o673 P) .nil .nil) .nil)) (.node (o225 P) (.node (o353 P) (.node (o609 P) .nil .nil) .nil) (.node (o12 P) (.node (o737 P) .nil .nil) .nil)))) (.node (o12 P) (.node (o11 P) (.node (o145 P) (.node (o11 P) (.node (o11 P) .nil .nil) .nil) (.node (o401 P) (.node (o11 P) .nil .nil) .nil)) (.node (o209 P) (.node (o337 P) (.node (o11 P) .nil .nil) .nil) (.node (o465 P) (.node (o11 P) .nil .nil) .nil))) (.node (o12 P) (.node (o177 P) (.node (o305 P) (.node (o561 P) .nil .nil) .nil) (.node (o11 P) (.node (o154 P) .nil .nil) .nil)) (.node (o241 P) (.node (o369 P) (.node (o625 P) .nil .nil) .nil) (.node (o11 P) .nil .nil))))) (.node (o11 P) (.node (o41 P) (.node (o73 P) (.node (o137 P) (.node (o265 P) (.node (o521 P) .nil .nil) .nil) (.node (o393 P) (.node (o649 P) .nil .nil) .nil)) (.node (o201 P) (.node (o329 P) (.node (o585 P) .nil .nil) .nil) (.node (o457 P) (.node (o713 P) .nil .nil) .nil))) (.node (o105 P) (.node (o11 P) (.node (o297 P) (.node (o12 P) .nil .nil) .nil) (.node (o425 P) (.node (o681 P) .nil .nil) .nil)) (.node (o233 P) (.node (o361 P) (.node (o11 P) .nil .nil) .nil) (.node (o489 P) .nil .nil)))) (.node (o57 P) (.node (o12 P) (.node (o153 P) (.node (o11 P) (.node (o537 P) .nil .nil) .nil) (.node (o11 P) (.node (o12 P) .nil .nil) .nil)) (.node (o217 P) (.node (o11 P) (.node (o12 P) .nil .nil) .nil) (.node (o11 P) (.node (o729 P) .nil .nil) .nil))) (.node (o121 P) (.node (o185 P) (.node (o313 P) (.node (o569 P) .nil .nil) .nil) (.node (o441 P) (.node (o697 P) .nil .nil) .nil)) (.node (o249 P) (.node (o11 P) (.node (o633 P) .nil .nil) .nil) (.node (o505 P) .nil .nil)))))) (.node (o13 P) (.node (o21 P) (.node (o12 P) (.node (o11 P) (.node (o133 P) (.node (o12 P) (.node (o517 P) .nil .nil) .nil) (.node (o389 P) (.node (o645 P) .nil .nil) .nil)) (.node (o11 P) (.node (o12 P) (.node (o581 P) .nil .nil) .nil) (.node (o453 P) (.node (o709 P) .nil .nil) .nil))) (.node (o12 P) (.node (o11 P) (.node (o12 P) (.node (o549 P) .nil .nil) .nil) (.node (o23 P) (.node (o677 P) .nil .nil) .nil)) (.node (o229 P) (.node (o12 P) (.node (o613 P) .nil .nil) .nil) (.node (o485 P) (.node (o741 P) .nil .nil) .nil)))) (.node (o53 P) (.node (o85 P) (.node (o149 P) (.node (o154 P) (.node (o533 P) .nil .nil) .nil) (.node (o405 P) (.node (o661 P) .nil .nil) .nil)) (.node (o12 P) (.node (o341 P) (.node (o597 P) .nil .nil) .nil) (.node (o11 P) (.node (o11 P) .nil .nil) .nil))) (.node (o117 P) (.node (o181 P) (.node (o309 P) (.node (o23 P) .nil .nil) .nil) (.node (o11 P) (.node (o11 P) .nil .nil) .nil)) (.node (o11 P) (.node (o373 P) (.node (o12 P) .nil .nil) .nil) (.node (o11 P) .nil .nil))))) (.node (o11 P) (.node (o45 P) (.node (o11 P) (.node (o23 P) (.node (o251 P) (.node (o11 P) .nil .nil) .nil) (.node (o397 P) (.node (o11 P) .nil .nil) .nil)) (.node (o12 P) (.node (o333 P) (.node (o11 P) .nil .nil) .nil) (.node (o461 P) (.node (o717 P) .nil .nil) .nil))) (.node (o109 P) (.node (o173 P) (.node (o301 P) (.node (o557 P) .nil .nil) .nil) (.node (o429 P) (.node (o685 P) .nil .nil) .nil)) (.node (o11 P) (.node (o365 P) (.node (o11 P) .nil .nil) .nil) (.node (o493 P) .nil .nil)))) (.node (o61 P) (.node (o93 P) (.node (o157 P) (.node (o11 P) (.node (o11 P) .nil .nil) .nil) (.node (o11 P) (.node (o669 P) .nil .nil) .nil)) (.node (o221 P) (.node (o11 P) (.node (o605 P) .nil .nil) .nil) (.node (o477 P) (.node (o12 P) .nil .nil) .nil))) (.node (o125 P) (.node (o189 P) (.node (o11 P) (.node (o573v1 P) .nil .nil) .nil) (.node (o445 P) (.node (o11 P) .nil .nil) .nil)) (.node (o12 P) (.node (o381 P) (.node (o637 P) .nil .nil) .nil) (.node (o12 P) .nil .nil)))))))) (.node (boot_o_2 P) (.node (boot_o_4 P) (.node (boot_o_8 P) (.node (o12 P) (.node (o12 P) (.node (o64 P) (.node (o128 P) (.node (o256 P) (.node (o512 P) .nil .nil) .nil) (.node (o11 P) (.node (o576 P) .nil .nil) .nil)) (.node (o192 P) (.node (o320 P) (.node (o576 P) .nil .nil) .nil) (.node (o448 P) (.node (o11 P) .nil .nil) .nil))) (.node (o12 P) (.node (o160 P) (.node (o11 P) (.node (o544 P) .nil .nil) .nil) (.node (o416 P) (.node (o12 P) .nil .nil) .nil)) (.node (o224 P) (.node (o11 P) (.node (o12 P) .nil .nil) .nil) (.node (o11 P) (.node (o736 P) .nil .nil) .nil)))) (.node (o11 P) (.node (o80 P) (.node (o144 P) (.node (o272 P) (.node (o528 P) .nil .nil) .nil) (.node (o12 P) (.node (o656 P) .nil .nil) .nil)) (.node (o208 P) (.node (o336 P) (.node (o592 P) .nil .nil) .nil) (.node (o464 P) (.node (o720 P) .nil .nil) .nil))) (.node (o11 P) (.node (o176 P) (.node (o304 P) (.node (o560 P) .nil .nil) .nil) (.node (o432 P) (.node (o251 P) .nil .nil) .nil)) (.node (o240 P) (.node (o368 P) (.node (o11 P) .nil .nil) .nil) (.node (o496 P) .nil .nil))))) (.node (o24 P) (.node (o40 P) (.node (o72 P) (.node (o136 P) (.node (o264 P) (.node (o520 P) .nil .nil) .nil) (.node (o12 P) (.node (o648 P) .nil .nil) .nil)) (.node (o11 P) (.node (o328 P) (.node (o154 P) .nil .nil) .nil) (.node (o456 P) (.node (o12 P) .nil .nil) .nil))) (.node (o104 P) (.node (o168 P) (.node (o296 P) (.node (o11 P) .nil .nil) .nil) (.node (o11 P) (.node (o12 P) .nil .nil) .nil)) (.node (o232 P) (.node (o360 P) (.node (o616 P) .nil .nil) .nil) (.node (o12 P) .nil .nil)))) (.node (o12 P) (.node (o11 P) (.node (o152 P) (.node (o280 P) (.node (o11 P) .nil .nil) .nil) (.node (o408 P) (.node (o11 P) .nil .nil) .nil)) (.node (o216 P) (.node (o344 P) (.node (o11 P) .nil .nil) .nil) (.node (o472 P) (.node (o11 P) .nil .nil) .nil))) (.node (o12 P) (.node (o12 P) (.node (o312 P) (.node (o12 P) .nil .nil) .nil) (.node (o11 P) (.node (o696 P) .nil .nil) .nil)) (.node (o248 P) (.node (o376 P) (.node (o632 P) .nil .nil) .nil) (.node (o11 P) .nil .nil)))))) (.node (o12v8 P) (.node (o20 P) (.node (o11 P) (.node (o68 P) (.node (o132 P) (.node (o11 P) (.node (o12 P) .nil .nil) .nil) (.node (o388 P) (.node (o11 P) .nil .nil) .nil)) (.node (o196 P) (.node (o11 P) (.node (o11 P) .nil .nil) .nil) (.node (o11 P) (.node (o708 P) .nil .nil) .nil))) (.node (o11 P) (.node (o164 P) (.node (o11 P) (.node (o11 P) .nil .nil) .nil) (.node (o420 P) (.node (o676 P) .nil .nil) .nil)) (.node (o12 P) (.node (o11 P) (.node (o612 P) .nil .nil) .nil) (.node (o484 P) (.node (o740 P) .nil .nil) .nil)))) (.node (o52 P) (.node (o11 P) (.node (o12 P) (.node (o276 P) (.node (o11 P) .nil .nil) .nil) (.node (o404 P) (.node (o11 P) .nil .nil) .nil)) (.node (o11 P) (.node (o251 P) (.node (o11 P) .nil .nil) .nil) (.node (o468 P) (.node (o724 P) .nil .nil) .nil))) (.node (o116 P) (.node (o180 P) (.node (o308v2 P) (.node (o420 P) .nil .nil) .nil) (.node (o436 P) (.node (o692 P) .nil .nil) .nil)) (.node (o11 P) (.node (o372 P) (.node (o11 P) .nil .nil) .nil) (.node (o500 P) .nil .nil))))) (.node (o28 P) (.node (o12 P) (.node (o76 P) (.node (o11 P) (.node (o268 P) (.node (o524 P) .nil .nil) .nil) (.node (o396 P) (.node (o652 P) .nil .nil) .nil)) (.node (o11 P) (.node (o12 P) (.node (o588 P) .nil .nil) .nil) (.node (o12 P) (.node (o716 P) .nil .nil) .nil))) (.node (o12 P) (.node (o11 P) (.node (o12 P) (.node (o556 P) .nil .nil) .nil) (.node (o154 P) (.node (o684 P) .nil .nil) .nil)) (.node (o236 P) (.node (o12 P) (.node (o620 P) .nil .nil) .nil) (.node (o492 P) .nil .nil)))) (.node (o60 P) (.node (o92 P) (.node (o12 P) (.node (o284 P) (.node (o540 P) .nil .nil) .nil) (.node (o412 P) (.node (o668 P) .nil .nil) .nil)) (.node (o12 P) (.node (o348 P) (.node (o604 P) .nil .nil) .nil) (.node (o11 P) (.node (o11 P) .nil .nil) .nil))) (.node (o124 P) (.node (o188 P) (.node (o316 P) (.node (o572 P) .nil .nil) .nil) (.node (o444 P) (.node (o154 P) .nil .nil) .nil)) (.node (o11 P) (.node (o380 P) (.node (o636 P) .nil .nil) .nil) (.node (o11 P) .nil .nil))))))) (.node (boot_o_6 P) (.node (boot_o_10 P) (.node (o11 P) (.node (o34 P) (.node (o66 P) (.node (o130 P) (.node (o258 P) (.node (o514 P) .nil .nil) .nil) (.node (o386 P) (.node (o642 P) .nil .nil) .nil)) (.node (o194 P) (.node (o322 P) (.node (o578 P) .nil .nil) .nil) (.node (o12 P) (.node (o706 P) .nil .nil) .nil))) (.node (o98 P) (.node (o11 P) (.node (o290 P) (.node (o12 P) .nil .nil) .nil) (.node (o418 P) (.node (o11 P) .nil .nil) .nil)) (.node (o226 P) (.node (o354 P) (.node (o11 P) .nil .nil) .nil) (.node (o482 P) (.node (o738 P) .nil .nil) .nil)))) (.node (o50 P) (.node (o12 P) (.node (o146 P) (.node (o274 P) (.node (o12 P) .nil .nil) .nil) (.node (o11 P) (.node (o12 P) .nil .nil) .nil)) (.node (o210 P) (.node (o338 P) (.node (o12 P) .nil .nil) .nil) (.node (o11 P) (.node (o722 P) .nil .nil) .nil))) (.node (o114 P) (.node (o178 P) (.node (o306 P) (.node (o562 P) .nil .nil) .nil) (.node (o434 P) (.node (o11 P) .nil .nil) .nil)) (.node (o11 P) (.node (o370 P) (.node (o626 P) .nil .nil) .nil) (.node (o498 P) .nil .nil))))) (.node (o26 P) (.node (o42 P) (.node (o11 P) (.node (o138 P) (.node (o266 P) (.node (o11 P) .nil .nil) .nil) (.node (o11 P) (.node (o650 P) .nil .nil) .nil)) (.node (o202 P) (.node (o330 P) (.node (o586 P) .nil .nil) .nil) (.node (o251 P) (.node (o11 P) .nil .nil) .nil))) (.node (o106 P) (.node (o12 P) (.node (o298 P) (.node (o554 P) .nil .nil) .nil) (.node (o426 P) (.node (o11 P) .nil .nil) .nil)) (.node (o11 P) (.node (o362 P) (.node (o618 P) .nil .nil) .nil) (.node (o11 P) .nil .nil)))) (.node (o11 P) (.node (o90 P) (.node (o154 P) (.node (o282 P) (.node (o11 P) .nil .nil) .nil) (.node (o410 P) (.node (o666 P) .nil .nil) .nil)) (.node (o218 P) (.node (o346 P) (.node (o602 P) .nil .nil) .nil) (.node (o12 P) (.node (o730 P) .nil .nil) .nil))) (.node (o11 P) (.node (o11 P) (.node (o23 P) (.node (o570 P) .nil .nil) .nil) (.node (o442 P) (.node (o698 P) .nil .nil) .nil)) (.node (o250 P) (.node (o378 P) (.node (o634 P) .nil .nil) .nil) (.node (o506 P) .nil .nil)))))) (.node (o14 P) (.node (o11 P) (.node (o38 P) (.node (o12 P) (.node (o134 P) (.node (o11 P) (.node (o11 P) .nil .nil) .nil) (.node (o390 P) (.node (o646 P) .nil .nil) .nil)) (.node (o12 P) (.node (o326 P) (.node (o582 P) .nil .nil) .nil) (.node (o454 P) (.node (o251 P) .nil .nil) .nil))) (.node (o102 P) (.node (o166 P) (.node (o294 P) (.node (o550 P) .nil .nil) .nil) (.node (o422 P) (.node (o154 P) .nil .nil) .nil)) (.node (o11 P) (.node (o358 P) (.node (o11 P) .nil .nil) .nil) (.node (o486 P) (.node (o742 P) .nil .nil) .nil)))) (.node (o54 P) (.node (o86 P) (.node (o11 P) (.node (o11 P) (.node (o534 P) .nil .nil) .nil) (.node (o11 P) (.node (o662 P) .nil .nil) .nil)) (.node (o214 P) (.node (o342 P) (.node (o598 P) .nil .nil) .nil) (.node (o470 P) (.node (o12 P) .nil .nil) .nil))) (.node (o118 P) (.node (o182 P) (.node (o310 P) (.node (o566 P) .nil .nil) .nil) (.node (o12 P) (.node (o694 P) .nil .nil) .nil)) (.node (o246 P) (.node (o374 P) (.node (o630 P) .nil .nil) .nil) (.node (o12 P) .nil .nil))))) (.node (o30 P) (.node (o46 P) (.node (o78 P) (.node (o142 P) (.node (o11 P) (.node (o526 P) .nil .nil) .nil) (.node (o398 P) (.node (o654 P) .nil .nil) .nil)) (.node (o206 P) (.node (o11 P) (.node (o590 P) .nil .nil) .nil) (.node (o11 P) (.node (o11 P) .nil .nil) .nil))) (.node (o110 P) (.node (o174 P) (.node (o11 P) (.node (o558 P) .nil .nil) .nil) (.node (o430 P) (.node (o686 P) .nil .nil) .nil)) (.node (o238 P) (.node (o11 P) (.node (o12 P) .nil .nil) .nil) (.node (o11 P) .nil .nil)))) (.node (o11 P) (.node (o94 P) (.node (o11 P) (.node (o12 P) (.node (o542 P) .nil .nil) .nil) (.node (o414 P) (.node (o670 P) .nil .nil) .nil)) (.node (o11 P) (.node (o12 P) (.node (o606 P) .nil .nil) .nil) (.node (o478 P) (.node (o734 P) .nil .nil) .nil))) (.node (o11 P) (.node (o11 P) (.node (o318 P) (.node (o574 P) .nil .nil) .nil) (.node (o251 P) (.node (o12 P) .nil .nil) .nil)) (.node (o254 P) (.node (o382 P) (.node (o638 P) .nil .nil) .nil) (.node (o510 P) .nil .nil)))))))))
noncomputable def s8 (w : World) (os : OsState) : SharedT := ⟨t8 w.params, 744, {}, #[], {}, 1191, os⟩
noncomputable def g8 : List Stmt := [stmtAt PySem.Challenge.pw_ak0016_01.main.body 12]
theorem pc8 (p : Program) (b : List Stmt) (w : World) (os : OsState) : segRunT treeTable p w 11 ann9 1 1044 (s7 w os) (piecesOf g8 env9 (cd9 b) ⟨485, 0, 528, 84⟩ B9) = some (.next, s8 w os, cd9 b, ⟨529, 0, 605, 114⟩) := by
  rw [PySem.W.Fast.te10110043849684766642, PySem.W.Fast.te14364793385576792824]; kernel_rfl
noncomputable def o3v8 (P : Params) : Obj := ⟨(.type "dict"), none, .dict #[de P (.ofString "__name__") 165 (.str (.ofString "matchpy.expressions.substitution") 1216), de P (.ofString "__doc__") 166 .none, de P (.ofString "__package__") 167 .none, de P (.ofString "__loader__") 168 (.builtin "__main__.__loader__#opaque"), de P (.ofString "__spec__") 169 .none, de P (.ofString "__annotations__") 170 (.ref 6), de P (.ofString "__builtins__") 171 (.ref 4), de P (.ofString "__file__") 173 (.str (.ofString "/claim/cut.py") 172), de P (.ofString "__cached__") 174 .none, de P (.ofString "_wall") 193 (.ref 21), de P (.ofString "Multiset") 342 (.ref 135), de P (.ofString "_tuplegetter") 401 (.ref 178), de P (.ofString "_sort") 410 (.ref 189), de P (.ofString "Expression") 571 (.ref 308), de P (.ofString "Arity") 686 (.ref 380), de P (.ofString "_OperationMeta") 744 (.ref 415), de P (.ofString "Operation") 949 (.ref 561), de P (.ofString "Atom") 967 (.ref 573), de P (.ofString "Symbol") 1045 (.ref 637), de P (.ofString "Wildcard") 1190 (.ref 741), de P (.ofString "create_operation_expression") 1201 (.ref 751), de P (.ofString "op_iter") 1208 (.ref 758), de P (.ofString "op_len") 1215 (.ref 765), de P (.ofString "Substitution") 1339 (.ref 853)] 24, #[]⟩
noncomputable def o12v9 (_ : Params) : Obj := fldO [(.int 1 0), (.int 0 0), (.ref 20), (.int 5 0), (.int 0 0), (.ref 27), (.int 89 0), (.int 0 0), (.ref 145), (.int 107 0), (.int 0 0), (.ref 188), (.int 114 0), (.int 0 0), (.ref 195), (.int 228 0), (.int 0 0), (.ref 319), (.int 270 0), (.int 0 0), (.ref 389), (.int 317 0), (.int 0 0), (.ref 426), (.int 483 0), (.int 0 0), (.ref 569), (.int 485 0), (.int 0 0), (.ref 582), (.int 529 0), (.int 0 0), (.ref 646), (.int 607 0), (.int 0 0), (.ref 750), (.int 611 0), (.int 0 0), (.ref 757), (.int 615 0), (.int 0 0), (.ref 764), (.int 618 0), (.int 0 0), (.ref 771)]
noncomputable def o744 (_ : Params) : Obj := tupO [(.bool true)]
noncomputable def o747 (_ : Params) : Obj := tupO [(.str (.ofString "old_operation") 1196), (.str (.ofString "new_operands") 1197), (.str (.ofString "variable_name") 1198)]
noncomputable def o749 (_ : Params) : Obj := fn0 (.ofString "create_operation_expression") (.ofString "create_operation_expression") fp14
noncomputable def o750 (_ : Params) : Obj := cdO (.ofString "create_operation_expression") (.ofString "create_operation_expression") 1193 607 3 0 0 3 745 true 746 .none (.ref 747) (.ref 748) (.ref 749) 1199 1200
noncomputable def o751 (_ : Params) : Obj := fnO (.ofString "create_operation_expression") (.ofString "create_operation_expression") fp14 (.ref 744) .none .none (.str (.ofString "matchpy.expressions.functions") 1191) 750
noncomputable def o754 (_ : Params) : Obj := tupO [(.str (.ofString "operation") 1205)]
noncomputable def o756 (_ : Params) : Obj := fn0 (.ofString "op_iter") (.ofString "op_iter") fp15
noncomputable def o757 (_ : Params) : Obj := cdO (.ofString "op_iter") (.ofString "op_iter") 1202 611 1 0 0 3 752 true 753 .none (.ref 754) (.ref 755) (.ref 756) 1206 1207
noncomputable def o758 (_ : Params) : Obj := fnO (.ofString "op_iter") (.ofString "op_iter") fp15 .none .none .none (.str (.ofString "matchpy.expressions.functions") 1191) 757
noncomputable def o761 (_ : Params) : Obj := tupO [(.str (.ofString "operation") 1212)]
noncomputable def o763 (_ : Params) : Obj := fn0 (.ofString "op_len") (.ofString "op_len") fp16
noncomputable def o764 (_ : Params) : Obj := cdO (.ofString "op_len") (.ofString "op_len") 1209 615 1 0 0 3 759 true 760 .none (.ref 761) (.ref 762) (.ref 763) 1213 1214
noncomputable def o765 (_ : Params) : Obj := fnO (.ofString "op_len") (.ofString "op_len") fp16 .none .none .none (.str (.ofString "matchpy.expressions.functions") 1191) 764
noncomputable def o768 (P : Params) : Obj := ⟨(.type "dict"), none, .dict #[de P (.ofString "__module__") 1225 (.str (.ofString "matchpy.expressions.substitution") 1216), de P (.ofString "__qualname__") 1227 (.str (.ofString "Substitution") 1226), de P (.ofString "__firstlineno__") 1229 (.int 618 1228), de P (.ofString "__doc__") 1231 (docC 18 1230), de P (.ofString "__init__") 1242 (.ref 780), de P (.ofString "__contains__") 1250 (.ref 787), de P (.ofString "__getitem__") 1258 (.ref 794), de P (.ofString "__setitem__") 1267 (.ref 801), de P (.ofString "__len__") 1274 (.ref 808), de P (.ofString "items") 1281 (.ref 815), de P (.ofString "try_add_variable") 1293 (.ref 822), de P (.ofString "union_with_variable") 1302 (.ref 829), de P (.ofString "extract_substitution") 1315 (.ref 836), de P (.ofString "union") 1323 (.ref 843), de P (.ofString "rename") 1331 (.ref 850), de P (.ofString "__static_attributes__") 1333 (.ref 851)] 16, #[]⟩
noncomputable def o770 (_ : Params) : Obj := fldO [(.int 624 0), (.int 4 0), (.ref 779), (.int 630 0), (.int 4 0), (.ref 786), (.int 633 0), (.int 4 0), (.ref 793), (.int 636 0), (.int 4 0), (.ref 800), (.int 639 0), (.int 4 0), (.ref 807), (.int 642 0), (.int 4 0), (.ref 814), (.int 645 0), (.int 4 0), (.ref 821), (.int 691 0), (.int 4 0), (.ref 828), (.int 694 0), (.int 4 0), (.ref 835), (.int 757 0), (.int 4 0), (.ref 842), (.int 760 0), (.int 4 0), (.ref 849)]
noncomputable def o771 (_ : Params) : Obj := cdO (.ofString "Substitution") (.ofString "Substitution") 1220 618 0 0 0 0 769 false 770 .none .none .none .none 1223 1224
noncomputable def o772 (_ : Params) : Obj := ⟨(.type "frame"), none, .plain, #[(some (.ref 771)), (some (.ref 3)), (some (.ref 768)), none, (some (.str (.ofString "matchpy.expressions.substitution") 1216)), none, (some (.ref 0))]⟩
noncomputable def o776 (_ : Params) : Obj := tupO [(.str (.ofString "self") 1236), (.str (.ofString "other") 1237), (.str (.ofString "name") 1238), (.str (.ofString "value") 1239)]
noncomputable def o778 (_ : Params) : Obj := fn0 (.ofString "__init__") (.ofString "Substitution.__init__") fp18x1
noncomputable def o779 (_ : Params) : Obj := cdO (.ofString "__init__") (.ofString "Substitution.__init__") 1233 624 2 0 0 3 774 true 775 .none (.ref 776) (.ref 777) (.ref 778) 1240 1241
noncomputable def o780 (_ : Params) : Obj := fnO (.ofString "__init__") (.ofString "Substitution.__init__") fp18x1 (.ref 773) .none .none (.str (.ofString "matchpy.expressions.substitution") 1216) 779
noncomputable def o783 (_ : Params) : Obj := tupO [(.str (.ofString "self") 1246), (.str (.ofString "name") 1247)]
noncomputable def o785 (_ : Params) : Obj := fn0 (.ofString "__contains__") (.ofString "Substitution.__contains__") fp18x2
noncomputable def o786 (_ : Params) : Obj := cdO (.ofString "__contains__") (.ofString "Substitution.__contains__") 1243 630 2 0 0 3 781 true 782 .none (.ref 783) (.ref 784) (.ref 785) 1248 1249
noncomputable def o787 (_ : Params) : Obj := fnO (.ofString "__contains__") (.ofString "Substitution.__contains__") fp18x2 .none .none .none (.str (.ofString "matchpy.expressions.substitution") 1216) 786
noncomputable def o790 (_ : Params) : Obj := tupO [(.str (.ofString "self") 1254), (.str (.ofString "name") 1255)]
noncomputable def o792 (_ : Params) : Obj := fn0 (.ofString "__getitem__") (.ofString "Substitution.__getitem__") fp18x3
noncomputable def o793 (_ : Params) : Obj := cdO (.ofString "__getitem__") (.ofString "Substitution.__getitem__") 1251 633 2 0 0 3 788 true 789 .none (.ref 790) (.ref 791) (.ref 792) 1256 1257
noncomputable def o794 (_ : Params) : Obj := fnO (.ofString "__getitem__") (.ofString "Substitution.__getitem__") fp18x3 .none .none .none (.str (.ofString "matchpy.expressions.substitution") 1216) 793
noncomputable def o797 (_ : Params) : Obj := tupO [(.str (.ofString "self") 1262), (.str (.ofString "name") 1263), (.str (.ofString "value") 1264)]
noncomputable def o799 (_ : Params) : Obj := fn0 (.ofString "__setitem__") (.ofString "Substitution.__setitem__") fp18x4
noncomputable def o800 (_ : Params) : Obj := cdO (.ofString "__setitem__") (.ofString "Substitution.__setitem__") 1259 636 3 0 0 3 795 true 796 .none (.ref 797) (.ref 798) (.ref 799) 1265 1266
noncomputable def o801 (_ : Params) : Obj := fnO (.ofString "__setitem__") (.ofString "Substitution.__setitem__") fp18x4 .none .none .none (.str (.ofString "matchpy.expressions.substitution") 1216) 800
noncomputable def o804 (_ : Params) : Obj := tupO [(.str (.ofString "self") 1271)]
noncomputable def o806 (_ : Params) : Obj := fn0 (.ofString "__len__") (.ofString "Substitution.__len__") fp18x5
noncomputable def o807 (_ : Params) : Obj := cdO (.ofString "__len__") (.ofString "Substitution.__len__") 1268 639 1 0 0 3 802 true 803 .none (.ref 804) (.ref 805) (.ref 806) 1272 1273
noncomputable def o808 (_ : Params) : Obj := fnO (.ofString "__len__") (.ofString "Substitution.__len__") fp18x5 .none .none .none (.str (.ofString "matchpy.expressions.substitution") 1216) 807
noncomputable def o811 (_ : Params) : Obj := tupO [(.str (.ofString "self") 1278)]
noncomputable def o813 (_ : Params) : Obj := fn0 (.ofString "items") (.ofString "Substitution.items") fp18x6
noncomputable def o814 (_ : Params) : Obj := cdO (.ofString "items") (.ofString "Substitution.items") 1275 642 1 0 0 3 809 true 810 .none (.ref 811) (.ref 812) (.ref 813) 1279 1280
noncomputable def o815 (_ : Params) : Obj := fnO (.ofString "items") (.ofString "Substitution.items") fp18x6 .none .none .none (.str (.ofString "matchpy.expressions.substitution") 1216) 814
noncomputable def o818 (_ : Params) : Obj := tupO [(.str (.ofString "self") 1285), (.str (.ofString "variable_name") 1286), (.str (.ofString "replacement") 1287), (.str (.ofString "existing_value") 1288), (.str (.ofString "compare_value") 1289)]
noncomputable def o820 (_ : Params) : Obj := fn0 (.ofString "try_add_variable") (.ofString "Substitution.try_add_variable") fp18x7
noncomputable def o821 (_ : Params) : Obj := cdO (.ofString "try_add_variable") (.ofString "Substitution.try_add_variable") 1282 645 3 0 0 3 816 true 817 .none (.ref 818) (.ref 819) (.ref 820) 1290 1291
noncomputable def o822 (_ : Params) : Obj := fnO (.ofString "try_add_variable") (.ofString "Substitution.try_add_variable") fp18x7 .none .none (docV fp18x7 1292) (.str (.ofString "matchpy.expressions.substitution") 1216) 821
noncomputable def o825 (_ : Params) : Obj := tupO [(.str (.ofString "self") 1297), (.str (.ofString "variable") 1298), (.str (.ofString "replacement") 1299)]
noncomputable def o827 (_ : Params) : Obj := fn0 (.ofString "union_with_variable") (.ofString "Substitution.union_with_variable") fp18x8
noncomputable def o828 (_ : Params) : Obj := cdO (.ofString "union_with_variable") (.ofString "Substitution.union_with_variable") 1294 691 3 0 0 3 823 true 824 .none (.ref 825) (.ref 826) (.ref 827) 1300 1301
noncomputable def o829 (_ : Params) : Obj := fnO (.ofString "union_with_variable") (.ofString "Substitution.union_with_variable") fp18x8 .none .none .none (.str (.ofString "matchpy.expressions.substitution") 1216) 828
noncomputable def o832 (_ : Params) : Obj := tupO [(.str (.ofString "self") 1306), (.str (.ofString "subject") 1307), (.str (.ofString "pattern") 1308), (.str (.ofString "op_expression") 1309), (.str (.ofString "subj") 1310), (.str (.ofString "patt") 1311)]
noncomputable def o834 (_ : Params) : Obj := fn0 (.ofString "extract_substitution") (.ofString "Substitution.extract_substitution") fp18x9
noncomputable def o835 (_ : Params) : Obj := cdO (.ofString "extract_substitution") (.ofString "Substitution.extract_substitution") 1303 694 3 0 0 3 830 true 831 .none (.ref 832) (.ref 833) (.ref 834) 1312 1313
noncomputable def o836 (_ : Params) : Obj := fnO (.ofString "extract_substitution") (.ofString "Substitution.extract_substitution") fp18x9 .none .none (docV fp18x9 1314) (.str (.ofString "matchpy.expressions.substitution") 1216) 835
noncomputable def o839 (_ : Params) : Obj := tupO [(.str (.ofString "self") 1319), (.str (.ofString "others") 1320)]
noncomputable def o841 (_ : Params) : Obj := fn0 (.ofString "union") (.ofString "Substitution.union") fp18x10
noncomputable def o842 (_ : Params) : Obj := cdO (.ofString "union") (.ofString "Substitution.union") 1316 757 1 0 0 7 837 true 838 .none (.ref 839) (.ref 840) (.ref 841) 1321 1322
noncomputable def o843 (_ : Params) : Obj := fnO (.ofString "union") (.ofString "Substitution.union") fp18x10 .none .none .none (.str (.ofString "matchpy.expressions.substitution") 1216) 842
noncomputable def o846 (_ : Params) : Obj := tupO [(.str (.ofString "self") 1327), (.str (.ofString "renaming") 1328)]
noncomputable def o848 (_ : Params) : Obj := fn0 (.ofString "rename") (.ofString "Substitution.rename") fp18x11
noncomputable def o849 (_ : Params) : Obj := cdO (.ofString "rename") (.ofString "Substitution.rename") 1324 760 2 0 0 3 844 true 845 .none (.ref 846) (.ref 847) (.ref 848) 1329 1330
noncomputable def o850 (_ : Params) : Obj := fnO (.ofString "rename") (.ofString "Substitution.rename") fp18x11 .none .none .none (.str (.ofString "matchpy.expressions.substitution") 1216) 849
noncomputable def o851 (_ : Params) : Obj := tupO [(.str (.ofString "rows") 1332)]
noncomputable def o852 (P : Params) : Obj := ⟨(.type "dict"), none, .dict #[de P (.ofString "__module__") 1225 (.str (.ofString "matchpy.expressions.substitution") 1216), de P (.ofString "__firstlineno__") 1229 (.int 618 1228), de P (.ofString "__doc__") 1231 (docC 18 1230), de P (.ofString "__init__") 1242 (.ref 780), de P (.ofString "__contains__") 1250 (.ref 787), de P (.ofString "__getitem__") 1258 (.ref 794), de P (.ofString "__setitem__") 1267 (.ref 801), de P (.ofString "__len__") 1274 (.ref 808), de P (.ofString "items") 1281 (.ref 815), de P (.ofString "try_add_variable") 1293 (.ref 822), de P (.ofString "union_with_variable") 1302 (.ref 829), de P (.ofString "extract_substitution") 1315 (.ref 836), de P (.ofString "union") 1323 (.ref 843), de P (.ofString "rename") 1331 (.ref 850), de P (.ofString "__static_attributes__") 1333 (.ref 851), de P (.ofString "__dict__") 1335 (.ref 854), de P (.ofString "__weakref__") 1337 (.ref 855)] 3, #[]⟩
noncomputable def o853 (_ : Params) : Obj := ⟨(.type "type"), none, .cls ⟨(.ofString "Substitution"), [(.type "object")], [(.ref 853), (.type "object")], 852, (.ofString "Substitution"), true, [], [], false, none, false⟩, #[none, none, (some (.str (.ofString "Substitution") 1218)), (some (.str (.ofString "Substitution") 1226)), (some (.builtin "object.__new__")), (some (.bool true))]⟩
noncomputable def o854 (_ : Params) : Obj := ⟨(.type "getset_descriptor"), none, .fields #[(.str (.ofString "__dict__") 1334), (.ref 853), (.builtin "function.__dict__"), (.builtin "function.__dict__#set")], #[]⟩
noncomputable def o855 (_ : Params) : Obj := ⟨(.type "getset_descriptor"), none, .fields #[(.str (.ofString "__weakref__") 1336), (.ref 853), (.builtin "ExceptionGroup.__weakref__"), .none], #[]⟩
noncomputable def o856 (_ : Params) : Obj := ⟨(.type "super"), none, .fields #[(.ref 853), (.ref 853), (.ref 853)], #[]⟩
noncomputable def o857 (_ : Params) : Obj := ⟨(.type "builtin_function_or_method"), none, .fields #[(.builtin "object.__init_subclass__"), (.ref 853)], #[]⟩
noncomputable def t9 (P : Params) : BT := (.node (boot_o_0 P) (.node (boot_o_1 P) (.node (o3v8 P) (.node (boot_o_7 P) (.node (o11 P) (.node (o11 P) (.node (o12 P) (.node (o12 P) (.node (o11 P) (.node (o11 P) .nil .nil) (.node (o23 P) .nil .nil)) (.node (o383 P) (.node (o639 P) .nil .nil) .nil)) (.node (o23 P) (.node (o319 P) (.node (o575 P) .nil .nil) (.node (o12 P) .nil .nil)) (.node (o154 P) (.node (o703 P) .nil .nil) .nil))) (.node (o11 P) (.node (o159 P) (.node (o287 P) (.node (o543 P) .nil .nil) (.node (o799 P) .nil .nil)) (.node (o415 P) (.node (o11 P) .nil .nil) .nil)) (.node (o223 P) (.node (o351 P) (.node (o11 P) .nil .nil) .nil) (.node (o479 P) (.node (o11 P) .nil .nil) .nil)))) (.node (o47 P) (.node (o79 P) (.node (o11 P) (.node (o12 P) (.node (o527 P) .nil .nil) (.node (o783 P) .nil .nil)) (.node (o11 P) (.node (o655 P) .nil .nil) .nil)) (.node (o11 P) (.node (o335 P) (.node (o591 P) .nil .nil) (.node (o11 P) .nil .nil)) (.node (o463 P) (.node (o12 P) .nil .nil) .nil))) (.node (o111 P) (.node (o175 P) (.node (o303 P) (.node (o559 P) .nil .nil) (.node (o815 P) .nil .nil)) (.node (o12 P) (.node (o687 P) .nil .nil) .nil)) (.node (o239 P) (.node (o367 P) (.node (o623 P) .nil .nil) .nil) (.node (o12 P) (.node (o751 P) .nil .nil) .nil))))) (.node (o23 P) (.node (o11 P) (.node (o71 P) (.node (o135 P) (.node (o11 P) (.node (o519 P) .nil .nil) (.node (o12 P) .nil .nil)) (.node (o11 P) (.node (o647 P) .nil .nil) .nil)) (.node (o199 P) (.node (o11 P) (.node (o583 P) .nil .nil) (.node (o839 P) .nil .nil)) (.node (o455 P) (.node (o11 P) .nil .nil) .nil))) (.node (o11 P) (.node (o167 P) (.node (o11 P) (.node (o551 P) .nil .nil) (.node (o807 P) .nil .nil)) (.node (o423 P) (.node (o11 P) .nil .nil) .nil)) (.node (o231 P) (.node (o11 P) (.node (o12 P) .nil .nil) .nil) (.node (o11 P) (.node (o743 P) .nil .nil) .nil)))) (.node (o11 P) (.node (o87 P) (.node (o151 P) (.node (o12 P) (.node (o535 P) .nil .nil) (.node (o11 P) .nil .nil)) (.node (o12 P) (.node (o663 P) .nil .nil) .nil)) (.node (o11 P) (.node (o12 P) (.node (o599 P) .nil .nil) (.node (o855 P) .nil .nil)) (.node (o471 P) (.node (o727 P) .nil .nil) .nil))) (.node (o11 P) (.node (o11 P) (.node (o311 P) (.node (o11 P) .nil .nil) (.node (o11 P) .nil .nil)) (.node (o439 P) (.node (o695 P) .nil .nil) .nil)) (.node (o247 P) (.node (o375 P) (.node (o11 P) .nil .nil) .nil) (.node (o503 P) (.node (o11 P) .nil .nil) .nil)))))) (.node (o11 P) (.node (o19 P) (.node (o35 P) (.node (o67 P) (.node (o131 P) (.node (o259 P) (.node (o11 P) .nil .nil) (.node (o771 P) .nil .nil)) (.node (o11 P) (.node (o643 P) .nil .nil) .nil)) (.node (o195 P) (.node (o251 P) (.node (o579 P) .nil .nil) (.node (o835 P) .nil .nil)) (.node (o451 P) (.node (o707 P) .nil .nil) .nil))) (.node (o99 P) (.node (o12 P) (.node (o291 P) (.node (o547 P) .nil .nil) (.node (o12 P) .nil .nil)) (.node (o419 P) (.node (o675 P) .nil .nil) .nil)) (.node (o11 P) (.node (o355 P) (.node (o611 P) .nil .nil) .nil) (.node (o11 P) (.node (o739 P) .nil .nil) .nil)))) (.node (o11 P) (.node (o83 P) (.node (o11 P) (.node (o275 P) (.node (o531 P) .nil .nil) (.node (o787 P) .nil .nil)) (.node (o403 P) (.node (o659 P) .nil .nil) .nil)) (.node (o211 P) (.node (o339 P) (.node (o595 P) .nil .nil) (.node (o851 P) .nil .nil)) (.node (o12 P) (.node (o723 P) .nil .nil) .nil))) (.node (o11 P) (.node (o179 P) (.node (o307 P) (.node (o563 P) .nil .nil) (.node (o11 P) .nil .nil)) (.node (o435 P) (.node (o12 P) .nil .nil) .nil)) (.node (o12 P) (.node (o371 P) (.node (o627 P) .nil .nil) .nil) (.node (o499 P) (.node (o11 P) .nil .nil) .nil))))) (.node (o27 P) (.node (o11 P) (.node (o12 P) (.node (o139 P) (.node (o267 P) (.node (o12 P) .nil .nil) (.node (o779 P) .nil .nil)) (.node (o395 P) (.node (o12 P) .nil .nil) .nil)) (.node (o203 P) (.node (o11 P) (.node (o12 P) .nil .nil) (.node (o843 P) .nil .nil)) (.node (o11 P) (.node (o715 P) .nil .nil) .nil))) (.node (o11 P) (.node (o171 P) (.node (o11 P) (.node (o11 P) .nil .nil) (.node (o811 P) .nil .nil)) (.node (o427 P) (.node (o683 P) .nil .nil) .nil)) (.node (o12 P) (.node (o11 P) (.node (o619 P) .nil .nil) .nil) (.node (o491 P) (.node (o747 P) .nil .nil) .nil)))) (.node (o59 P) (.node (o11 P) (.node (o11 P) (.node (o283 P) (.node (o12 P) .nil .nil) (.node (o11 P) .nil .nil)) (.node (o411 P) (.node (o11 P) .nil .nil) .nil)) (.node (o11 P) (.node (o347 P) (.node (o11 P) .nil .nil) .nil) (.node (o475 P) (.node (o731 P) .nil .nil) .nil))) (.node (o123 P) (.node (o187 P) (.node (o315 P) (.node (o11 P) .nil .nil) (.node (o827 P) .nil .nil)) (.node (o443 P) (.node (o251 P) .nil .nil) .nil)) (.node (o251 P) (.node (o379 P) (.node (o635 P) .nil .nil) .nil) (.node (o507 P) (.node (o763 P) .nil .nil) .nil))))))) (.node (boot_o_5 P) (.node (boot_o_9 P) (.node (o17 P) (.node (o33 P) (.node (o11 P) (.node (o11 P) (.node (o257 P) (.node (o513 P) .nil .nil) (.node (o11 P) .nil .nil)) (.node (o23 P) (.node (o23 P) .nil .nil) .nil)) (.node (o11 P) (.node (o11 P) (.node (o23 P) .nil .nil) (.node (o11 P) .nil .nil)) (.node (o11 P) (.node (o705 P) .nil .nil) .nil))) (.node (o97 P) (.node (o161 P) (.node (o289 P) (.node (o11 P) .nil .nil) (.node (o801 P) .nil .nil)) (.node (o417 P) (.node (o673 P) .nil .nil) .nil)) (.node (o225 P) (.node (o353 P) (.node (o609 P) .nil .nil) .nil) (.node (o12 P) (.node (o737 P) .nil .nil) .nil)))) (.node (o12 P) (.node (o11 P) (.node (o145 P) (.node (o11 P) (.node (o11 P) .nil .nil) (.node (o785 P) .nil .nil)) (.node (o401 P) (.node (o11 P) .nil .nil) .nil)) (.node (o209 P) (.node (o337 P) (.node (o11 P) .nil .nil) (.node (o849 P) .nil .nil)) (.node (o465 P) (.node (o11 P) .nil .nil) .nil))) (.node (o12 P) (.node (o177 P) (.node (o305 P) (.node (o561 P) .nil .nil) (.node (o12 P) .nil .nil)) (.node (o11 P) (.node (o154 P) .nil .nil) .nil)) (.node (o241 P) (.node (o369 P) (.node (o625 P) .nil .nil) .nil) (.node (o11 P) (.node (o12 P) .nil .nil) .nil))))) (.node (o11 P) (.node (o41 P) (.node (o73 P) (.node (o137 P) (.node (o265 P) (.node (o521 P) .nil .nil) (.node (o11 P) .nil .nil)) (.node (o393 P) (.node (o649 P) .nil .nil) .nil)) (.node (o201 P) (.node (o329 P) (.node (o585 P) .nil .nil) (.node (o841 P) .nil .nil)) (.node (o457 P) (.node (o713 P) .nil .nil) .nil))) (.node (o105 P) (.node (o11 P) (.node (o297 P) (.node (o12 P) .nil .nil) (.node (o11 P) .nil .nil)) (.node (o425 P) (.node (o681 P) .nil .nil) .nil)) (.node (o233 P) (.node (o361 P) (.node (o11 P) .nil .nil) .nil) (.node (o489 P) (.node (o11 P) .nil .nil) .nil)))) (.node (o57 P) (.node (o12 P) (.node (o153 P) (.node (o11 P) (.node (o537 P) .nil .nil) (.node (o793 P) .nil .nil)) (.node (o11 P) (.node (o12 P) .nil .nil) .nil)) (.node (o217 P) (.node (o11 P) (.node (o12 P) .nil .nil) (.node (o857 P) .nil .nil)) (.node (o11 P) (.node (o729 P) .nil .nil) .nil))) (.node (o121 P) (.node (o185 P) (.node (o313 P) (.node (o569 P) .nil .nil) (.node (o825 P) .nil .nil)) (.node (o441 P) (.node (o697 P) .nil .nil) .nil)) (.node (o249 P) (.node (o11 P) (.node (o633 P) .nil .nil) .nil) (.node (o505 P) (.node (o761 P) .nil .nil) .nil)))))) (.node (o13 P) (.node (o21 P) (.node (o12 P) (.node (o11 P) (.node (o133 P) (.node (o12 P) (.node (o517 P) .nil .nil) (.node (o154 P) .nil .nil)) (.node (o389 P) (.node (o645 P) .nil .nil) .nil)) (.node (o11 P) (.node (o12 P) (.node (o581 P) .nil .nil) (.node (o11 P) .nil .nil)) (.node (o453 P) (.node (o709 P) .nil .nil) .nil))) (.node (o12 P) (.node (o11 P) (.node (o12 P) (.node (o549 P) .nil .nil) (.node (o11 P) .nil .nil)) (.node (o23 P) (.node (o677 P) .nil .nil) .nil)) (.node (o229 P) (.node (o12 P) (.node (o613 P) .nil .nil) .nil) (.node (o485 P) (.node (o741 P) .nil .nil) .nil)))) (.node (o53 P) (.node (o85 P) (.node (o149 P) (.node (o154 P) (.node (o533 P) .nil .nil) (.node (o12 P) .nil .nil)) (.node (o405 P) (.node (o661 P) .nil .nil) .nil)) (.node (o12 P) (.node (o341 P) (.node (o597 P) .nil .nil) (.node (o853 P) .nil .nil)) (.node (o11 P) (.node (o11 P) .nil .nil) .nil))) (.node (o117 P) (.node (o181 P) (.node (o309 P) (.node (o23 P) .nil .nil) (.node (o821 P) .nil .nil)) (.node (o11 P) (.node (o11 P) .nil .nil) .nil)) (.node (o11 P) (.node (o373 P) (.node (o12 P) .nil .nil) .nil) (.node (o11 P) (.node (o757 P) .nil .nil) .nil))))) (.node (o11 P) (.node (o45 P) (.node (o11 P) (.node (o23 P) (.node (o251 P) (.node (o11 P) .nil .nil) (.node (o11 P) .nil .nil)) (.node (o397 P) (.node (o11 P) .nil .nil) .nil)) (.node (o12 P) (.node (o333 P) (.node (o11 P) .nil .nil) (.node (o12 P) .nil .nil)) (.node (o461 P) (.node (o717 P) .nil .nil) .nil))) (.node (o109 P) (.node (o173 P) (.node (o301 P) (.node (o557 P) .nil .nil) (.node (o813 P) .nil .nil)) (.node (o429 P) (.node (o685 P) .nil .nil) .nil)) (.node (o11 P) (.node (o365 P) (.node (o11 P) .nil .nil) .nil) (.node (o493 P) (.node (o749 P) .nil .nil) .nil)))) (.node (o61 P) (.node (o93 P) (.node (o157 P) (.node (o11 P) (.node (o11 P) .nil .nil) (.node (o797 P) .nil .nil)) (.node (o11 P) (.node (o669 P) .nil .nil) .nil)) (.node (o221 P) (.node (o11 P) (.node (o605 P) .nil .nil) .nil) (.node (o477 P) (.node (o12 P) .nil .nil) .nil))) (.node (o125 P) (.node (o189 P) (.node (o11 P) (.node (o573v1 P) .nil .nil) (.node (o829 P) .nil .nil)) (.node (o445 P) (.node (o11 P) .nil .nil) .nil)) (.node (o12 P) (.node (o381 P) (.node (o637 P) .nil .nil) .nil) (.node (o12 P) (.node (o765 P) .nil .nil) .nil)))))))) (.node (boot_o_2 P) (.node (boot_o_4 P) (.node (boot_o_8 P) (.node (o12 P) (.node (o12 P) (.node (o64 P) (.node (o128 P) (.node (o256 P) (.node (o512 P) .nil .nil) (.node (o768 P) .nil .nil)) (.node (o11 P) (.node (o576 P) .nil .nil) .nil)) (.node (o192 P) (.node (o320 P) (.node (o576 P) .nil .nil) (.node (o832 P) .nil .nil)) (.node (o448 P) (.node (o11 P) .nil .nil) .nil))) (.node (o12 P) (.node (o160 P) (.node (o11 P) (.node (o544 P) .nil .nil) (.node (o800 P) .nil .nil)) (.node (o416 P) (.node (o12 P) .nil .nil) .nil)) (.node (o224 P) (.node (o11 P) (.node (o12 P) .nil .nil) .nil) (.node (o11 P) (.node (o736 P) .nil .nil) .nil)))) (.node (o11 P) (.node (o80 P) (.node (o144 P) (.node (o272 P) (.node (o528 P) .nil .nil) (.node (o11 P) .nil .nil)) (.node (o12 P) (.node (o656 P) .nil .nil) .nil)) (.node (o208 P) (.node (o336 P) (.node (o592 P) .nil .nil) (.node (o848 P) .nil .nil)) (.node (o464 P) (.node (o720 P) .nil .nil) .nil))) (.node (o11 P) (.node (o176 P) (.node (o304 P) (.node (o560 P) .nil .nil) (.node (o11 P) .nil .nil)) (.node (o432 P) (.node (o251 P) .nil .nil) .nil)) (.node (o240 P) (.node (o368 P) (.node (o11 P) .nil .nil) .nil) (.node (o496 P) (.node (o11 P) .nil .nil) .nil))))) (.node (o24 P) (.node (o40 P) (.node (o72 P) (.node (o136 P) (.node (o264 P) (.node (o520 P) .nil .nil) (.node (o776 P) .nil .nil)) (.node (o12 P) (.node (o648 P) .nil .nil) .nil)) (.node (o11 P) (.node (o328 P) (.node (o154 P) .nil .nil) (.node (o11 P) .nil .nil)) (.node (o456 P) (.node (o12 P) .nil .nil) .nil))) (.node (o104 P) (.node (o168 P) (.node (o296 P) (.node (o11 P) .nil .nil) (.node (o808 P) .nil .nil)) (.node (o11 P) (.node (o12 P) .nil .nil) .nil)) (.node (o232 P) (.node (o360 P) (.node (o616 P) .nil .nil) .nil) (.node (o12 P) (.node (o744 P) .nil .nil) .nil)))) (.node (o12 P) (.node (o11 P) (.node (o152 P) (.node (o280 P) (.node (o11 P) .nil .nil) (.node (o792 P) .nil .nil)) (.node (o408 P) (.node (o11 P) .nil .nil) .nil)) (.node (o216 P) (.node (o344 P) (.node (o11 P) .nil .nil) (.node (o856 P) .nil .nil)) (.node (o472 P) (.node (o11 P) .nil .nil) .nil))) (.node (o12 P) (.node (o12 P) (.node (o312 P) (.node (o12 P) .nil .nil) (.node (o12 P) .nil .nil)) (.node (o11 P) (.node (o696 P) .nil .nil) .nil)) (.node (o248 P) (.node (o376 P) (.node (o632 P) .nil .nil) .nil) (.node (o11 P) (.node (o12 P) .nil .nil) .nil)))))) (.node (o12v9 P) (.node (o20 P) (.node (o11 P) (.node (o68 P) (.node (o132 P) (.node (o11 P) (.node (o12 P) .nil .nil) (.node (o772 P) .nil .nil)) (.node (o388 P) (.node (o11 P) .nil .nil) .nil)) (.node (o196 P) (.node (o11 P) (.node (o11 P) .nil .nil) (.node (o836 P) .nil .nil)) (.node (o11 P) (.node (o708 P) .nil .nil) .nil))) (.node (o11 P) (.node (o164 P) (.node (o11 P) (.node (o11 P) .nil .nil) (.node (o804 P) .nil .nil)) (.node (o420 P) (.node (o676 P) .nil .nil) .nil)) (.node (o12 P) (.node (o11 P) (.node (o612 P) .nil .nil) .nil) (.node (o484 P) (.node (o740 P) .nil .nil) .nil)))) (.node (o52 P) (.node (o11 P) (.node (o12 P) (.node (o276 P) (.node (o11 P) .nil .nil) (.node (o11 P) .nil .nil)) (.node (o404 P) (.node (o11 P) .nil .nil) .nil)) (.node (o11 P) (.node (o251 P) (.node (o11 P) .nil .nil) (.node (o852 P) .nil .nil)) (.node (o468 P) (.node (o724 P) .nil .nil) .nil))) (.node (o116 P) (.node (o180 P) (.node (o308v2 P) (.node (o420 P) .nil .nil) (.node (o820 P) .nil .nil)) (.node (o436 P) (.node (o692 P) .nil .nil) .nil)) (.node (o11 P) (.node (o372 P) (.node (o11 P) .nil .nil) .nil) (.node (o500 P) (.node (o756 P) .nil .nil) .nil))))) (.node (o28 P) (.node (o12 P) (.node (o76 P) (.node (o11 P) (.node (o268 P) (.node (o524 P) .nil .nil) (.node (o780 P) .nil .nil)) (.node (o396 P) (.node (o652 P) .nil .nil) .nil)) (.node (o11 P) (.node (o12 P) (.node (o588 P) .nil .nil) (.node (o11 P) .nil .nil)) (.node (o12 P) (.node (o716 P) .nil .nil) .nil))) (.node (o12 P) (.node (o11 P) (.node (o12 P) (.node (o556 P) .nil .nil) (.node (o11 P) .nil .nil)) (.node (o154 P) (.node (o684 P) .nil .nil) .nil)) (.node (o236 P) (.node (o12 P) (.node (o620 P) .nil .nil) .nil) (.node (o492 P) (.node (o11 P) .nil .nil) .nil)))) (.node (o60 P) (.node (o92 P) (.node (o12 P) (.node (o284 P) (.node (o540 P) .nil .nil) (.node (o12 P) .nil .nil)) (.node (o412 P) (.node (o668 P) .nil .nil) .nil)) (.node (o12 P) (.node (o348 P) (.node (o604 P) .nil .nil) .nil) (.node (o11 P) (.node (o11 P) .nil .nil) .nil))) (.node (o124 P) (.node (o188 P) (.node (o316 P) (.node (o572 P) .nil .nil) (.node (o828 P) .nil .nil)) (.node (o444 P) (.node (o154 P) .nil .nil) .nil)) (.node (o11 P) (.node (o380 P) (.node (o636 P) .nil .nil) .nil) (.node (o11 P) (.node (o764 P) .nil .nil) .nil))))))) (.node (boot_o_6 P) (.node (boot_o_10 P) (.node (o11 P) (.node (o34 P) (.node (o66 P) (.node (o130 P) (.node (o258 P) (.node (o514 P) .nil .nil) (.node (o770 P) .nil .nil)) (.node (o386 P) (.node (o642 P) .nil .nil) .nil)) (.node (o194 P) (.node (o322 P) (.node (o578 P) .nil .nil) (.node (o834 P) .nil .nil)) (.node (o12 P) (.node (o706 P) .nil .nil) .nil))) (.node (o98 P) (.node (o11 P) (.node (o290 P) (.node (o12 P) .nil .nil) (.node (o11 P) .nil .nil)) (.node (o418 P) (.node (o11 P) .nil .nil) .nil)) (.node (o226 P) (.node (o354 P) (.node (o11 P) .nil .nil) .nil) (.node (o482 P) (.node (o738 P) .nil .nil) .nil)))) (.node (o50 P) (.node (o12 P) (.node (o146 P) (.node (o274 P) (.node (o12 P) .nil .nil) (.node (o786 P) .nil .nil)) (.node (o11 P) (.node (o12 P) .nil .nil) .nil)) (.node (o210 P) (.node (o338 P) (.node (o12 P) .nil .nil) (.node (o850 P) .nil .nil)) (.node (o11 P) (.node (o722 P) .nil .nil) .nil))) (.node (o114 P) (.node (o178 P) (.node (o306 P) (.node (o562 P) .nil .nil) (.node (o818 P) .nil .nil)) (.node (o434 P) (.node (o11 P) .nil .nil) .nil)) (.node (o11 P) (.node (o370 P) (.node (o626 P) .nil .nil) .nil) (.node (o498 P) (.node (o754 P) .nil .nil) .nil))))) (.node (o26 P) (.node (o42 P) (.node (o11 P) (.node (o138 P) (.node (o266 P) (.node (o11 P) .nil .nil) (.node (o778 P) .nil .nil)) (.node (o11 P) (.node (o650 P) .nil .nil) .nil)) (.node (o202 P) (.node (o330 P) (.node (o586 P) .nil .nil) (.node (o842 P) .nil .nil)) (.node (o251 P) (.node (o11 P) .nil .nil) .nil))) (.node (o106 P) (.node (o12 P) (.node (o298 P) (.node (o554 P) .nil .nil) (.node (o12 P) .nil .nil)) (.node (o426 P) (.node (o11 P) .nil .nil) .nil)) (.node (o11 P) (.node (o362 P) (.node (o618 P) .nil .nil) .nil) (.node (o11 P) (.node (o12 P) .nil .nil) .nil)))) (.node (o11 P) (.node (o90 P) (.node (o154 P) (.node (o282 P) (.node (o11 P) .nil .nil) (.node (o794 P) .nil .nil)) (.node (o410 P) (.node (o666 P) .nil .nil) .nil)) (.node (o218 P) (.node (o346 P) (.node (o602 P) .nil .nil) .nil) (.node (o12 P) (.node (o730 P) .nil .nil) .nil))) (.node (o11 P) (.node (o11 P) (.node (o23 P) (.node (o570 P) .nil .nil) (.node (o11 P) .nil .nil)) (.node (o442 P) (.node (o698 P) .nil .nil) .nil)) (.node (o250 P) (.node (o378 P) (.node (o634 P) .nil .nil) .nil) (.node (o506 P) (.node (o11 P) .nil .nil) .nil)))))) (.node (o14 P) (.node (o11 P) (.node (o38 P) (.node (o12 P) (.node (o134 P) (.node (o11 P) (.node (o11 P) .nil .nil) (.node (o11 P) .nil .nil)) (.node (o390 P) (.node (o646 P) .nil .nil) .nil)) (.node (o12 P) (.node (o326 P) (.node (o582 P) .nil .nil) (.node (o12 P) .nil .nil)) (.node (o454 P) (.node (o251 P) .nil .nil) .nil))) (.node (o102 P) (.node (o166 P) (.node (o294 P) (.node (o550 P) .nil .nil) (.node (o806 P) .nil .nil)) (.node (o422 P) (.node (o154 P) .nil .nil) .nil)) (.node (o11 P) (.node (o358 P) (.node (o11 P) .nil .nil) .nil) (.node (o486 P) (.node (o742 P) .nil .nil) .nil)))) (.node (o54 P) (.node (o86 P) (.node (o11 P) (.node (o11 P) (.node (o534 P) .nil .nil) (.node (o790 P) .nil .nil)) (.node (o11 P) (.node (o662 P) .nil .nil) .nil)) (.node (o214 P) (.node (o342 P) (.node (o598 P) .nil .nil) (.node (o854 P) .nil .nil)) (.node (o470 P) (.node (o12 P) .nil .nil) .nil))) (.node (o118 P) (.node (o182 P) (.node (o310 P) (.node (o566 P) .nil .nil) (.node (o822 P) .nil .nil)) (.node (o12 P) (.node (o694 P) .nil .nil) .nil)) (.node (o246 P) (.node (o374 P) (.node (o630 P) .nil .nil) .nil) (.node (o12 P) (.node (o758 P) .nil .nil) .nil))))) (.node (o30 P) (.node (o46 P) (.node (o78 P) (.node (o142 P) (.node (o11 P) (.node (o526 P) .nil .nil) (.node (o12 P) .nil .nil)) (.node (o398 P) (.node (o654 P) .nil .nil) .nil)) (.node (o206 P) (.node (o11 P) (.node (o590 P) .nil .nil) (.node (o846 P) .nil .nil)) (.node (o11 P) (.node (o11 P) .nil .nil) .nil))) (.node (o110 P) (.node (o174 P) (.node (o11 P) (.node (o558 P) .nil .nil) (.node (o814 P) .nil .nil)) (.node (o430 P) (.node (o686 P) .nil .nil) .nil)) (.node (o238 P) (.node (o11 P) (.node (o12 P) .nil .nil) .nil) (.node (o11 P) (.node (o750 P) .nil .nil) .nil)))) (.node (o11 P) (.node (o94 P) (.node (o11 P) (.node (o12 P) (.node (o542 P) .nil .nil) (.node (o11 P) .nil .nil)) (.node (o414 P) (.node (o670 P) .nil .nil) .nil)) (.node (o11 P) (.node (o12 P) (.node (o606 P) .nil .nil) .nil) (.node (o478 P) (.node (o734 P) .nil .nil) .nil))) (.node (o11 P) (.node (o11 P) (.node (o318 P) (.node (o574 P) .nil .nil) (.node (o11 P) .nil .nil)) (.node (o251 P) (.node (o12 P) .nil .nil) .nil)) (.node (o254 P) (.node (o382 P) (.node (o638 P) .nil .nil) .nil) (.node (o510 P) (.node (o11 P) .nil .nil) .nil)))))))))
noncomputable def s9 (w : World) (os : OsState) : SharedT := ⟨t9 w.params, 858, {}, #[], {}, 1340, os⟩
noncomputable def g9 : List Stmt := [stmtAt PySem.Challenge.pw_ak0016_01.main.body 13, stmtAt PySem.Challenge.pw_ak0016_01.main.body 14, stmtAt PySem.Challenge.pw_ak0016_01.main.body 15, stmtAt PySem.Challenge.pw_ak0016_01.main.body 16, stmtAt PySem.Challenge.pw_ak0016_01.main.body 17, stmtAt PySem.Challenge.pw_ak0016_01.main.body 18]
theorem pc9 (p : Program) (b : List Stmt) (w : World) (os : OsState) : segRunT treeTable p w 11 ann9 1 706 (s8 w os) (piecesOf g9 env9 (cd9 b) ⟨529, 0, 605, 114⟩ B9) = some (.next, s9 w os, cd9 b, ⟨618, 0, 761, 17⟩) := by
  rw [PySem.W.Fast.te10110043849684766642, PySem.W.Fast.te14364793385576792824]; kernel_rfl
noncomputable def o3v9 (P : Params) : Obj := ⟨(.type "dict"), none, .dict #[de P (.ofString "__name__") 165 (.str (.ofString "law_ak0016_01") 1340), de P (.ofString "__doc__") 166 .none, de P (.ofString "__package__") 167 .none, de P (.ofString "__loader__") 168 (.builtin "__main__.__loader__#opaque"), de P (.ofString "__spec__") 169 .none, de P (.ofString "__annotations__") 170 (.ref 6), de P (.ofString "__builtins__") 171 (.ref 4), de P (.ofString "__file__") 173 (.str (.ofString "/claim/cut.py") 172), de P (.ofString "__cached__") 174 .none, de P (.ofString "_wall") 193 (.ref 21), de P (.ofString "Multiset") 342 (.ref 135), de P (.ofString "_tuplegetter") 401 (.ref 178), de P (.ofString "_sort") 410 (.ref 189), de P (.ofString "Expression") 571 (.ref 308), de P (.ofString "Arity") 686 (.ref 380), de P (.ofString "_OperationMeta") 744 (.ref 415), de P (.ofString "Operation") 949 (.ref 561), de P (.ofString "Atom") 967 (.ref 573), de P (.ofString "Symbol") 1045 (.ref 637), de P (.ofString "Wildcard") 1190 (.ref 741), de P (.ofString "create_operation_expression") 1201 (.ref 751), de P (.ofString "op_iter") 1208 (.ref 758), de P (.ofString "op_len") 1215 (.ref 765), de P (.ofString "Substitution") 1339 (.ref 853), de P (.ofString "_law_pieces") 1360 (.ref 870), de P (.ofString "_law_make") 1366 (.ref 875), de P (.ofString "_law_read") 1372 (.ref 880), de P (.ofString "_law_next") 1380 (.ref 887), de P (.ofString "_law_grown") 1389 (.ref 894), de P (.ofString "_law_filled") 1395 (.ref 899), de P (.ofString "law") 1401 (.ref 904)] 31, #[]⟩
noncomputable def o12v10 (_ : Params) : Obj := fldO [(.int 1 0), (.int 0 0), (.ref 20), (.int 5 0), (.int 0 0), (.ref 27), (.int 89 0), (.int 0 0), (.ref 145), (.int 107 0), (.int 0 0), (.ref 188), (.int 114 0), (.int 0 0), (.ref 195), (.int 228 0), (.int 0 0), (.ref 319), (.int 270 0), (.int 0 0), (.ref 389), (.int 317 0), (.int 0 0), (.ref 426), (.int 483 0), (.int 0 0), (.ref 569), (.int 485 0), (.int 0 0), (.ref 582), (.int 529 0), (.int 0 0), (.ref 646), (.int 607 0), (.int 0 0), (.ref 750), (.int 611 0), (.int 0 0), (.ref 757), (.int 615 0), (.int 0 0), (.ref 764), (.int 618 0), (.int 0 0), (.ref 771), (.int 764 0), (.int 0 0), (.ref 874), (.int 770 0), (.int 0 0), (.ref 879), (.int 774 0), (.int 0 0), (.ref 886), (.int 779 0), (.int 0 0), (.ref 893), (.int 788 0), (.int 0 0), (.ref 898), (.int 802 0), (.int 0 0), (.ref 903)]
noncomputable def o858 (_ : Params) : Obj := ⟨(.type "list"), none, .seq #[(.str (.ofString "a") 1345)] 0, #[]⟩
noncomputable def o859 (_ : Params) : Obj := tupO [(.str (.ofString "f") 1344), (.ref 858)]
noncomputable def o860 (_ : Params) : Obj := ⟨(.type "list"), none, .seq #[(.str (.ofString "a") 1347), (.str (.ofString "b") 1348)] 0, #[]⟩
noncomputable def o861 (_ : Params) : Obj := tupO [(.str (.ofString "g") 1346), (.ref 860)]
noncomputable def o862 (_ : Params) : Obj := ⟨(.type "list"), none, .seq #[(.str (.ofString "b") 1350), (.str (.ofString "a") 1351)] 0, #[]⟩
noncomputable def o863 (_ : Params) : Obj := tupO [(.str (.ofString "g") 1349), (.ref 862)]
noncomputable def o864 (_ : Params) : Obj := ⟨(.type "list"), none, .seq #[(.str (.ofString "a") 1353), (.str (.ofString "a") 1354)] 0, #[]⟩
noncomputable def o865 (_ : Params) : Obj := tupO [(.str (.ofString "g") 1352), (.ref 864)]
noncomputable def o866 (_ : Params) : Obj := ⟨(.type "list"), none, .seq #[(.str (.ofString "a") 1356)] 0, #[]⟩
noncomputable def o867 (_ : Params) : Obj := tupO [(.str (.ofString "g") 1355), (.ref 866)]
noncomputable def o868 (_ : Params) : Obj := ⟨(.type "list"), none, .seq #[(.str (.ofString "a") 1358), (.str (.ofString "b") 1359)] 0, #[]⟩
noncomputable def o869 (_ : Params) : Obj := tupO [(.str (.ofString "f") 1357), (.ref 868)]
noncomputable def o870 (_ : Params) : Obj := ⟨(.type "list"), none, .seq #[(.str (.ofString "a") 1342), (.str (.ofString "b") 1343), (.ref 859), (.ref 861), (.ref 863), (.ref 865), (.ref 867), (.ref 869)] 0, #[]⟩
noncomputable def o873 (_ : Params) : Obj := fn0 (.ofString "_law_make") (.ofString "_law_make") fp21
noncomputable def o874 (_ : Params) : Obj := cdO (.ofString "_law_make") (.ofString "_law_make") 1361 764 1 0 0 3 871 true 872 .none .none .none (.ref 873) 1364 1365
noncomputable def o875 (_ : Params) : Obj := fnO (.ofString "_law_make") (.ofString "_law_make") fp21 .none .none .none (.str (.ofString "law_ak0016_01") 1340) 874
noncomputable def o878 (_ : Params) : Obj := fn0 (.ofString "_law_read") (.ofString "_law_read") fp22
noncomputable def o879 (_ : Params) : Obj := cdO (.ofString "_law_read") (.ofString "_law_read") 1367 770 1 0 0 3 876 true 877 .none .none .none (.ref 878) 1370 1371
noncomputable def o880 (_ : Params) : Obj := fnO (.ofString "_law_read") (.ofString "_law_read") fp22 .none .none .none (.str (.ofString "law_ak0016_01") 1340) 879
noncomputable def o883 (_ : Params) : Obj := tupO [(.str (.ofString "state") 1376), (.str (.ofString "limit") 1377)]
noncomputable def o885 (_ : Params) : Obj := fn0 (.ofString "_law_next") (.ofString "_law_next") fp23
noncomputable def o886 (_ : Params) : Obj := cdO (.ofString "_law_next") (.ofString "_law_next") 1373 774 2 0 0 3 881 true 882 .none (.ref 883) (.ref 884) (.ref 885) 1378 1379
noncomputable def o887 (_ : Params) : Obj := fnO (.ofString "_law_next") (.ofString "_law_next") fp23 .none .none .none (.str (.ofString "law_ak0016_01") 1340) 886
noncomputable def o890 (_ : Params) : Obj := tupO [(.str (.ofString "state") 1384), (.str (.ofString "deep") 1385), (.str (.ofString "pick") 1386)]
noncomputable def o892 (_ : Params) : Obj := fn0 (.ofString "_law_grown") (.ofString "_law_grown") fp24
noncomputable def o893 (_ : Params) : Obj := cdO (.ofString "_law_grown") (.ofString "_law_grown") 1381 779 2 0 0 3 888 true 889 .none (.ref 890) (.ref 891) (.ref 892) 1387 1388
noncomputable def o894 (_ : Params) : Obj := fnO (.ofString "_law_grown") (.ofString "_law_grown") fp24 .none .none .none (.str (.ofString "law_ak0016_01") 1340) 893
noncomputable def o897 (_ : Params) : Obj := fn0 (.ofString "_law_filled") (.ofString "_law_filled") fp25
noncomputable def o898 (_ : Params) : Obj := cdO (.ofString "_law_filled") (.ofString "_law_filled") 1390 788 4 0 0 3 895 true 896 .none .none .none (.ref 897) 1393 1394
noncomputable def o899 (_ : Params) : Obj := fnO (.ofString "_law_filled") (.ofString "_law_filled") fp25 .none .none .none (.str (.ofString "law_ak0016_01") 1340) 898
noncomputable def o902 (_ : Params) : Obj := fn0 (.ofString "law") (.ofString "law") fp26
noncomputable def o903 (_ : Params) : Obj := cdO (.ofString "law") (.ofString "law") 1396 802 1 0 0 3 900 true 901 .none .none .none (.ref 902) 1399 1400
noncomputable def o904 (_ : Params) : Obj := fnO (.ofString "law") (.ofString "law") fp26 .none .none .none (.str (.ofString "law_ak0016_01") 1340) 903
noncomputable def t10 (P : Params) : BT := (.node (boot_o_0 P) (.node (boot_o_1 P) (.node (o3v9 P) (.node (boot_o_7 P) (.node (o11 P) (.node (o11 P) (.node (o12 P) (.node (o12 P) (.node (o11 P) (.node (o11 P) .nil .nil) (.node (o23 P) .nil .nil)) (.node (o383 P) (.node (o639 P) .nil .nil) (.node (o11 P) .nil .nil))) (.node (o23 P) (.node (o319 P) (.node (o575 P) .nil .nil) (.node (o12 P) .nil .nil)) (.node (o154 P) (.node (o703 P) .nil .nil) .nil))) (.node (o11 P) (.node (o159 P) (.node (o287 P) (.node (o543 P) .nil .nil) (.node (o799 P) .nil .nil)) (.node (o415 P) (.node (o11 P) .nil .nil) .nil)) (.node (o223 P) (.node (o351 P) (.node (o11 P) .nil .nil) (.node (o863 P) .nil .nil)) (.node (o479 P) (.node (o11 P) .nil .nil) .nil)))) (.node (o47 P) (.node (o79 P) (.node (o11 P) (.node (o12 P) (.node (o527 P) .nil .nil) (.node (o783 P) .nil .nil)) (.node (o11 P) (.node (o655 P) .nil .nil) .nil)) (.node (o11 P) (.node (o335 P) (.node (o591 P) .nil .nil) (.node (o11 P) .nil .nil)) (.node (o463 P) (.node (o12 P) .nil .nil) .nil))) (.node (o111 P) (.node (o175 P) (.node (o303 P) (.node (o559 P) .nil .nil) (.node (o815 P) .nil .nil)) (.node (o12 P) (.node (o687 P) .nil .nil) .nil)) (.node (o239 P) (.node (o367 P) (.node (o623 P) .nil .nil) (.node (o879 P) .nil .nil)) (.node (o12 P) (.node (o751 P) .nil .nil) .nil))))) (.node (o23 P) (.node (o11 P) (.node (o71 P) (.node (o135 P) (.node (o11 P) (.node (o519 P) .nil .nil) (.node (o12 P) .nil .nil)) (.node (o11 P) (.node (o647 P) .nil .nil) (.node (o903 P) .nil .nil))) (.node (o199 P) (.node (o11 P) (.node (o583 P) .nil .nil) (.node (o839 P) .nil .nil)) (.node (o455 P) (.node (o11 P) .nil .nil) .nil))) (.node (o11 P) (.node (o167 P) (.node (o11 P) (.node (o551 P) .nil .nil) (.node (o807 P) .nil .nil)) (.node (o423 P) (.node (o11 P) .nil .nil) .nil)) (.node (o231 P) (.node (o11 P) (.node (o12 P) .nil .nil) (.node (o11 P) .nil .nil)) (.node (o11 P) (.node (o743 P) .nil .nil) .nil)))) (.node (o11 P) (.node (o87 P) (.node (o151 P) (.node (o12 P) (.node (o535 P) .nil .nil) (.node (o11 P) .nil .nil)) (.node (o12 P) (.node (o663 P) .nil .nil) .nil)) (.node (o11 P) (.node (o12 P) (.node (o599 P) .nil .nil) (.node (o855 P) .nil .nil)) (.node (o471 P) (.node (o727 P) .nil .nil) .nil))) (.node (o11 P) (.node (o11 P) (.node (o311 P) (.node (o11 P) .nil .nil) (.node (o11 P) .nil .nil)) (.node (o439 P) (.node (o695 P) .nil .nil) .nil)) (.node (o247 P) (.node (o375 P) (.node (o11 P) .nil .nil) (.node (o887 P) .nil .nil)) (.node (o503 P) (.node (o11 P) .nil .nil) .nil)))))) (.node (o11 P) (.node (o19 P) (.node (o35 P) (.node (o67 P) (.node (o131 P) (.node (o259 P) (.node (o11 P) .nil .nil) (.node (o771 P) .nil .nil)) (.node (o11 P) (.node (o643 P) .nil .nil) (.node (o899 P) .nil .nil))) (.node (o195 P) (.node (o251 P) (.node (o579 P) .nil .nil) (.node (o835 P) .nil .nil)) (.node (o451 P) (.node (o707 P) .nil .nil) .nil))) (.node (o99 P) (.node (o12 P) (.node (o291 P) (.node (o547 P) .nil .nil) (.node (o12 P) .nil .nil)) (.node (o419 P) (.node (o675 P) .nil .nil) .nil)) (.node (o11 P) (.node (o355 P) (.node (o611 P) .nil .nil) (.node (o867 P) .nil .nil)) (.node (o11 P) (.node (o739 P) .nil .nil) .nil)))) (.node (o11 P) (.node (o83 P) (.node (o11 P) (.node (o275 P) (.node (o531 P) .nil .nil) (.node (o787 P) .nil .nil)) (.node (o403 P) (.node (o659 P) .nil .nil) .nil)) (.node (o211 P) (.node (o339 P) (.node (o595 P) .nil .nil) (.node (o851 P) .nil .nil)) (.node (o12 P) (.node (o723 P) .nil .nil) .nil))) (.node (o11 P) (.node (o179 P) (.node (o307 P) (.node (o563 P) .nil .nil) (.node (o11 P) .nil .nil)) (.node (o435 P) (.node (o12 P) .nil .nil) .nil)) (.node (o12 P) (.node (o371 P) (.node (o627 P) .nil .nil) (.node (o883 P) .nil .nil)) (.node (o499 P) (.node (o11 P) .nil .nil) .nil))))) (.node (o27 P) (.node (o11 P) (.node (o12 P) (.node (o139 P) (.node (o267 P) (.node (o12 P) .nil .nil) (.node (o779 P) .nil .nil)) (.node (o395 P) (.node (o12 P) .nil .nil) .nil)) (.node (o203 P) (.node (o11 P) (.node (o12 P) .nil .nil) (.node (o843 P) .nil .nil)) (.node (o11 P) (.node (o715 P) .nil .nil) .nil))) (.node (o11 P) (.node (o171 P) (.node (o11 P) (.node (o11 P) .nil .nil) (.node (o811 P) .nil .nil)) (.node (o427 P) (.node (o683 P) .nil .nil) .nil)) (.node (o12 P) (.node (o11 P) (.node (o619 P) .nil .nil) (.node (o875 P) .nil .nil)) (.node (o491 P) (.node (o747 P) .nil .nil) .nil)))) (.node (o59 P) (.node (o11 P) (.node (o11 P) (.node (o283 P) (.node (o12 P) .nil .nil) (.node (o11 P) .nil .nil)) (.node (o411 P) (.node (o11 P) .nil .nil) .nil)) (.node (o11 P) (.node (o347 P) (.node (o11 P) .nil .nil) (.node (o859 P) .nil .nil)) (.node (o475 P) (.node (o731 P) .nil .nil) .nil))) (.node (o123 P) (.node (o187 P) (.node (o315 P) (.node (o11 P) .nil .nil) (.node (o827 P) .nil .nil)) (.node (o443 P) (.node (o251 P) .nil .nil) .nil)) (.node (o251 P) (.node (o379 P) (.node (o635 P) .nil .nil) (.node (o11 P) .nil .nil)) (.node (o507 P) (.node (o763 P) .nil .nil) .nil))))))) (.node (boot_o_5 P) (.node (boot_o_9 P) (.node (o17 P) (.node (o33 P) (.node (o11 P) (.node (o11 P) (.node (o257 P) (.node (o513 P) .nil .nil) (.node (o11 P) .nil .nil)) (.node (o23 P) (.node (o23 P) .nil .nil) (.node (o897 P) .nil .nil))) (.node (o11 P) (.node (o11 P) (.node (o23 P) .nil .nil) (.node (o11 P) .nil .nil)) (.node (o11 P) (.node (o705 P) .nil .nil) .nil))) (.node (o97 P) (.node (o161 P) (.node (o289 P) (.node (o11 P) .nil .nil) (.node (o801 P) .nil .nil)) (.node (o417 P) (.node (o673 P) .nil .nil) .nil)) (.node (o225 P) (.node (o353 P) (.node (o609 P) .nil .nil) (.node (o865 P) .nil .nil)) (.node (o12 P) (.node (o737 P) .nil .nil) .nil)))) (.node (o12 P) (.node (o11 P) (.node (o145 P) (.node (o11 P) (.node (o11 P) .nil .nil) (.node (o785 P) .nil .nil)) (.node (o401 P) (.node (o11 P) .nil .nil) .nil)) (.node (o209 P) (.node (o337 P) (.node (o11 P) .nil .nil) (.node (o849 P) .nil .nil)) (.node (o465 P) (.node (o11 P) .nil .nil) .nil))) (.node (o12 P) (.node (o177 P) (.node (o305 P) (.node (o561 P) .nil .nil) (.node (o12 P) .nil .nil)) (.node (o11 P) (.node (o154 P) .nil .nil) .nil)) (.node (o241 P) (.node (o369 P) (.node (o625 P) .nil .nil) (.node (o11 P) .nil .nil)) (.node (o11 P) (.node (o12 P) .nil .nil) .nil))))) (.node (o11 P) (.node (o41 P) (.node (o73 P) (.node (o137 P) (.node (o265 P) (.node (o521 P) .nil .nil) (.node (o11 P) .nil .nil)) (.node (o393 P) (.node (o649 P) .nil .nil) .nil)) (.node (o201 P) (.node (o329 P) (.node (o585 P) .nil .nil) (.node (o841 P) .nil .nil)) (.node (o457 P) (.node (o713 P) .nil .nil) .nil))) (.node (o105 P) (.node (o11 P) (.node (o297 P) (.node (o12 P) .nil .nil) (.node (o11 P) .nil .nil)) (.node (o425 P) (.node (o681 P) .nil .nil) .nil)) (.node (o233 P) (.node (o361 P) (.node (o11 P) .nil .nil) (.node (o873 P) .nil .nil)) (.node (o489 P) (.node (o11 P) .nil .nil) .nil)))) (.node (o57 P) (.node (o12 P) (.node (o153 P) (.node (o11 P) (.node (o537 P) .nil .nil) (.node (o793 P) .nil .nil)) (.node (o11 P) (.node (o12 P) .nil .nil) .nil)) (.node (o217 P) (.node (o11 P) (.node (o12 P) .nil .nil) (.node (o857 P) .nil .nil)) (.node (o11 P) (.node (o729 P) .nil .nil) .nil))) (.node (o121 P) (.node (o185 P) (.node (o313 P) (.node (o569 P) .nil .nil) (.node (o825 P) .nil .nil)) (.node (o441 P) (.node (o697 P) .nil .nil) .nil)) (.node (o249 P) (.node (o11 P) (.node (o633 P) .nil .nil) (.node (o12 P) .nil .nil)) (.node (o505 P) (.node (o761 P) .nil .nil) .nil)))))) (.node (o13 P) (.node (o21 P) (.node (o12 P) (.node (o11 P) (.node (o133 P) (.node (o12 P) (.node (o517 P) .nil .nil) (.node (o154 P) .nil .nil)) (.node (o389 P) (.node (o645 P) .nil .nil) (.node (o12 P) .nil .nil))) (.node (o11 P) (.node (o12 P) (.node (o581 P) .nil .nil) (.node (o11 P) .nil .nil)) (.node (o453 P) (.node (o709 P) .nil .nil) .nil))) (.node (o12 P) (.node (o11 P) (.node (o12 P) (.node (o549 P) .nil .nil) (.node (o11 P) .nil .nil)) (.node (o23 P) (.node (o677 P) .nil .nil) .nil)) (.node (o229 P) (.node (o12 P) (.node (o613 P) .nil .nil) (.node (o869 P) .nil .nil)) (.node (o485 P) (.node (o741 P) .nil .nil) .nil)))) (.node (o53 P) (.node (o85 P) (.node (o149 P) (.node (o154 P) (.node (o533 P) .nil .nil) (.node (o12 P) .nil .nil)) (.node (o405 P) (.node (o661 P) .nil .nil) .nil)) (.node (o12 P) (.node (o341 P) (.node (o597 P) .nil .nil) (.node (o853 P) .nil .nil)) (.node (o11 P) (.node (o11 P) .nil .nil) .nil))) (.node (o117 P) (.node (o181 P) (.node (o309 P) (.node (o23 P) .nil .nil) (.node (o821 P) .nil .nil)) (.node (o11 P) (.node (o11 P) .nil .nil) .nil)) (.node (o11 P) (.node (o373 P) (.node (o12 P) .nil .nil) (.node (o885 P) .nil .nil)) (.node (o11 P) (.node (o757 P) .nil .nil) .nil))))) (.node (o11 P) (.node (o45 P) (.node (o11 P) (.node (o23 P) (.node (o251 P) (.node (o11 P) .nil .nil) (.node (o11 P) .nil .nil)) (.node (o397 P) (.node (o11 P) .nil .nil) .nil)) (.node (o12 P) (.node (o333 P) (.node (o11 P) .nil .nil) (.node (o12 P) .nil .nil)) (.node (o461 P) (.node (o717 P) .nil .nil) .nil))) (.node (o109 P) (.node (o173 P) (.node (o301 P) (.node (o557 P) .nil .nil) (.node (o813 P) .nil .nil)) (.node (o429 P) (.node (o685 P) .nil .nil) .nil)) (.node (o11 P) (.node (o365 P) (.node (o11 P) .nil .nil) (.node (o12 P) .nil .nil)) (.node (o493 P) (.node (o749 P) .nil .nil) .nil)))) (.node (o61 P) (.node (o93 P) (.node (o157 P) (.node (o11 P) (.node (o11 P) .nil .nil) (.node (o797 P) .nil .nil)) (.node (o11 P) (.node (o669 P) .nil .nil) .nil)) (.node (o221 P) (.node (o11 P) (.node (o605 P) .nil .nil) (.node (o861 P) .nil .nil)) (.node (o477 P) (.node (o12 P) .nil .nil) .nil))) (.node (o125 P) (.node (o189 P) (.node (o11 P) (.node (o573v1 P) .nil .nil) (.node (o829 P) .nil .nil)) (.node (o445 P) (.node (o11 P) .nil .nil) .nil)) (.node (o12 P) (.node (o381 P) (.node (o637 P) .nil .nil) (.node (o893 P) .nil .nil)) (.node (o12 P) (.node (o765 P) .nil .nil) .nil)))))))) (.node (boot_o_2 P) (.node (boot_o_4 P) (.node (boot_o_8 P) (.node (o12 P) (.node (o12 P) (.node (o64 P) (.node (o128 P) (.node (o256 P) (.node (o512 P) .nil .nil) (.node (o768 P) .nil .nil)) (.node (o11 P) (.node (o576 P) .nil .nil) (.node (o12 P) .nil .nil))) (.node (o192 P) (.node (o320 P) (.node (o576 P) .nil .nil) (.node (o832 P) .nil .nil)) (.node (o448 P) (.node (o11 P) .nil .nil) .nil))) (.node (o12 P) (.node (o160 P) (.node (o11 P) (.node (o544 P) .nil .nil) (.node (o800 P) .nil .nil)) (.node (o416 P) (.node (o12 P) .nil .nil) .nil)) (.node (o224 P) (.node (o11 P) (.node (o12 P) .nil .nil) (.node (o864 P) .nil .nil)) (.node (o11 P) (.node (o736 P) .nil .nil) .nil)))) (.node (o11 P) (.node (o80 P) (.node (o144 P) (.node (o272 P) (.node (o528 P) .nil .nil) (.node (o11 P) .nil .nil)) (.node (o12 P) (.node (o656 P) .nil .nil) .nil)) (.node (o208 P) (.node (o336 P) (.node (o592 P) .nil .nil) (.node (o848 P) .nil .nil)) (.node (o464 P) (.node (o720 P) .nil .nil) .nil))) (.node (o11 P) (.node (o176 P) (.node (o304 P) (.node (o560 P) .nil .nil) (.node (o11 P) .nil .nil)) (.node (o432 P) (.node (o251 P) .nil .nil) .nil)) (.node (o240 P) (.node (o368 P) (.node (o11 P) .nil .nil) (.node (o880 P) .nil .nil)) (.node (o496 P) (.node (o11 P) .nil .nil) .nil))))) (.node (o24 P) (.node (o40 P) (.node (o72 P) (.node (o136 P) (.node (o264 P) (.node (o520 P) .nil .nil) (.node (o776 P) .nil .nil)) (.node (o12 P) (.node (o648 P) .nil .nil) (.node (o904 P) .nil .nil))) (.node (o11 P) (.node (o328 P) (.node (o154 P) .nil .nil) (.node (o11 P) .nil .nil)) (.node (o456 P) (.node (o12 P) .nil .nil) .nil))) (.node (o104 P) (.node (o168 P) (.node (o296 P) (.node (o11 P) .nil .nil) (.node (o808 P) .nil .nil)) (.node (o11 P) (.node (o12 P) .nil .nil) .nil)) (.node (o232 P) (.node (o360 P) (.node (o616 P) .nil .nil) (.node (o12 P) .nil .nil)) (.node (o12 P) (.node (o744 P) .nil .nil) .nil)))) (.node (o12 P) (.node (o11 P) (.node (o152 P) (.node (o280 P) (.node (o11 P) .nil .nil) (.node (o792 P) .nil .nil)) (.node (o408 P) (.node (o11 P) .nil .nil) .nil)) (.node (o216 P) (.node (o344 P) (.node (o11 P) .nil .nil) (.node (o856 P) .nil .nil)) (.node (o472 P) (.node (o11 P) .nil .nil) .nil))) (.node (o12 P) (.node (o12 P) (.node (o312 P) (.node (o12 P) .nil .nil) (.node (o12 P) .nil .nil)) (.node (o11 P) (.node (o696 P) .nil .nil) .nil)) (.node (o248 P) (.node (o376 P) (.node (o632 P) .nil .nil) (.node (o11 P) .nil .nil)) (.node (o11 P) (.node (o12 P) .nil .nil) .nil)))))) (.node (o12v10 P) (.node (o20 P) (.node (o11 P) (.node (o68 P) (.node (o132 P) (.node (o11 P) (.node (o12 P) .nil .nil) (.node (o772 P) .nil .nil)) (.node (o388 P) (.node (o11 P) .nil .nil) (.node (o11 P) .nil .nil))) (.node (o196 P) (.node (o11 P) (.node (o11 P) .nil .nil) (.node (o836 P) .nil .nil)) (.node (o11 P) (.node (o708 P) .nil .nil) .nil))) (.node (o11 P) (.node (o164 P) (.node (o11 P) (.node (o11 P) .nil .nil) (.node (o804 P) .nil .nil)) (.node (o420 P) (.node (o676 P) .nil .nil) .nil)) (.node (o12 P) (.node (o11 P) (.node (o612 P) .nil .nil) (.node (o868 P) .nil .nil)) (.node (o484 P) (.node (o740 P) .nil .nil) .nil)))) (.node (o52 P) (.node (o11 P) (.node (o12 P) (.node (o276 P) (.node (o11 P) .nil .nil) (.node (o11 P) .nil .nil)) (.node (o404 P) (.node (o11 P) .nil .nil) .nil)) (.node (o11 P) (.node (o251 P) (.node (o11 P) .nil .nil) (.node (o852 P) .nil .nil)) (.node (o468 P) (.node (o724 P) .nil .nil) .nil))) (.node (o116 P) (.node (o180 P) (.node (o308v2 P) (.node (o420 P) .nil .nil) (.node (o820 P) .nil .nil)) (.node (o436 P) (.node (o692 P) .nil .nil) .nil)) (.node (o11 P) (.node (o372 P) (.node (o11 P) .nil .nil) (.node (o11 P) .nil .nil)) (.node (o500 P) (.node (o756 P) .nil .nil) .nil))))) (.node (o28 P) (.node (o12 P) (.node (o76 P) (.node (o11 P) (.node (o268 P) (.node (o524 P) .nil .nil) (.node (o780 P) .nil .nil)) (.node (o396 P) (.node (o652 P) .nil .nil) .nil)) (.node (o11 P) (.node (o12 P) (.node (o588 P) .nil .nil) (.node (o11 P) .nil .nil)) (.node (o12 P) (.node (o716 P) .nil .nil) .nil))) (.node (o12 P) (.node (o11 P) (.node (o12 P) (.node (o556 P) .nil .nil) (.node (o11 P) .nil .nil)) (.node (o154 P) (.node (o684 P) .nil .nil) .nil)) (.node (o236 P) (.node (o12 P) (.node (o620 P) .nil .nil) (.node (o11 P) .nil .nil)) (.node (o492 P) (.node (o11 P) .nil .nil) .nil)))) (.node (o60 P) (.node (o92 P) (.node (o12 P) (.node (o284 P) (.node (o540 P) .nil .nil) (.node (o12 P) .nil .nil)) (.node (o412 P) (.node (o668 P) .nil .nil) .nil)) (.node (o12 P) (.node (o348 P) (.node (o604 P) .nil .nil) (.node (o860 P) .nil .nil)) (.node (o11 P) (.node (o11 P) .nil .nil) .nil))) (.node (o124 P) (.node (o188 P) (.node (o316 P) (.node (o572 P) .nil .nil) (.node (o828 P) .nil .nil)) (.node (o444 P) (.node (o154 P) .nil .nil) .nil)) (.node (o11 P) (.node (o380 P) (.node (o636 P) .nil .nil) (.node (o892 P) .nil .nil)) (.node (o11 P) (.node (o764 P) .nil .nil) .nil))))))) (.node (boot_o_6 P) (.node (boot_o_10 P) (.node (o11 P) (.node (o34 P) (.node (o66 P) (.node (o130 P) (.node (o258 P) (.node (o514 P) .nil .nil) (.node (o770 P) .nil .nil)) (.node (o386 P) (.node (o642 P) .nil .nil) (.node (o898 P) .nil .nil))) (.node (o194 P) (.node (o322 P) (.node (o578 P) .nil .nil) (.node (o834 P) .nil .nil)) (.node (o12 P) (.node (o706 P) .nil .nil) .nil))) (.node (o98 P) (.node (o11 P) (.node (o290 P) (.node (o12 P) .nil .nil) (.node (o11 P) .nil .nil)) (.node (o418 P) (.node (o11 P) .nil .nil) .nil)) (.node (o226 P) (.node (o354 P) (.node (o11 P) .nil .nil) (.node (o866 P) .nil .nil)) (.node (o482 P) (.node (o738 P) .nil .nil) .nil)))) (.node (o50 P) (.node (o12 P) (.node (o146 P) (.node (o274 P) (.node (o12 P) .nil .nil) (.node (o786 P) .nil .nil)) (.node (o11 P) (.node (o12 P) .nil .nil) .nil)) (.node (o210 P) (.node (o338 P) (.node (o12 P) .nil .nil) (.node (o850 P) .nil .nil)) (.node (o11 P) (.node (o722 P) .nil .nil) .nil))) (.node (o114 P) (.node (o178 P) (.node (o306 P) (.node (o562 P) .nil .nil) (.node (o818 P) .nil .nil)) (.node (o434 P) (.node (o11 P) .nil .nil) .nil)) (.node (o11 P) (.node (o370 P) (.node (o626 P) .nil .nil) (.node (o12 P) .nil .nil)) (.node (o498 P) (.node (o754 P) .nil .nil) .nil))))) (.node (o26 P) (.node (o42 P) (.node (o11 P) (.node (o138 P) (.node (o266 P) (.node (o11 P) .nil .nil) (.node (o778 P) .nil .nil)) (.node (o11 P) (.node (o650 P) .nil .nil) .nil)) (.node (o202 P) (.node (o330 P) (.node (o586 P) .nil .nil) (.node (o842 P) .nil .nil)) (.node (o251 P) (.node (o11 P) .nil .nil) .nil))) (.node (o106 P) (.node (o12 P) (.node (o298 P) (.node (o554 P) .nil .nil) (.node (o12 P) .nil .nil)) (.node (o426 P) (.node (o11 P) .nil .nil) .nil)) (.node (o11 P) (.node (o362 P) (.node (o618 P) .nil .nil) (.node (o874 P) .nil .nil)) (.node (o11 P) (.node (o12 P) .nil .nil) .nil)))) (.node (o11 P) (.node (o90 P) (.node (o154 P) (.node (o282 P) (.node (o11 P) .nil .nil) (.node (o794 P) .nil .nil)) (.node (o410 P) (.node (o666 P) .nil .nil) .nil)) (.node (o218 P) (.node (o346 P) (.node (o602 P) .nil .nil) (.node (o858 P) .nil .nil)) (.node (o12 P) (.node (o730 P) .nil .nil) .nil))) (.node (o11 P) (.node (o11 P) (.node (o23 P) (.node (o570 P) .nil .nil) (.node (o11 P) .nil .nil)) (.node (o442 P) (.node (o698 P) .nil .nil) .nil)) (.node (o250 P) (.node (o378 P) (.node (o634 P) .nil .nil) (.node (o890 P) .nil .nil)) (.node (o506 P) (.node (o11 P) .nil .nil) .nil)))))) (.node (o14 P) (.node (o11 P) (.node (o38 P) (.node (o12 P) (.node (o134 P) (.node (o11 P) (.node (o11 P) .nil .nil) (.node (o11 P) .nil .nil)) (.node (o390 P) (.node (o646 P) .nil .nil) (.node (o902 P) .nil .nil))) (.node (o12 P) (.node (o326 P) (.node (o582 P) .nil .nil) (.node (o12 P) .nil .nil)) (.node (o454 P) (.node (o251 P) .nil .nil) .nil))) (.node (o102 P) (.node (o166 P) (.node (o294 P) (.node (o550 P) .nil .nil) (.node (o806 P) .nil .nil)) (.node (o422 P) (.node (o154 P) .nil .nil) .nil)) (.node (o11 P) (.node (o358 P) (.node (o11 P) .nil .nil) (.node (o870 P) .nil .nil)) (.node (o486 P) (.node (o742 P) .nil .nil) .nil)))) (.node (o54 P) (.node (o86 P) (.node (o11 P) (.node (o11 P) (.node (o534 P) .nil .nil) (.node (o790 P) .nil .nil)) (.node (o11 P) (.node (o662 P) .nil .nil) .nil)) (.node (o214 P) (.node (o342 P) (.node (o598 P) .nil .nil) (.node (o854 P) .nil .nil)) (.node (o470 P) (.node (o12 P) .nil .nil) .nil))) (.node (o118 P) (.node (o182 P) (.node (o310 P) (.node (o566 P) .nil .nil) (.node (o822 P) .nil .nil)) (.node (o12 P) (.node (o694 P) .nil .nil) .nil)) (.node (o246 P) (.node (o374 P) (.node (o630 P) .nil .nil) (.node (o886 P) .nil .nil)) (.node (o12 P) (.node (o758 P) .nil .nil) .nil))))) (.node (o30 P) (.node (o46 P) (.node (o78 P) (.node (o142 P) (.node (o11 P) (.node (o526 P) .nil .nil) (.node (o12 P) .nil .nil)) (.node (o398 P) (.node (o654 P) .nil .nil) .nil)) (.node (o206 P) (.node (o11 P) (.node (o590 P) .nil .nil) (.node (o846 P) .nil .nil)) (.node (o11 P) (.node (o11 P) .nil .nil) .nil))) (.node (o110 P) (.node (o174 P) (.node (o11 P) (.node (o558 P) .nil .nil) (.node (o814 P) .nil .nil)) (.node (o430 P) (.node (o686 P) .nil .nil) .nil)) (.node (o238 P) (.node (o11 P) (.node (o12 P) .nil .nil) (.node (o878 P) .nil .nil)) (.node (o11 P) (.node (o750 P) .nil .nil) .nil)))) (.node (o11 P) (.node (o94 P) (.node (o11 P) (.node (o12 P) (.node (o542 P) .nil .nil) (.node (o11 P) .nil .nil)) (.node (o414 P) (.node (o670 P) .nil .nil) .nil)) (.node (o11 P) (.node (o12 P) (.node (o606 P) .nil .nil) (.node (o862 P) .nil .nil)) (.node (o478 P) (.node (o734 P) .nil .nil) .nil))) (.node (o11 P) (.node (o11 P) (.node (o318 P) (.node (o574 P) .nil .nil) (.node (o11 P) .nil .nil)) (.node (o251 P) (.node (o12 P) .nil .nil) .nil)) (.node (o254 P) (.node (o382 P) (.node (o638 P) .nil .nil) (.node (o894 P) .nil .nil)) (.node (o510 P) (.node (o11 P) .nil .nil) .nil)))))))))
noncomputable def s10 (w : World) (os : OsState) : SharedT := ⟨t10 w.params, 905, {}, #[], {}, 1402, os⟩
noncomputable def g10 : List Stmt := [stmtAt PySem.Challenge.pw_ak0016_01.main.body 19, stmtAt PySem.Challenge.pw_ak0016_01.main.body 20, stmtAt PySem.Challenge.pw_ak0016_01.main.body 21, stmtAt PySem.Challenge.pw_ak0016_01.main.body 22, stmtAt PySem.Challenge.pw_ak0016_01.main.body 23, stmtAt PySem.Challenge.pw_ak0016_01.main.body 24, stmtAt PySem.Challenge.pw_ak0016_01.main.body 25, stmtAt PySem.Challenge.pw_ak0016_01.main.body 26]
theorem pc10 (p : Program) (b : List Stmt) (w : World) (os : OsState) : segRunT treeTable p w 11 ann9 1 266 (s9 w os) (piecesOf g10 env9 (cd9 b) ⟨618, 0, 761, 17⟩ B9) = some (.next, s10 w os, cd9 b, ⟨802, 0, 824, 93⟩) := by
  rw [PySem.W.Fast.te10110043849684766642, PySem.W.Fast.te14364793385576792824]; kernel_rfl
noncomputable abbrev bod : List Stmt := behindTheImports pw
theorem bod_eq : bod = g1 ++ (g2 ++ (g3 ++ (g4 ++ (g5 ++ (g6 ++ (g7 ++ (g8 ++ (g9 ++ (g10 ++ ([])))))))))) := by kernel_rfl
theorem fin9 (b : List Stmt) (w : World) (os : OsState) : topRun treeTable pw w 11 ann9 2 (s10 w os).abs ⟨doneF .next, cd9 b, ⟨802, 0, 824, 93⟩, B9⟩ = some (s10 w os).abs := by
  rw [PySem.W.Fast.te14082659384304107361, PySem.W.Fast.te14364793385576792824]; kernel_rfl
theorem chain9 (b : List Stmt) (hb : b = g1 ++ (g2 ++ (g3 ++ (g4 ++ (g5 ++ (g6 ++ (g7 ++ (g8 ++ (g9 ++ (g10 ++ ([]))))))))))) (w : World) (os : OsState) : topRun treeTable pw w 11 ann9 (776 + (403 + (1180 + (939 + (345 + (1125 + (734 + (1044 + (706 + (266 + 2)))))))))) (s0 w os).abs (restOf b env9 (cd9 b) ⟨0, 0, 0, 0⟩ B9) = some (s10 w os).abs := by
  have e : restOf b env9 (cd9 b) ⟨0, 0, 0, 0⟩ B9 = restOf (g1 ++ (g2 ++ (g3 ++ (g4 ++ (g5 ++ (g6 ++ (g7 ++ (g8 ++ (g9 ++ (g10 ++ ([]))))))))))) env9 (cd9 b) ⟨0, 0, 0, 0⟩ B9 := congrArg (fun x => restOf x env9 (cd9 b) ⟨0, 0, 0, 0⟩ B9) hb
  rw [e]
  exact piece_app (segRun_of (pc1 pw b w os)) (piece_app (segRun_of (pc2 pw b w os)) (piece_app (segRun_of (pc3 pw b w os)) (piece_app (segRun_of (pc4 pw b w os)) (piece_app (segRun_of (pc5 pw b w os)) (piece_app (segRun_of (pc6 pw b w os)) (piece_app (segRun_of (pc7 pw b w os)) (piece_app (segRun_of (pc8 pw b w os)) (piece_app (segRun_of (pc9 pw b w os)) (piece_app (segRun_of (pc10 pw b w os)) (piece_nil (fin9 b w os)))))))))))
theorem pre9 (w : World) (os : OsState) : topGo treeTable pw w 11 ann9 12 ⟨boot_heap w.params, Array.mk [], boot_drawn, boot_toks, os⟩ (topStub pw) = some ((s0 w os).abs, ⟨denote treeTable (cd9 bod), cd9 bod, ⟨0, 0, 0, 0⟩, B9⟩) := by
  rw [PySem.W.Fast.te15667345088766844465, PySem.W.Fast.te14364793385576792824, PySem.W.Fast.te11892475500146522536]; kernel_rfl
theorem blk9 (w : World) (os : OsState) : segRun treeTable pw w 11 ann9 1 1 (s0 w os).abs (blockOf bod env9 (cd9 bod) ⟨0, 0, 0, 0⟩ B9) = some (.next, (s0 w os).abs, cd9 bod, ⟨0, 0, 0, 0⟩) := by
  rw [PySem.W.Fast.te14374325043358763698, PySem.W.Fast.te14364793385576792824]; kernel_rfl
theorem run9 (w : World) (os : OsState) : topRun treeTable pw w 11 ann9 (12 + (1 + (776 + (403 + (1180 + (939 + (345 + (1125 + (734 + (1044 + (706 + (266 + 2)))))))))))) ⟨boot_heap w.params, Array.mk [], boot_drawn, boot_toks, os⟩ (topStub pw) = some (s10 w os).abs :=
  go_top (pre9 w os) (piece_block (blk9 w os) (chain9 bod bod_eq w os))
end secHead
section secMyK
noncomputable def d161 : PSigma fun b : Arguments × List Stmt × Scope => fp4x1 = b := ⟨_, by (conv => lhs; whnf)⟩
noncomputable def n161 (_ : Params) : PSigma fun o : Obj => fnO (.ofString "__get__") (.ofString "_tuplegetter.__get__") d161.1 (.ref 154) .none .none (.str (.ofString "matchpy.expressions.expressions") 343) 160 = o := ⟨_, by (conv => lhs; dsimp only [fnO, d161])⟩
noncomputable def d203 : PSigma fun b : Arguments × List Stmt × Scope => fp6x1 = b := ⟨_, by (conv => lhs; whnf)⟩
noncomputable def n203 (_ : Params) : PSigma fun o : Obj => fnO (.ofString "__init__") (.ofString "Expression.__init__") d203.1 .none .none .none (.str (.ofString "matchpy.expressions.expressions") 343) 202 = o := ⟨_, by (conv => lhs; dsimp only [fnO, d203])⟩
noncomputable def d330 : PSigma fun b : Arguments × List Stmt × Scope => fp7x4 = b := ⟨_, by (conv => lhs; whnf)⟩
noncomputable def n330 (_ : Params) : PSigma fun o : Obj => fnO (.ofString "__new__") (.ofString "Arity.__new__") d330.1 .none .none (docV fp7x4 600) (.str (.ofString "matchpy.expressions.expressions") 343) 329 = o := ⟨_, by (conv => lhs; dsimp only [fnO, d330])⟩
noncomputable def d397 : PSigma fun b : Arguments × List Stmt × Scope => fp8x1 = b := ⟨_, by (conv => lhs; whnf)⟩
noncomputable def n397 (_ : Params) : PSigma fun o : Obj => fnO (.ofString "__init__") (.ofString "_OperationMeta.__init__") d397.1 .none .none .none (.str (.ofString "matchpy.expressions.expressions") 343) 396 = o := ⟨_, by (conv => lhs; dsimp only [fnO, d397])⟩
noncomputable def d405 : PSigma fun b : Arguments × List Stmt × Scope => fp8x2 = b := ⟨_, by (conv => lhs; whnf)⟩
noncomputable def n405 (_ : Params) : PSigma fun o : Obj => fnO (.ofString "__call__") (.ofString "_OperationMeta.__call__") d405.1 .none (.ref 398) .none (.str (.ofString "matchpy.expressions.expressions") 343) 404 = o := ⟨_, by (conv => lhs; dsimp only [fnO, d405])⟩
noncomputable def d412 : PSigma fun b : Arguments × List Stmt × Scope => fp8x3 = b := ⟨_, by (conv => lhs; whnf)⟩
noncomputable def n412 (_ : Params) : PSigma fun o : Obj => fnO (.ofString "_simplify") (.ofString "_OperationMeta._simplify") d412.1 .none .none (docV fp8x3 736) (.str (.ofString "matchpy.expressions.expressions") 343) 411 = o := ⟨_, by (conv => lhs; dsimp only [fnO, d412])⟩
noncomputable def d436 : PSigma fun b : Arguments × List Stmt × Scope => fp9x1 = b := ⟨_, by (conv => lhs; whnf)⟩
noncomputable def n436 (_ : Params) : PSigma fun o : Obj => fnC (.ofString "__init__") (.ofString "Operation.__init__") d436.1 [((.ofString "__class__"), 423)] (.ref 428) .none (docV fp9x1 772) (.str (.ofString "matchpy.expressions.expressions") 343) 435 (.ref 429) = o := ⟨_, by (conv => lhs; dsimp only [fnC, d436])⟩
noncomputable def d443 : PSigma fun b : Arguments × List Stmt × Scope => fp9x2 = b := ⟨_, by (conv => lhs; whnf)⟩
noncomputable def n443 (_ : Params) : PSigma fun o : Obj => (⟨(.type "function"), none, .func ⟨(.ofString "_count_operands"), (.ofString "Operation._count_operands"), d443.1.1, .stmts d443.1.2.1, d443.1.2.2, 3, [], .none, .none, .none, (.str (.ofString "matchpy.expressions.expressions") 343), (some 446), (.ref 442), .none, 0⟩, #[]⟩ : Obj) = o := ⟨_, by (conv => lhs; dsimp only [d443])⟩
noncomputable def d455 : PSigma fun b : Arguments × List Stmt × Scope => fp9x3 = b := ⟨_, by (conv => lhs; whnf)⟩
noncomputable def n455 (_ : Params) : PSigma fun o : Obj => (⟨(.type "function"), none, .func ⟨(.ofString "new"), (.ofString "Operation.new"), d455.1.1, .stmts d455.1.2.1, d455.1.2.2, 3, [], (.ref 447), (.ref 448), (docV d455.1 810), (.str (.ofString "matchpy.expressions.expressions") 343), (some 458), (.ref 454), .none, 0⟩, #[]⟩ : Obj) = o := ⟨_, by (conv => lhs; dsimp only [d455])⟩
noncomputable def d479 : PSigma fun b : Arguments × List Stmt × Scope => fp9x6 = b := ⟨_, by (conv => lhs; whnf)⟩
noncomputable def n479 (_ : Params) : PSigma fun o : Obj => fnO (.ofString "__eq__") (.ofString "Operation.__eq__") d479.1 .none .none .none (.str (.ofString "matchpy.expressions.expressions") 343) 478 = o := ⟨_, by (conv => lhs; dsimp only [fnO, d479])⟩
noncomputable def d493 : PSigma fun b : Arguments × List Stmt × Scope => fp9x8 = b := ⟨_, by (conv => lhs; whnf)⟩
noncomputable def n493 (_ : Params) : PSigma fun o : Obj => fnO (.ofString "__len__") (.ofString "Operation.__len__") d493.1 .none .none .none (.str (.ofString "matchpy.expressions.expressions") 343) 492 = o := ⟨_, by (conv => lhs; dsimp only [fnO, d493])⟩
noncomputable def d592 : PSigma fun b : Arguments × List Stmt × Scope => fp11x1 = b := ⟨_, by (conv => lhs; whnf)⟩
noncomputable def n592 (_ : Params) : PSigma fun o : Obj => fnC (.ofString "__init__") (.ofString "Symbol.__init__") d592.1 [((.ofString "__class__"), 579)] (.ref 584) .none (docV fp11x1 992) (.str (.ofString "matchpy.expressions.expressions") 343) 591 (.ref 585) = o := ⟨_, by (conv => lhs; dsimp only [fnC, d592])⟩
noncomputable def d634 : PSigma fun b : Arguments × List Stmt × Scope => fp11x7 = b := ⟨_, by (conv => lhs; whnf)⟩
noncomputable def n634 (_ : Params) : PSigma fun o : Obj => fnO (.ofString "__eq__") (.ofString "Symbol.__eq__") d634.1 .none .none .none (.str (.ofString "matchpy.expressions.expressions") 343) 633 = o := ⟨_, by (conv => lhs; dsimp only [fnO, d634])⟩
noncomputable def d656 : PSigma fun b : Arguments × List Stmt × Scope => fp12x1 = b := ⟨_, by (conv => lhs; whnf)⟩
noncomputable def n656 (_ : Params) : PSigma fun o : Obj => fnC (.ofString "__init__") (.ofString "Wildcard.__init__") d656.1 [((.ofString "__class__"), 643)] (.ref 648) .none (docV fp12x1 1072) (.str (.ofString "matchpy.expressions.expressions") 343) 655 (.ref 649) = o := ⟨_, by (conv => lhs; dsimp only [fnC, d656])⟩
noncomputable def d751 : PSigma fun b : Arguments × List Stmt × Scope => fp14 = b := ⟨_, by (conv => lhs; whnf)⟩
noncomputable def n751 (_ : Params) : PSigma fun o : Obj => fnO (.ofString "create_operation_expression") (.ofString "create_operation_expression") d751.1 (.ref 744) .none .none (.str (.ofString "matchpy.expressions.functions") 1191) 750 = o := ⟨_, by (conv => lhs; dsimp only [fnO, d751])⟩
noncomputable def d758 : PSigma fun b : Arguments × List Stmt × Scope => fp15 = b := ⟨_, by (conv => lhs; whnf)⟩
noncomputable def n758 (_ : Params) : PSigma fun o : Obj => fnO (.ofString "op_iter") (.ofString "op_iter") d758.1 .none .none .none (.str (.ofString "matchpy.expressions.functions") 1191) 757 = o := ⟨_, by (conv => lhs; dsimp only [fnO, d758])⟩
noncomputable def d765 : PSigma fun b : Arguments × List Stmt × Scope => fp16 = b := ⟨_, by (conv => lhs; whnf)⟩
noncomputable def n765 (_ : Params) : PSigma fun o : Obj => fnO (.ofString "op_len") (.ofString "op_len") d765.1 .none .none .none (.str (.ofString "matchpy.expressions.functions") 1191) 764 = o := ⟨_, by (conv => lhs; dsimp only [fnO, d765])⟩
noncomputable def d780 : PSigma fun b : Arguments × List Stmt × Scope => fp18x1 = b := ⟨_, by (conv => lhs; whnf)⟩
noncomputable def n780 (_ : Params) : PSigma fun o : Obj => fnO (.ofString "__init__") (.ofString "Substitution.__init__") d780.1 (.ref 773) .none .none (.str (.ofString "matchpy.expressions.substitution") 1216) 779 = o := ⟨_, by (conv => lhs; dsimp only [fnO, d780])⟩
noncomputable def d787 : PSigma fun b : Arguments × List Stmt × Scope => fp18x2 = b := ⟨_, by (conv => lhs; whnf)⟩
noncomputable def n787 (_ : Params) : PSigma fun o : Obj => fnO (.ofString "__contains__") (.ofString "Substitution.__contains__") d787.1 .none .none .none (.str (.ofString "matchpy.expressions.substitution") 1216) 786 = o := ⟨_, by (conv => lhs; dsimp only [fnO, d787])⟩
noncomputable def d794 : PSigma fun b : Arguments × List Stmt × Scope => fp18x3 = b := ⟨_, by (conv => lhs; whnf)⟩
noncomputable def n794 (_ : Params) : PSigma fun o : Obj => fnO (.ofString "__getitem__") (.ofString "Substitution.__getitem__") d794.1 .none .none .none (.str (.ofString "matchpy.expressions.substitution") 1216) 793 = o := ⟨_, by (conv => lhs; dsimp only [fnO, d794])⟩
noncomputable def d801 : PSigma fun b : Arguments × List Stmt × Scope => fp18x4 = b := ⟨_, by (conv => lhs; whnf)⟩
noncomputable def n801 (_ : Params) : PSigma fun o : Obj => fnO (.ofString "__setitem__") (.ofString "Substitution.__setitem__") d801.1 .none .none .none (.str (.ofString "matchpy.expressions.substitution") 1216) 800 = o := ⟨_, by (conv => lhs; dsimp only [fnO, d801])⟩
noncomputable def d808 : PSigma fun b : Arguments × List Stmt × Scope => fp18x5 = b := ⟨_, by (conv => lhs; whnf)⟩
noncomputable def n808 (_ : Params) : PSigma fun o : Obj => fnO (.ofString "__len__") (.ofString "Substitution.__len__") d808.1 .none .none .none (.str (.ofString "matchpy.expressions.substitution") 1216) 807 = o := ⟨_, by (conv => lhs; dsimp only [fnO, d808])⟩
noncomputable def d815 : PSigma fun b : Arguments × List Stmt × Scope => fp18x6 = b := ⟨_, by (conv => lhs; whnf)⟩
noncomputable def n815 (_ : Params) : PSigma fun o : Obj => fnO (.ofString "items") (.ofString "Substitution.items") d815.1 .none .none .none (.str (.ofString "matchpy.expressions.substitution") 1216) 814 = o := ⟨_, by (conv => lhs; dsimp only [fnO, d815])⟩
noncomputable def d822 : PSigma fun b : Arguments × List Stmt × Scope => fp18x7 = b := ⟨_, by (conv => lhs; whnf)⟩
noncomputable def n822 (_ : Params) : PSigma fun o : Obj => fnO (.ofString "try_add_variable") (.ofString "Substitution.try_add_variable") d822.1 .none .none (docV fp18x7 1292) (.str (.ofString "matchpy.expressions.substitution") 1216) 821 = o := ⟨_, by (conv => lhs; dsimp only [fnO, d822])⟩
noncomputable def d836 : PSigma fun b : Arguments × List Stmt × Scope => fp18x9 = b := ⟨_, by (conv => lhs; whnf)⟩
noncomputable def n836 (_ : Params) : PSigma fun o : Obj => fnO (.ofString "extract_substitution") (.ofString "Substitution.extract_substitution") d836.1 .none .none (docV fp18x9 1314) (.str (.ofString "matchpy.expressions.substitution") 1216) 835 = o := ⟨_, by (conv => lhs; dsimp only [fnO, d836])⟩
noncomputable def d875 : PSigma fun b : Arguments × List Stmt × Scope => fp21 = b := ⟨_, by (conv => lhs; whnf)⟩
noncomputable def n875 (_ : Params) : PSigma fun o : Obj => fnO (.ofString "_law_make") (.ofString "_law_make") d875.1 .none .none .none (.str (.ofString "law_ak0016_01") 1340) 874 = o := ⟨_, by (conv => lhs; dsimp only [fnO, d875])⟩
noncomputable def d880 : PSigma fun b : Arguments × List Stmt × Scope => fp22 = b := ⟨_, by (conv => lhs; whnf)⟩
noncomputable def n880 (_ : Params) : PSigma fun o : Obj => fnO (.ofString "_law_read") (.ofString "_law_read") d880.1 .none .none .none (.str (.ofString "law_ak0016_01") 1340) 879 = o := ⟨_, by (conv => lhs; dsimp only [fnO, d880])⟩
noncomputable def d887 : PSigma fun b : Arguments × List Stmt × Scope => fp23 = b := ⟨_, by (conv => lhs; whnf)⟩
noncomputable def n887 (_ : Params) : PSigma fun o : Obj => fnO (.ofString "_law_next") (.ofString "_law_next") d887.1 .none .none .none (.str (.ofString "law_ak0016_01") 1340) 886 = o := ⟨_, by (conv => lhs; dsimp only [fnO, d887])⟩
noncomputable def d894 : PSigma fun b : Arguments × List Stmt × Scope => fp24 = b := ⟨_, by (conv => lhs; whnf)⟩
noncomputable def n894 (_ : Params) : PSigma fun o : Obj => fnO (.ofString "_law_grown") (.ofString "_law_grown") d894.1 .none .none .none (.str (.ofString "law_ak0016_01") 1340) 893 = o := ⟨_, by (conv => lhs; dsimp only [fnO, d894])⟩
noncomputable def d899 : PSigma fun b : Arguments × List Stmt × Scope => fp25 = b := ⟨_, by (conv => lhs; whnf)⟩
noncomputable def n899 (_ : Params) : PSigma fun o : Obj => fnO (.ofString "_law_filled") (.ofString "_law_filled") d899.1 .none .none .none (.str (.ofString "law_ak0016_01") 1340) 898 = o := ⟨_, by (conv => lhs; dsimp only [fnO, d899])⟩
noncomputable def d904 : PSigma fun b : Arguments × List Stmt × Scope => fp26 = b := ⟨_, by (conv => lhs; whnf)⟩
noncomputable def n904 (_ : Params) : PSigma fun o : Obj => fnO (.ofString "law") (.ofString "law") d904.1 .none .none .none (.str (.ofString "law_ak0016_01") 1340) 903 = o := ⟨_, by (conv => lhs; dsimp only [fnO, d904])⟩
noncomputable def MyK : Params → Frag := fun P =>
  ((nat_lit 1, boot_o_1 P) : Nat × Obj) ::
  ((nat_lit 2, boot_o_2 P) : Nat × Obj) ::
  ((nat_lit 3, o3v9 P) : Nat × Obj) ::
  ((nat_lit 4, boot_o_4 P) : Nat × Obj) ::
  ((nat_lit 5, boot_o_5 P) : Nat × Obj) ::
  ((nat_lit 134, o134 P) : Nat × Obj) ::
  ((nat_lit 135, o135 P) : Nat × Obj) ::
  ((nat_lit 154, o154 P) : Nat × Obj) ::
  ((nat_lit 160, o160 P) : Nat × Obj) ::
  ((nat_lit 161, (n161 P).1) : Nat × Obj) ::
  ((nat_lit 177, o177 P) : Nat × Obj) ::
  ((nat_lit 178, o178 P) : Nat × Obj) ::
  ((nat_lit 202, o202 P) : Nat × Obj) ::
  ((nat_lit 203, (n203 P).1) : Nat × Obj) ::
  ((nat_lit 307, o307 P) : Nat × Obj) ::
  ((nat_lit 308, o308v2 P) : Nat × Obj) ::
  ((nat_lit 316, o316 P) : Nat × Obj) ::
  ((nat_lit 329, o329 P) : Nat × Obj) ::
  ((nat_lit 330, (n330 P).1) : Nat × Obj) ::
  ((nat_lit 371, o371 P) : Nat × Obj) ::
  ((nat_lit 372, o372 P) : Nat × Obj) ::
  ((nat_lit 374, o374 P) : Nat × Obj) ::
  ((nat_lit 375, o375 P) : Nat × Obj) ::
  ((nat_lit 379, o379 P) : Nat × Obj) ::
  ((nat_lit 380, o380 P) : Nat × Obj) ::
  ((nat_lit 381, o381 P) : Nat × Obj) ::
  ((nat_lit 396, o396 P) : Nat × Obj) ::
  ((nat_lit 397, (n397 P).1) : Nat × Obj) ::
  ((nat_lit 398, o398 P) : Nat × Obj) ::
  ((nat_lit 404, o404 P) : Nat × Obj) ::
  ((nat_lit 405, (n405 P).1) : Nat × Obj) ::
  ((nat_lit 411, o411 P) : Nat × Obj) ::
  ((nat_lit 412, (n412 P).1) : Nat × Obj) ::
  ((nat_lit 414, o414 P) : Nat × Obj) ::
  ((nat_lit 415, o415 P) : Nat × Obj) ::
  ((nat_lit 423, o423 P) : Nat × Obj) ::
  ((nat_lit 428, o154 P) : Nat × Obj) ::
  ((nat_lit 429, o429 P) : Nat × Obj) ::
  ((nat_lit 435, o435 P) : Nat × Obj) ::
  ((nat_lit 436, (n436 P).1) : Nat × Obj) ::
  ((nat_lit 442, o442 P) : Nat × Obj) ::
  ((nat_lit 443, (n443 P).1) : Nat × Obj) ::
  ((nat_lit 444, o444 P) : Nat × Obj) ::
  ((nat_lit 445, o445 P) : Nat × Obj) ::
  ((nat_lit 447, o154 P) : Nat × Obj) ::
  ((nat_lit 448, o448 P) : Nat × Obj) ::
  ((nat_lit 454, o454 P) : Nat × Obj) ::
  ((nat_lit 455, (n455 P).1) : Nat × Obj) ::
  ((nat_lit 456, o456 P) : Nat × Obj) ::
  ((nat_lit 457, o457 P) : Nat × Obj) ::
  ((nat_lit 478, o478 P) : Nat × Obj) ::
  ((nat_lit 479, (n479 P).1) : Nat × Obj) ::
  ((nat_lit 492, o492 P) : Nat × Obj) ::
  ((nat_lit 493, (n493 P).1) : Nat × Obj) ::
  ((nat_lit 560, o560 P) : Nat × Obj) ::
  ((nat_lit 561, o561 P) : Nat × Obj) ::
  ((nat_lit 572, o572 P) : Nat × Obj) ::
  ((nat_lit 573, o573v1 P) : Nat × Obj) ::
  ((nat_lit 579, o579 P) : Nat × Obj) ::
  ((nat_lit 584, o154 P) : Nat × Obj) ::
  ((nat_lit 585, o585 P) : Nat × Obj) ::
  ((nat_lit 591, o591 P) : Nat × Obj) ::
  ((nat_lit 592, (n592 P).1) : Nat × Obj) ::
  ((nat_lit 633, o633 P) : Nat × Obj) ::
  ((nat_lit 634, (n634 P).1) : Nat × Obj) ::
  ((nat_lit 636, o636 P) : Nat × Obj) ::
  ((nat_lit 637, o637 P) : Nat × Obj) ::
  ((nat_lit 643, o643 P) : Nat × Obj) ::
  ((nat_lit 648, o648 P) : Nat × Obj) ::
  ((nat_lit 649, o649 P) : Nat × Obj) ::
  ((nat_lit 655, o655 P) : Nat × Obj) ::
  ((nat_lit 656, (n656 P).1) : Nat × Obj) ::
  ((nat_lit 740, o740 P) : Nat × Obj) ::
  ((nat_lit 741, o741 P) : Nat × Obj) ::
  ((nat_lit 744, o744 P) : Nat × Obj) ::
  ((nat_lit 750, o750 P) : Nat × Obj) ::
  ((nat_lit 751, (n751 P).1) : Nat × Obj) ::
  ((nat_lit 757, o757 P) : Nat × Obj) ::
  ((nat_lit 758, (n758 P).1) : Nat × Obj) ::
  ((nat_lit 764, o764 P) : Nat × Obj) ::
  ((nat_lit 765, (n765 P).1) : Nat × Obj) ::
  ((nat_lit 773, o154 P) : Nat × Obj) ::
  ((nat_lit 779, o779 P) : Nat × Obj) ::
  ((nat_lit 780, (n780 P).1) : Nat × Obj) ::
  ((nat_lit 786, o786 P) : Nat × Obj) ::
  ((nat_lit 787, (n787 P).1) : Nat × Obj) ::
  ((nat_lit 793, o793 P) : Nat × Obj) ::
  ((nat_lit 794, (n794 P).1) : Nat × Obj) ::
  ((nat_lit 800, o800 P) : Nat × Obj) ::
  ((nat_lit 801, (n801 P).1) : Nat × Obj) ::
  ((nat_lit 807, o807 P) : Nat × Obj) ::
  ((nat_lit 808, (n808 P).1) : Nat × Obj) ::
  ((nat_lit 814, o814 P) : Nat × Obj) ::
  ((nat_lit 815, (n815 P).1) : Nat × Obj) ::
  ((nat_lit 821, o821 P) : Nat × Obj) ::
  ((nat_lit 822, (n822 P).1) : Nat × Obj) ::
  ((nat_lit 835, o835 P) : Nat × Obj) ::
  ((nat_lit 836, (n836 P).1) : Nat × Obj) ::
  ((nat_lit 852, o852 P) : Nat × Obj) ::
  ((nat_lit 853, o853 P) : Nat × Obj) ::
  ((nat_lit 858, o858 P) : Nat × Obj) ::
  ((nat_lit 859, o859 P) : Nat × Obj) ::
  ((nat_lit 860, o860 P) : Nat × Obj) ::
  ((nat_lit 861, o861 P) : Nat × Obj) ::
  ((nat_lit 862, o862 P) : Nat × Obj) ::
  ((nat_lit 863, o863 P) : Nat × Obj) ::
  ((nat_lit 864, o864 P) : Nat × Obj) ::
  ((nat_lit 865, o865 P) : Nat × Obj) ::
  ((nat_lit 866, o866 P) : Nat × Obj) ::
  ((nat_lit 867, o867 P) : Nat × Obj) ::
  ((nat_lit 868, o868 P) : Nat × Obj) ::
  ((nat_lit 869, o869 P) : Nat × Obj) ::
  ((nat_lit 870, o870 P) : Nat × Obj) ::
  ((nat_lit 874, o874 P) : Nat × Obj) ::
  ((nat_lit 875, (n875 P).1) : Nat × Obj) ::
  ((nat_lit 879, o879 P) : Nat × Obj) ::
  ((nat_lit 880, (n880 P).1) : Nat × Obj) ::
  ((nat_lit 886, o886 P) : Nat × Obj) ::
  ((nat_lit 887, (n887 P).1) : Nat × Obj) ::
  ((nat_lit 893, o893 P) : Nat × Obj) ::
  ((nat_lit 894, (n894 P).1) : Nat × Obj) ::
  ((nat_lit 898, o898 P) : Nat × Obj) ::
  ((nat_lit 899, (n899 P).1) : Nat × Obj) ::
  ((nat_lit 903, o903 P) : Nat × Obj) ::
  ((nat_lit 904, (n904 P).1) : Nat × Obj) :: []
noncomputable def MyA : List Addr := [1, 2, 3, 4, 5, 134, 135, 154, 160, 161, 177, 178, 202, 203, 307, 308, 316, 329, 330, 371, 372, 374, 375, 379, 380, 381, 396, 397, 398, 404, 405, 411, 412, 414, 415, 423, 428, 429, 435, 436, 442, 443, 444, 445, 447, 448, 454, 455, 456, 457, 478, 479, 492, 493, 560, 561, 572, 573, 579, 584, 585, 591, 592, 633, 634, 636, 637, 643, 648, 649, 655, 656, 740, 741, 744, 750, 751, 757, 758, 764, 765, 773, 779, 780, 786, 787, 793, 794, 800, 801, 807, 808, 814, 815, 821, 822, 835, 836, 852, 853, 858, 859, 860, 861, 862, 863, 864, 865, 866, 867, 868, 869, 870, 874, 875, 879, 880, 886, 887, 893, 894, 898, 899, 903, 904]
theorem regMyK : PySem.Challenge.rw_ak0016_01 = PySem.Challenge.rw_ak0016_01 ∧ MyK = MyK := by k_fill; exact ⟨rfl, rfl⟩
theorem myA_eq (P : Params) : MyA = (MyK P).map (·.1) := by kernel_rfl
end secMyK
section secLeft
noncomputable def q9p : Program := { pw with main := { pw.main with body := [stmtAt PySem.Challenge.pw_ak0016_01.main.body 26] } }
noncomputable def loose9 : List Str := ["_wall", "Multiset", "_tuplegetter", "_sort", "Expression", "Arity", "_OperationMeta", "Operation", "Atom", "Symbol", "Wildcard", "create_operation_expression", "op_iter", "op_len", "Substitution", "_law_pieces", "_law_make", "_law_read", "_law_next", "_law_grown", "_law_filled"]
noncomputable abbrev H9 : Hook := kmHook MyK MyA myA_eq [474]
noncomputable abbrev N9 : Nat := 20000
noncomputable abbrev R9 : WRecords := []
theorem open9 : ∀ w : World, (fencedOpening treeTable pw w N9).map (fun s => (s.heap, s.gens, s.drawn, s.toks)) = some (boot_heap w.params, Array.mk [], boot_drawn, boot_toks) :=
  boot_open (by kernel_rfl) (by decide +kernel) (fun s => by kernel_rfl)
theorem size9 (w : World) : ((boot_heap w.params).isNs mainGlobals && (Array.mk [] : Array GenState).size == 0, (boot_heap w.params).objs.size, (boot_heap w.params).nsMap mainGlobals "__annotations__") = (true, 11, ann9) := by kernel_rfl
noncomputable abbrev sF (w : World) (os : OsState) : Shared := ⟨absHeap (t10 w.params) 905 {}, #[], {}, 1402, os⟩
theorem look1 (w : World) (os : OsState) : (staticsOk (importedModules pw.main.body) (boot_heap w.params) (absHeap (t10 w.params) 905 {}) && namesBound pw (absHeap (t10 w.params) 905 {}) && gensDone (sF w os) && laidKept (boot_heap w.params) (absHeap (t10 w.params) 905 {})) = true := by kernel_rfl
theorem look3 (w : World) (os : OsState) : H9.obs (sF w os) = H9.val w := by kernel_rfl
theorem look2 (w : World) (os : OsState) : openSeen q9p loose9 (importedModules pw.main.body) (fun s => xlAt q9p [] s && recOk R9 s) true (sF w os) = openGood q9p loose9 := by
  rw [PySem.W.Fast.te4187177175401517315]; kernel_rfl
theorem left9 : LeftO pw q9p loose9 (fun s => xlAt q9p [] s && recOk R9 s) H9.obs H9.val N9 :=
  LeftO.of_pieces (H₀ := boot_heap) (H₁ := fun P => absHeap (t10 P) 905 {}) open9 size9 run9 (by decide +kernel) (fun w => funext fun os => Prod.ext (look1 w os) (Prod.ext (look2 w os) (look3 w os)))
end secLeft
section secHold
theorem said9 : PySem.Challenge.rw_ak0016_01.wellSaid = true := by
  rw [PySem.W.Fast.te9446332074065402090]; kernel_rfl
noncomputable def law9 : DefRec := ⟨"law", d904.1.1, d904.1.2.1, d904.1.2.2, ⟨802, 0, 824, 93⟩⟩
noncomputable abbrev r9 : OpenRow := PySem.Challenge.rw_ak0016_01.row
theorem def9 : defOf q9p (Str.ofString "law") = some (law9, []) := by kernel_rfl
theorem the9 : pw.theDef (Str.ofString "law") = some (law9.params, law9.body, law9.scope) := by kernel_rfl
theorem kw9 : kwWritten? law9.params.kwonlyargs law9.params.kw_defaults = some [] := by kernel_rfl
theorem ok9 : (chainsOk q9p && opensWell r9.prog && (frees r9.toRowW && r9.within.isEmpty)) = true := by kernel_rfl
theorem prom9 : r9.toRowW.promised := RowW.promised_of_found (by kernel_rfl)
theorem hd9 (call : WalkO q9p loose9 (XL q9p []) H9.says r9.toRowW law9 [] fun f vs => PySem.call f vs) : PySem.Challenge.rw_ak0016_01.Holds :=
  holds_law said9 fun k1 => holds_open (r := r9) (q := q9p) (loose := loose9) (Xt := fun s => xlAt q9p [] s && recOk R9 s) (XP := XL q9p []) (Yf := H9.obs) (Ya := H9.val) (YP := H9.says) (d := law9) (kwd := []) (N := N9)
    left9 H9.of H9.keeps (fun s e => xl_of s (Bool.and_eq_true_iff.mp e).1) XL.keeps def9 the9 kw9 (fun s e => recFacts_of (Bool.and_eq_true_iff.mp e).2) rfl k1 ok9 ⟨rfl, rfl, rfl, rfl, rfl, by decide +kernel⟩ prom9 call
end secHold
section secPost
/-- what the law's end owes: the answer, what stood, the code table grown at most -/
noncomputable def LawEnd (s₁ : Shared) (r : Result) (s' : Shared) : Prop :=
  r = .ok (.ret (.bool true)) ∧ (∀ b o, (ghostOf s₁.heap [(478, 474)]).get? b = some o → s'.heap.get? b = some o) ∧ (∃ ps, s'.heap.get? 474 = some (tabObj ps)) ∧ AllBare s'.gens ∧ s'.os = s₁.os
theorem law_post {M : Model} {A : Around} {cd : Code} {s s₁ : Shared} {cl : Str → Option Addr} {mean : ExcName → Option Value} {args : List WData} (hT : TabsAt [(478, 474)] s₁.heap)
    (h : codeAny M A cd (LawEnd s₁) s) : codeAny M A cd (GoodWG r9.claim cl mean args s₁) s :=
  codeAny_mono h fun r s' ⟨hr, hk, ⟨ps, hps⟩, hg, hos⟩ => by
    have hq := hT (478, 474) (.head _)
    have keep : ∀ b o, b ≠ 474 → s₁.heap.get? b = some o → s'.heap.get? b = some o := fun b o hb e => hk b o (ghost_ne e (by simpa using hb))
    refine ⟨.inl ⟨.bool true, .bool true, [], hr, fun _ => by kernel_rfl, .bool true, by kernel_rfl, fun _ => ⟨.nil, fun a ha => nomatch ha⟩⟩, ⟨fun b o e => ?_, fun b o e => ?_⟩, hos, hg⟩
    · by_cases hb : b = 474
      · subst hb
        obtain rfl : o = tabObj #[] := Option.some.inj (e.symm.trans hq.2)
        exact .inr (.inl ⟨(hq.1.tab hq.2).isCodeTable, rfl, #[], ps, rfl, by rw [Array.empty_append]; exact hps⟩)
      · exact .inl (keep b o hb e)
    · by_cases hb : b = 474
      · subst hb; exact ⟨_, hps⟩
      · exact ⟨o, keep b o hb e⟩
end secPost
section secBase
noncomputable abbrev Led := List (Addr × Obj)
/-- an object that stays: it stands in the base, or in the ledger's still part -/
noncomputable def At (h₀ : Heap) (rest : Led) (a : Addr) (o : Obj) : Prop := h₀.get? a = some o ∨ (a, o) ∈ rest
noncomputable def AllOff : Led → Led → Prop
  | [], _ => True
  | q :: M, rest => (∀ p ∈ rest, p.1 ≠ q.1) ∧ AllOff M rest
theorem AllOff.all {rest : Led} : ∀ {M : Led}, AllOff M rest → ∀ q ∈ M, ∀ p ∈ rest, p.1 ≠ q.1 := by
  intro M
  induction M with
  | nil => intro _ q hq; cases hq
  | cons q0 M ih =>
    intro h q hq
    cases hq with
    | head => exact h.1
    | tail _ hq => exact ih h.2 q hq
theorem off1 {q : Addr × Obj} {rest : Led} (h : ∀ p ∈ rest, p.1 ≠ q.1) : AllOff [q] rest := ⟨h, trivial⟩
theorem off2 {q q2 : Addr × Obj} {rest : Led} (h : ∀ p ∈ rest, p.1 ≠ q.1) (h2 : ∀ p ∈ rest, p.1 ≠ q2.1) : AllOff [q, q2] rest := ⟨h, h2, trivial⟩
theorem off3 {q q2 q3 : Addr × Obj} {rest : Led} (h : ∀ p ∈ rest, p.1 ≠ q.1) (h2 : ∀ p ∈ rest, p.1 ≠ q2.1) (h3 : ∀ p ∈ rest, p.1 ≠ q3.1) : AllOff [q, q2, q3] rest := ⟨h, h2, h3, trivial⟩
structure Here (P : Params) (loose : List Str) (mean : ExcName → Option Value) (mg mb : Str → Option Value) (A₀ : Around) (base h₀ : Heap) (outer : List Env) (L : Addr) (m : Str → Option Value) (M rest : Led) (h : Heap) : Prop where
  B : Below A₀ base outer h₀
  F : Fr h₀ L h m
  X : (MyK P).In h₀
  N : News h₀ L h (M ++ rest)
  T : Top topProg loose mean mg mb h₀
  off : AllOff M rest
noncomputable abbrev lstOf (vs : List Value) (n : Nat) : Obj := { cls := .type "list", data := .seq vs.toArray n }
noncomputable abbrev tupOf (vs : List Value) : Obj := { cls := .type "tuple", data := .seq vs.toArray }

/-- the ground of a body: the mutable objects in the ledger, all else below -/
theorem grounded {g h₀ H : Heap} {L : Addr} {M rest : Led} (N : News h₀ L H (M ++ rest)) (off' : AllOff M rest) (G : GSub H g (M.map (·.1))) (st : ∀ b o, h₀.get? b = some o → g.get? b = some o) :
    ∀ a o, At h₀ rest a o → g.get? a = some o := by
  intro a o h
  have off := off'.all
  rcases h with h | h
  · exact st a o h
  · refine G a o (N (a, o) (List.mem_append_right _ h)).1 fun q => ?_
    obtain ⟨p, hp, e⟩ := List.mem_map.mp q
    exact off p hp (a, o) h e.symm
theorem subLed {h₀ H : Heap} {L : Addr} {M rest : Led} (N : News h₀ L H (M ++ rest)) : News h₀ L H M := fun p hp => N p (List.mem_append_left _ hp)
/-- behind the call: what stood still stands, beside what the call leaves -/
theorem back {g h₀ H h' : Heap} {L L' : Addr} {m' : Str → Option Value} {M rest M' tl : Led} (N : News h₀ L H (M ++ rest)) (hR : ∀ a o, At h₀ rest a o → g.get? a = some o) (F' : Fr g L' h' m') (kN : News h₀ L h' (M' ++ tl)) : News h₀ L h' (M' ++ (rest ++ tl)) := by
  intro p hp
  rcases List.mem_append.mp hp with hp | hp
  · exact kN p (List.mem_append_left _ hp)
  · rcases List.mem_append.mp hp with hp | hp
    · exact ⟨F'.keep _ _ (hR p.1 p.2 (.inr hp)), (N p (List.mem_append_right _ hp)).2⟩
    · exact kN p (List.mem_append_right _ hp)
theorem back0 {g h₀ H h' : Heap} {L L' : Addr} {m' : Str → Option Value} {M rest M' : Led} (N : News h₀ L H (M ++ rest)) (hR : ∀ a o, At h₀ rest a o → g.get? a = some o) (F' : Fr g L' h' m') (kN : News h₀ L h' M') : News h₀ L h' (M' ++ rest) := by
  intro p hp
  rcases List.mem_append.mp hp with hp | hp
  · exact kN p hp
  · exact ⟨F'.keep _ _ (hR p.1 p.2 (.inr hp)), (N p (List.mem_append_right _ hp)).2⟩
noncomputable def Fresh (H : Heap) (tl : Led) : Prop := ∀ p ∈ tl, H.get? p.1 = none
theorem fresh_of {g H h' : Heap} {L' : Addr} {M tl all : Led} (G : GSub H g (M.map (·.1))) (N' : News g L' h' all) (hs : ∀ p ∈ tl, p ∈ all) (ne : ∀ q ∈ M, ∀ p ∈ tl, p.1 ≠ q.1) : Fresh H tl := by
  intro p hp
  cases e : H.get? p.1 with
  | none => rfl
  | some o =>
    have := G p.1 o e fun q => by
      obtain ⟨x, hx, ex⟩ := List.mem_map.mp q
      exact ne x hx p hp ex.symm
    rw [(N' p (hs p hp)).2.2] at this
    cases this
/-- what a call has made lies off what stood -/
theorem fresh_ne {h g : Heap} {L a : Addr} {o : Obj} {l tl : Led} (N : News g L h l) (f : Fresh h tl) (hm : (a, o) ∈ l) : ∀ p ∈ tl, p.1 ≠ a := fun p hp e => by
  have h1 := f p hp
  have h2 := (N _ hm).1
  rw [e] at h1
  rw [h1] at h2
  cases h2
noncomputable abbrev InL (tl : Led) (a : Addr) (o : Obj) : Prop := (a, o) ∈ tl
theorem subNews {g h : Heap} {L : Addr} {l l' : Led} (N : News g L h l) (hs : ∀ p ∈ l', p ∈ l) : News g L h l' := fun p hp => N p (hs p hp)
theorem At.mono {h₀ : Heap} {r r' : Led} (hs : ∀ p ∈ r, p ∈ r') {a : Addr} {o : Obj} (h : At h₀ r a o) : At h₀ r' a o := h.imp id fun h => hs _ h

/-- the names of the variables -/
inductive Nm where
  | x | y | z
  deriving DecidableEq
noncomputable def Nm.str : Nm → Str
  | .x => "x" | .y => "y" | .z => "z"
/-- the leaves of patterns and subjects -/
inductive Lf where
  | v (n : Nm) | ay | a | b
  deriving DecidableEq
noncomputable def Lf.str : Lf → Str
  | .v .x => "x" | .v .y => "y" | .v .z => "z" | .ay => "a:y" | .a => "a" | .b => "b"
noncomputable def opStr : Bool → Str
  | false => "f" | true => "g"
/-- the law's trees: patterns, subjects, pieces -/
inductive Nd where
  | s (l : Lf)
  | o1 (k : Bool) (p : Nd)
  | o2 (k : Bool) (p q : Nd)
noncomputable def Nd.depth : Nd → Nat
  | .s _ => 0
  | .o1 _ p => p.depth + 1
  | .o2 _ p q => max p.depth q.depth + 1
noncomputable def Nd.leaves : Nd → Nat
  | .s _ => 1
  | .o1 _ p => p.leaves
  | .o2 _ p q => p.leaves + q.leaves
/-- a tree as the law writes it: texts, and tuples of a text and a list -/
inductive NdIn (R : Addr → Obj → Prop) : Value → Nd → Prop
  | s {l : Lf} {t : Tok} : NdIn R (.str l.str t) (.s l)
  | o1 {a l : Addr} {k : Bool} {t : Tok} {n n' : Nat} {v : Value} {p : Nd} : R a { cls := .type "tuple", data := .seq [.str (opStr k) t, .ref l].toArray n' } → R l (lstOf [v] n) → NdIn R v p → NdIn R (.ref a) (.o1 k p)
  | o2 {a l : Addr} {k : Bool} {t : Tok} {n n' : Nat} {v u : Value} {p q : Nd} : R a { cls := .type "tuple", data := .seq [.str (opStr k) t, .ref l].toArray n' } → R l (lstOf [v, u] n) → NdIn R v p → NdIn R u q → NdIn R (.ref a) (.o2 k p q)
theorem NdIn.mono {R R' : Addr → Obj → Prop} (h : ∀ a o, R a o → R' a o) {v : Value} {T : Nd} (x : NdIn R v T) : NdIn R' v T := by
  induction x with
  | s => exact .s
  | o1 a b _ ih => exact .o1 (h _ _ a) (h _ _ b) ih
  | o2 a b _ _ ih1 ih2 => exact .o2 (h _ _ a) (h _ _ b) ih1 ih2
end secBase
section secNext
/-- the state's list: the script's cut, the place -/
noncomputable abbrev stOf (sl : Addr) (k : Int) (tk : Tok) (n : Nat) : Obj := { cls := .type "list", data := .seq [Value.ref sl, .int k tk].toArray n }
set_option maxHeartbeats 4000000 in
theorem next_walk {prog : Program} {w : World} {loose : List Str} {mean : ExcName → Option Value} {mg mb : Str → Option Value} {dp un : Nat} {gd : Option (List Code)} {cn : Str} {cs : Scope} {a : Addr} {ccd : Value} {cl : List (Str × Addr)} {outer : List Env} {A₀ : Around} {base h₀ : Heap} {L : Addr} {m : Str → Option Value} {rest : Led} {s : Shared}
    {st sl : Addr} {vs : List Value} {ns : List Int} {k lim : Int} {tk tl : Tok} {n nl : Nat} {Q E : Value → Shared → Prop}
    (H : Here w.params loose mean mg mb A₀ base h₀ outer L m [(st, stOf sl k tk n)] rest s.heap) (hk : cs.kind = .function) (hsl : At h₀ rest sl (lstOf vs nl)) (hns : IntsAre vs ns) (hlen : ns.length ≤ 60) (hk0 : 0 ≤ k) (hl0 : 0 < lim)
    (hd : dp < recursionLimit)
    (ret : ∀ r t k' tk' n' h' tks, 0 ≤ r → r < lim → 0 ≤ k' → Fr h₀ L h' m → News h₀ L h' ([(st, stOf sl k' tk' n')] ++ rest) → Q (.int r t) { s with heap := h', toks := tks }) :
    wpAny (model prog w) (ktrTop dp un gd cn cs L a ccd cl outer) (call (.ref 887) [.ref st, .int lim tl]) Q E s := by
  obtain ⟨B, F, X, N, T, off⟩ := H
  have N1 := subLed N
  refine wpAny_call ?_
  k_dflt (refine' code_defG (binds := [(Str.ofString "state", .ref st), (Str.ofString "limit", .int lim tl)]) B F X N1 T ?kA ?kF ?kK ?k6 ?k7 ?k8 ?k9 ?kB ?_ ?c2 ?c3 ?c4 ?c5; (case kA => exact rfl); (case kF => exact rfl); (case kK => exact hk); (case k6 => k_is); (case k7 => k_is); (case k8 => exact hd); (case k9 => exact BindsTo.of_eq rfl); (case c5 => decide); (case kB => exact locs rfl); (case c2 => exact rfl); (case c3 => exact rfl); (case c4 => exact rfl))
  intro g L' h1 FG F' N' B' X' T' kG
  have hR := grounded N off kG FG.keep
  have hS : g.IsList sl vs.toArray := ⟨_, hR sl _ hsl, rfl, _, rfl⟩
  (try dsimp only); (try k_fold)
  k_steps
  · exact ret _ _ (k + 1) _ _ _ _ (by omega) (by omega) (by omega) (by assumption) (back0 N hR (by assumption) (by assumption))
  · refine ret _ _ (k + 1) _ _ _ _ ?_ ?_ (by omega) (by assumption) (back0 N hR (by assumption) (by assumption))
    · rw [Int.fmod_eq_emod_of_nonneg _ (by omega)]; exact Int.emod_nonneg _ (by omega)
    · rw [Int.fmod_eq_emod_of_nonneg _ (by omega)]; exact Int.emod_lt_of_pos _ (by omega)
end secNext
section secGrown
noncomputable def GrownSpec (prog : Program) (w : World) (loose : List Str) (mean : ExcName → Option Value) (mg mb : Str → Option Value) (d : Nat) : Prop :=
  ∀ (dp un : Nat) (gd : Option (List Code)) (cn : Str) (cs : Scope) (a : Addr) (ccd : Value) (cl : List (Str × Addr)) (outer : List Env) (A₀ : Around) (base h₀ : Heap) (L : Addr) (m : Str → Option Value) (rest : Led) (s : Shared)
    (st sl : Addr) (vs : List Value) (ns : List Int) (k e : Int) (tk tl : Tok) (n nl : Nat) (Q E : Value → Shared → Prop),
    Here w.params loose mean mg mb A₀ base h₀ outer L m [(st, stOf sl k tk n)] rest s.heap → cs.kind = .function → At h₀ rest sl (lstOf vs nl) → IntsAre vs ns → ns.length ≤ 60 → 0 ≤ k → e = d →
    dp + d + 2 < recursionLimit →
    (∀ r T k' tk' n' tl' h' tks, T.depth ≤ d → 0 ≤ k' → Fr h₀ L h' m → News h₀ L h' ([(st, stOf sl k' tk' n')] ++ (rest ++ tl')) → Fresh s.heap tl' → NdIn (InL tl') r T → Q r { s with heap := h', toks := tks }) →
    wpAny (model prog w) (ktrTop dp un gd cn cs L a ccd cl outer) (call (.ref 894) [.ref st, .int e tl]) Q E s
theorem xyz_ret {P : Str → Prop} (h : ∀ n : Nm, P (Lf.v n).str) (r : Int) : P (Txt.item (Str.ofString "xyz") (r.fmod 3)) := by
  have h1 := Int.emod_nonneg r (show (3 : Int) ≠ 0 by decide)
  have h2 := Int.emod_lt_of_pos r (show (0 : Int) < 3 by decide)
  rw [Int.fmod_eq_emod_of_nonneg _ (by decide)]
  have : r % 3 = 0 ∨ r % 3 = 1 ∨ r % 3 = 2 := by omega
  rcases this with h' | h' | h' <;> rw [h']
  · rw [show Txt.item (Str.ofString "xyz") 0 = (Lf.v .x).str by decide +kernel]; exact h _
  · rw [show Txt.item (Str.ofString "xyz") 1 = (Lf.v .y).str by decide +kernel]; exact h _
  · rw [show Txt.item (Str.ofString "xyz") 2 = (Lf.v .z).str by decide +kernel]; exact h _
section
variable {prog : Program} {w : World} {loose : List Str} {mean : ExcName → Option Value} {mg mb : Str → Option Value}
theorem grown_use {d : Nat} (IH : ∀ d', d' < d → GrownSpec prog w loose mean mg mb d') {dp un : Nat} {gd : Option (List Code)} {cn : Str} {cs : Scope} {a : Addr} {ccd : Value} {cl : List (Str × Addr)} {outer : List Env} {A₀ : Around} {base h₀ : Heap} {L : Addr} {m : Str → Option Value} {rest : Led} {s : Shared}
    {st sl : Addr} {vs : List Value} {ns : List Int} {k e : Int} {tk tl : Tok} {n nl : Nat} {Q E : Value → Shared → Prop}
    (H : Here w.params loose mean mg mb A₀ base h₀ outer L m [(st, stOf sl k tk n)] rest s.heap) (hk : cs.kind = .function) (hsl : At h₀ rest sl (lstOf vs nl)) (hns : IntsAre vs ns) (hlen : ns.length ≤ 60) (hk0 : 0 ≤ k) (he : e + 1 = d) (he0 : 0 ≤ e)
    (hd : dp + d + 1 < recursionLimit)
    (ret : ∀ r T k' tk' n' tl' h' tks, T.depth + 1 ≤ d → 0 ≤ k' → Fr h₀ L h' m → News h₀ L h' ([(st, stOf sl k' tk' n')] ++ (rest ++ tl')) → Fresh s.heap tl' → (∀ p ∈ tl', p.1 ≠ st) → NdIn (InL tl') r T → Q r { s with heap := h', toks := tks }) :
    wpAny (model prog w) (ktrTop dp un gd cn cs L a ccd cl outer) (call (.ref 894) [.ref st, .int e tl]) Q E s :=
  IH (d - 1) (by omega) _ _ _ _ _ _ _ _ _ _ _ _ _ _ _ _ _ _ _ _ _ _ _ _ _ _ _ _ H hk hsl hns hlen hk0 (by omega) (by omega) (fun r T k' tk' n' tl' h' tks h1 h2 h3 h4 h5 => ret r T k' tk' n' tl' h' tks (by omega) h2 h3 h4 h5 (fresh_ne H.N h5 (List.mem_append_left _ (.head _))))
end
set_option maxHeartbeats 4000000
theorem rk1 : True := by
  k_with "~k_room" => case' fr9 => (((try simp only [depth_under_make, depth_under_kw, depth_in1, depth_deeper, depth_caller]); (try dsimp only [ktrTop]); omega))
  k_with "~k_mem" => case' fr9 => (assumption)
  k_with "~lcg_sub" => case' fr9 => (first | (refine List.forall_mem_append.mpr ⟨?_, ?_⟩ <;> lcg_sub) | (intro p9 h9; k_mem))
  k_with "~k_all" => case' fr9 => (first | with_reducible assumption | (refine List.forall_mem_append.mpr ⟨?_, ?_⟩ <;> k_all))
  k_with "~call ref" => case' fr9 => ((k_here; (with_reducible show wpAny _ _ (call (Value.ref 887) _) _ _ _); k_dflt (refine' next_walk ⟨?B, ?F, ?X, ?N, ?T, off1 ?off⟩ ?hk ?hsl ?hns ?hlen ?hk0 ?hl0 ?hd ?_; (case F => k_asm); (case B => k_asm); (case X => k_asm); (case N => k_asm); (case T => k_asm); (case off => k_all); (case hk => exact rfl); (case hsl => first | assumption | exact Or.inl (by assumption)); (case hns => assumption); (case hlen => assumption); (case hk0 => omega); (case hl0 => decide); (case hd => k_room); k_whole); intro r9 t9 k9 tk9 n9 h9 tks9 i9 j9 l9 F9 N9; (try simp only [List.cons_append, List.nil_append] at N9); (try dsimp only); (try k_fold)))
  k_with "~call ref" => case' fr9 => ((k_here; (with_reducible show wpAny _ _ (call (Value.ref 894) _) _ _ _); k_dflt (refine' grown_use ?IH ⟨?B, ?F, ?X, ?N, ?T, off1 ?off⟩ ?hk ?hsl ?hns ?hlen ?hk0 ?he ?he0 ?hd ?_; (case IH => assumption); (case F => k_asm); (case B => k_asm); (case X => k_asm); (case N => k_asm); (case T => k_asm); (case off => k_all); (case hk => exact rfl); (case hsl => first | assumption | exact Or.inl (by assumption)); (case hns => assumption); (case hlen => assumption); (case hk0 => omega); (case he => omega); (case he0 => omega); (case hd => k_room); k_whole); intro r9 T9 k9 tk9 n9 tl9 h9 tks9 i9 j9 F9 N9 f9 o9 d9; (try simp only [List.cons_append, List.nil_append] at N9); (try dsimp only); (try k_fold)))
  trivial
theorem grown {prog : Program} {w : World} {loose : List Str} {mean : ExcName → Option Value} {mg mb : Str → Option Value} : ∀ {d : Nat}, (∀ d', d' < d → GrownSpec prog w loose mean mg mb d') → GrownSpec prog w loose mean mg mb d := by
  intro d IH dp un gd cn cs a ccd cl outer A₀ base h₀ L m rest s st sl vs ns k e tk tl n nl Q E H hk hsl hns hlen hk0 he hd ret
  obtain ⟨B, F, X, N, T, off⟩ := H
  have N1 := subLed N
  refine wpAny_call ?_
  k_dflt (refine' code_defG (binds := [(Str.ofString "state", .ref st), (Str.ofString "deep", .int e tl)]) B F X N1 T ?kA ?kF ?kK ?k6 ?k7 ?k8 ?k9 ?kB ?_ ?c2 ?c3 ?c4 ?c5; (case kA => exact rfl); (case kF => exact rfl); (case kK => exact hk); (case k6 => k_is); (case k7 => k_is); (case k8 => k_room); (case k9 => exact BindsTo.of_eq rfl); (case c5 => decide); (case kB => exact locs rfl); (case c2 => exact rfl); (case c3 => exact rfl); (case c4 => exact rfl))
  intro g L' h1 FG F' N' B' X' T' kG
  have hR := grounded N off kG FG.keep
  have hS0 : g.get? sl = some (lstOf vs nl) := hR sl _ hsl
  (try dsimp only); (try k_fold)
  k_steps
  · exact xyz_ret (P := fun x => Q (.str x _) _) (fun v9 => ret _ (.s (.v v9)) _ _ _ [] _ _ (Nat.zero_le _) (by assumption) (by assumption) (back (tl := []) N hR (by assumption) (by assumption)) (fun _ h => nomatch h) .s) _
  · exact xyz_ret (P := fun x => Q (.str x _) _) (fun v9 => ret _ (.s (.v v9)) _ _ _ [] _ _ (Nat.zero_le _) (by assumption) (by assumption) (back (tl := []) N hR (by assumption) (by assumption)) (fun _ h => nomatch h) .s) _
  · exact ret _ (.s .ay) _ _ _ [] _ _ (Nat.zero_le _) (by assumption) (by assumption) (back (M' := [_]) (tl := []) N hR (by assumption) (subNews (by assumption) (by lcg_sub))) (fun _ h => nomatch h) (.s (l := .ay))
  · exact ret _ (.s .a) _ _ _ [] _ _ (Nat.zero_le _) (by assumption) (by assumption) (back (M' := [_]) (tl := []) N hR (by assumption) (subNews (by assumption) (by lcg_sub))) (fun _ h => nomatch h) (.s (l := .a))
  · exact ret _ (.s .b) _ _ _ [] _ _ (Nat.zero_le _) (by assumption) (by assumption) (back (M' := [_]) (tl := []) N hR (by assumption) (subNews (by assumption) (by lcg_sub))) (fun _ h => nomatch h) (.s (l := .b))
  · rename_i r9 T9 k9 tk9 n9 tl9 h9 tks9 i9 j9 f9 o9 d9 lA hA la DA hB FB NB lb kF kN Tc kX
    refine ret _ (.o1 false T9) k9 tk9 n9 ((DA, tupOf [.str (opStr false) _, .ref lA]) :: (lA, lstOf [r9] 0) :: tl9) _ _ i9 j9 kF (back (M' := [(st, stOf sl k9 tk9 n9)]) N hR FB (subNews kN (by lcg_sub))) (fresh_of kG NB (by lcg_sub) ?_) (.o1 (.head _) (.tail _ (.head _)) (d9.mono (fun a o h => .tail _ (.tail _ h))))
    exact List.forall_mem_singleton.mpr (by k_all)
  · rename_i r8 T8 k8 tk8 n8 tl8 h8 tks8 i8 j8 f8 o8 d8 _ _ r9 T9 k9 tk9 n9 tl9 h9 tks9 i9 j9 f9 o9 d9 lA hA la DA hB FB NB lb kF kN Tc kX
    refine ret _ (.o2 true T8 T9) k9 tk9 n9 ((DA, tupOf [.str (opStr true) _, .ref lA]) :: (lA, lstOf [r8, r9] 0) :: (tl8 ++ tl9)) _ _ ?_ j9 kF (back (M' := [(st, stOf sl k9 tk9 n9)]) N hR FB (subNews kN (by lcg_sub))) (fresh_of kG NB (by lcg_sub) ?_) (.o2 (.head _) (.tail _ (.head _)) (d8.mono (fun a o h => .tail _ (.tail _ (List.mem_append_left _ h)))) (d9.mono (fun a o h => .tail _ (.tail _ (List.mem_append_right _ h)))))
    · simp only [Nd.depth]; omega
    · exact List.forall_mem_singleton.mpr (by k_all)
theorem grown_all {prog : Program} {w : World} {loose : List Str} {mean : ExcName → Option Value} {mg mb : Str → Option Value} (d : Nat) : GrownSpec prog w loose mean mg mb d := by
  induction d using Nat.strongRecOn with
  | _ d ih => exact grown ih
end secGrown
section secCells
section
variable {prog : Program} {w : World} {A A₀ : Around} {s : Shared} {K : Frag} {L : Addr} {h₀ base : Heap} {m mg mb : Str → Option Value} {news : List (Addr × Obj)} {p : Program} {loose : List Str} {mean : ExcName → Option Value}
theorem rk2 : True := by
  k_with_none
  trivial
/-- a def with cells is entered: the ground keeps all but the mutable part -/
theorem enterCells {env : Env} {outer : List Env} {R : Result → Shared → Prop} {name qual : Str} {params : Arguments} {body : List Stmt} {scope : Scope} {dV kV doc pm cdv ct oc : Value} {an od : Option Addr} {osl : Array (Option Value)} {f : Addr} {args : Args} {binds : List (Str × Value)}
    (B : Below A₀ base outer h₀) (F : Fr h₀ L s.heap m) (X₀ : K.In h₀) (N : News h₀ L s.heap news) (T : Top p loose mean mg mb h₀) (hA : A.frames = some (env :: outer)) (hf : env.frame = some L) (hke : env.scope.kind = .function)
    (ho : K.lookup f = some ⟨oc, od, .func (fnOf name qual params body scope dV kV doc pm an cdv ct), osl⟩) (hcd : codeIn K cdv qual = true) (hroom : A.depth < recursionLimit)
    (hbind : BindsTo s (fnOf name qual params body scope dV kV doc pm an cdv ct) args binds) (hkind : (binds.all fun y => scope.names.lookup y.1 == some .local || scope.names.lookup y.1 == some .cell) = true)
    (hnd : ((cellsFrom 0 scope.names []).map (·.1)).Nodup)
    (h : ∀ g L' h₁ tk cells, Fr h₀ L g m → Fr g L' h₁ (bindL (envOfC qual scope L' f cdv).kindOf binds fun _ => none) → News g L' h₁ (cells ++ news) →
      CellsAre (bindC (envOfC qual scope L' f cdv).kindOf binds fun _ => none) (cellsFrom (L' + 1) scope.names []) cells → Below A base (env :: outer) g → K.In g → Top p loose mean mg mb g → (∀ p ∈ news, p.1 < L') → GSub s.heap g (news.map (·.1)) →
      wpAny (model prog w) (A.deeper (envOfC qual scope L' f cdv)) (execs body (envOfC qual scope L' f cdv))
        (fun fl s' => LeaveK h₀ L m g R (match fl with | .ret v => v | _ => .none) s')
        (fun e s' => wpAny (model prog w) (A.deeper (envOfC qual scope L' f cdv)) («leaving» (envOfC qual scope L' f cdv) e) (fun _ s'' => R (.error e) s'') (fun e' s'' => R (.error e') s'') s')
        { s with heap := h₁, toks := tk })
    (hco : scope.isCoroutine = false) (hgen : scope.isGenerator = false) (hk : scope.kind = .function) : codeAny (model prog w) A (.call (.ref f) args) R s := by
  have ground := groundX (R := R) B F N hA hf hke
  have keepsG : GSub s.heap (hideAll s.heap (news.map (·.1))) (news.map (·.1)) := fun b o e n => hideAll_get _ e n
  refine codeAny_call_function hroom ((X₀.keeps F.keep) _ _ ho) rfl hco hgen rfl (codeRec_of (X₀.keeps F.keep) hcd) (hbind _ _ _ _ ?_)
  refine wpAny_newFunctionEnv_cells hk (kindsX hkind _) ?_
  rintro _ rfl s' x
  have old := x.toInCall.keep
  refine ⟨(T.nolimit.keeps F.keep).keeps old, codeAny_func ?_⟩
  obtain ⟨h₁, tk, rfl, _⟩ := x.done
  obtain ⟨cells, NC, Y⟩ := Cl.news (h₀ := s.heap) (Nat.le_refl _) fun n c hm =>
    ⟨x.cell n c (lookup_of_mem_nodup (cellsFrom_names scope.names 0 (s.heap.objs.size + 1) [] [] rfl ▸ hnd) hm), x.above n c hm⟩
  have NN : News (hideAll s.heap (news.map (·.1))) s.heap.objs.size h₁ (cells ++ news) := by
    intro p hp
    rcases List.mem_append.mp hp with hp | hp
    · have z := NC p hp
      refine ⟨z.1, z.2.1, ?_⟩
      cases q : (hideAll s.heap (news.map (·.1))).get? p.1 with
      | none => rfl
      | some o => exact absurd ((of_hideAll _ q).symm.trans z.2.2) (by simp)
    · exact ⟨old _ _ (N p hp).1, Nat.ne_of_lt (Heap.lt_size (N p hp).1), hideAll_none _ (List.mem_map_of_mem hp)⟩
  have FF : Fr (hideAll s.heap (news.map (·.1))) s.heap.objs.size h₁ _ := ⟨x.toInCall.ns, fun b o e => old b o (of_hideAll _ e), Nat.le_of_eq (hideAll_size _ _)⟩
  exact wpAny_mono (h _ _ h₁ tk cells ground.1 FF NN Y ground.2.1 (X₀.keeps ground.2.2.1) (T.keeps ground.2.2.1) (fun p hp => Heap.lt_size (N p hp).1) keepsG) (fun fl s' hl => ground.2.2.2 _ _ hl) fun _ _ y => y
end
/-- a name that a cell holds, in whatever block -/
theorem ld_cell {M : Model} {A : Around} {E : Value → Shared → Prop} {s : Shared} {env : Env} {h₀ : Heap} {L c : Addr} {o : Obj} {news : Led} {x : Str} {pos : Pos} {v : Value} {Q : Value → Shared → Prop} (N : News h₀ L s.heap news) (hc : env.cells.lookup x = some c) (hm : (c, o) ∈ news) (hd : o.data = .cell (some v)) (h : Q v s)
    (hk : env.scope.kind = .function) (hx : env.kindOf x = some .cell) (hb : (x == ("__debug__" : Str)) = false) : wpAny M A (eval (.Name x pos) env) Q E s :=
  wpAny_Name (wpAny_loadName_cell hk hx hc ⟨o, N.get hm, hd⟩ h) hb

/-- entries are taken out of a ledger -/
inductive Take (q : Addr × Obj) : Led → Led → Prop
  | head {r : Led} : Take q (q :: r) r
  | tail {p : Addr × Obj} {r r' : Led} : Take q r r' → Take q (p :: r) (p :: r')
theorem Take.sub {q : Addr × Obj} {l r : Led} (h : Take q l r) : ∀ p ∈ q :: r, p ∈ l := by
  induction h with
  | head => exact fun _ h => h
  | tail _ ih =>
    intro p hp
    rcases List.mem_cons.mp hp with rfl | hp
    · exact .tail _ (ih _ (.head _))
    · rcases List.mem_cons.mp hp with rfl | hp
      · exact .head _
      · exact .tail _ (ih _ (.tail _ hp))
theorem pick1 {g h : Heap} {L : Addr} {l r : Led} {q : Addr × Obj} (N : News g L h l) (t : Take q l r) : News g L h ([q] ++ r) := fun p hp => N p (t.sub p hp)
theorem pick2 {g h : Heap} {L : Addr} {l r r2 : Led} {q q2 : Addr × Obj} (N : News g L h l) (t : Take q l r) (t2 : Take q2 r r2) : News g L h ([q, q2] ++ r2) := fun p hp => N p (t.sub p (by
  rcases List.mem_cons.mp hp with rfl | hp
  · exact .head _
  · exact .tail _ (t2.sub p hp)))
theorem pick3 {g h : Heap} {L : Addr} {l r r2 r3 : Led} {q q2 q3 : Addr × Obj} (N : News g L h l) (t : Take q l r) (t2 : Take q2 r r2) (t3 : Take q3 r2 r3) : News g L h ([q, q2, q3] ++ r3) := fun p hp => N p (t.sub p (by
  rcases List.mem_cons.mp hp with rfl | hp
  · exact .head _
  · refine .tail _ (t2.sub p ?_)
    rcases List.mem_cons.mp hp with rfl | hp
    · exact .head _
    · exact .tail _ (t3.sub p hp)))
/-- the eight pieces -/
noncomputable def PieceVal (v : Value) : Fin 8 → Prop
  | 0 => ∃ t, v = .str "a" t
  | 1 => ∃ t, v = .str "b" t
  | 2 => v = .ref 859
  | 3 => v = .ref 861
  | 4 => v = .ref 863
  | 5 => v = .ref 865
  | 6 => v = .ref 867
  | 7 => v = .ref 869
noncomputable def pieceNd : Fin 8 → Nd
  | 0 => .s .a
  | 1 => .s .b
  | 2 => .o1 false (.s .a)
  | 3 => .o2 true (.s .a) (.s .b)
  | 4 => .o2 true (.s .b) (.s .a)
  | 5 => .o2 true (.s .a) (.s .a)
  | 6 => .o1 true (.s .a)
  | 7 => .o2 false (.s .a) (.s .b)
noncomputable abbrev InP (P : Params) (a : Addr) (o : Obj) : Prop := (MyK P).lookup a = some o
theorem pieceIn (P : Params) {v : Value} {p : Fin 8} (h : PieceVal v p) : NdIn (InP P) v (pieceNd p) := by
  match p, h with
  | 0, ⟨t, e⟩ => subst e; exact .s (l := .a)
  | 1, ⟨t, e⟩ => subst e; exact .s (l := .b)
  | 2, e => cases e; exact .o1 (k := false) (show (MyK P).lookup 859 = _ by exact rfl) (show (MyK P).lookup 858 = _ by exact rfl) (.s (l := .a))
  | 3, e => cases e; exact .o2 (k := true) (show (MyK P).lookup 861 = _ by exact rfl) (show (MyK P).lookup 860 = _ by exact rfl) (.s (l := .a)) (.s (l := .b))
  | 4, e => cases e; exact .o2 (k := true) (show (MyK P).lookup 863 = _ by exact rfl) (show (MyK P).lookup 862 = _ by exact rfl) (.s (l := .b)) (.s (l := .a))
  | 5, e => cases e; exact .o2 (k := true) (show (MyK P).lookup 865 = _ by exact rfl) (show (MyK P).lookup 864 = _ by exact rfl) (.s (l := .a)) (.s (l := .a))
  | 6, e => cases e; exact .o1 (k := true) (show (MyK P).lookup 867 = _ by exact rfl) (show (MyK P).lookup 866 = _ by exact rfl) (.s (l := .a))
  | 7, e => cases e; exact .o2 (k := false) (show (MyK P).lookup 869 = _ by exact rfl) (show (MyK P).lookup 868 = _ by exact rfl) (.s (l := .a)) (.s (l := .b))
/-- an item of the pieces' table -/
theorem pieces_at {P : Params} {r : Int} (h0 : 0 ≤ r) (h8 : r < 8) : ∃ (l : List Value) (n : Nat) (v : Value) (p : Fin 8), (MyK P).lookup 870 = some ⟨.type "list", none, .seq l.toArray n, #[]⟩ ∧ l[r.toNat]? = some v ∧ PieceVal v p := by
  have : r = 0 ∨ r = 1 ∨ r = 2 ∨ r = 3 ∨ r = 4 ∨ r = 5 ∨ r = 6 ∨ r = 7 := by omega
  rcases this with rfl | rfl | rfl | rfl | rfl | rfl | rfl | rfl
  · exact ⟨_, _, _, 0, rfl, rfl, _, rfl⟩
  · exact ⟨_, _, _, 1, rfl, rfl, _, rfl⟩
  · exact ⟨_, _, _, 2, rfl, rfl, rfl⟩
  · exact ⟨_, _, _, 3, rfl, rfl, rfl⟩
  · exact ⟨_, _, _, 4, rfl, rfl, rfl⟩
  · exact ⟨_, _, _, 5, rfl, rfl, rfl⟩
  · exact ⟨_, _, _, 6, rfl, rfl, rfl⟩
  · exact ⟨_, _, _, 7, rfl, rfl, rfl⟩
theorem pieces_item {prog : Program} {w : World} {A : Around} {E : Value → Shared → Prop} {s : Shared} {h₀ : Heap} {L : Addr} {m : Str → Option Value} {value slice : Expr} {r : Int} {u : Tok} {Q : Value → Shared → Prop} (F : Fr h₀ L s.heap m) (X : (MyK w.params).In h₀) (h0 : 0 ≤ r) (h8 : r < 8)
    (h : ∀ v p, PieceVal v p → Q v s) (hs : subscripted slice false (.ref 870) (.int r u) = operate [.ref 870, .int r u] (getItem (.ref 870) (.int r u)) := by with_unfolding_all rfl) :
    wpAny (model prog w) A (subscriptTail value slice (.ref 870) (.int r u)) Q E s := by
  obtain ⟨l, n, v, p, hl, hv, hp⟩ := pieces_at (P := w.params) h0 h8
  exact topList_K F X hl h0 (by omega) hv (h v p hp) hs
/-- a map of names to values, as a dict's pairs -/
noncomputable abbrev AL := List (Nm × Value)
noncomputable def AL.kvs (D : AL) : List (Str × Value) := D.map fun p => (p.1.str, p.2)
noncomputable def AL.get (D : AL) (n : Nm) : Option Value := (D.find? fun p => p.1 = n).map (·.2)
noncomputable def AL.set (D : AL) (n : Nm) (v : Value) : AL := if D.any (fun p => p.1 = n) then D.map (fun p => if p.1 = n then (p.1, v) else p) else D ++ [(n, v)]
theorem Nm.inj {a b : Nm} : a.str = b.str ↔ a = b := by
  refine ⟨fun h => ?_, fun h => h ▸ rfl⟩
  cases a <;> cases b <;> first | rfl | exact absurd h (by decide +kernel)
theorem AL.get_kvs (D : AL) (n : Nm) : valueAt D.kvs n.str = D.get n := by
  unfold valueAt AL.kvs AL.get
  induction D with
  | nil => rfl
  | cons p D ih =>
    simp only [List.map_cons, List.find?_cons, Nm.inj]
    by_cases h : p.1 = n
    · simp [h]
    · simp only [h, decide_false, Bool.false_eq_true, if_false]
      exact ih
theorem AL.set_kvs (D : AL) (n : Nm) (v : Value) : stored D.kvs n.str v = (D.set n v).kvs := by
  unfold stored AL.kvs AL.set
  have e : (List.map (fun p : Nm × Value => (p.1.str, p.2)) D).any (fun kv => decide (kv.1 = n.str)) = D.any fun p => decide (p.1 = n) := by
    rw [List.any_map]; congr 1; funext p; simp only [Function.comp_apply, Nm.inj]
  rw [e]
  cases D.any fun p => decide (p.1 = n) with
  | true =>
    simp only [if_true, List.map_map]
    refine List.map_congr_left fun p _ => ?_
    simp only [Function.comp_apply, Nm.inj]
    split <;> rfl
  | false => simp only [Bool.false_eq_true, if_false, List.map_append, List.map_cons, List.map_nil]
theorem Lf.str_v (n : Nm) : (Lf.v n).str = n.str := by cases n <;> rfl
section
variable {prog : Program} {w : World} {A : Around} {E : Value → Shared → Prop} {s : Shared}
theorem eq_nm_ay {n : Nm} {t u : Tok} {Q : Value → Shared → Prop} (h : Q (.bool false) s) : wpAny (model prog w) A (compareOp .Eq (.str n.str t) (.str (Str.ofString "a:y") u)) Q E s :=
  eq_str (by rw [show (n.str == Str.ofString "a:y") = false from by cases n <;> decide +kernel]; exact h)
theorem notin_nm {n : Nm} {l : Addr} {t t1 t2 t3 : Tok} {Q : Value → Shared → Prop} (hl : s.heap.IsList l [.str (Str.ofString "x") t1, .str (Str.ofString "y") t2, .str (Str.ofString "z") t3].toArray) (h : Q (.bool false) s) : wpAny (model prog w) A (compareOp .NotIn (.str n.str t) (.ref l)) Q E s :=
  notin_list_strs hl (.cons _ _ (.cons _ _ (.cons _ _ .nil))) (by rw [show (!(List.any [Str.ofString "x", Str.ofString "y", Str.ofString "z"] (· == n.str))) = false from by cases n <;> decide +kernel]; exact h)
end
theorem AL.set_length (D : AL) (n : Nm) (v : Value) : (D.set n v).length ≤ D.length + 1 := by
  unfold AL.set
  split
  · rw [List.length_map]; omega
  · rw [List.length_append]; exact Nat.le_refl _
theorem AL.set_mem {D : AL} {n : Nm} {v : Value} {p : Nm × Value} (h : p ∈ D.set n v) : p.2 = v ∨ p ∈ D := by
  unfold AL.set at h
  split at h
  · obtain ⟨q, hq, rfl⟩ := List.mem_map.mp h
    split
    · exact .inl rfl
    · exact .inr hq
  · rcases List.mem_append.mp h with h | h
    · exact .inr h
    · exact .inl (by rw [List.mem_singleton.mp h])
theorem AL.get_mem {D : AL} {n : Nm} {v : Value} (h : D.get n = some v) : ∃ p ∈ D, p.1 = n ∧ p.2 = v := by
  unfold AL.get at h
  obtain ⟨p, hp, e⟩ := Option.map_eq_some_iff.mp h
  exact ⟨p, List.mem_of_find?_eq_some hp, of_decide_eq_true (List.find?_some (p := fun p : Nm × Value => decide (p.1 = n)) hp), e⟩
end secCells
section secFilled
/-- the subject fits the pattern: the places, from the left to the right -/
inductive Fits : Nd → Nd → List (Nm × Fin 8) → Prop
  | v {n : Nm} {p : Fin 8} : Fits (.s (.v n)) (pieceNd p) [(n, p)]
  | ay : Fits (.s .ay) (.s .a) [(.y, 0)]
  | a : Fits (.s .a) (.s .a) []
  | b : Fits (.s .b) (.s .b) []
  | o1 {k : Bool} {t u : Nd} {ps : List (Nm × Fin 8)} : Fits t u ps → Fits (.o1 k t) (.o1 k u) ps
  | o2 {k : Bool} {t t' u u' : Nd} {ps ps' : List (Nm × Fin 8)} : Fits t u ps → Fits t' u' ps' → Fits (.o2 k t t') (.o2 k u u') (ps ++ ps')
/-- the places' list: tuples of a name and a piece -/
inductive PlacesIn (R : Addr → Obj → Prop) : List Value → List (Nm × Fin 8) → Prop
  | nil : PlacesIn R [] []
  | cons {a : Addr} {n : Nm} {p : Fin 8} {t : Tok} {v : Value} {n' : Nat} {vs : List Value} {ps : List (Nm × Fin 8)} : R a { cls := .type "tuple", data := .seq [.str n.str t, v].toArray n' } → PieceVal v p → PlacesIn R vs ps → PlacesIn R (.ref a :: vs) ((n, p) :: ps)
theorem PlacesIn.mono {R R' : Addr → Obj → Prop} (h : ∀ a o, R a o → R' a o) {vs : List Value} {ps : List (Nm × Fin 8)} (x : PlacesIn R vs ps) : PlacesIn R' vs ps := by
  induction x with
  | nil => exact .nil
  | cons a b _ ih => exact .cons (h _ _ a) b ih
theorem PlacesIn.app {R : Addr → Obj → Prop} {vs us : List Value} {ps qs : List (Nm × Fin 8)} (x : PlacesIn R vs ps) (y : PlacesIn R us qs) : PlacesIn R (vs ++ us) (ps ++ qs) := by
  induction x with
  | nil => exact y
  | cons a b _ ih => exact .cons a b ih
noncomputable def AllPc (D : AL) : Prop := ∀ p ∈ D, ∃ q, PieceVal p.2 q
noncomputable def FilledSpec (prog : Program) (w : World) (loose : List Str) (mean : ExcName → Option Value) (mg mb : Str → Option Value) (T : Nd) : Prop :=
  ∀ (dp un : Nat) (gd : Option (List Code)) (cn : Str) (cs : Scope) (a : Addr) (ccd : Value) (cl : List (Str × Addr)) (outer : List Env) (A₀ : Around) (base h₀ : Heap) (L : Addr) (m : Str → Option Value) (rest : Led) (s : Shared)
    (st sl hl pl : Addr) (vs : List Value) (ns : List Int) (k : Int) (tk : Tok) (n nl np : Nat) (node : Value) (oh : Obj) (D : AL) (us : List Value) (Q E : Value → Shared → Prop),
    Here w.params loose mean mg mb A₀ base h₀ outer L m [(st, stOf sl k tk n), (hl, oh), (pl, lstOf us np)] rest s.heap → cs.kind = .function → At h₀ rest sl (lstOf vs nl) → IntsAre vs ns → ns.length ≤ 60 → 0 ≤ k →
    @Ne Nat st hl → @Ne Nat st pl → @Ne Nat hl pl → (hl == sysModules) = false → oh.IsDictOf (strKind prog w) D.kvs → D.length + T.leaves ≤ 1000 → AllPc D → us.length + T.leaves ≤ 1000 → NdIn (At h₀ rest) node T →
    dp + T.depth + 2 < recursionLimit →
    (∀ r S ps k' tk' n' np' oh' D' us' tl' h' tks, 0 ≤ k' → Fr h₀ L h' m → News h₀ L h' ([(st, stOf sl k' tk' n'), (hl, oh'), (pl, lstOf (us ++ us') np')] ++ (rest ++ tl')) → Fresh s.heap tl' →
      oh'.IsDictOf (strKind prog w) (AL.kvs D') → D'.length ≤ D.length + T.leaves → AllPc D' → Fits T S ps → us'.length ≤ T.leaves → PlacesIn (InL tl') us' ps → NdIn (fun a o => InL tl' a o ∨ InP w.params a o) r S → Q r { s with heap := h', toks := tks }) →
    wpAny (model prog w) (ktrTop dp un gd cn cs L a ccd cl outer) (call (.ref 899) [.ref st, node, .ref hl, .ref pl]) Q E s
set_option maxHeartbeats 4000000

theorem rk3 : True := by
  k_with "~k_room" => case' fr9 => (((try simp only [depth_under_make, depth_under_kw, depth_in1, depth_deeper, depth_caller]); (try dsimp only [ktrTop]); omega))
  k_with "~k_mem" => case' fr9 => (assumption)
  k_with "~lcg_sub" => case' fr9 => (first | (refine List.forall_mem_append.mpr ⟨?_, ?_⟩ <;> lcg_sub) | (intro p9 h9; k_mem))
  k_with "~k_all" => case' fr9 => (first | with_reducible assumption | (refine List.forall_mem_append.mpr ⟨?_, ?_⟩ <;> k_all))
  k_with "~subscriptTail" => case' fr9 => ((k_here; (with_reducible show wpAny _ _ (subscriptTail _ _ (Value.ref 870) (Value.int _ _)) _ _ _); k_dflt (refine pieces_item (by k_asm) (by k_asm) (by omega) (by omega) ?_); intro v9 p9 hp9))
  k_with "~call builtin:dict.get" => case' fr9 => ((k_here; k_dflt (refine kdg_get2 (knd := PySem.strKind _ _) (by k_asm) (by k_mem) (by k_asm) (by k_asm) (strKind_is _ _ _ _) _ (by assumption) ?_); (try dsimp only [Option.getD])))
  k_with "~compareOp Eq str str" => case' fr9 => ((k_here; (with_reducible show wpAny _ _ (compareOp _ (Value.str (Nm.str _) _) (Value.str _ _)) _ _ _); refine eq_nm_ay ?_))
  k_with "~compareOp NotIn str ref" => case' fr9 => ((k_here; k_dflt (refine kdg_notin (knd := PySem.strKind _ _) (by k_asm) (by k_mem) (by k_asm) (by k_asm) (strKind_is _ _ _ _) _ (by assumption) ?_); (try dsimp only [Bool.not_true, Bool.not_false])))
  k_with "~setItem ref str" => case' fr9 => ((k_here; k_dflt (refine' kda_set (knd := PySem.strKind _ _) ?F ?N ?U ?d (strKind_is _ _ _ _) ?z ?_; (case F => k_asm); (case N => k_asm); (case U => k_updF); (case d => k_asm); (case z => (rw [sizeLine_eq]; simp only [AL.kvs, List.length_map]; omega))); intro h' o' F' N' hd'; (try dsimp only at N')))
  k_with "~lcg_src" => case' fr9 => (first | exact Take.head | (refine' Take.tail ?zz; (case zz => lcg_src)))
  k_with "~call ref" => case' fr9 => ((k_here; (with_reducible show wpAny _ _ (call (Value.ref 887) _) _ _ _); k_dflt (refine' next_walk ⟨?B, ?F, ?X, pick1 ?N ?t, ?T, off1 ?off⟩ ?hk ?hsl ?hns ?hlen ?hk0 ?hl0 ?hd ?_; (case F => k_asm); (case B => k_asm); (case X => k_asm); (case N => k_asm); (case t => lcg_src); (case T => k_asm); (case off => k_all); (case hk => exact rfl); (case hsl => first | assumption | exact Or.inl (by assumption)); (case hns => assumption); (case hlen => assumption); (case hk0 => omega); (case hl0 => decide); (case hd => k_room); k_whole); intro r9 t9 k9 tk9 n9 h9 tks9 i9 j9 l9 F9 N9; (try simp only [List.cons_append, List.nil_append] at N9); (try dsimp only); (try k_fold)))
  k_with "~compareOp NotIn str ref" => case' fr9 => ((k_here; (with_reducible show wpAny _ _ (compareOp _ (Value.str (Nm.str _) _) (Value.ref _)) _ _ _); k_dflt (refine notin_nm (News.isList (by k_asm) (by k_mem)) ?_)))
  trivial
theorem filled_v {prog : Program} {w : World} {loose : List Str} {mean : ExcName → Option Value} {mg mb : Str → Option Value} {v : Nm} : FilledSpec prog w loose mean mg mb (.s (.v v)) := by
  intro dp un gd cn cs a ccd cl outer A₀ base h₀ L m rest s st sl hl pl vs ns k tk n nl np node oh D us Q E H hk hsl hns hlen hk0 n1 n2 n3 lo hD hDz hDp hus hnd hd ret
  obtain ⟨B, F, X, N, T, off⟩ := H
  have N1 := subLed N
  cases hnd
  rename_i tn
  simp only [Nd.leaves] at hDz hus
  rw [Lf.str_v]
  cases hv : D.get v with
  | none =>
    have hv1 : valueAt D.kvs v.str = none := (AL.get_kvs D v).trans hv
    have hv2 : (valueAt D.kvs v.str).isSome = false := by rw [hv1]; rfl
    refine wpAny_call ?_
    k_dflt (refine' enterCells (binds := [(Str.ofString "state", .ref st), (Str.ofString "node", .str v.str tn), (Str.ofString "held", .ref hl), (Str.ofString "places", .ref pl)]) B F X N1 T ?kA ?kF ?kK ?k6 ?k7 ?k8 ?k9 ?kB ?kD ?_ ?c2 ?c3 ?c4; (case kA => exact rfl); (case kF => exact rfl); (case kK => exact hk); (case k6 => k_is); (case k7 => k_is); (case k8 => k_room); (case k9 => exact BindsTo.of_eq rfl); (case kB => exact rfl); (case kD => decide +kernel); (case c2 => exact rfl); (case c3 => exact rfl); (case c4 => exact rfl))
    intro g L' h1 tk1 cells FG F' N' Y' B' X' T' l1 kG
    k_lt l1
    k_cells Y'
    simp only [List.cons_append, List.nil_append] at N'
    have hR := grounded N off kG FG.keep
    have hS0 : g.get? sl = some (lstOf vs nl) := hR sl _ hsl
    (try dsimp only); (try k_fold)
    k_steps
    · rename_i r9 t9 k9 tk9 n9 h9 tks9 i9 j9 l9 v9 p9 hp9 hx3 tkx hx2 o9 hd9 D9 hx1 lx hx Fx Nx kF kN Tc kX
      simp only [List.push_toArray] at kN Nx
      exact ret v9 (pieceNd p9) [(v, p9)] k9 tk9 n9 (np + 1) o9 (D.set v v9) [.ref D9] [(D9, tupOf [.str v.str tn, v9])] _ _ l9 kF (back (M' := [(st, stOf sl k9 tk9 n9), (hl, o9), (pl, lstOf (us ++ [.ref D9]) (np + 1))]) N hR Fx (subNews kN (by lcg_sub))) (fresh_of kG Nx (by lcg_sub) (List.forall_mem_cons.mpr ⟨by k_all, List.forall_mem_cons.mpr ⟨by k_all, List.forall_mem_singleton.mpr (by k_all)⟩⟩)) (AL.set_kvs D v _ ▸ hd9) (AL.set_length ..) (fun p hp => (AL.set_mem hp).elim (fun e => ⟨p9, e ▸ hp9⟩) (hDp p)) .v (Nat.le_refl _) (.cons (.head _) hp9 .nil) ((pieceIn _ hp9).mono fun a o h => .inr h)
  | some u =>
    have hv1 : valueAt D.kvs v.str = some u := (AL.get_kvs D v).trans hv
    have hv2 : (valueAt D.kvs v.str).isSome = true := by rw [hv1]; rfl
    refine wpAny_call ?_
    k_dflt (refine' enterCells (binds := [(Str.ofString "state", .ref st), (Str.ofString "node", .str v.str tn), (Str.ofString "held", .ref hl), (Str.ofString "places", .ref pl)]) B F X N1 T ?kA ?kF ?kK ?k6 ?k7 ?k8 ?k9 ?kB ?kD ?_ ?c2 ?c3 ?c4; (case kA => exact rfl); (case kF => exact rfl); (case kK => exact hk); (case k6 => k_is); (case k7 => k_is); (case k8 => k_room); (case k9 => exact BindsTo.of_eq rfl); (case kB => exact rfl); (case kD => decide +kernel); (case c2 => exact rfl); (case c3 => exact rfl); (case c4 => exact rfl))
    intro g L' h1 tk1 cells FG F' N' Y' B' X' T' l1 kG
    k_lt l1
    k_cells Y'
    simp only [List.cons_append, List.nil_append] at N'
    have hR := grounded N off kG FG.keep
    have hS0 : g.get? sl = some (lstOf vs nl) := hR sl _ hsl
    (try dsimp only); (try k_fold)
    k_steps
    · rename_i r9 t9 k9 tk9 n9 h9 tks9 i9 j9 l9 v9 p9 hp9 hx3 tkx hx2 o9 hd9 D9 hx1 lx hx Fx Nx kF kN Tc kX
      simp only [List.push_toArray] at kN Nx
      exact ret v9 (pieceNd p9) [(v, p9)] k9 tk9 n9 (np + 1) o9 (D.set v v9) [.ref D9] [(D9, tupOf [.str v.str tn, v9])] _ _ l9 kF (back (M' := [(st, stOf sl k9 tk9 n9), (hl, o9), (pl, lstOf (us ++ [.ref D9]) (np + 1))]) N hR Fx (subNews kN (by lcg_sub))) (fresh_of kG Nx (by lcg_sub) (List.forall_mem_cons.mpr ⟨by k_all, List.forall_mem_cons.mpr ⟨by k_all, List.forall_mem_singleton.mpr (by k_all)⟩⟩)) (AL.set_kvs D v _ ▸ hd9) (AL.set_length ..) (fun p hp => (AL.set_mem hp).elim (fun e => ⟨p9, e ▸ hp9⟩) (hDp p)) .v (Nat.le_refl _) (.cons (.head _) hp9 .nil) ((pieceIn _ hp9).mono fun a o h => .inr h)
    · rename_i r9 t9 k9 tk9 n9 h9 tks9 i9 j9 l9 a9 tkx hx2 o9 hd9 D9 hx1 lx hx Fx Nx kF kN Tc kX
      obtain ⟨q9, hq9, e1, e2⟩ := AL.get_mem hv
      obtain ⟨p9, hp9⟩ := hDp q9 hq9
      rw [e2] at hp9
      simp only [List.push_toArray] at kN Nx
      exact ret u (pieceNd p9) [(v, p9)] k9 tk9 n9 (np + 1) o9 (D.set v u) [.ref D9] [(D9, tupOf [.str v.str tn, u])] _ _ l9 kF (back (M' := [(st, stOf sl k9 tk9 n9), (hl, o9), (pl, lstOf (us ++ [.ref D9]) (np + 1))]) N hR Fx (subNews kN (by lcg_sub))) (fresh_of kG Nx (by lcg_sub) (List.forall_mem_cons.mpr ⟨by k_all, List.forall_mem_cons.mpr ⟨by k_all, List.forall_mem_singleton.mpr (by k_all)⟩⟩)) (AL.set_kvs D v _ ▸ hd9) (AL.set_length ..) (fun p hp => (AL.set_mem hp).elim (fun e => ⟨p9, e ▸ hp9⟩) (hDp p)) .v (Nat.le_refl _) (.cons (.head _) hp9 .nil) ((pieceIn _ hp9).mono fun a o h => .inr h)
end secFilled
section secFilled2
section
variable {prog : Program} {w : World} {loose : List Str} {mean : ExcName → Option Value} {mg mb : Str → Option Value}
theorem rk4 : True := by
  k_with_none
  trivial
theorem filled_use {T : Nd} (IH : FilledSpec prog w loose mean mg mb T) {dp un : Nat} {gd : Option (List Code)} {cn : Str} {cs : Scope} {a : Addr} {ccd : Value} {cl : List (Str × Addr)} {outer : List Env} {A₀ : Around} {base h₀ : Heap} {L : Addr} {m : Str → Option Value} {rest : Led} {s : Shared}
    {st sl hl pl : Addr} {vs : List Value} {ns : List Int} {k : Int} {tk : Tok} {n nl np : Nat} {node : Value} {oh : Obj} {D : AL} {us : List Value} {Q E : Value → Shared → Prop}
    (H : Here w.params loose mean mg mb A₀ base h₀ outer L m [(st, stOf sl k tk n), (hl, oh), (pl, lstOf us np)] rest s.heap) (hk : cs.kind = .function) (hsl : At h₀ rest sl (lstOf vs nl)) (hns : IntsAre vs ns) (hlen : ns.length ≤ 60) (hk0 : 0 ≤ k)
    (n1 : @Ne Nat st hl) (n2 : @Ne Nat st pl) (n3 : @Ne Nat hl pl) (lo : (hl == sysModules) = false) (hD : oh.IsDictOf (strKind prog w) D.kvs) (hDz : D.length + T.leaves ≤ 1000) (hDp : AllPc D) (hus : us.length + T.leaves ≤ 1000) (hnd : NdIn (At h₀ rest) node T)
    (hd : dp + T.depth + 2 < recursionLimit)
    (ret : ∀ r S ps k' tk' n' np' oh' D' us' tl' h' tks, 0 ≤ k' → Fr h₀ L h' m → News h₀ L h' ([(st, stOf sl k' tk' n'), (hl, oh'), (pl, lstOf (us ++ us') np')] ++ (rest ++ tl')) → Fresh s.heap tl' → (∀ q ∈ [(st, stOf sl k tk n), (hl, oh), (pl, lstOf us np)] ++ rest, ∀ p ∈ tl', @Ne Nat p.1 q.1) →
      oh'.IsDictOf (strKind prog w) (AL.kvs D') → D'.length ≤ D.length + T.leaves → AllPc D' → Fits T S ps → us'.length ≤ T.leaves → PlacesIn (InL tl') us' ps → NdIn (fun a o => InL tl' a o ∨ InP w.params a o) r S → Q r { s with heap := h', toks := tks }) :
    wpAny (model prog w) (ktrTop dp un gd cn cs L a ccd cl outer) (call (.ref 899) [.ref st, node, .ref hl, .ref pl]) Q E s :=
  IH _ _ _ _ _ _ _ _ _ _ _ _ _ _ _ _ _ _ _ _ _ _ _ _ _ _ _ _ _ _ _ _ _ H hk hsl hns hlen hk0 n1 n2 n3 lo hD hDz hDp hus hnd hd (fun r S ps k' tk' n' np' oh' D' us' tl' h' tks h1 h2 h3 h4 => ret r S ps k' tk' n' np' oh' D' us' tl' h' tks h1 h2 h3 h4 (fun q hq => fresh_ne H.N h4 hq))
end
set_option maxHeartbeats 4000000



theorem rk5 : True := by
  k_with "~k_room" => case' fr9 => (((try simp only [depth_under_make, depth_under_kw, depth_in1, depth_deeper, depth_caller]); (try dsimp only [ktrTop]); omega))
  k_with "~k_mem" => case' fr9 => (assumption)
  k_with "~lcg_sub" => case' fr9 => (first | (refine List.forall_mem_append.mpr ⟨?_, ?_⟩ <;> lcg_sub) | (intro p9 h9; k_mem))
  k_with "~k_all" => case' fr9 => (first | with_reducible assumption | (refine List.forall_mem_append.mpr ⟨?_, ?_⟩ <;> k_all))
  k_with "~subscriptTail" => case' fr9 => ((k_here; (with_reducible show wpAny _ _ (subscriptTail _ _ (Value.ref 870) (Value.int _ _)) _ _ _); k_dflt (refine pieces_item (by k_asm) (by k_asm) (by omega) (by omega) ?_); intro v9 p9 hp9))
  k_with "~call builtin:dict.get" => case' fr9 => ((k_here; k_dflt (refine kdg_get2 (knd := PySem.strKind _ _) (by k_asm) (by k_mem) (by k_asm) (by k_asm) (strKind_is _ _ _ _) _ (by assumption) ?_); (try dsimp only [Option.getD])))
  k_with "~compareOp Eq str str" => case' fr9 => ((k_here; (with_reducible show wpAny _ _ (compareOp _ (Value.str (Nm.str _) _) (Value.str _ _)) _ _ _); refine eq_nm_ay ?_))
  k_with "~compareOp NotIn str ref" => case' fr9 => ((k_here; k_dflt (refine kdg_notin (knd := PySem.strKind _ _) (by k_asm) (by k_mem) (by k_asm) (by k_asm) (strKind_is _ _ _ _) _ (by assumption) ?_); (try dsimp only [Bool.not_true, Bool.not_false])))
  k_with "~setItem ref str" => case' fr9 => ((k_here; k_dflt (refine' kda_set (knd := PySem.strKind _ _) ?F ?N ?U ?d (strKind_is _ _ _ _) ?z ?_; (case F => k_asm); (case N => k_asm); (case U => k_updF); (case d => k_asm); (case z => (rw [sizeLine_eq]; simp only [AL.kvs, List.length_map]; omega))); intro h' o' F' N' hd'; (try dsimp only at N')))
  k_with "~lcg_src" => case' fr9 => (first | exact Take.head | (refine' Take.tail ?zz; (case zz => lcg_src)))
  k_with "~call ref" => case' fr9 => ((k_here; (with_reducible show wpAny _ _ (call (Value.ref 887) _) _ _ _); k_dflt (refine' next_walk ⟨?B, ?F, ?X, pick1 ?N ?t, ?T, off1 ?off⟩ ?hk ?hsl ?hns ?hlen ?hk0 ?hl0 ?hd ?_; (case F => k_asm); (case B => k_asm); (case X => k_asm); (case N => k_asm); (case t => lcg_src); (case T => k_asm); (case off => k_all); (case hk => exact rfl); (case hsl => first | assumption | exact Or.inl (by assumption)); (case hns => assumption); (case hlen => assumption); (case hk0 => omega); (case hl0 => decide); (case hd => k_room); k_whole); intro r9 t9 k9 tk9 n9 h9 tks9 i9 j9 l9 F9 N9; (try simp only [List.cons_append, List.nil_append] at N9); (try dsimp only); (try k_fold)))
  k_with "~compareOp NotIn str ref" => case' fr9 => ((k_here; (with_reducible show wpAny _ _ (compareOp _ (Value.str (Nm.str _) _) (Value.ref _)) _ _ _); k_dflt (refine notin_nm (News.isList (by k_asm) (by k_mem)) ?_)))
  trivial
theorem NdIn.out {g : Heap} {r : Led} {v : Value} {t : Nd} (h : ∀ r, NdIn (At g r) v t) : NdIn (At g r) v t := h r
theorem off_tl {I C D : Addr} {oI oC oD : Obj} {all tl : Led} (f : ∀ q ∈ all, ∀ p ∈ tl, @Ne Nat p.1 q.1) (hI : (I, oI) ∈ all) (hC : (C, oC) ∈ all) (hD : (D, oD) ∈ all) : LCg.Off3 I C D tl :=
  LCg.Off3.of fun p hp => ⟨f _ hI p hp, f _ hC p hp, f _ hD p hp⟩
theorem off3_sub {I C D : Addr} {l l' : Led} (h : LCg.Off3 I C D l) (s : ∀ p ∈ l', p ∈ l) : LCg.Off3 I C D l' := LCg.Off3.of fun p hp => h.mem p (s p hp)
theorem off3_app {I C D : Addr} {l l' : Led} (h : LCg.Off3 I C D l) (h' : LCg.Off3 I C D l') : LCg.Off3 I C D (l ++ l') :=
  LCg.Off3.of fun p hp => (List.mem_append.mp hp).elim (h.mem p) (h'.mem p)
theorem ne_I' {I C D a : Addr} {o : Obj} {l : Led} (h : LCg.Off3 I C D l) (m : (a, o) ∈ l) : @Ne Nat a I := (h.mem _ m).1
theorem ne_C' {I C D a : Addr} {o : Obj} {l : Led} (h : LCg.Off3 I C D l) (m : (a, o) ∈ l) : @Ne Nat a C := (h.mem _ m).2.1
theorem ne_D' {I C D a : Addr} {o : Obj} {l : Led} (h : LCg.Off3 I C D l) (m : (a, o) ∈ l) : @Ne Nat a D := (h.mem _ m).2.2
theorem ne_tl {a : Addr} {o : Obj} {all tl : Led} (f : ∀ q ∈ all, ∀ p ∈ tl, @Ne Nat p.1 q.1) (h : (a, o) ∈ all) : ∀ p ∈ tl, p.1 ≠ a := f _ h
/-- a ledger without the entries at some addresses -/
inductive DropsA (as : List Addr) : Led → Led → Prop
  | skip {a : Addr} {o : Obj} {l l' : Led} : a ∈ as → DropsA as l l' → DropsA as ((a, o) :: l) l'
  | keep {p : Addr × Obj} {l l' : Led} : DropsA as l l' → DropsA as (p :: l) (p :: l')
  | stay {l : Led} : DropsA as l l
theorem myCompEnd {h₀ : Heap} {L I C D : Addr} {m : Str → Option Value} {s₁ : Shared} {oI oC oD : Obj} {S : Led → Prop} {rest : Value → Led → Prop} {y : Value} {h' : Heap} {tk : Nat} {all news' : Led}
    (F : Fr h₀ L h' m) (N : News h₀ L h' all) (_d : DropsA [I, C, D] all news') (sub : ∀ p ∈ (I, oI) :: (C, oC) :: (D, oD) :: news', p ∈ all) (off : LCg.Off3 I C D news') (hS : S news') (r : rest y news') :
    LCg.CompEnd h₀ L m s₁ I oI C oC D oD S rest y { s₁ with heap := h', toks := tk } := LCg.CompEnd.intro F N news' sub off hS r

theorem rk6 : True := by
  k_with "~my_drops" => case' fr9 => (((with_reducible repeat' (first | refine' DropsA.skip (by first | exact List.mem_cons_self | exact List.mem_cons_of_mem _ List.mem_cons_self | exact List.mem_cons_of_mem _ (List.mem_cons_of_mem _ List.mem_cons_self) | fail "no") ?_ | refine' DropsA.keep ?_)); all_goals (try exact DropsA.stay)))
  k_with "~my_end" => case' fr9 => ((refine' myCompEnd ?F ?N ?d ?sub ?off ?src ?_; (case F => assumption); (case N => assumption); (case d => walk_at "my_drops")))
  k_with "~my_off" => case' fr9 => (first | exact True.intro | with_reducible assumption | exact off_tl (by with_reducible assumption) (by kcf_m) (by kcf_m) (by kcf_m) | exact off3_sub (by with_reducible assumption) (by kcf_all) | (refine off3_app ?_ ?_ <;> walk_at "my_off") | (refine And.intro ⟨by walk_at "my_neo", by walk_at "my_neo", by walk_at "my_neo"⟩ ?_; walk_at "my_off"))
  k_with "~my_neo" => case' fr9 => (first | exact ne_I' (by with_reducible assumption) (by kcf_m) | exact ne_C' (by with_reducible assumption) (by kcf_m) | exact ne_D' (by with_reducible assumption) (by kcf_m) | (trace "SLOW NEO"; trace_state; k_ne))
  k_with "~CompEnd" => case' fr9 => ((k_here; k_dflt (walk_at "my_end"; (case sub => kcf_all); (case off => walk_at "my_off"); (case src => lcg_src))))
  k_with "~CompRest" => case' fr9 => ((with_unfolding_all (refine LCg.CompRest.succ ?_; intro v' I' oI' C' oC' D' m' h' tk' E' hv' hC' hx' F' N' off' ne'; lcg_open hv'; have offz' := off'; (try simp only [LCg.Off3, and_true] at off'))))
  trivial
theorem ne3 {q q2 q3 : Addr × Obj} {tl : Led} (h : ∀ p ∈ tl, @Ne Nat p.1 q.1) (h2 : ∀ p ∈ tl, @Ne Nat p.1 q2.1) (h3 : ∀ p ∈ tl, @Ne Nat p.1 q3.1) : ∀ r ∈ [q, q2, q3], ∀ p ∈ tl, p.1 ≠ r.1 :=
  List.forall_mem_cons.mpr ⟨h, List.forall_mem_cons.mpr ⟨h2, List.forall_mem_singleton.mpr h3⟩⟩
theorem ne2 {a b c : Addr} {x y : Obj} {tl : Led} (h : @Ne Nat a c) (h2 : @Ne Nat b c) (h3 : ∀ p ∈ tl, @Ne Nat p.1 c) : ∀ p ∈ (a, x) :: (b, y) :: tl, @Ne Nat p.1 c :=
  List.forall_mem_cons.mpr ⟨h, List.forall_mem_cons.mpr ⟨h2, h3⟩⟩

theorem rk7 : True := by
  k_with "~k_all" => case' fr9 => (exact ne_tl (by with_reducible assumption) (by kcf_m))
  trivial
theorem offn {a : Addr} : ∀ p ∈ ([] : Led), p.1 ≠ a := fun _ h => nomatch h
theorem offc {a b : Addr} {o : Obj} {l : Led} (h : @Ne Nat b a) (h2 : ∀ p ∈ l, p.1 ≠ a) : ∀ p ∈ (b, o) :: l, p.1 ≠ a := List.forall_mem_cons.mpr ⟨h, h2⟩
theorem ne_I {I C D a : Addr} {o : Obj} {l : Led} (h : LCg.Off3 I C D l) (m : (a, o) ∈ l) : @Ne Nat I a := Ne.symm (h.mem _ m).1
theorem ne_C {I C D a : Addr} {o : Obj} {l : Led} (h : LCg.Off3 I C D l) (m : (a, o) ∈ l) : @Ne Nat C a := Ne.symm (h.mem _ m).2.1
theorem ne_D {I C D a : Addr} {o : Obj} {l : Led} (h : LCg.Off3 I C D l) (m : (a, o) ∈ l) : @Ne Nat D a := Ne.symm (h.mem _ m).2.2
theorem rk8 : True := by
  k_with "~my_ne" => case' fr9 => (first | with_reducible assumption | exact ne_I (by with_reducible assumption) (by kcf_m) | exact ne_C (by with_reducible assumption) (by kcf_m) | exact ne_D (by with_reducible assumption) (by kcf_m) | (trace "SLOW NE"; k_ne))
  k_with "~my_offs" => case' fr9 => (first | exact offn | (refine offc ?_ ?_; (focus walk_at "my_ne"); walk_at "my_offs") | exact ne_tl (by with_reducible assumption) (by kcf_m) | k_all)
  k_with "~call ref" => ((k_here; (with_reducible show wpAny _ _ (call (Value.ref 899) _) _ _ _); k_dflt (refine' filled_use ?IH ⟨?B, ?F, ?X, pick3 ?N ?t ?t2 ?t3, ?T, off3 ?off ?off2 ?off3⟩ ?hk ?hsl ?hns ?hlen ?hk0 ?n1 ?n2 ?n3 ?lo ?hD ?hDz ?hDp ?hus ?hnd ?hd ?_; (case F => k_asm); (case B => k_asm); (case X => k_asm); (case N => k_asm); (case t => lcg_src); (case t2 => lcg_src); (case t3 => lcg_src); (case T => k_asm); (case off => walk_at "my_offs"); (case off2 => walk_at "my_offs"); (case off3 => walk_at "my_offs"); (case hk => exact rfl); (case hsl => first | assumption | exact Or.inl (by assumption)); (case hns => assumption); (case hlen => assumption); (case hk0 => omega); (case hnd => exact NdIn.out (by assumption)); (case IH => assumption); (case n1 => walk_at "my_ne"); (case n2 => walk_at "my_ne"); (case n3 => walk_at "my_ne"); (case lo => k_asm); (case hD => assumption); (case hDz => omega); (case hDp => assumption); (case hus => first | omega | (simp only [List.length_append]; omega)); (case hd => first | exact hd1 | exact hd2); k_whole); intro r9 S9 ps9 k9 tk9 n9 np9 oh9 D9 us9 tl9 h9 tks9 i9 F9 N9 f9 g9 hd9 hl9 hp9 ft9 ul9 pi9 nd9; (try simp only [List.cons_append, List.nil_append] at N9 g9); (try dsimp only); (try k_fold)))
  trivial
theorem filled_o1 {prog : Program} {w : World} {loose : List Str} {mean : ExcName → Option Value} {mg mb : Str → Option Value} {kk : Bool} {t : Nd} (IH : FilledSpec prog w loose mean mg mb t) : FilledSpec prog w loose mean mg mb (.o1 kk t) := by
  intro dp un gd cn cs a ccd cl outer A₀ base h₀ L m rest s st sl hl pl vs ns k tk n nl np node oh D us Q E H hk hsl hns hlen hk0 n1 n2 n3 lo hD hDz hDp hus hnd hd ret
  obtain ⟨B, F, X, N, T, off⟩ := H
  have N1 := subLed N
  cases hnd
  rename_i al ll tn nn nn' vv hB hA hnv
  simp only [Nd.leaves] at hDz hus
  simp only [Nd.depth] at hd
  have hd1 : dp + 1 + t.depth + 2 < recursionLimit := by omega
  have hu1 : us.length + t.leaves ≤ 1000 := by omega
  refine wpAny_call ?_
  k_dflt (refine' enterCells (binds := [(Str.ofString "state", .ref st), (Str.ofString "node", .ref al), (Str.ofString "held", .ref hl), (Str.ofString "places", .ref pl)]) B F X N1 T ?kA ?kF ?kK ?k6 ?k7 ?k8 ?k9 ?kB ?kD ?_ ?c2 ?c3 ?c4; (case kA => exact rfl); (case kF => exact rfl); (case kK => exact hk); (case k6 => k_is); (case k7 => k_is); (case k8 => k_room); (case k9 => exact BindsTo.of_eq rfl); (case kB => exact rfl); (case kD => decide +kernel); (case c2 => exact rfl); (case c3 => exact rfl); (case c4 => exact rfl))
  intro g L' h1 tk1 cells FG F' N' Y' B' X' T' l1 kG
  k_lt l1
  k_cells Y'
  simp only [List.cons_append, List.nil_append] at N'
  have hR := grounded N off kG FG.keep
  have hS0 : g.get? sl = some (lstOf vs nl) := hR sl _ hsl
  have hT0 := hR _ _ hA
  have hL0 := hR _ _ hB
  have hT1 : g.IsTuple al _ := ⟨_, hT0, rfl, _, rfl⟩
  have hL1 : g.IsList ll _ := ⟨_, hL0, rfl, _, rfl⟩
  have hnv' : ∀ r, NdIn (At g r) vv t := fun r => hnv.mono (fun a o h => Or.inl (hR a o h))
  (try dsimp only); (try k_fold)
  have hc1 : @Ne Nat (L' + 1) st := by omega
  have hc2 : @Ne Nat (L' + 1) hl := by omega
  have hc3 : @Ne Nat (L' + 1) pl := by omega
  have hc4 : @Ne Nat (L' + 1 + 1) st := by omega
  have hc5 : @Ne Nat (L' + 1 + 1) hl := by omega
  have hc6 : @Ne Nat (L' + 1 + 1) pl := by omega
  have hc7 : @Ne Nat (L' + 1 + 1 + 1) st := by omega
  have hc8 : @Ne Nat (L' + 1 + 1 + 1) hl := by omega
  have hc9 : @Ne Nat (L' + 1 + 1 + 1) pl := by omega
  k_steps
  · rename_i DL hx1 tkx o1x DT hx Fx Nx lx kF kN Tc kX
    have q1 : ∀ p ∈ tl9, @Ne Nat p.1 st := g9 (st, _) (by kcf_m)
    have q2 : ∀ p ∈ tl9, @Ne Nat p.1 hl := g9 (hl, _) (by kcf_m)
    have q3 : ∀ p ∈ tl9, @Ne Nat p.1 pl := g9 (pl, _) (by kcf_m)
    have qd : (@Ne Nat DL st ∧ @Ne Nat DL hl ∧ @Ne Nat DL pl) ∧ (@Ne Nat DT st ∧ @Ne Nat DT hl ∧ @Ne Nat DT pl) := by
      clear ret hd hd1 hDz hus hl9 ul9 hk0 hlen hu1
      exact ⟨⟨by k_ne, by k_ne, by k_ne⟩, by k_ne, by k_ne, by k_ne⟩
    refine ret (.ref DT) (.o1 kk S9) ps9 k9 tk9 n9 np9 oh9 D9 us9 ((DT, tupOf [.str (opStr kk) tn, .ref DL]) :: (DL, LCg.lst [r9]) :: tl9) _ _ i9 kF (back (M' := [(st, stOf sl k9 tk9 n9), (hl, oh9), (pl, lstOf (us ++ us9) np9)]) N hR Fx (subNews kN (by kcf_all))) (fresh_of kG Nx (by kcf_all) ?_) hd9 hl9 hp9 (.o1 ft9) ul9 (pi9.mono fun a o h => .tail _ (.tail _ h)) (.o1 (.inl (.head _)) (.inl (.tail _ (.head _))) (nd9.mono fun a o h => h.imp (fun h => .tail _ (.tail _ h)) id))
    exact ne3 (ne2 qd.2.1 qd.1.1 q1) (ne2 qd.2.2.1 qd.1.2.1 q2) (ne2 qd.2.2.2 qd.1.2.2 q3)
theorem filled_o2 {prog : Program} {w : World} {loose : List Str} {mean : ExcName → Option Value} {mg mb : Str → Option Value} {kk : Bool} {t t' : Nd} (IH : FilledSpec prog w loose mean mg mb t) (IH' : FilledSpec prog w loose mean mg mb t') : FilledSpec prog w loose mean mg mb (.o2 kk t t') := by
  intro dp un gd cn cs a ccd cl outer A₀ base h₀ L m rest s st sl hl pl vs ns k tk n nl np node oh D us Q E H hk hsl hns hlen hk0 n1 n2 n3 lo hD hDz hDp hus hnd hd ret
  obtain ⟨B, F, X, N, T, off⟩ := H
  have N1 := subLed N
  cases hnd
  rename_i al ll tn nn nn' vv uu hB hA hnv hnu
  simp only [Nd.leaves] at hDz hus
  simp only [Nd.depth] at hd
  have hd1 : dp + 1 + t.depth + 2 < recursionLimit := by omega
  have hd2 : dp + 1 + t'.depth + 2 < recursionLimit := by omega
  have hu1 : us.length + t.leaves ≤ 1000 := by omega
  refine wpAny_call ?_
  k_dflt (refine' enterCells (binds := [(Str.ofString "state", .ref st), (Str.ofString "node", .ref al), (Str.ofString "held", .ref hl), (Str.ofString "places", .ref pl)]) B F X N1 T ?kA ?kF ?kK ?k6 ?k7 ?k8 ?k9 ?kB ?kD ?_ ?c2 ?c3 ?c4; (case kA => exact rfl); (case kF => exact rfl); (case kK => exact hk); (case k6 => k_is); (case k7 => k_is); (case k8 => k_room); (case k9 => exact BindsTo.of_eq rfl); (case kB => exact rfl); (case kD => decide +kernel); (case c2 => exact rfl); (case c3 => exact rfl); (case c4 => exact rfl))
  intro g L' h1 tk1 cells FG F' N' Y' B' X' T' l1 kG
  k_lt l1
  k_cells Y'
  simp only [List.cons_append, List.nil_append] at N'
  have hR := grounded N off kG FG.keep
  have hS0 : g.get? sl = some (lstOf vs nl) := hR sl _ hsl
  have hT0 := hR _ _ hA
  have hL0 := hR _ _ hB
  have hT1 : g.IsTuple al _ := ⟨_, hT0, rfl, _, rfl⟩
  have hL1 : g.IsList ll _ := ⟨_, hL0, rfl, _, rfl⟩
  have hnv' : ∀ r, NdIn (At g r) vv t := fun r => hnv.mono (fun a o h => Or.inl (hR a o h))
  have hnu' : ∀ r, NdIn (At g r) uu t' := fun r => hnu.mono (fun a o h => Or.inl (hR a o h))
  (try dsimp only); (try k_fold)
  have hc1 : @Ne Nat (L' + 1) st := by omega
  have hc2 : @Ne Nat (L' + 1) hl := by omega
  have hc3 : @Ne Nat (L' + 1) pl := by omega
  have hc4 : @Ne Nat (L' + 1 + 1) st := by omega
  have hc5 : @Ne Nat (L' + 1 + 1) hl := by omega
  have hc6 : @Ne Nat (L' + 1 + 1) pl := by omega
  have hc7 : @Ne Nat (L' + 1 + 1 + 1) st := by omega
  have hc8 : @Ne Nat (L' + 1 + 1 + 1) hl := by omega
  have hc9 : @Ne Nat (L' + 1 + 1 + 1) pl := by omega
  k_steps
  · rename_i r8 S8 ps8 k8 tk8 n8 np8 oh8 D8 us8 tl8 h8 tks8 i8 f8 g8 hd8 hl8 hp8 ft8 ul8 pi8 nd8 I2 oI2 C2 oC2 DD2 m2 hx2 tkx2 E2 hC2 off2 ne2' hv2 hx22 offz2 cE2 DL hx1 tkx o1x DT hx Fx Nx lx kF kN Tc kX
    have q1 : ∀ p ∈ tl8 ++ tl9, @Ne Nat p.1 st := List.forall_mem_append.mpr ⟨g8 (st, _) (by kcf_m), g9 (st, _) (by kcf_m)⟩
    have q2 : ∀ p ∈ tl8 ++ tl9, @Ne Nat p.1 hl := List.forall_mem_append.mpr ⟨g8 (hl, _) (by kcf_m), g9 (hl, _) (by kcf_m)⟩
    have q3 : ∀ p ∈ tl8 ++ tl9, @Ne Nat p.1 pl := List.forall_mem_append.mpr ⟨g8 (pl, _) (by kcf_m), g9 (pl, _) (by kcf_m)⟩
    have qd : (@Ne Nat DL st ∧ @Ne Nat DL hl ∧ @Ne Nat DL pl) ∧ (@Ne Nat DT st ∧ @Ne Nat DT hl ∧ @Ne Nat DT pl) := by
      clear ret hd hd1 hd2 hDz hus hl9 ul9 hl8 ul8 hk0 hlen hu1
      exact ⟨⟨by k_ne, by k_ne, by k_ne⟩, by k_ne, by k_ne, by k_ne⟩
    simp only [List.append_assoc] at kN Nx
    refine ret (.ref DT) (.o2 kk S8 S9) (ps8 ++ ps9) k9 tk9 n9 np9 oh9 D9 (us8 ++ us9) ((DT, tupOf [.str (opStr kk) tn, .ref DL]) :: (DL, LCg.lst [r8, r9]) :: (tl8 ++ tl9)) _ _ i9 kF (back (M' := [(st, stOf sl k9 tk9 n9), (hl, oh9), (pl, lstOf (us ++ (us8 ++ us9)) np9)]) N hR Fx (subNews kN (by kcf_all))) (fresh_of kG Nx (by kcf_all) ?_) hd9 ?_ hp9 (.o2 ft8 ft9) ?_ ((pi8.mono fun a o h => .tail _ (.tail _ (List.mem_append_left _ h))).app (pi9.mono fun a o h => .tail _ (.tail _ (List.mem_append_right _ h)))) (.o2 (.inl (.head _)) (.inl (.tail _ (.head _))) (nd8.mono fun a o h => h.imp (fun h => .tail _ (.tail _ (List.mem_append_left _ h))) id) (nd9.mono fun a o h => h.imp (fun h => .tail _ (.tail _ (List.mem_append_right _ h))) id))
    · exact ne3 (ne2 qd.2.1 qd.1.1 q1) (ne2 qd.2.2.1 qd.1.2.1 q2) (ne2 qd.2.2.2 qd.1.2.2 q3)
    · simp only [Nd.leaves]; exact Nat.le_trans hl9 (by rw [← Nat.add_assoc]; exact Nat.add_le_add_right hl8 _)
    · simp only [Nd.leaves, List.length_append]; exact Nat.add_le_add ul8 ul9
end secFilled2
section secFilled3
theorem rk9 : True := by
  k_with_none
  trivial
set_option maxHeartbeats 4000000


theorem rk10 : True := by
  k_with "~k_room" => case' fr9 => (((try simp only [depth_under_make, depth_under_kw, depth_in1, depth_deeper, depth_caller]); (try dsimp only [ktrTop]); omega))
  k_with "~k_mem" => case' fr9 => (assumption)
  k_with "~lcg_sub" => case' fr9 => (first | (refine List.forall_mem_append.mpr ⟨?_, ?_⟩ <;> lcg_sub) | (intro p9 h9; k_mem))
  k_with "~k_all" => case' fr9 => (first | with_reducible assumption | (refine List.forall_mem_append.mpr ⟨?_, ?_⟩ <;> k_all))
  k_with "~subscriptTail" => case' fr9 => ((k_here; (with_reducible show wpAny _ _ (subscriptTail _ _ (Value.ref 870) (Value.int _ _)) _ _ _); k_dflt (refine pieces_item (by k_asm) (by k_asm) (by omega) (by omega) ?_); intro v9 p9 hp9))
  k_with "~call builtin:dict.get" => case' fr9 => ((k_here; k_dflt (refine kdg_get2 (knd := PySem.strKind _ _) (by k_asm) (by k_mem) (by k_asm) (by k_asm) (strKind_is _ _ _ _) _ (by assumption) ?_); (try dsimp only [Option.getD])))
  k_with "~compareOp Eq str str" => case' fr9 => ((k_here; (with_reducible show wpAny _ _ (compareOp _ (Value.str (Nm.str _) _) (Value.str _ _)) _ _ _); refine eq_nm_ay ?_))
  k_with "~compareOp NotIn str ref" => case' fr9 => ((k_here; k_dflt (refine kdg_notin (knd := PySem.strKind _ _) (by k_asm) (by k_mem) (by k_asm) (by k_asm) (strKind_is _ _ _ _) _ (by assumption) ?_); (try dsimp only [Bool.not_true, Bool.not_false])))
  k_with "~setItem ref str" => case' fr9 => ((k_here; k_dflt (refine' kda_set (knd := PySem.strKind _ _) ?F ?N ?U ?d (strKind_is _ _ _ _) ?z ?_; (case F => k_asm); (case N => k_asm); (case U => k_updF); (case d => k_asm); (case z => (rw [sizeLine_eq]; simp only [AL.kvs, List.length_map]; omega))); intro h' o' F' N' hd'; (try dsimp only at N')))
  k_with "~lcg_src" => case' fr9 => (first | exact Take.head | (refine' Take.tail ?zz; (case zz => lcg_src)))
  k_with "~call ref" => case' fr9 => ((k_here; (with_reducible show wpAny _ _ (call (Value.ref 887) _) _ _ _); k_dflt (refine' next_walk ⟨?B, ?F, ?X, pick1 ?N ?t, ?T, off1 ?off⟩ ?hk ?hsl ?hns ?hlen ?hk0 ?hl0 ?hd ?_; (case F => k_asm); (case B => k_asm); (case X => k_asm); (case N => k_asm); (case t => lcg_src); (case T => k_asm); (case off => k_all); (case hk => exact rfl); (case hsl => first | assumption | exact Or.inl (by assumption)); (case hns => assumption); (case hlen => assumption); (case hk0 => omega); (case hl0 => decide); (case hd => k_room); k_whole); intro r9 t9 k9 tk9 n9 h9 tks9 i9 j9 l9 F9 N9; (try simp only [List.cons_append, List.nil_append] at N9); (try dsimp only); (try k_fold)))
  k_with "~compareOp NotIn str ref" => case' fr9 => ((k_here; (with_reducible show wpAny _ _ (compareOp _ (Value.str (Nm.str _) _) (Value.ref _)) _ _ _); k_dflt (refine notin_nm (News.isList (by k_asm) (by k_mem)) ?_)))
  trivial
theorem filled_ay {prog : Program} {w : World} {loose : List Str} {mean : ExcName → Option Value} {mg mb : Str → Option Value} : FilledSpec prog w loose mean mg mb (.s .ay) := by
  intro dp un gd cn cs a ccd cl outer A₀ base h₀ L m rest s st sl hl pl vs ns k tk n nl np node oh D us Q E H hk hsl hns hlen hk0 n1 n2 n3 lo hD hDz hDp hus hnd hd ret
  obtain ⟨B, F, X, N, T, off⟩ := H
  have N1 := subLed N
  cases hnd
  rename_i tn
  simp only [Nd.leaves] at hDz hus
  simp only [Nd.depth] at hd
  simp only [Lf.str]
  refine wpAny_call ?_
  k_dflt (refine' enterCells (binds := [(Str.ofString "state", .ref st), (Str.ofString "node", .str (Str.ofString "a:y") tn), (Str.ofString "held", .ref hl), (Str.ofString "places", .ref pl)]) B F X N1 T ?kA ?kF ?kK ?k6 ?k7 ?k8 ?k9 ?kB ?kD ?_ ?c2 ?c3 ?c4; (case kA => exact rfl); (case kF => exact rfl); (case kK => exact hk); (case k6 => k_is); (case k7 => k_is); (case k8 => k_room); (case k9 => exact BindsTo.of_eq rfl); (case kB => exact rfl); (case kD => decide +kernel); (case c2 => exact rfl); (case c3 => exact rfl); (case c4 => exact rfl))
  intro g L' h1 tk1 cells FG F' N' Y' B' X' T' l1 kG
  k_lt l1
  k_cells Y'
  simp only [List.cons_append, List.nil_append] at N'
  have hR := grounded N off kG FG.keep
  have hS0 : g.get? sl = some (lstOf vs nl) := hR sl _ hsl
  (try dsimp only); (try k_fold)
  k_steps
  · rename_i D9 hx1 lx hx Fx Nx kF kN Tc kX
    simp only [List.push_toArray] at kN Nx
    have q1 : @Ne Nat D9 st := by clear ret hd hDz hus hk0 hlen; k_ne
    have q2 : @Ne Nat D9 hl := by clear ret hd hDz hus hk0 hlen; k_ne
    have q3 : @Ne Nat D9 pl := by clear ret hd hDz hus hk0 hlen; k_ne
    exact ret _ (.s .a) [(.y, 0)] k _ n (np + 1) oh D [.ref D9] [(D9, tupOf [.str Nm.y.str _, .str Lf.a.str _])] _ _ hk0 kF (back (M' := [(st, stOf sl k _ n), (hl, oh), (pl, lstOf (us ++ [.ref D9]) (np + 1))]) N hR Fx (subNews kN (by kcf_all))) (fresh_of kG Nx (by kcf_all) (ne3 (List.forall_mem_singleton.mpr q1) (List.forall_mem_singleton.mpr q2) (List.forall_mem_singleton.mpr q3))) hD (Nat.le_add_right _ _) hDp .ay (Nat.le_refl _) (.cons (.head _) ⟨_, rfl⟩ .nil) (.s (l := .a))

theorem filled_a {prog : Program} {w : World} {loose : List Str} {mean : ExcName → Option Value} {mg mb : Str → Option Value} : FilledSpec prog w loose mean mg mb (.s .a) := by
  intro dp un gd cn cs a ccd cl outer A₀ base h₀ L m rest s st sl hl pl vs ns k tk n nl np node oh D us Q E H hk hsl hns hlen hk0 n1 n2 n3 lo hD hDz hDp hus hnd hd ret
  obtain ⟨B, F, X, N, T, off⟩ := H
  have N1 := subLed N
  cases hnd
  rename_i tn
  simp only [Nd.leaves] at hDz hus
  simp only [Nd.depth] at hd
  simp only [Lf.str]
  refine wpAny_call ?_
  k_dflt (refine' enterCells (binds := [(Str.ofString "state", .ref st), (Str.ofString "node", .str (Str.ofString "a") tn), (Str.ofString "held", .ref hl), (Str.ofString "places", .ref pl)]) B F X N1 T ?kA ?kF ?kK ?k6 ?k7 ?k8 ?k9 ?kB ?kD ?_ ?c2 ?c3 ?c4; (case kA => exact rfl); (case kF => exact rfl); (case kK => exact hk); (case k6 => k_is); (case k7 => k_is); (case k8 => k_room); (case k9 => exact BindsTo.of_eq rfl); (case kB => exact rfl); (case kD => decide +kernel); (case c2 => exact rfl); (case c3 => exact rfl); (case c4 => exact rfl))
  intro g L' h1 tk1 cells FG F' N' Y' B' X' T' l1 kG
  k_lt l1
  k_cells Y'
  simp only [List.cons_append, List.nil_append] at N'
  have hR := grounded N off kG FG.keep
  have hS0 : g.get? sl = some (lstOf vs nl) := hR sl _ hsl
  (try dsimp only); (try k_fold)
  k_steps
  · rename_i l9 hx Fx Nx lx kF kN Tc kX
    have e : us ++ [] = us := List.append_nil us
    exact ret _ (.s .a) [] k _ n np oh D [] [] _ _ hk0 kF (back (M' := [(st, stOf sl k _ n), (hl, oh), (pl, lstOf (us ++ []) np)]) (tl := []) N hR Fx (by rw [e]; exact subNews kN (by kcf_all))) (fun _ h => nomatch h) hD (Nat.le_add_right _ _) hDp .a (Nat.zero_le _) .nil (.s (l := .a))

theorem filled_b {prog : Program} {w : World} {loose : List Str} {mean : ExcName → Option Value} {mg mb : Str → Option Value} : FilledSpec prog w loose mean mg mb (.s .b) := by
  intro dp un gd cn cs a ccd cl outer A₀ base h₀ L m rest s st sl hl pl vs ns k tk n nl np node oh D us Q E H hk hsl hns hlen hk0 n1 n2 n3 lo hD hDz hDp hus hnd hd ret
  obtain ⟨B, F, X, N, T, off⟩ := H
  have N1 := subLed N
  cases hnd
  rename_i tn
  simp only [Nd.leaves] at hDz hus
  simp only [Nd.depth] at hd
  simp only [Lf.str]
  refine wpAny_call ?_
  k_dflt (refine' enterCells (binds := [(Str.ofString "state", .ref st), (Str.ofString "node", .str (Str.ofString "b") tn), (Str.ofString "held", .ref hl), (Str.ofString "places", .ref pl)]) B F X N1 T ?kA ?kF ?kK ?k6 ?k7 ?k8 ?k9 ?kB ?kD ?_ ?c2 ?c3 ?c4; (case kA => exact rfl); (case kF => exact rfl); (case kK => exact hk); (case k6 => k_is); (case k7 => k_is); (case k8 => k_room); (case k9 => exact BindsTo.of_eq rfl); (case kB => exact rfl); (case kD => decide +kernel); (case c2 => exact rfl); (case c3 => exact rfl); (case c4 => exact rfl))
  intro g L' h1 tk1 cells FG F' N' Y' B' X' T' l1 kG
  k_lt l1
  k_cells Y'
  simp only [List.cons_append, List.nil_append] at N'
  have hR := grounded N off kG FG.keep
  have hS0 : g.get? sl = some (lstOf vs nl) := hR sl _ hsl
  (try dsimp only); (try k_fold)
  k_steps
  · rename_i l9 hx Fx Nx lx kF kN Tc kX
    have e : us ++ [] = us := List.append_nil us
    exact ret _ (.s .b) [] k _ n np oh D [] [] _ _ hk0 kF (back (M' := [(st, stOf sl k _ n), (hl, oh), (pl, lstOf (us ++ []) np)]) (tl := []) N hR Fx (by rw [e]; exact subNews kN (by kcf_all))) (fun _ h => nomatch h) hD (Nat.le_add_right _ _) hDp .b (Nat.zero_le _) .nil (.s (l := .b))
theorem filled_all {prog : Program} {w : World} {loose : List Str} {mean : ExcName → Option Value} {mg mb : Str → Option Value} (T : Nd) : FilledSpec prog w loose mean mg mb T := by
  induction T with
  | s l =>
    cases l with
    | v n => exact filled_v
    | ay => exact filled_ay
    | a => exact filled_a
    | b => exact filled_b
  | o1 k p ih => exact filled_o1 ih
  | o2 k p q ih1 ih2 => exact filled_o2 ih1 ih2
end secFilled3
section secTup
open Builtin Builtin.ObjectAttr Builtin.Getset_descriptor
theorem rk11 : True := by
  k_with_none
  trivial
/-- a class over tuple with a __new__ of its own -/
structure TupCls (K : Frag) (C : Addr) (cd : ClassData) : Prop where
  look : ∃ oc od sl, K.lookup C = some ⟨oc, od, .cls cd, sl⟩ ∧ (sl.toList[4]?).join = some .none
  mro : cd.mro = [.ref C, .type "tuple", .type "object"]
  bases : cd.bases = [.type "tuple"]
  del : cd.hasDel = false
  init : findIn K (.ref C) "__init__" = some (some (.builtin "object.__init__"))
theorem TupCls.cls {K : Frag} {C : Addr} {cd : ClassData} (Y : TupCls K C cd) : clsIn K C = some cd := by
  obtain ⟨oc, od, sl, h, _⟩ := Y.look
  unfold clsIn; rw [h]
theorem TupCls.made {K : Frag} {M : Model} {h : Heap} {C : Addr} {cd : ClassData} (X : K.In h) (Y : TupCls K C cd) : Looks M h (Bind.madeBy (.ref C)) none := by
  obtain ⟨oc, od, sl, ho, hs⟩ := Y.look
  have hm : Looks M h (mroOf (.ref C)) cd.mro := (looks_clsIn X Y.cls).andThen .now
  intro A Q E s k q
  unfold Bind.madeBy
  refine wpAny_bind (hm A _ E s k ?_)
  rw [Y.mro, List.forIn_cons]
  refine wpAny_bind (wpAny_bind (wpAny_bind (wpAny_bind (wpAny_loadPart (k _ _ (X _ _ ho)) (wpAny_pure ?_)))))
  dsimp only
  rw [← Array.getElem?_toList, hs]
  exact wpAny_pure (wpAny_pure (wpAny_pure q))
theorem best_tuple : Slots.bestBase [.type "tuple"] = pure (.type "tuple") := by first | rfl | kernel_rfl
theorem TupCls.base {K : Frag} {M : Model} {h : Heap} {C : Addr} {cd : ClassData} (X : K.In h) (Y : TupCls K C cd) : Looks M h (Bind.staticBase (.ref C)) (.type "tuple") := by
  have hm : Looks M h (mroOf (.ref C)) cd.mro := (looks_clsIn X Y.cls).andThen .now
  intro A Q E s k q
  unfold Bind.staticBase
  refine wpAny_bind (hm A _ E s k ?_)
  rw [Y.mro, List.forIn_cons]
  refine wpAny_bind (wpAny_bind (wpAny_bind (Y.made X A _ E s k ?_)))
  simp only [Option.isSome_none, Bool.false_eq_true, if_false]
  refine wpAny_bind (looks_clsIn X Y.cls A _ E s k ?_)
  rw [Y.bases, best_tuple]
  refine wpAny_bind (wpAny_pure (wpAny_pure ?_))
  dsimp only
  rw [List.forIn_cons]
  dsimp only
  rw [F.called_tuple.made]
  exact wpAny_pure (wpAny_pure q)
theorem tn_kind : builtinKind "tuple.__new__" = some .builtinFn := by decide +kernel
theorem tn_args (C t : Addr) : argsOk "tuple.__new__" ⟨[.ref C, .ref t], []⟩ := by unfold argsOk; kernel_rfl
theorem tn_split : splitId "tuple.__new__" = some ("tuple", "__new__") := by decide +kernel
section
variable {prog : Program} {w : World} {A : Around} {E : Value → Shared → Prop} {K : Frag} {C t : Addr} {cd : ClassData} {s : Shared} {h₀ : Heap} {L : Addr} {m : Str → Option Value} {news : Led} {Q : Value → Shared → Prop}
theorem tupNew_K {ot : Obj} {items : Array Value} {n : Nat} (F : Fr h₀ L s.heap m) (N : News h₀ L s.heap news) (X : K.In s.heap) (Y : TupCls K C cd) (hm : (t, ot) ∈ news) (hc : ot.cls = .type "tuple") (hd : ot.data = .seq items n) (hsz : items.size ≤ sizeLine)
    (hq : ∀ x dx h', Fr h₀ L h' m → News h₀ L h' ((x, ({ cls := .ref C, dict := some dx, data := .seq items } : Obj)) :: (dx, emptyDict) :: news) → (∀ p ∈ news, p.1 < dx) → dx < x → Q (.ref x) { s with heap := h' }) :
    wpAny (model prog w) A (call (.builtin "tuple.__new__") [.ref C, .ref t]) Q E s := by
  refine wpAny_call (codeAny_call_builtin (by decide +kernel) PySem.F.entry_tuple_new ?_)
  have M1 := Y.base (M := model prog w) X
  obtain ⟨oc, od, sl, ho, hs⟩ := Y.look
  have T1 : Looks (model prog w) s.heap (isType (.ref C)) true := (Looks.ld (X _ _ ho)).andThen .now
  have T2 : Looks (model prog w) s.heap (isSubtype (.ref C) (.type "tuple")) true := looks_mroIn X (by unfold mroIn; rw [Y.cls, Option.bind_some, Y.mro]; rfl)
  have T3 : Looks (model prog w) s.heap (Bind.madeBy (.type "tuple")) (some "tuple.__new__") := Looks.of_pure PySem.F.called_tuple.made
  have here : Looks (model prog w) s.heap (Bind.madeHere "tuple.__new__" (.ref C)) () := M1.andThen (T3.andThen (Looks.of_pure (by simp only [Option.map_some, bne_self_eq_false, Bool.false_eq_true, if_false])))
  have T4 := looks_findIn (M := model prog w) X Y.init
  obtain ⟨hh, g, d, tk, os⟩ := s
  simp only [checkBuiltinCall, tn_kind, tn_split]
  rw [if_pos (by decide)]
  repeat (first | ((with_reducible show wpAny _ _ (collect _) _ _ _); refine wpAny_collect_seq t (T := "tuple") (.inr rfl) (N _ hm).1 hc hd (fun h' k => ?_) hsz) | simp only [Bool.not_true, bne_self_eq_false, Bool.false_eq_true, if_false] | lk)
  have F1 := F.keeps k
  have N1 := N.grown k
  have X1 := X.keeps k
  simp only [Array.toArray_toList]
  rw [if_neg (Nat.not_lt.mpr hsz)]
  unfold newObjAsIs classHasDel
  refine wpAny_bind (wpAny_alloc (wpAny_bind (wpAny_bind (wpAny_load (Heap.get?_push_of_some _ (Heap.get?_push_of_some _ (X1 _ _ ho))) (wpAny_pure ?_)))))
  rw [Y.del]
  refine wpAny_pure (wpAny_pure ?_)
  show Q _ _
  rw [Heap.size_push]
  have := (N1.push F1 emptyDict).push (F1.push _) ({ cls := .ref C, dict := some h'.objs.size, data := .seq items } : Obj)
  rw [Heap.size_push] at this
  exact hq _ h'.objs.size _ ((F1.push _).push _) this (fun p hp => Heap.lt_size (N1 p hp).1) (Nat.lt_succ_self _)
end
section
variable {prog : Program} {w : World} {A : Around} {K : Frag} {C : Addr} {cd : ClassData} {s : Shared} {h₀ : Heap} {L : Addr} {m : Str → Option Value} {news : Led} {R : Result → Shared → Prop}
/-- what a __new__ gives back: an object of the class -/
noncomputable def NewBack (K : Frag) (C : Addr) (R : Result → Shared → Prop) (r : Result) (s' : Shared) : Prop := match r with
  | .ok (.ret v) => ∃ x o, v = .ref x ∧ s'.heap.get? x = some o ∧ o.cls = .ref C ∧ K.In s'.heap ∧ R (.ok (.ret v)) s'
  | .ok _ => False
  | .error e => R (.error e) s'
theorem oi_args2 (a b c : Value) : argsOk "object.__init__" ⟨[a, b, c], []⟩ := by unfold argsOk; kernel_rfl
theorem tupMake {a b : Value} {fN : Value} (X : K.In s.heap) (Y : TupCls K C cd) (hcall : specialIn K (.ref C) "__call__" = some (some (.builtin "type.__call__"))) (htyp : instIn K (.ref C) (.type "type") = some true)
    (hnew : ∀ A' (Q : Value → Shared → Prop) (E : Value → Shared → Prop) s', s'.heap = s.heap → (∀ tk, Q fN { s' with toks := tk }) → wpAny (model prog w) A' (getAttr (.ref C) "__new__") Q E s')
    (h : ∀ tk, codeAny (model prog w) (A.under (.builtin "type.__call__" ⟨.ref C :: [a, b], []⟩)) (.call fN ⟨.ref C :: [a, b], []⟩) (NewBack K C R) { s with toks := tk }) :
    codeAny (model prog w) A (.call (.ref C) ⟨[a, b], []⟩) R s := by
  obtain ⟨oc, od, sl, hC, hs⟩ := Y.look
  have call := looks_specialIn (M := model prog w) X hcall
  have typ := looks_instIn (M := model prog w) X htyp
  have made := Y.made (M := model prog w) X
  have hm : Looks (model prog w) s.heap (mroOf (.ref C)) cd.mro := (looks_clsIn X Y.cls).andThen .now
  obtain ⟨hh, g, d, tk, os⟩ := s
  refine codeAny_of_tree ?_
  show wpAny _ _ (callAny (.ref C) _) _ _ _
  refine nd_load (X _ _ hC) ?_
  show wpAny _ _ (callAny.viaDunder (.ref C) _) _ _ _
  unfold callAny.viaDunder
  refine wpAny_bind (call.at ?_)
  dsimp only
  rw [tc_bind]
  refine wpAny_bind (wpAny_pure (wpAny_bind (wpAny_pure ?_)))
  refine wpAny_pure (a := Fin.again (.call (.builtin "type.__call__") ⟨.ref C :: [a, b], []⟩)) (And.intro rfl ?_)
  refine codeAny_call_builtin_at (Code.quiet_builtin _ (by decide +kernel)) entry_typeCall (check_slot tc_kind tc_split typ (tc_args _ _ _) ?_)
  unfold Builtin.«type.__call__»
  have e4 : cd.mro.isEmpty = false := by rw [Y.mro]; rfl
  repeat (first | ((with_reducible show wpAny _ _ (getAttr _ _ _) _ _ _); refine hnew _ _ _ _ rfl (fun tk' => ?_)) | ((with_reducible show wpAny _ _ (PySem.call _ _ _) _ _ _); refine wpAny_call (codeAny_mono (h tk') fun r s' z => ?_)) | simp only [e4, Bool.false_eq_true, if_false] | lk)
  rcases r with e | (v | _ | _ | _) <;> first | exact z | exact z.elim | skip
  obtain ⟨x, o, rfl, ho, hcl, X', z⟩ := z
  obtain ⟨h2, g2, d2, tk2, os2⟩ := s'
  have t1 : Looks (model prog w) h2 (typeOf (.ref x)) (.ref C) := hcl ▸ (Looks.ld ho).andThen .now
  have t2 : Looks (model prog w) h2 (isSubtype (.ref C) (.ref C)) true := looks_mroIn X' (by unfold mroIn; rw [Y.cls, Option.bind_some, Y.mro]; simp)
  have t3 : Looks (model prog w) h2 (isSubtype (.ref C) (.type "object")) true := looks_mroIn X' (by unfold mroIn; rw [Y.cls, Option.bind_some, Y.mro]; rfl)
  have t4 := looks_findIn (M := model prog w) X' Y.init
  have t5 : Looks (model prog w) h2 (bindSpecial (.builtin "object.__init__") (.ref x)) (.builtin "object.__init__", [.ref x]) := Looks.of_pure (oi_bind _)
  have t6 := Y.made (M := model prog w) X'
  have t7 : Looks (model prog w) h2 (isInstance (.ref x) (.type "object")) true := t1.andThen t3
  unfold isInstance callSpecial? specialOf
  repeat (first | ((with_reducible show wpAny _ _ (PySem.call _ _ _) _ _ _); refine wpAny_call (codeAny_call_builtin oi_plain entry_oi (@check_slot (model prog w) _ _ _ "object.__init__" "object" "__init__" (.ref x) [a, b] [] _ oi_kind oi_split t7 (oi_args2 (.ref x) a b) ?_))) | simp only [Bool.not_true, Bool.false_eq_true, if_false] | lk)
  exact z
end
end secTup
section secTup2
open Builtin Builtin.ObjectAttr Builtin.Getset_descriptor
theorem tg_kind : builtinKind "tuple.__getitem__" = some .slot := by decide +kernel
theorem tg_split : splitId "tuple.__getitem__" = some ("tuple", "__getitem__") := by decide +kernel
theorem tg_plain : plainId "tuple.__getitem__" = true := by decide +kernel
section
variable {prog : Program} {w : World} {A : Around} {E : Value → Shared → Prop} {K : Frag} {C x : Addr} {cd : ClassData} {s : Shared} {Q : Value → Shared → Prop} {o : Obj} {items : Array Value} {n : Nat} {k : Int} {u : Tok} {j : Nat} {v : Value}
theorem TupCls.sub {K : Frag} {M : Model} {h : Heap} {C : Addr} {cd : ClassData} (X : K.In h) (Y : TupCls K C cd) (b : Value) : Looks M h (isSubtype (.ref C) b) (cd.mro.contains b) :=
  looks_mroIn X (by unfold mroIn; rw [Y.cls, Option.bind_some, if_neg (by rw [Y.mro]; simp)])
theorem TupCls.tup {K : Frag} {M : Model} {h : Heap} {C : Addr} {cd : ClassData} (X : K.In h) (Y : TupCls K C cd) : Looks M h (isSubtype (.ref C) (.type "tuple")) true := by
  have := Y.sub (M := M) X (.type "tuple")
  rw [Y.mro] at this
  exact this
theorem tupGet (X : K.In s.heap) (Y : TupCls K C cd) (ho : s.heap.get? x = some o) (hc : o.cls = .ref C) (hd : o.data = .seq items n) (hlo : -(2 ^ 63) ≤ k) (hhi : k < 2 ^ 63) (hj : seqIndex? k items.size = some j) (hx : items[j]? = some v) (h : Q v s) :
    wpAny (model prog w) A (call (.builtin "tuple.__getitem__") [.ref x, .int k u]) Q E s := by
  obtain ⟨hh, g, d, tk, os⟩ := s
  have t1 : Looks (model prog w) hh (typeOf (.ref x)) (.ref C) := hc ▸ (Looks.ld ho).andThen .now
  have t7 : Looks (model prog w) hh (isInstance (.ref x) (.type "tuple")) true := t1.andThen (Y.tup X)
  refine wpAny_call (codeAny_call_builtin tg_plain entry_tuple_getitem (@check_slot (model prog w) _ _ _ "tuple.__getitem__" "tuple" "__getitem__" (.ref x) [.int k u] [] _ tg_kind tg_split t7 (args_tuple_getitem _ _) ?_))
  show wpAny _ _ (Builtin.Tuple.tupleItemsOf (.ref x) >>= _) _ _ _
  unfold Builtin.Tuple.tupleItemsOf
  refine wpAny_bind (wpAny_bind (wpAny_seqItems ho hd (wpAny_pure ?_)))
  refine wpAny_bind (wpAny_typeOf (typeIs_int _ k u) ?_)
  rw [if_neg (by decide)]
  refine wpAny_bind (wpAny_specialOf (T := "int") (typeIs_int _ k u) int_index ?_)
  rw [if_neg (by simp)]
  refine wpAny_bind (wpAny_of_eq (a := k) rfl ?_)
  rw [if_neg (by simp only [Bool.or_eq_true, decide_eq_true_eq]; omega)]
  simp only [hj, Option.bind_some, hx]
  exact wpAny_pure h
theorem subscriptTail_eq {value slice : Expr} {o i : Value} : subscriptTail value slice o i = (do
    let r ← subscripted slice (← getitemInPython o) o i
    letTemporaryGo value o r
    pure r) := rfl
theorem tupItem {value slice : Expr} (X : K.In s.heap) (Y : TupCls K C cd) (hgi : findIn K (.ref C) "__getitem__" = some (some (.builtin "tuple.__getitem__"))) (ho : s.heap.get? x = some o) (hc : o.cls = .ref C) (hd : o.data = .seq items n) (hlo : -(2 ^ 63) ≤ k) (hhi : k < 2 ^ 63) (hj : seqIndex? k items.size = some j) (hx : items[j]? = some v) (h : Q v s)
    (hs : subscripted slice false (.ref x) (.int k u) = operate [.ref x, .int k u] (getItem (.ref x) (.int k u)) := by with_unfolding_all rfl) : wpAny (model prog w) A (subscriptTail value slice (.ref x) (.int k u)) Q E s := by
  have X' := X
  obtain ⟨hh, g, d, tk, os⟩ := s
  have t1 : Looks (model prog w) hh (typeOf (.ref x)) (.ref C) := hc ▸ (Looks.ld ho).andThen .now
  have g1 : Looks (model prog w) hh (specialOf (.ref x) "__getitem__") (some (.builtin "tuple.__getitem__")) := t1.andThen (looks_findIn X hgi)
  have g2 : Looks (model prog w) hh (getitemInPython (.ref x)) false := g1.andThen .now
  have g3 : Looks (model prog w) hh (sequenceKey (.ref x) (.int k u) "__getitem__") (.int k u) := by
    unfold sequenceKey
    refine t1.andThen ?_
    have z : Looks (model prog w) hh (seqItemTypes.anyM fun n => isSubtype (.ref C) (.type n)) false := by
      unfold seqItemTypes
      have := Y.sub (M := model prog w) X (.type "collections.deque")
      rw [Y.mro] at this
      exact this.andThen .now
    exact z.andThen .now
  rw [subscriptTail_eq]
  refine wpAny_bind (g2.at ?_)
  rw [hs]
  refine wpAny_bind (wpAny_operating ?_)
  unfold getItem
  refine wpAny_holding ?_
  refine wpAny_bind (g3.at ?_)
  unfold callSpecial?
  refine wpAny_bind (wpAny_bind (g1.at ?_))
  dsimp only
  refine wpAny_holding ?_
  rw [slot_tuple_getitem.bind]
  refine wpAny_bind (wpAny_pure (wpAny_bind ?_))
  refine wpAny_mono (tupGet X' Y ho hc hd hlo hhi hj hx (Q := fun r s' => r = v ∧ s' = ⟨hh, g, d, tk, os⟩) ⟨rfl, rfl⟩) (fun r s' e => ?_) fun _ _ z => z
  obtain ⟨rfl, rfl⟩ := e
  exact wpAny_pure (wpAny_pure (wpAny_bind (wpAny_letTemporaryGo (wpAny_pure h))))
end
end secTup2
section secTup3
open Builtin Builtin.ObjectAttr Builtin.Getset_descriptor
theorem ta_kind : builtinKind "tuple.__getattribute__" = some .slot := by decide +kernel
theorem ta_split : splitId "tuple.__getattribute__" = some ("tuple", "__getattribute__") := by decide +kernel
section
variable {prog : Program} {w : World} {A : Around} {E : Value → Shared → Prop} {K : Frag} {C x : Addr} {cd : ClassData} {s : Shared} {Q : Value → Shared → Prop} {ox : Obj} {od : Option Obj} {name : Str} {expr : Bool} {g a : Value}
theorem tupAttr (X : K.In s.heap) (Y : TupCls K C cd) (I : InstAt s.heap x ox C od) (hga : findIn K (.ref C) "__getattribute__" = some (some (.builtin "tuple.__getattribute__"))) (hgt : findIn K (.ref C) "__getattr__" = some none) (hf : findObj K C od name = some (.bind g a))
    (h : wpAny (model prog w) A.in1 (call g [a, .ref x, .ref C]) (fun v s' => wpAny (model prog w) A (handedOut v) Q E s') (fun e s' => wpAny (model prog w) A (getattributeRaised (.ref x) (.str name s.toks) (.ref C) e none true expr) Q E s') { s with toks := s.toks + 1 }) :
    wpAny (model prog w) A (getAttr (.ref x) name expr) Q E s := by
  obtain ⟨hh, gg, d, t, os⟩ := s
  have L0 := I.type (M := model prog w)
  have L1 := looks_findIn (M := model prog w) X hga
  have L2 : Looks (model prog w) hh (hookBefore (.ref C)) none := looks_findIn (M := model prog w) X hgt
  have L3 := looks_find (M := model prog w) X I hf
  have t7 : Looks (model prog w) hh (isInstance (.ref x) (.type "tuple")) true := L0.andThen (Y.tup X)
  unfold getAttr getAttrBy
  refine wpAny_bind (wpAny_mkText (wpAny_holding (wpAny_bind (L0.at (wpAny_bind (L1.at ?_))))))
  show wpAny _ _ (getAttrByItsOwn (.ref x) (.str name t) (.ref C) (.builtin "tuple.__getattribute__") true expr) _ _ _
  unfold getAttrByItsOwn callGetattribute boundAndCalled
  refine wpAny_bind (L2.at ?_)
  refine wpAny_bind (wpAny_attempt (wpAny_holding ?_))
  rw [if_neg (by cases expr <;> decide)]
  refine wpAny_bind (wpAny_of_eq (PySem.F.slot_tuple_getattribute.bind _) ?_)
  refine wpAny_call (codeAny_call_builtin PySem.F.slot_tuple_getattribute.plain PySem.F.entry_tuple_ga (@check_slot (model prog w) _ _ _ "tuple.__getattribute__" "tuple" "__getattribute__" (.ref x) [.str name t] [] _ ta_kind ta_split t7 (PySem.F.args_tuple_getattribute_2 _ _) ?_))
  unfold Builtin.«object.__getattribute__»
  refine wpAny_bind (wpAny_pure (wpAny_bind (wpAny_pure (wpAny_bind (L0.at (wpAny_bind (L3.at ?_)))))))
  show wpAny _ _ (holding [a] (call g [a, .ref x, .ref C]) >>= ret) _ _ _
  exact wpAny_bind (wpAny_holding (wpAny_mono h (fun v s' z => wpAny_pure z) fun _ _ z => z))
end
end secTup3
section secTup4
open Builtin Builtin.ObjectAttr Builtin.Getset_descriptor
section
variable {prog : Program} {w : World} {A : Around} {E : Value → Shared → Prop} {K : Frag} {C x : Addr} {cd : ClassData} {s : Shared} {Q : Value → Shared → Prop}
theorem sub_nested {dep : Int} {tk : Tok} {M : Model} {Q : Fin → Shared → Prop} (X : K.In s.heap) (Y : TupCls K C cd) (h : Q (.done (.ret (.bool true))) s) :
    wpAny M A (Builtin.«issubclass.nested» ⟨[.ref C, .type "tuple", .int dep tk], []⟩) Q E s := by
  obtain ⟨oc, od, sl, ho, _⟩ := Y.look
  obtain ⟨hh, g, d, tt, os⟩ := s
  have L1 : Looks M hh (typeOf (.type "tuple")) (.type "type") := Looks.of_pure (by first | rfl | kernel_rfl)
  have L2 : Looks M hh (isSubtype (.ref C) (.type "tuple")) true := Y.tup X
  have L3 : Looks M hh (isType (.ref C)) true := (Looks.ld (X _ _ ho)).andThen .now
  unfold Builtin.«issubclass.nested»
  refine wpAny_bind (L1.at ?_)
  rw [if_pos (by decide)]
  k_delta "plainIsSubclass"
  repeat (first | simp only [Bool.not_true, Bool.false_eq_true, if_false] | lk)
  exact h
theorem sub_tup (X : K.In s.heap) (Y : TupCls K C cd) (h : Q (.bool true) s) : wpAny (model prog w) A (call (.builtin "issubclass") [.ref C, .type "tuple"]) Q E s :=
  call_issubclass (S := fun _ R s => K.In s.heap ∧ R (.ok (.ret (.bool true))) s) (fun _ _ _ _ _ hs => issubclass_outer (sub_nested hs.1 Y hs.2)) ⟨X, h⟩
end
end secTup4
section secMk1
theorem arity_cls (P : Params) : ∃ cd, TupCls (MyK P) 380 cd :=
  ⟨_, ⟨_, _, _, show (MyK P).lookup 380 = _ by exact rfl, rfl⟩, rfl, rfl, rfl, by k_is⟩
section
variable {prog : Program} {w : World} {A : Around} {E : Value → Shared → Prop} {s : Shared} {h₀ : Heap} {L : Addr} {m : Str → Option Value} {news : Led} {Q : Value → Shared → Prop}
theorem arity_call {a b : Value} (F : Fr h₀ L s.heap m) (X : (MyK w.params).In h₀)
    (h : ∀ tk, codeAny (model prog w) (A.under (.builtin "type.__call__" ⟨[.ref 380, a, b], []⟩)) (.call (.ref 330) ⟨[.ref 380, a, b], []⟩) (NewBack (MyK w.params) 380 fun r s' => match r with | .ok (.ret v) => Q v s' | .ok _ => False | .error e => E e s') { s with toks := tk }) :
    wpAny (model prog w) A (call (.ref 380) [a, b]) Q E s := by
  obtain ⟨cd, Y⟩ := arity_cls w.params
  refine wpAny_call (tupMake (fN := .ref 330) (X.keeps F.keep) Y (by k_is) (by k_is) (fun A' Q' E' s' e hq => ?_) h)
  exact cls_sm (K := MyK w.params) (p := 381) (rest := []) (mc := .type "type") (e ▸ F) X (by k_is) (by k_is) (by k_is) (by k_is) (by rfl) (hq _)
theorem arity_new {t : Addr} {ot : Obj} {items : Array Value} {n : Nat} (F : Fr h₀ L s.heap m) (N : News h₀ L s.heap news) (X : (MyK w.params).In h₀) (hm : (t, ot) ∈ news) (hc : ot.cls = .type "tuple") (hd : ot.data = .seq items n) (hsz : items.size ≤ sizeLine)
    (hq : ∀ x dx h', Fr h₀ L h' m → News h₀ L h' ((x, ({ cls := .ref 380, dict := some dx, data := .seq items } : Obj)) :: (dx, emptyDict) :: news) → (∀ p ∈ news, p.1 < dx) → dx < x → Q (.ref x) { s with heap := h' }) :
    wpAny (model prog w) A (call (.builtin "tuple.__new__") [.ref 380, .ref t]) Q E s := by
  obtain ⟨cd, Y⟩ := arity_cls w.params
  exact tupNew_K F N (X.keeps F.keep) Y hm hc hd hsz hq
theorem arity_item {value slice : Expr} {x : Addr} {dd : Option Addr} {sl : Array (Option Value)} {items : Array Value} {n : Nat} {k : Int} {u : Tok} {j : Nat} {v : Value} (F : Fr h₀ L s.heap m) (N : News h₀ L s.heap news) (X : (MyK w.params).In h₀) (hm : (x, (⟨.ref 380, dd, .seq items n, sl⟩ : Obj)) ∈ news)
    (hlo : -(2 ^ 63) ≤ k) (hhi : k < 2 ^ 63) (hj : seqIndex? k items.size = some j) (hx : items[j]? = some v) (h : Q v s)
    (hs : subscripted slice false (.ref x) (.int k u) = operate [.ref x, .int k u] (getItem (.ref x) (.int k u)) := by with_unfolding_all rfl) : wpAny (model prog w) A (subscriptTail value slice (.ref x) (.int k u)) Q E s := by
  obtain ⟨cd, Y⟩ := arity_cls w.params
  exact tupItem (X.keeps F.keep) Y (by k_is) (N _ hm).1 rfl rfl hlo hhi hj hx h hs
theorem arity_get {x : Addr} {dd : Option Addr} {sl : Array (Option Value)} {items : Array Value} {n : Nat} {k : Int} {u : Tok} {j : Nat} {v : Value} (F : Fr h₀ L s.heap m) (N : News h₀ L s.heap news) (X : (MyK w.params).In h₀) (hm : (x, (⟨.ref 380, dd, .seq items n, sl⟩ : Obj)) ∈ news)
    (hlo : -(2 ^ 63) ≤ k) (hhi : k < 2 ^ 63) (hj : seqIndex? k items.size = some j) (hx : items[j]? = some v) (h : Q v s) :
    wpAny (model prog w) A (call (.builtin "tuple.__getitem__") [.ref x, .int k u]) Q E s := by
  obtain ⟨cd, Y⟩ := arity_cls w.params
  exact tupGet (X.keeps F.keep) Y (N _ hm).1 rfl rfl hlo hhi hj hx h
theorem arity_inst {h : Heap} {x : Addr} {dd : Option Addr} {sl : Array (Option Value)} {items : Array Value} {n : Nat} (N : News h₀ L h news) (hm : (x, (⟨.ref 380, dd, .seq items n, sl⟩ : Obj)) ∈ news) (hdd : ∀ d, dd = some d → ∃ o, (d, o) ∈ news) :
    ∃ od, InstAt h x ⟨.ref 380, dd, .seq items n, sl⟩ 380 od := by
  cases dd with
  | none => exact ⟨none, (N _ hm).1, rfl, rfl, trivial⟩
  | some d => obtain ⟨o, ho⟩ := hdd d rfl; exact ⟨some o, (N _ hm).1, rfl, rfl, (N _ ho).1⟩
theorem arity_item0 {value slice : Expr} {x : Addr} {dd : Option Addr} {sl : Array (Option Value)} {a b : Value} {n : Nat} {u : Tok} (F : Fr h₀ L s.heap m) (N : News h₀ L s.heap news) (X : (MyK w.params).In h₀) (hm : (x, (⟨.ref 380, dd, .seq #[a, b] n, sl⟩ : Obj)) ∈ news) (h : Q a s)
    (hs : subscripted slice false (.ref x) (.int 0 u) = operate [.ref x, .int 0 u] (getItem (.ref x) (.int 0 u)) := by with_unfolding_all rfl) : wpAny (model prog w) A (subscriptTail value slice (.ref x) (.int 0 u)) Q E s :=
  arity_item F N X hm (j := 0) (by decide) (by decide) (by rfl) (by rfl) h hs
theorem arity_get0 {x : Addr} {dd : Option Addr} {sl : Array (Option Value)} {a b : Value} {n : Nat} {u : Tok} (F : Fr h₀ L s.heap m) (N : News h₀ L s.heap news) (X : (MyK w.params).In h₀) (hm : (x, (⟨.ref 380, dd, .seq #[a, b] n, sl⟩ : Obj)) ∈ news) (h : Q a s) :
    wpAny (model prog w) A (call (.builtin "tuple.__getitem__") [.ref x, .int 0 u]) Q E s :=
  arity_get F N X hm (j := 0) (by decide) (by decide) (by rfl) (by rfl) h
theorem arity_item1 {value slice : Expr} {x : Addr} {dd : Option Addr} {sl : Array (Option Value)} {a b : Value} {n : Nat} {u : Tok} (F : Fr h₀ L s.heap m) (N : News h₀ L s.heap news) (X : (MyK w.params).In h₀) (hm : (x, (⟨.ref 380, dd, .seq #[a, b] n, sl⟩ : Obj)) ∈ news) (h : Q b s)
    (hs : subscripted slice false (.ref x) (.int 1 u) = operate [.ref x, .int 1 u] (getItem (.ref x) (.int 1 u)) := by with_unfolding_all rfl) : wpAny (model prog w) A (subscriptTail value slice (.ref x) (.int 1 u)) Q E s :=
  arity_item F N X hm (j := 1) (by decide) (by decide) (by rfl) (by rfl) h hs
theorem arity_get1 {x : Addr} {dd : Option Addr} {sl : Array (Option Value)} {a b : Value} {n : Nat} {u : Tok} (F : Fr h₀ L s.heap m) (N : News h₀ L s.heap news) (X : (MyK w.params).In h₀) (hm : (x, (⟨.ref 380, dd, .seq #[a, b] n, sl⟩ : Obj)) ∈ news) (h : Q b s) :
    wpAny (model prog w) A (call (.builtin "tuple.__getitem__") [.ref x, .int 1 u]) Q E s :=
  arity_get F N X hm (j := 1) (by decide) (by decide) (by rfl) (by rfl) h
theorem arity_min {x dx : Addr} {sl : Array (Option Value)} {items : Array Value} {n : Nat} {o : Obj} {expr : Bool} (F : Fr h₀ L s.heap m) (N : News h₀ L s.heap news) (X : (MyK w.params).In h₀) (hm : (x, (⟨.ref 380, some dx, .seq items n, sl⟩ : Obj)) ∈ news) (hm2 : (dx, o) ∈ news)
    (h : wpAny (model prog w) A.in1 (call (.ref 161) [.ref 372, .ref x, .ref 380]) (fun v s' => wpAny (model prog w) A (handedOut v) Q E s') (fun e s' => wpAny (model prog w) A (getattributeRaised (.ref x) (.str (Str.ofString "min_count") s.toks) (.ref 380) e none true expr) Q E s') { s with toks := s.toks + 1 }) :
    wpAny (model prog w) A (getAttr (.ref x) (Str.ofString "min_count") expr) Q E s := by
  obtain ⟨cd, Y⟩ := arity_cls w.params
  exact tupAttr (od := some o) (X.keeps F.keep) Y ⟨(N _ hm).1, rfl, rfl, (N _ hm2).1⟩ (by k_is) (by k_is) (findObj_data (by rfl) (by k_is) (by k_is) (by k_is)) h
theorem arity_fix {x dx : Addr} {sl : Array (Option Value)} {items : Array Value} {n : Nat} {o : Obj} {expr : Bool} (F : Fr h₀ L s.heap m) (N : News h₀ L s.heap news) (X : (MyK w.params).In h₀) (hm : (x, (⟨.ref 380, some dx, .seq items n, sl⟩ : Obj)) ∈ news) (hm2 : (dx, o) ∈ news)
    (h : wpAny (model prog w) A.in1 (call (.ref 161) [.ref 375, .ref x, .ref 380]) (fun v s' => wpAny (model prog w) A (handedOut v) Q E s') (fun e s' => wpAny (model prog w) A (getattributeRaised (.ref x) (.str (Str.ofString "fixed_size") s.toks) (.ref 380) e none true expr) Q E s') { s with toks := s.toks + 1 }) :
    wpAny (model prog w) A (getAttr (.ref x) (Str.ofString "fixed_size") expr) Q E s := by
  obtain ⟨cd, Y⟩ := arity_cls w.params
  exact tupAttr (od := some o) (X.keeps F.keep) Y ⟨(N _ hm).1, rfl, rfl, (N _ hm2).1⟩ (by k_is) (by k_is) (findObj_data (by rfl) (by k_is) (by k_is) (by k_is)) h
theorem arity_type {x dx : Addr} {sl : Array (Option Value)} {items : Array Value} {n : Nat} {o : Obj} (N : News h₀ L s.heap news) (hm : (x, (⟨.ref 380, some dx, .seq items n, sl⟩ : Obj)) ∈ news) (hm2 : (dx, o) ∈ news) (h : Q (.ref 380) s) :
    wpAny (model prog w) A (call (.type "type") [.ref x]) Q E s :=
  kto_own (od := some o) ⟨(N _ hm).1, rfl, rfl, (N _ hm2).1⟩ h
theorem arity_sub (F : Fr h₀ L s.heap m) (X : (MyK w.params).In h₀) (h : Q (.bool true) s) : wpAny (model prog w) A (call (.builtin "issubclass") [.ref 380, .type "tuple"]) Q E s := by
  obtain ⟨cd, Y⟩ := arity_cls w.params
  exact sub_tup (X.keeps F.keep) Y h
end
end secMk1
section secOpEnter
section
variable {prog : Program} {w : World} {A A₀ : Around} {s : Shared} {K : Frag} {L : Addr} {h₀ base : Heap} {m mg mb : Str → Option Value} {rest : Led} {p : Program} {loose : List Str} {mean : ExcName → Option Value}
theorem frameG {env : Env} {outer : List Env} {R : Result → Shared → Prop} {qual : Str} {body : List Stmt} {scope : Scope} {cdv : Value} {f : Addr} {cl : List (Str × Addr)} {binds : List (Str × Value)} {news : Led} {E : Value → Shared → Prop}
    (B : Below A₀ base outer h₀) (F : Fr h₀ L s.heap m) (N : News h₀ L s.heap news) (hlim : h₀.NoLimit) (hA : A.frames = some (env :: outer)) (hf : env.frame = some L) (hke : env.scope.kind = .function)
    (hloc : ∀ y ∈ binds, scope.names.lookup y.1 = some .local)
    (h : ∀ g L' h₁, Fr h₀ L g m → Fr g L' h₁ (fun y => binds.reverse.lookup y) → News g L' h₁ news → Below A base (env :: outer) g → h₀.StaysIn g → GSub s.heap g (news.map (·.1)) → (∀ p ∈ news, p.1 < L') →
      wpAny (model prog w) (A.deeper (envX qual scope L' f cdv cl)) (execs body (envX qual scope L' f cdv cl))
        (fun fl s' => LeaveK h₀ L m g R (match fl with | .ret v => v | _ => .none) s')
        (fun e s' => wpAny (model prog w) (A.deeper (envX qual scope L' f cdv cl)) («leaving» (envX qual scope L' f cdv cl) e) (fun _ s'' => R (.error e) s'') (fun e' s'' => R (.error e') s'') s')
        { s with heap := h₁, toks := s.toks + binds.length })
    (hcell : ∀ x ∈ scope.names, x.2 ≠ .cell) (hk : scope.kind = .function) :
    wpAny (model prog w) A.in1 (newFunctionEnv scope mainGlobals cl binds (qual ++ ".<locals>.") (some f) cdv none builtinsNs) (fun env' s₂ => s₂.heap.NoLimit ∧ codeAny (model prog w) A (.func body env') R s₂) E s := by
  obtain ⟨FG, BG, st, lv⟩ := groundX (R := R) B F N hA hf hke
  refine wpAny_newFunctionEnv hcell hloc (fun h₁ hns hsb => ⟨(hlim.keeps F.keep).fresh _ hsb, codeAny_func ?_⟩) hk
  have hk₁ : ∀ b o, s.heap.get? b = some o → h₁.get? b = some o := fun b o e => hsb.extBut b o (Nat.ne_of_lt (Heap.lt_size e)) (Heap.get?_push_of_some _ e)
  show wpAny (model prog w) (A.deeper (envX qual scope s.heap.objs.size f cdv cl)) (execs body (envX qual scope s.heap.objs.size f cdv cl)) _ _ _
  exact wpAny_mono (h _ s.heap.objs.size h₁ FG ⟨hns, fun b o e => hk₁ b o (of_hideAll _ e), Nat.le_of_eq (hideAll_size _ _)⟩
    (fun p hp => ⟨hk₁ _ _ (N p hp).1, Nat.ne_of_lt (Heap.lt_size (N p hp).1), hideAll_none _ (List.mem_map_of_mem hp)⟩) BG st (fun b o e n => hideAll_get _ e n) (fun p hp => Heap.lt_size (N p hp).1)) (fun fl s' hl => lv _ _ hl) fun _ _ y => y
/-- a def with a starred parameter is entered: what stands is the ground, the tuple of the arguments is new -/
theorem restG {env : Env} {outer : List Env} {R : Result → Shared → Prop} {name qual : Str} {params : Arguments} {body : List Stmt} {scope : Scope} {dV kV doc pm cdv ct oc : Value} {an od : Option Addr} {osl : Array (Option Value)} {f : Addr} {args : Args} {vs : List Value} {g₁ : Addr → Option (List (Str × Value))} {binds : Addr → List (Str × Value)}
    (B : Below A₀ base outer h₀) (F : Fr h₀ L s.heap m) (X₀ : K.In h₀) (N : News h₀ L s.heap rest) (T : Top p loose mean mg mb h₀) (hA : A.frames = some (env :: outer)) (hf : env.frame = some L) (hke : env.scope.kind = .function)
    (ho : K.lookup f = some ⟨oc, od, .func (fnOf name qual params body scope dV kV doc pm an cdv ct), osl⟩) (hcd : codeIn K cdv qual = true) (hroom : A.depth < recursionLimit)
    (hp : peek1 K ⟨prog, w.params⟩ (bindArgs (fnOf name qual params body scope dV kV doc pm an cdv ct) args) = some (({ cls := .type "tuple", data := .seq vs.toArray } : Obj), g₁))
    (hg : ∀ D, g₁ D = some (binds D)) (hloc : ∀ D, ∀ y ∈ binds D, scope.names.lookup y.1 = some .local)
    (h : ∀ D g L' h₁, Fr h₀ L g m → Fr g L' h₁ (fun y => (binds D).reverse.lookup y) → News g L' h₁ [(D, ({ cls := .type "tuple", data := .seq vs.toArray } : Obj))] → Below A base (env :: outer) g → K.In g → Top p loose mean mg mb g → (∀ a o, At h₀ rest a o → g.get? a = some o) → D < L' →
      wpAny (model prog w) (A.deeper (envOf qual scope L' f cdv)) (execs body (envOf qual scope L' f cdv))
        (fun fl s' => LeaveK h₀ L m g R (match fl with | .ret v => v | _ => .none) s')
        (fun e s' => wpAny (model prog w) (A.deeper (envOf qual scope L' f cdv)) («leaving» (envOf qual scope L' f cdv) e) (fun _ s'' => R (.error e) s'') (fun e' s'' => R (.error e') s'') s')
        { s with heap := h₁, toks := s.toks + (binds D).length })
    (hco : scope.isCoroutine = false) (hgen : scope.isGenerator = false) (hk : scope.kind = .function)
    (hcell : ∀ x ∈ scope.names, x.2 ≠ .cell) : codeAny (model prog w) A (.call (.ref f) args) R s := by
  refine codeAny_call_function (fd := fnOf name qual params body scope dV kV doc pm an cdv ct) (body := body) hroom ((X₀.keeps F.keep) _ _ ho) rfl hco hgen rfl (codeRec_of (X₀.keeps F.keep) hcd) ?_
  refine wp_of_peek1 (o := ({ cls := .type "tuple", data := .seq vs.toArray } : Obj)) F N (X₀.keeps F.keep) rfl (r := binds) (fun D h' F' N' l => ?_) _ g₁ hp hg
  exact frameG (cl := []) (s := { s with heap := h' }) B F' (fun p hp => N' p (by rw [List.mem_singleton.mp hp]; exact .head _) : News h₀ L h' [(D, _)]) T.nolimit hA hf hke (hloc D) (fun g L' h₁ FG FL NG BG st G lt => h D g L' h₁ FG FL NG BG (X₀.keeps st) (T.keeps st) (fun a o x => x.elim (fun x => st a o x) fun x => G a o (N' (a, o) (.tail _ x)).1 fun q => by
    have := l (a, o) x
    rw [List.map_singleton, List.mem_singleton] at q
    subst q
    exact absurd this (Nat.lt_irrefl _)) (lt _ (.head _))) hcell hk
end
theorem ne_of {g h h₀ : Heap} {L' : Addr} {rest all tl : Led} (hR : ∀ a o, At h₀ rest a o → g.get? a = some o) (N : News g L' h all) (hs : ∀ p ∈ tl, p ∈ all) : ∀ q ∈ rest, ∀ p ∈ tl, @Ne Nat p.1 q.1 := by
  intro q hq p hp e
  have h1 := hR q.1 q.2 (.inr hq)
  have h2 := (N p (hs p hp)).2.2
  have e' : p.1 = q.1 := e
  rw [e', h1] at h2
  cases h2
end secOpEnter
section secExpr
/-- an entry of an object's dict -/
@[reducible] noncomputable def ent (P : Params) (k : Str) (t : Tok) (v : Value) : DictEntry := { hash := PyData.keyHash P k, key := .str k t, val := v }
/-- an operation's kind: an object of _OperationMeta -/
structure KindIn (P : Params) (R : Addr → Obj → Prop) (kd dk ar da : Addr) (k : Bool) (t1 t2 t3 t4 t5 t6 t7 t8 : Tok) (ta : Tok) (n na : Nat) (oa : Obj) : Prop where
  inst : R kd (instObj 415 dk)
  dict : R dk (dictOf [ent P (Str.ofString "name") t1 (.str (opStr k) t7), ent P (Str.ofString "arity") t2 (.ref ar), ent P (Str.ofString "class_name") t3 (.str (opStr k) t8), ent P (Str.ofString "associative") t4 (.bool false), ent P (Str.ofString "commutative") t5 (.bool false), ent P (Str.ofString "one_identity") t6 (.bool false)] n)
  ar : R ar ⟨.ref 380, some da, .seq #[.int 0 ta, .bool false] na, #[]⟩
  da : R da oa
/-- a tree as the project's objects -/
inductive ExprIn (P : Params) (R : Addr → Obj → Prop) : Value → Nd → Prop
  | sa {x d : Addr} {t1 t2 t3 : Tok} {n : Nat} : R x (instObj 637 d) → R d (dictOf [ent P (Str.ofString "variable_name") t1 .none, ent P (Str.ofString "name") t2 (.str (Str.ofString "a") t3)] n) → ExprIn P R (.ref x) (.s .a)
  | sb {x d : Addr} {t1 t2 t3 : Tok} {n : Nat} : R x (instObj 637 d) → R d (dictOf [ent P (Str.ofString "variable_name") t1 .none, ent P (Str.ofString "name") t2 (.str (Str.ofString "b") t3)] n) → ExprIn P R (.ref x) (.s .b)
  | sy {x d : Addr} {t1 t2 t3 t4 : Tok} {n : Nat} : R x (instObj 637 d) → R d (dictOf [ent P (Str.ofString "variable_name") t1 (.str (Str.ofString "y") t4), ent P (Str.ofString "name") t2 (.str (Str.ofString "a") t3)] n) → ExprIn P R (.ref x) (.s .ay)
  | v {x d : Addr} {t1 t2 t3 t4 t5 t6 : Tok} {n : Nat} {v : Nm} : R x (instObj 741 d) → R d (dictOf [ent P (Str.ofString "variable_name") t1 (.str v.str t5), ent P (Str.ofString "min_count") t2 (.int 1 t6), ent P (Str.ofString "fixed_size") t3 (.bool true), ent P (Str.ofString "optional") t4 .none] n) → ExprIn P R (.ref x) (.s (.v v))
  | o1 {x d kd ar l : Addr} {t1 t2 t3 t4 t5 t6 t7 t8 t9 : Tok} {n n' : Nat} {k : Bool} {v : Value} {p : Nd} : R x (instObj 561 d) → R d (dictOf [ent P (Str.ofString "variable_name") t1 .none, ent P (Str.ofString "head") t2 (.ref kd), ent P (Str.ofString "name") t3 (.str (opStr k) t9), ent P (Str.ofString "arity") t4 (.ref ar), ent P (Str.ofString "associative") t5 (.bool false), ent P (Str.ofString "commutative") t6 (.bool false), ent P (Str.ofString "one_identity") t7 (.bool false), ent P (Str.ofString "operands") t8 (.ref l)] n) → R l (lstOf [v] n') → ExprIn P R v p → ExprIn P R (.ref x) (.o1 k p)
  | o2 {x d kd ar l : Addr} {t1 t2 t3 t4 t5 t6 t7 t8 t9 : Tok} {n n' : Nat} {k : Bool} {v u : Value} {p q : Nd} : R x (instObj 561 d) → R d (dictOf [ent P (Str.ofString "variable_name") t1 .none, ent P (Str.ofString "head") t2 (.ref kd), ent P (Str.ofString "name") t3 (.str (opStr k) t9), ent P (Str.ofString "arity") t4 (.ref ar), ent P (Str.ofString "associative") t5 (.bool false), ent P (Str.ofString "commutative") t6 (.bool false), ent P (Str.ofString "one_identity") t7 (.bool false), ent P (Str.ofString "operands") t8 (.ref l)] n) → R l (lstOf [v, u] n') → ExprIn P R v p → ExprIn P R u q → ExprIn P R (.ref x) (.o2 k p q)
theorem ExprIn.mono {P : Params} {R R' : Addr → Obj → Prop} (h : ∀ a o, R a o → R' a o) {v : Value} {T : Nd} (x : ExprIn P R v T) : ExprIn P R' v T := by
  induction x with
  | sa a b => exact .sa (h _ _ a) (h _ _ b)
  | sb a b => exact .sb (h _ _ a) (h _ _ b)
  | sy a b => exact .sy (h _ _ a) (h _ _ b)
  | v a b => exact .v (h _ _ a) (h _ _ b)
  | o1 a b c _ ih => exact .o1 (h _ _ a) (h _ _ b) (h _ _ c) ih
  | o2 a b c _ _ ih1 ih2 => exact .o2 (h _ _ a) (h _ _ b) (h _ _ c) ih1 ih2
/-- an object that stands below -/
theorem inst_base {g h : Heap} {L : Addr} {m : Str → Option Value} {x C d : Addr} {o : Obj} (F : Fr g L h m) (h1 : g.get? x = some (instObj C d)) (h2 : g.get? d = some o) : InstAt h x (instObj C d) C (some o) :=
  ⟨F.keep _ _ h1, rfl, rfl, F.keep _ _ h2⟩
end secExpr
section secOp0
section
variable {prog : Program} {w : World} {A : Around} {E : Value → Shared → Prop} {s : Shared} {h₀ : Heap} {L : Addr} {m : Str → Option Value} {news : Led} {Q : Value → Shared → Prop}
theorem arityB_item0 {value slice : Expr} {x : Addr} {dd : Option Addr} {sl : Array (Option Value)} {a b : Value} {n : Nat} {u : Tok} (F : Fr h₀ L s.heap m) (X : (MyK w.params).In h₀) (ho : s.heap.get? x = some ⟨.ref 380, dd, .seq #[a, b] n, sl⟩) (h : Q a s)
    (hs : subscripted slice false (.ref x) (.int 0 u) = operate [.ref x, .int 0 u] (getItem (.ref x) (.int 0 u)) := by with_unfolding_all rfl) : wpAny (model prog w) A (subscriptTail value slice (.ref x) (.int 0 u)) Q E s := by
  obtain ⟨cd, Y⟩ := arity_cls w.params
  exact tupItem (X.keeps F.keep) Y (by k_is) ho rfl rfl (j := 0) (by decide) (by decide) (by rfl) (by rfl) h hs
theorem arityB_get0 {x : Addr} {dd : Option Addr} {sl : Array (Option Value)} {a b : Value} {n : Nat} {u : Tok} (F : Fr h₀ L s.heap m) (X : (MyK w.params).In h₀) (ho : s.heap.get? x = some ⟨.ref 380, dd, .seq #[a, b] n, sl⟩) (h : Q a s) :
    wpAny (model prog w) A (call (.builtin "tuple.__getitem__") [.ref x, .int 0 u]) Q E s := by
  obtain ⟨cd, Y⟩ := arity_cls w.params
  exact tupGet (X.keeps F.keep) Y ho rfl rfl (j := 0) (by decide) (by decide) (by rfl) (by rfl) h
theorem arityB_item1 {value slice : Expr} {x : Addr} {dd : Option Addr} {sl : Array (Option Value)} {a b : Value} {n : Nat} {u : Tok} (F : Fr h₀ L s.heap m) (X : (MyK w.params).In h₀) (ho : s.heap.get? x = some ⟨.ref 380, dd, .seq #[a, b] n, sl⟩) (h : Q b s)
    (hs : subscripted slice false (.ref x) (.int 1 u) = operate [.ref x, .int 1 u] (getItem (.ref x) (.int 1 u)) := by with_unfolding_all rfl) : wpAny (model prog w) A (subscriptTail value slice (.ref x) (.int 1 u)) Q E s := by
  obtain ⟨cd, Y⟩ := arity_cls w.params
  exact tupItem (X.keeps F.keep) Y (by k_is) ho rfl rfl (j := 1) (by decide) (by decide) (by rfl) (by rfl) h hs
theorem arityB_get1 {x : Addr} {dd : Option Addr} {sl : Array (Option Value)} {a b : Value} {n : Nat} {u : Tok} (F : Fr h₀ L s.heap m) (X : (MyK w.params).In h₀) (ho : s.heap.get? x = some ⟨.ref 380, dd, .seq #[a, b] n, sl⟩) (h : Q b s) :
    wpAny (model prog w) A (call (.builtin "tuple.__getitem__") [.ref x, .int 1 u]) Q E s := by
  obtain ⟨cd, Y⟩ := arity_cls w.params
  exact tupGet (X.keeps F.keep) Y ho rfl rfl (j := 1) (by decide) (by decide) (by rfl) (by rfl) h
theorem arityB_min {x dx : Addr} {sl : Array (Option Value)} {items : Array Value} {n : Nat} {o : Obj} {expr : Bool} (F : Fr h₀ L s.heap m) (X : (MyK w.params).In h₀) (ho : s.heap.get? x = some ⟨.ref 380, some dx, .seq items n, sl⟩) (ho2 : s.heap.get? dx = some o)
    (h : wpAny (model prog w) A.in1 (call (.ref 161) [.ref 372, .ref x, .ref 380]) (fun v s' => wpAny (model prog w) A (handedOut v) Q E s') (fun e s' => wpAny (model prog w) A (getattributeRaised (.ref x) (.str (Str.ofString "min_count") s.toks) (.ref 380) e none true expr) Q E s') { s with toks := s.toks + 1 }) :
    wpAny (model prog w) A (getAttr (.ref x) (Str.ofString "min_count") expr) Q E s := by
  obtain ⟨cd, Y⟩ := arity_cls w.params
  exact tupAttr (od := some o) (X.keeps F.keep) Y ⟨ho, rfl, rfl, ho2⟩ (by k_is) (by k_is) (findObj_data (by rfl) (by k_is) (by k_is) (by k_is)) h
theorem arityB_fix {x dx : Addr} {sl : Array (Option Value)} {items : Array Value} {n : Nat} {o : Obj} {expr : Bool} (F : Fr h₀ L s.heap m) (X : (MyK w.params).In h₀) (ho : s.heap.get? x = some ⟨.ref 380, some dx, .seq items n, sl⟩) (ho2 : s.heap.get? dx = some o)
    (h : wpAny (model prog w) A.in1 (call (.ref 161) [.ref 375, .ref x, .ref 380]) (fun v s' => wpAny (model prog w) A (handedOut v) Q E s') (fun e s' => wpAny (model prog w) A (getattributeRaised (.ref x) (.str (Str.ofString "fixed_size") s.toks) (.ref 380) e none true expr) Q E s') { s with toks := s.toks + 1 }) :
    wpAny (model prog w) A (getAttr (.ref x) (Str.ofString "fixed_size") expr) Q E s := by
  obtain ⟨cd, Y⟩ := arity_cls w.params
  exact tupAttr (od := some o) (X.keeps F.keep) Y ⟨ho, rfl, rfl, ho2⟩ (by k_is) (by k_is) (findObj_data (by rfl) (by k_is) (by k_is) (by k_is)) h
theorem arityB_type {x dx : Addr} {sl : Array (Option Value)} {items : Array Value} {n : Nat} {o : Obj} (ho : s.heap.get? x = some ⟨.ref 380, some dx, .seq items n, sl⟩) (ho2 : s.heap.get? dx = some o) (h : Q (.ref 380) s) :
    wpAny (model prog w) A (call (.type "type") [.ref x]) Q E s :=
  kto_own (od := some o) ⟨ho, rfl, rfl, ho2⟩ h
end
end secOp0
section secOp1
set_option maxHeartbeats 4000000
theorem at_get {g h : Heap} {L : Addr} {m : Str → Option Value} {rest : Led} {a : Addr} {o : Obj} (F : Fr g L h m) (N : News g L h ([] ++ rest)) (x : At g rest a o) : h.get? a = some o :=
  x.elim (fun x => F.keep _ _ x) fun x => (N (a, o) x).1
theorem meta_tuple : typeOf (.type "tuple") = pure (.type "type") := by first | rfl | kernel_rfl
section ops
theorem rk12 : True := by
  k_with "~getMethod type:tuple" => case' fr9 => ((k_here; refine' method_type ?F ?X ?m (by decide +kernel) ?e ?h ?_; (case F => k_asm); (case X => k_asm); (case m => exact meta_tuple); (case e => k_dflt k_is); (case h => k_handed)))
  k_with "~k_room" => case' fr9 => (((try simp only [depth_under_make, depth_under_kw, depth_in1, depth_deeper, depth_caller]); (try dsimp only [ktrTop]); omega))
  k_with "~k_mem" => case' fr9 => (with_reducible assumption)
  k_with "~my_at" => case' fr9 => (first | exact News.get (by k_asm) (by with_reducible kcf_m) | exact Fr.keep (by k_asm) _ _ (by with_reducible assumption))
  k_with "~call builtin:tuple.__getitem__" => case' fr9 => ((k_here; k_dflt (first | (refine' arityB_get1 ?F ?X ?ho ?_; (case ho => walk_at "my_at"); (case F => k_asm); (case X => k_asm)) | (refine' arityB_get0 ?F ?X ?ho ?_; (case ho => walk_at "my_at"); (case F => k_asm); (case X => k_asm)))))
  k_with "~call type:type" => case' fr9 => ((k_here; k_dflt (refine' arityB_type ?ho ?ho2 ?_; (case ho => walk_at "my_at"); (case ho2 => walk_at "my_at"))))
  k_with "~call builtin:issubclass" => case' fr9 => ((k_here; k_dflt (refine' arity_sub ?F ?X ?_; (case F => k_asm); (case X => k_asm))))
  trivial
theorem get_min {prog : Program} {w : World} {loose : List Str} {mean : ExcName → Option Value} {mg mb : Str → Option Value} {dp un : Nat} {gd : Option (List Code)} {cn : Str} {cs : Scope} {a : Addr} {ccd : Value} {cl : List (Str × Addr)} {outer : List Env} {A₀ : Around} {base h₀ : Heap} {L : Addr} {m : Str → Option Value} {rest : Led} {s : Shared}
    {x dx : Addr} {ta : Tok} {na : Nat} {oa : Obj} {Q E : Value → Shared → Prop}
    (H : Here w.params loose mean mg mb A₀ base h₀ outer L m [] rest s.heap) (hk : cs.kind = .function) (ho : At h₀ rest x ⟨.ref 380, some dx, .seq #[.int 0 ta, .bool false] na, #[]⟩) (ho2 : At h₀ rest dx oa)
    (hd : dp + 2 < recursionLimit)
    (ret : ∀ h' tks, Fr h₀ L h' m → News h₀ L h' ([] ++ rest) → Q (.int 0 ta) { s with heap := h', toks := tks }) :
    wpAny (model prog w) (ktrTop dp un gd cn cs L a ccd cl outer) (call (.ref 161) [.ref 372, .ref x, .ref 380]) Q E s := by
  obtain ⟨B, F, X, N, T, off⟩ := H
  have N1 := subLed N
  refine wpAny_call ?_
  k_dflt (refine' code_defG (binds := [(Str.ofString "self", .ref 372), (Str.ofString "obj", .ref x), (Str.ofString "objtype", .ref 380)]) B F X N1 T ?kA ?kF ?kK ?k6 ?k7 ?k8 ?k9 ?kB ?_ ?c2 ?c3 ?c4 ?c5; (case kA => exact rfl); (case kF => exact rfl); (case kK => exact hk); (case k6 => k_is); (case k7 => k_is); (case k8 => k_room); (case k9 => exact binds_K (X.keeps F.keep) rfl (by k_is) rfl rfl rfl); (case c5 => decide); (case kB => exact locs rfl); (case c2 => exact rfl); (case c3 => exact rfl); (case c4 => exact rfl))
  intro g L' h1 FG F' N' B' X' T' kG
  have hR := grounded N off kG FG.keep
  have hx1 := hR x _ ho
  have hx2 := hR dx _ ho2
  (try dsimp only); (try k_fold)
  k_steps

  · exact ret _ _ (by assumption) (back0 N hR (by assumption) (by assumption))
theorem get_fix {prog : Program} {w : World} {loose : List Str} {mean : ExcName → Option Value} {mg mb : Str → Option Value} {dp un : Nat} {gd : Option (List Code)} {cn : Str} {cs : Scope} {a : Addr} {ccd : Value} {cl : List (Str × Addr)} {outer : List Env} {A₀ : Around} {base h₀ : Heap} {L : Addr} {m : Str → Option Value} {rest : Led} {s : Shared}
    {x dx : Addr} {ta : Tok} {na : Nat} {oa : Obj} {Q E : Value → Shared → Prop}
    (H : Here w.params loose mean mg mb A₀ base h₀ outer L m [] rest s.heap) (hk : cs.kind = .function) (ho : At h₀ rest x ⟨.ref 380, some dx, .seq #[.int 0 ta, .bool false] na, #[]⟩) (ho2 : At h₀ rest dx oa)
    (hd : dp + 2 < recursionLimit)
    (ret : ∀ h' tks, Fr h₀ L h' m → News h₀ L h' ([] ++ rest) → Q (.bool false) { s with heap := h', toks := tks }) :
    wpAny (model prog w) (ktrTop dp un gd cn cs L a ccd cl outer) (call (.ref 161) [.ref 375, .ref x, .ref 380]) Q E s := by
  obtain ⟨B, F, X, N, T, off⟩ := H
  have N1 := subLed N
  refine wpAny_call ?_
  k_dflt (refine' code_defG (binds := [(Str.ofString "self", .ref 375), (Str.ofString "obj", .ref x), (Str.ofString "objtype", .ref 380)]) B F X N1 T ?kA ?kF ?kK ?k6 ?k7 ?k8 ?k9 ?kB ?_ ?c2 ?c3 ?c4 ?c5; (case kA => exact rfl); (case kF => exact rfl); (case kK => exact hk); (case k6 => k_is); (case k7 => k_is); (case k8 => k_room); (case k9 => exact binds_K (X.keeps F.keep) rfl (by k_is) rfl rfl rfl); (case c5 => decide); (case kB => exact locs rfl); (case c2 => exact rfl); (case c3 => exact rfl); (case c4 => exact rfl))
  intro g L' h1 FG F' N' B' X' T' kG
  have hR := grounded N off kG FG.keep
  have hx1 := hR x _ ho
  have hx2 := hR dx _ ho2
  (try dsimp only); (try k_fold)
  k_steps

  · exact ret _ _ (by assumption) (back0 N hR (by assumption) (by assumption))
end ops
end secOp1
section secLoop
section
variable {prog : Program} {w : World} {A : Around} {E : Value → Shared → Prop} {s : Shared} {env : Env} {h₀ : Heap} {target : Expr} {body : List Stmt} {Q : Flow → Shared → Prop}

theorem rk13 : True := by
  k_with_none
  trivial
/-- a loop's turns: the state between two of them is any -/
theorem loop_any {R : Result → Shared → Prop} {I : Addr} {fp wr : List Addr} {n : Nat} {P Md : Nat → Value → Heap → Prop} {St : Nat → Heap → Prop} (W : KTurns prog w A target I fp wr n P Md St)
    (J : Nat → Shared → Prop) (hst : ∀ i s, J i s → St i s.heap) (h0 : J 0 s)
    (step : ∀ i (s₁ : Shared) v h₁ tk, i < n → J i s₁ → P i v h₁ → St (i + 1) h₁ → (∀ b o, b ∉ wr → s₁.heap.get? b = some o → h₁.get? b = some o) →
      wpAny (model prog w) A (assign target env v) (fun _ s₂ => wpAny (model prog w) A (execs body env)
        (fun f s₃ => match f with | .ret v => R (.ok (.ret v)) s₃ | .brk => R (.ok .next) s₃ | _ => J (i + 1) s₃) (notedBy (model prog w) A env fun e s' => R (.error e) s') s₂) (notedBy (model prog w) A env fun e s' => R (.error e) s') { s₁ with heap := h₁, toks := tk })
    (hR : ∀ (s₁ : Shared) h₁ tk, J n s₁ → (∀ b o, b ∉ wr → s₁.heap.get? b = some o → h₁.get? b = some o) → R (.ok .next) { s₁ with heap := h₁, toks := tk }) :
    codeAny (model prog w) A (.forLoop target (.ref I) body [] env) R s := by
  refine codeAny_forLoop_any (fun k s' => ∃ i, J i s' ∧ i ≤ n ∧ k = n + 1 - i) ?_ (n + 1) ⟨0, h0, Nat.zero_le _, rfl⟩
  rintro k s' ⟨i, hJ, hi, rfl⟩
  by_cases hlt : i < n
  · refine W.item i _ _ _ hlt (hst i s' hJ) fun v h₁ tk₁ hMd hk₁ => ?_
    refine W.go i v _ _ _ hMd fun h₂ hP hst₂ hk₂ => ?_
    refine wpAny_mono (step i s' v h₂ tk₁ hlt hJ hP hst₂ fun b o hb x => hk₂ b o hb (hk₁ b o hb x)) (fun _ s₂ h₂' => wpAny_mono h₂' (fun f s₃ h₃ => ?_) fun _ _ e => e) fun _ _ e => e
    cases f with
    | ret v => exact h₃
    | brk => exact h₃
    | cont => exact ⟨n + 1 - (i + 1), by omega, i + 1, h₃, hlt, rfl⟩
    | next => exact ⟨n + 1 - (i + 1), by omega, i + 1, h₃, hlt, rfl⟩
  · have hin : i = n := by omega
    subst hin
    exact W.done _ _ _ (hst i s' hJ) fun h₁ tk₁ hk₁ => wpAny_execs_nil (hR s' h₁ tk₁ hJ hk₁)

/-- what a turn's end owes -/
noncomputable def MyEnd (h₀ : Heap) (L : Addr) (its keep : Led) (rest : Shared → (Str → Option Value) → Led → Prop) (s₂ : Shared) : Prop :=
  ∃ m' news', Fr h₀ L s₂.heap m' ∧ News h₀ L s₂.heap (its ++ news') ∧ (∀ p ∈ news', ∀ q ∈ its, p.1 ≠ q.1) ∧ (∀ p ∈ keep, p ∈ news') ∧ rest s₂ m' news'
noncomputable def MyPost (h₀ : Heap) (L : Addr) (its keep : Led) (rest : Shared → (Str → Option Value) → Led → Prop) (Q : Flow → Shared → Prop) (f : Flow) (s₂ : Shared) : Prop :=
  match f with
  | .ret v => Q (.ret v) s₂
  | .brk => Q .next s₂
  | _ => MyEnd h₀ L its keep rest s₂
noncomputable def MyRest (prog : Program) (w : World) (A : Around) (E : Value → Shared → Prop) (h₀ : Heap) (env : Env) (target : Expr) (body : List Stmt) (Q : Flow → Shared → Prop) (ws : List (Addr × String)) (keep : Led) : List Itm → Shared → (Str → Option Value) → Led → Prop
  | [], s, m, news => ∀ h tk, Fr h₀ env.locals h m → News h₀ env.locals h news → Q .next { s with heap := h, toks := tk }
  | a :: r, s, m, news => ∀ v h tk, a.Is v h → Fr h₀ env.locals h m → AllObj ws (fun its => News h₀ env.locals h (its ++ news) →
      wpAny (model prog w) A (assign target env v) (fun _ s₂ => wpAny (model prog w) A (execs body env) (MyPost h₀ env.locals its keep (fun s' m' n' => MyRest prog w A E h₀ env target body Q ws keep r s' m' n') Q) E s₂) E { s with heap := h, toks := tk })
theorem MyRest.at {ws : List (Addr × String)} {keep : Led} {xs : List Itm} {m : Str → Option Value} {news : Led} {hp : Heap} {tk : Nat} (r : MyRest prog w A E h₀ env target body Q ws keep xs s m news) : MyRest prog w A E h₀ env target body Q ws keep xs { s with heap := hp, toks := tk } m news := by
  cases xs <;> exact r
theorem MyRest.zero {ws : List (Addr × String)} {keep : Led} {m : Str → Option Value} {news : Led} (h : ∀ h tk, Fr h₀ env.locals h m → News h₀ env.locals h news → Q .next { s with heap := h, toks := tk }) :
    MyRest prog w A E h₀ env target body Q ws keep [] s m news := h
theorem MyRest.val {ws : List (Addr × String)} {keep : Led} {v : Value} {r : List Itm} {m : Str → Option Value} {news : Led}
    (h : ∀ h tk, Fr h₀ env.locals h m → AllObj ws (fun its => News h₀ env.locals h (its ++ news) →
      wpAny (model prog w) A (assign target env v) (fun _ s₂ => wpAny (model prog w) A (execs body env) (MyPost h₀ env.locals its keep (fun s' m' n' => MyRest prog w A E h₀ env target body Q ws keep r s' m' n') Q) E s₂) E { s with heap := h, toks := tk })) :
    MyRest prog w A E h₀ env target body Q ws keep (.val v :: r) s m news := by
  intro u h' tk e F
  have e' : u = v := e
  subst e'
  exact h h' tk F
theorem MyRest.pair {ws : List (Addr × String)} {keep : Led} {f : Tok → Value} {x : Value} {r : List Itm} {m : Str → Option Value} {news : Led}
    (h : ∀ T t h tk, IsTup h T #[f t, x] → Fr h₀ env.locals h m → AllObj ws (fun its => News h₀ env.locals h (its ++ news) →
      wpAny (model prog w) A (assign target env (.ref T)) (fun _ s₂ => wpAny (model prog w) A (execs body env) (MyPost h₀ env.locals its keep (fun s' m' n' => MyRest prog w A E h₀ env target body Q ws keep r s' m' n') Q) E s₂) E { s with heap := h, toks := tk })) :
    MyRest prog w A E h₀ env target body Q ws keep (.pair f x :: r) s m news := by
  intro u h' tk e F
  obtain ⟨T, t, e, ht⟩ := e
  subst e
  exact h T t h' tk ht F

noncomputable def MyTurns (prog : Program) (w : World) (A : Around) (env : Env) (target : Expr) (body : List Stmt) (Q : Flow → Shared → Prop) (E : Value → Shared → Prop) (it : Value) (s₂ : Shared) : Prop :=
  ∃ (I : Addr) (fp wr : List Addr) (n : Nat) (P Md : Nat → Value → Heap → Prop) (St : Nat → Heap → Prop) (J : Nat → Shared → Prop),
    it = .ref I ∧ KTurns prog w A target I fp wr n P Md St ∧ (∀ i s, J i s → St i s.heap) ∧ J 0 s₂ ∧
    (∀ i (s₁ : Shared) v h₁ tk, i < n → J i s₁ → P i v h₁ → St (i + 1) h₁ → (∀ b o, b ∉ wr → s₁.heap.get? b = some o → h₁.get? b = some o) →
      wpAny (model prog w) A (assign target env v) (fun _ s₂ => wpAny (model prog w) A (execs body env)
        (fun f s₃ => match f with | .ret v => Q (.ret v) s₃ | .brk => Q .next s₃ | _ => J (i + 1) s₃) E s₂) E { s₁ with heap := h₁, toks := tk }) ∧
    (∀ (s₁ : Shared) h₁ tk, J n s₁ → (∀ b o, b ∉ wr → s₁.heap.get? b = some o → h₁.get? b = some o) → Q .next { s₁ with heap := h₁, toks := tk })
theorem For_my {iter : Expr} {pos : Pos} {m : Str → Option Value} (_F : Fr h₀ env.locals s.heap m)
    (h : wpAny (model prog w) A (eval iter env) (fun xv s₁ => wpAny (model prog w) A (pyIter xv) (fun it s₂ => MyTurns prog w A env target body Q E it s₂) E s₁) E s)
    (hs : ∀ x, foldedSetIterable iter env x = pure x := by intro _; rfl)
    (hE : PassesOwn (model prog w) A env E := by passes_own) :
    wpAny (model prog w) A (exec (.For target iter body [] pos) env) Q E s := by
  refine wpAny_For (wpAny_mono h (fun xv s₁ h₁ => wpAny_mono h₁ (fun it s₂ h₂ => ?_) fun _ _ e => e) fun _ _ e => e) hs
  obtain ⟨I, fp, wr, n, P, Md, St, J, rfl, W, hst, h0, step, hQ⟩ := h₂
  refine loop_any (R := fun r s' => match r with | .ok f => Q f s' | .error e => cameBackBy (model prog w) A env E e s') W J hst h0
    (fun i s₁ v h₁ tk a b c d e => wpAny_mono (step i s₁ v h₁ tk a b c d e) (fun _ _ x => wpAny_passesOwn hE (wpAny_mono x (fun f _ y => ?_) fun _ _ y => y)) hE) hQ
  cases f <;> exact y

theorem my_core {I : Addr} {fp wr : List Addr} {n : Nat} {P Md : Nat → Value → Heap → Prop} {St : Nat → Heap → Prop} {ws : List (Addr × String)} {keep : Led} {xs : List Itm} {m₀ : Str → Option Value} {news : Led}
    (W : KTurns prog w A target I fp wr n P Md St) (hn : n = xs.length) (hP : ∀ i v h, P i v h → ∃ a, xs[i]? = some a ∧ a.Is v h)
    (hobj : ∀ i h, St i h → ∃ its, Objs ws its ∧ ∀ p ∈ its, h.get? p.1 = some p.2)
    (hws : ∀ b ∈ ws.map (·.1), b ∈ fp ∧ h₀.get? b = none) (hwr : ∀ b ∈ wr, b ∈ ws.map (·.1))
    (hfp : ∀ b ∈ fp, b ∈ ws.map (·.1) ∨ ∃ o, At h₀ keep b o) (hL : env.locals ∉ fp) (hnw : ∀ p ∈ news, p.1 ∉ wr) (hst : St 0 s.heap)
    (F : Fr h₀ env.locals s.heap m₀) (N : News h₀ env.locals s.heap news) (hk : ∀ p ∈ keep, p ∈ news)
    (rest : MyRest prog w A E h₀ env target body Q ws keep xs s m₀ news) : MyTurns prog w A env target body Q E (.ref I) s := by
  have hLw : env.locals ∉ wr := fun h => hL (W.sub _ h)
  have old : ∀ b o, h₀.get? b = some o → b ∉ wr := fun b o e hb => by rw [(hws b (hwr b hb)).2] at e; cases e
  have next : ∀ (s₁ : Shared) (h₁ : Heap) m news, Fr h₀ env.locals s₁.heap m → News h₀ env.locals s₁.heap news → (∀ p ∈ news, p.1 ∉ wr) → (∀ b o, b ∉ wr → s₁.heap.get? b = some o → h₁.get? b = some o) → Fr h₀ env.locals h₁ m ∧ News h₀ env.locals h₁ news := fun s₁ h₁ m news F N hnw hk₁ =>
    ⟨⟨F.ns.at' fun o e => hk₁ _ o hLw e, fun b o e => hk₁ b o (old b o e) (F.keep b o e), F.above⟩, fun p hp => ⟨hk₁ _ _ (hnw p hp) (N p hp).1, (N p hp).2⟩⟩
  refine ⟨I, fp, wr, n, P, Md, St, fun i s' => St i s'.heap ∧ ∃ m news, Fr h₀ env.locals s'.heap m ∧ News h₀ env.locals s'.heap news ∧ (∀ p ∈ news, p.1 ∉ wr) ∧ (∀ p ∈ keep, p ∈ news) ∧ MyRest prog w A E h₀ env target body Q ws keep (xs.drop i) s' m news,
    rfl, W, fun _ _ h => h.1, ⟨hst, m₀, news, F, N, hnw, hk, by rw [List.drop_zero]; exact rest⟩, ?_, ?_⟩
  · rintro i s₁ v h₁ tk hin ⟨_, m, news, F, N, hoff, hk, hJ⟩ hPi hst₁ hk₁
    obtain ⟨F₁, N₁⟩ := next s₁ h₁ m news F N hoff hk₁
    obtain ⟨a, ha, hav⟩ := hP i v h₁ hPi
    obtain ⟨its, hits, hval⟩ := hobj (i + 1) h₁ hst₁
    have hmap := hits.map
    have hdrop : xs.drop i = a :: xs.drop (i + 1) := by
      have hlt' : i < xs.length := hn ▸ hin
      rw [List.drop_eq_getElem_cons hlt']
      congr 1
      exact Option.some.inj ((List.getElem?_eq_getElem hlt').symm.trans ha)
    rw [hdrop] at hJ
    have hin1 : ∀ p ∈ its, p.1 ∈ ws.map (·.1) := fun p hp => by rw [← hmap]; exact List.mem_map.mpr ⟨p, hp, rfl⟩
    have N₂ : News h₀ env.locals h₁ (its ++ news) := fun p hp => (List.mem_append.mp hp).elim (fun hp => ⟨hval p hp, fun e => hL (e ▸ (hws _ (hin1 p hp)).1), (hws _ (hin1 p hp)).2⟩) fun hp => N₁ p hp
    have fin : ∀ s₃, MyEnd h₀ env.locals its keep (fun s' m' n' => MyRest prog w A E h₀ env target body Q ws keep (xs.drop (i + 1)) s' m' n') s₃ →
        St (i + 1) s₃.heap ∧ ∃ m news, Fr h₀ env.locals s₃.heap m ∧ News h₀ env.locals s₃.heap news ∧ (∀ p ∈ news, p.1 ∉ wr) ∧ (∀ p ∈ keep, p ∈ news) ∧ MyRest prog w A E h₀ env target body Q ws keep (xs.drop (i + 1)) s₃ m news := by
      rintro s₃ ⟨m', news', F', N', ho, hk', r⟩
      refine ⟨W.frame _ _ _ hst₁ fun b hb o e => ?_, m', news', F', fun p hp => N' p (List.mem_append_right _ hp), fun p hp hI => ?_, hk', r⟩
      · rcases hfp b hb with h3 | ⟨o₀, h3 | h3⟩
        · rw [← hmap] at h3
          obtain ⟨⟨qa, qo⟩, hq, rfl⟩ := List.mem_map.mp h3
          have h5 : h₁.get? qa = some qo := hval _ hq
          have h6 : qo = o := Option.some.inj (h5.symm.trans e)
          subst h6
          exact (N' _ (List.mem_append_left _ hq)).1
        · have h6 : o₀ = o := Option.some.inj ((F₁.keep _ _ h3).symm.trans e)
          subst h6
          exact F'.keep _ _ h3
        · have h6 : o₀ = o := Option.some.inj ((N₁ _ (hk _ h3)).1.symm.trans e)
          subst h6
          exact (N' _ (List.mem_append_right _ (hk' _ h3))).1
      · have h4 : p.1 ∈ its.map (·.1) := by rw [hmap]; exact hwr _ hI
        obtain ⟨q, hq, hqe⟩ := List.mem_map.mp h4
        exact ho p hp q hq hqe.symm
    refine wpAny_mono ((hJ v h₁ tk hav F₁).at hits N₂) (fun _ s₂ h₂ => wpAny_mono h₂ (fun f s₃ p => ?_) fun _ _ e => e) fun _ _ e => e
    cases f with
    | ret v => exact p
    | brk => exact p
    | next => exact fin _ p
    | cont => exact fin _ p
  · rintro s₁ h₁ tk ⟨_, m, news, F, N, hoff, hk, hJ⟩ hk₁
    obtain ⟨F₁, N₁⟩ := next s₁ h₁ m news F N hoff hk₁
    have z : xs.drop n = [] := List.drop_eq_nil_of_le (Nat.le_of_eq hn.symm)
    rw [z] at hJ
    exact hJ h₁ tk F₁ N₁

theorem my_list {ax : Addr} {vs : List Value} {n : Nat} {m₀ : Str → Option Value} {news keep : Led}
    (hh : A.handled = none) (F : Fr h₀ env.locals s.heap m₀) (N : News h₀ env.locals s.heap news) (hk : ∀ p ∈ keep, p ∈ news) (hx : At h₀ keep ax (lstOf vs n))
    (rest₀ : ∀ I : Addr, (∀ p ∈ news, p.1 < I) → MyRest prog w A E h₀ env target body Q [(I, "list_iterator")] keep (vs.map .val) s m₀ news) :
    wpAny (model prog w) A (pyIter (.ref ax)) (fun it s₂ => MyTurns prog w A env target body Q E it s₂) E s := by
  have hax : s.heap.get? ax = some (lstOf vs n) ∧ ax ≠ env.locals := hx.elim (fun e => ⟨F.keep _ _ e, fun q => Nat.lt_irrefl _ (q ▸ Nat.lt_of_lt_of_le (Heap.lt_size e) F.above)⟩) fun e => ⟨(N _ (hk _ e)).1, (N _ (hk _ e)).2.1⟩
  have hl : s.heap.IsList ax vs.toArray := ⟨_, hax.1, rfl, n, rfl⟩
  have hlt : ax < s.heap.objs.size := Heap.lt_size hax.1
  have hne : ax ≠ s.heap.objs.size := Nat.ne_of_lt hlt
  refine wpAny_pyIter_list hl ?_
  refine my_core (ws := [(s.heap.objs.size, "list_iterator")]) (KTurns.ofWalks (Walks.list hh s.heap.objs.size ax hne vs.toArray) fun i v s Q E st q => letGo_listiter st.1 q) (by simp) (fun i v h hp => ⟨.val v, ?_, rfl⟩) (fun i h st => ?_) (fun b hb => ?_) (fun b hb => by simpa using hb) (fun b hb => ?_) ?_ (fun p hp hI => ?_) ?_ (F.push _) (fun p hp => ⟨Heap.get?_push_of_some _ (N p hp).1, (N p hp).2⟩) hk (rest₀ _ fun p hp => Heap.lt_size (N p hp).1).at
  · have hp' : vs.toArray[i]? = some v := hp
    simpa using hp'
  · obtain ⟨it, hit, hic, _⟩ := st.1
    exact ⟨[(s.heap.objs.size, it)], ⟨⟨rfl, hic⟩, trivial⟩, fun p hp => by rw [List.mem_singleton.mp hp]; exact hit⟩
  · have hb' : b = s.heap.objs.size := by simpa using hb
    rw [hb']
    exact ⟨List.mem_cons_self .., next_is_new F⟩
  · have hb' : b = s.heap.objs.size ∨ b = ax := by simpa using hb
    rcases hb' with e | e
    · exact .inl (by simp [e])
    · exact .inr ⟨_, e ▸ hx⟩
  · intro hI
    rcases List.mem_cons.mp hI with e | hI
    · exact absurd F.ns.lt (e ▸ Nat.lt_irrefl _)
    · exact hax.2 (List.mem_singleton.mp hI).symm
  · exact absurd (Heap.lt_size (N p hp).1) ((List.mem_singleton.mp hI) ▸ Nat.lt_irrefl _)
  · exact ⟨⟨_, Heap.get?_push_size _ rfl, rfl, rfl⟩, hl.at fun o e => Heap.get?_push_of_some _ e⟩

theorem my_zip {elts : List Expr} {k : Nat} {pos : Pos} {l1 l2 : Addr} {xs ys : List Value} {n1 n2 : Nat} {m₀ : Str → Option Value} {news keep : Led}
    (hh : A.handled = none) (F : Fr h₀ env.locals s.heap m₀) (N : News h₀ env.locals s.heap news) (hk : ∀ p ∈ keep, p ∈ news) (hx : At h₀ keep l1 (lstOf xs n1)) (hy : At h₀ keep l2 (lstOf ys n2))
    (rest₀ : ∀ I : Addr, (∀ p ∈ news, p.1 < I) → MyRest prog w A E h₀ env (.Tuple elts k pos) body Q [(I + 4, "zip"), (I + 2, "tuple"), (I + 3, "tuple"), (I, "list_iterator"), (I + 1, "list_iterator")] keep (zipItems xs ys) s m₀ news) :
    wpAny (model prog w) A (call (.type "zip") [.ref l1, .ref l2]) (fun xv s₁ => wpAny (model prog w) A (pyIter xv) (fun it s₂ => MyTurns prog w A env (.Tuple elts k pos) body Q E it s₂) E s₁) E s := by
  have at' : ∀ {a o}, At h₀ keep a o → s.heap.get? a = some o ∧ a ≠ env.locals := fun hx => hx.elim (fun e => ⟨F.keep _ _ e, fun q => Nat.lt_irrefl _ (q ▸ Nat.lt_of_lt_of_le (Heap.lt_size e) F.above)⟩) fun e => ⟨(N _ (hk _ e)).1, (N _ (hk _ e)).2.1⟩
  have hax1 := at' hx
  have hax2 := at' hy
  have hl1 : s.heap.IsList l1 xs.toArray := ⟨_, hax1.1, rfl, n1, rfl⟩
  have hl2 : s.heap.IsList l2 ys.toArray := ⟨_, hax2.1, rfl, n2, rfl⟩
  have hlt1 : l1 < s.heap.objs.size := Heap.lt_size hax1.1
  have hlt2 : l2 < s.heap.objs.size := Heap.lt_size hax2.1
  have hLs : env.locals < s.heap.objs.size := F.ns.lt
  have D : ZipApart (s.heap.objs.size + 4) (s.heap.objs.size + 2) (s.heap.objs.size + 3) s.heap.objs.size (s.heap.objs.size + 1) l1 l2 := ktu_apart _ _ _ hlt1 hlt2
  have low : ∀ {a : Nat}, a < s.heap.objs.size → a ∉ [s.heap.objs.size + 4, s.heap.objs.size + 2, s.heap.objs.size + 3, s.heap.objs.size, s.heap.objs.size + 1] := fun {a} h q => by
    simp only [List.mem_cons, List.not_mem_nil, or_false] at q
    omega
  refine call_zip_2 hl1 hl2 fun h' hz hTI hTO hi1 hi2 hsz hk' => ?_
  refine wpAny_pyIter_zip hz ?_
  refine my_core (ws := [(s.heap.objs.size + 4, "zip"), (s.heap.objs.size + 2, "tuple"), (s.heap.objs.size + 3, "tuple"), (s.heap.objs.size, "list_iterator"), (s.heap.objs.size + 1, "list_iterator")]) (KTurns.ofWalksU (WalksT.zip2 hh _ _ _ _ _ _ _ D xs.toArray ys.toArray).toU) (by simp [zipItems_length]) ?_ ?_ ?_ ?_ ?_ ?_ ?_ ?_ (F.keeps hk') (N.grown hk') hk (rest₀ _ fun p hp => Heap.lt_size (N p hp).1).at
  · rintro i v h ⟨T, vals, rfl, ⟨x, y, hx, hy, rfl⟩, hT⟩
    exact ⟨_, zipItems_get xs ys i (x := x) (y := y) (by simpa using hx) (by simpa using hy), T, 0, rfl, hT⟩
  · rintro i h ⟨hz, hTI, ⟨a, b, hTO⟩, ⟨o1, ho1, hc1, _⟩, ⟨o2, ho2, hc2, _⟩, _⟩
    have e1 : ∃ o : Obj, h.get? (s.heap.objs.size + 4) = some o ∧ o.cls = .type "zip" := ⟨_, hz, rfl⟩
    have e2 : ∃ o : Obj, h.get? (s.heap.objs.size + 2) = some o ∧ o.cls = .type "tuple" := ⟨_, hTI, rfl⟩
    have e3 : ∃ o : Obj, h.get? (s.heap.objs.size + 3) = some o ∧ o.cls = .type "tuple" := ⟨_, hTO, rfl⟩
    obtain ⟨q1, g1, k1⟩ := e1
    obtain ⟨q2, g2, k2⟩ := e2
    obtain ⟨q3, g3, k3⟩ := e3
    refine ⟨[(s.heap.objs.size + 4, q1), (s.heap.objs.size + 2, q2), (s.heap.objs.size + 3, q3), (s.heap.objs.size, o1), (s.heap.objs.size + 1, o2)], ⟨⟨rfl, k1⟩, ⟨rfl, k2⟩, ⟨rfl, k3⟩, ⟨rfl, hc1⟩, ⟨rfl, hc2⟩, trivial⟩, ?_⟩
    exact List.forall_mem_cons.mpr ⟨g1, List.forall_mem_cons.mpr ⟨g2, List.forall_mem_cons.mpr ⟨g3, List.forall_mem_cons.mpr ⟨ho1, List.forall_mem_singleton.mpr ho2⟩⟩⟩⟩
  · intro b hb
    have hb' : b = s.heap.objs.size + 4 ∨ b = s.heap.objs.size + 2 ∨ b = s.heap.objs.size + 3 ∨ b = s.heap.objs.size ∨ b = s.heap.objs.size + 1 := by simpa using hb
    refine ⟨by rcases hb' with rfl | rfl | rfl | rfl | rfl <;> simp, ktu_new F ?_⟩
    rcases hb' with rfl | rfl | rfl | rfl | rfl
    · exact Nat.le_add_right _ _
    · exact Nat.le_add_right _ _
    · exact Nat.le_add_right _ _
    · exact Nat.le_refl _
    · exact Nat.le_add_right _ _
  · intro b hb
    have hb' : b = s.heap.objs.size + 4 ∨ b = s.heap.objs.size + 3 ∨ b = s.heap.objs.size ∨ b = s.heap.objs.size + 1 := by simpa using hb
    rcases hb' with rfl | rfl | rfl | rfl <;> simp
  · intro b hb
    have hb' : b = s.heap.objs.size + 4 ∨ b = s.heap.objs.size + 2 ∨ b = s.heap.objs.size + 3 ∨ b = s.heap.objs.size ∨ b = s.heap.objs.size + 1 ∨ b = l1 ∨ b = l2 := by simpa using hb
    rcases hb' with rfl | rfl | rfl | rfl | rfl | rfl | rfl
    · exact .inl (by simp)
    · exact .inl (by simp)
    · exact .inl (by simp)
    · exact .inl (by simp)
    · exact .inl (by simp)
    · exact .inr ⟨_, hx⟩
    · exact .inr ⟨_, hy⟩
  · intro hI'
    have hb' : env.locals ∈ [s.heap.objs.size + 4, s.heap.objs.size + 2, s.heap.objs.size + 3, s.heap.objs.size, s.heap.objs.size + 1] ∨ env.locals = l1 ∨ env.locals = l2 := by
      simp only [List.mem_cons, List.not_mem_nil, or_false] at hI' ⊢
      rcases hI' with h | h | h | h | h | h | h <;> simp [h]
    rcases hb' with h | h | h
    · exact low hLs h
    · exact hax1.2 h.symm
    · exact hax2.2 h.symm
  · intro p hp hI'
    refine low (Heap.lt_size (N p hp).1) ?_
    simp only [List.mem_cons, List.not_mem_nil, or_false] at hI' ⊢
    rcases hI' with h | h | h | h <;> simp [h]
  · exact ⟨hz, hTI, ⟨_, _, hTO⟩, hi1, hi2, hl1.at fun o e => hk' l1 o e, hl2.at fun o e => hk' l2 o e⟩
end
end secLoop
section secLoop2
/-- a ledger without some of its entries -/
inductive Drops (its : Led) : Led → Led → Prop
  | skip {p : Addr × Obj} {l l' : Led} : p ∈ its → Drops its l l' → Drops its (p :: l) l'
  | keep {p : Addr × Obj} {l l' : Led} : Drops its l l' → Drops its (p :: l) (p :: l')
  | nil {l : Led} : Drops its l []
theorem Drops.sub {its l l' : Led} (d : Drops its l l') : ∀ p ∈ l', p ∈ l := by
  induction d with
  | skip _ _ ih => exact fun p hp => .tail _ (ih p hp)
  | keep _ ih => exact List.forall_mem_cons.mpr ⟨.head _, fun p hp => .tail _ (ih p hp)⟩
  | nil => exact fun _ h => nomatch h
theorem MyEnd.intro {h₀ : Heap} {L : Addr} {its keep all news' : Led} {rest : Shared → (Str → Option Value) → Led → Prop} {s₂ : Shared} {m' : Str → Option Value} (F : Fr h₀ L s₂.heap m') (N : News h₀ L s₂.heap all) (d : Drops its all news') (hI : ∀ q ∈ its, q ∈ all)
    (off : OffW its news') (hk : ∀ p ∈ keep, p ∈ news') (r : rest s₂ m' news') : MyEnd h₀ L its keep rest s₂ :=
  ⟨m', news', F, fun p hp => (List.mem_append.mp hp).elim (fun hp => N p (hI p hp)) fun hp => N p (d.sub p hp), fun p hp q hq e => by
    rcases off.at p hp q hq with h | h
    · exact h e
    · have h1 := (N _ (d.sub p hp)).1
      have h2 := (N _ (hI q hq)).1
      rw [e] at h1
      exact h (congrArg Obj.cls (Option.some.inj (h1.symm.trans h2))), hk, r⟩
section
variable {h₀ : Heap} {L : Addr} {its keep : Led} {rest : Shared → (Str → Option Value) → Led → Prop} {Q : Flow → Shared → Prop} {s₂ : Shared}
theorem MyPost.next (h : MyEnd h₀ L its keep rest s₂) : MyPost h₀ L its keep rest Q .next s₂ := h
theorem MyPost.cont (h : MyEnd h₀ L its keep rest s₂) : MyPost h₀ L its keep rest Q .cont s₂ := h
theorem MyPost.brk (h : Q .next s₂) : MyPost h₀ L its keep rest Q .brk s₂ := h
theorem MyPost.ret {v : Value} (h : Q (.ret v) s₂) : MyPost h₀ L its keep rest Q (.ret v) s₂ := h
end
end secLoop2
section secOp2
set_option maxHeartbeats 4000000
@[reducible] noncomputable def wildDict (P : Params) (t1 t2 t3 t4 t5 t6 : Tok) (n : Nat) (v : Nm) : Obj := dictOf [ent P (Str.ofString "variable_name") t1 (.str v.str t5), ent P (Str.ofString "min_count") t2 (.int 1 t6), ent P (Str.ofString "fixed_size") t3 (.bool true), ent P (Str.ofString "optional") t4 .none] n
theorem ExprIn.wild {P : Params} {R : Addr → Obj → Prop} {v : Value} {T : Nd} (x : ExprIn P R v T) :
    (∃ x d t1 t2 t3 t4 t5 t6 n nm, v = .ref x ∧ R x (instObj 741 d) ∧ R d (wildDict P t1 t2 t3 t4 t5 t6 n nm)) ∨ (∃ x D d o, v = .ref x ∧ (D = 637 ∨ D = 561) ∧ R x (instObj D d) ∧ R d o) := by
  cases x with
  | sa a b => exact .inr ⟨_, 637, _, _, rfl, .inl rfl, a, b⟩
  | sb a b => exact .inr ⟨_, 637, _, _, rfl, .inl rfl, a, b⟩
  | sy a b => exact .inr ⟨_, 637, _, _, rfl, .inl rfl, a, b⟩
  | v a b => exact .inl ⟨_, _, _, _, _, _, _, _, _, _, rfl, a, b⟩
  | o1 a b _ _ => exact .inr ⟨_, 561, _, _, rfl, .inr rfl, a, b⟩
  | o2 a b _ _ _ => exact .inr ⟨_, 561, _, _, rfl, .inr rfl, a, b⟩
section
variable {prog : Program} {w : World} {A : Around} {E : Value → Shared → Prop} {s : Shared} {h₀ : Heap} {L : Addr} {m : Str → Option Value} {Q : Value → Shared → Prop}
theorem not_wild {x D : Addr} {ox od : Obj} (hD : D = 637 ∨ D = 561) (X : (MyK w.params).In s.heap) (I : InstAt s.heap x ox D (some od)) (h : Q (.bool false) { s with toks := s.toks + 1 }) : wpAny (model prog w) A (call (.builtin "isinstance") [.ref x, .ref 741]) Q E s := by
  rcases hD with rfl | rfl
  · exact kin_callC X I (by kin_no) (by k_is) (by k_is) (by k_is) (by k_is) (by k_is) (by k_is) h
  · exact kin_callC X I (by kin_no) (by k_is) (by k_is) (by k_is) (by k_is) (by k_is) (by k_is) h
theorem inst_any {g h : Heap} {L : Addr} {m : Str → Option Value} {x C d : Addr} {o : Obj} (F : Fr g L h m) (h1 : g.get? x = some (instObj C d)) (h2 : g.get? d = some o) : InstAt h x (instObj C d) C (some o) :=
  ⟨F.keep _ _ h1, rfl, rfl, F.keep _ _ h2⟩
end
section ops
theorem rk14 : True := by
  k_with "~k_room" => case' fr9 => (((try simp only [depth_under_make, depth_under_kw, depth_in1, depth_deeper, depth_caller]); (try dsimp only [ktrTop]); omega))
  k_with "~k_inst" => case' fr9 => ((refine' inst_base ?F ?a ?b; (case F => k_asm); (case a => with_reducible assumption); (case b => with_reducible assumption)))
  k_with "~call builtin:isinstance" => case' fr9 => ((k_here; (with_reducible show wpAny _ _ (call _ [Value.ref _, Value.ref 741]) _ _ _); k_dflt (refine' not_wild ?hD ?X ?I ?_; (case I => k_inst); (case hD => with_reducible assumption); (case X => k_in); k_whole)))
  k_with "~exec For Name Name cons nil" => case' fr9 => ((k_here; (rename Fr _ _ _ _ => lF'); (with_unfolding_all refine' For_my lF' ?_; k_whole)))
  k_with "~pyIter ref" => case' fr9 => ((k_here; (with_reducible show wpAny _ _ (pyIter (Value.ref _)) (fun it s₂ => MyTurns _ _ _ _ _ _ _ _ it s₂) _ _); k_dflt (refine' my_list (keep := []) ?hh ?F ?N ?hk ?hx ?_; (case hh => exact rfl); (case F => k_asm); (case N => k_asm); (case hk => exact fun _ h => nomatch h); (case hx => exact Or.inl (by with_reducible assumption))); intro i' l1; (try k_lt l1); (try simp only [List.map_cons, List.map_nil])))
  k_with "~MyRest" => case' fr9 => (first
  | ((with_unfolding_all refine MyRest.val (fun h' tk' F' => ?_)); ktu_objs)
  | ((with_unfolding_all refine MyRest.pair (fun T' t' h' tk' hT' F' => ?_)); (try dsimp only at hT'); ktu_objs)
  | (with_unfolding_all refine MyRest.zero (fun h' tk' F' N' => ?_)))
  k_with "~MyPost" => case' fr9 => (first | with_reducible refine MyPost.next ?_ | with_reducible refine MyPost.cont ?_ | with_reducible refine MyPost.brk ?_ | with_reducible refine MyPost.ret ?_)
  k_with "~my_drops" => case' fr9 => (first | exact Drops.nil | (refine Drops.skip (by with_reducible kcf_m) ?_; walk_at "my_drops") | (refine Drops.keep ?_; walk_at "my_drops"))
  k_with "~MyEnd" => case' fr9 => ((k_here; refine' MyEnd.intro ?F ?N ?d ?hI ?off ?hk ?_; (case F => k_asm); (case N => k_asm); (case d => (repeat' (first | (refine Drops.skip (by with_reducible kcf_m) ?_) | (refine Drops.keep ?_))); (try exact Drops.nil)); (case hI => kcf_all); (case off => ktu_offL); (case hk => first | exact fun _ h => nomatch h | kcf_all)))
  trivial
theorem count_0 {prog : Program} {w : World} {loose : List Str} {mean : ExcName → Option Value} {mg mb : Str → Option Value} {dp un : Nat} {gd : Option (List Code)} {cn : Str} {cs : Scope} {a : Addr} {ccd : Value} {cl : List (Str × Addr)} {outer : List Env} {A₀ : Around} {base h₀ : Heap} {L : Addr} {m : Str → Option Value} {rest : Led} {s : Shared}
    {l : Addr} {nl : Nat}  {Q E : Value → Shared → Prop}
    (H : Here w.params loose mean mg mb A₀ base h₀ outer L m [] rest s.heap) (hk : cs.kind = .function) (hl : At h₀ rest l (lstOf [] nl)) 
    (hd : dp + 2 < recursionLimit)
    (ret : ∀ c t D h' tks, 0 ≤ c → Fr h₀ L h' m → News h₀ L h' ([] ++ (rest ++ [(D, tupOf [.int c t, .bool false])])) → (∀ q ∈ rest, ∀ p ∈ [(D, tupOf [.int c t, .bool false])], @Ne Nat p.1 q.1) → Q (.ref D) { s with heap := h', toks := tks }) :
    wpAny (model prog w) (ktrTop dp un gd cn cs L a ccd cl outer) (call (.ref 443) [.ref l]) Q E s := by
  obtain ⟨B, F, X, N, T, off⟩ := H
  have N1 := subLed N
  refine wpAny_call ?_
  k_dflt (refine' code_defG (binds := [(Str.ofString "operands", .ref l)]) B F X N1 T ?kA ?kF ?kK ?k6 ?k7 ?k8 ?k9 ?kB ?_ ?c2 ?c3 ?c4 ?c5; (case kA => exact rfl); (case kF => exact rfl); (case kK => exact hk); (case k6 => k_is); (case k7 => k_is); (case k8 => k_room); (case k9 => exact BindsTo.of_eq rfl); (case c5 => decide); (case kB => exact locs rfl); (case c2 => exact rfl); (case c3 => exact rfl); (case c4 => exact rfl))
  intro g L' h1 FG F' N' B' X' T' kG
  have hR := grounded N off kG FG.keep
  have hl1 := hR l _ hl
  have hl2 : g.IsList l _ := ⟨_, hl1, rfl, _, rfl⟩
  skip
  (try dsimp only); (try k_fold)
  k_steps
  · refine ret _ _ _ _ _ ?c0 (by assumption) (back (M' := []) N hR (by assumption) (by assumption)) (ne_of hR (by assumption) (fun p hp => hp)); (case c0 => decide)
theorem count_1w {prog : Program} {w : World} {loose : List Str} {mean : ExcName → Option Value} {mg mb : Str → Option Value} {dp un : Nat} {gd : Option (List Code)} {cn : Str} {cs : Scope} {a : Addr} {ccd : Value} {cl : List (Str × Addr)} {outer : List Env} {A₀ : Around} {base h₀ : Heap} {L : Addr} {m : Str → Option Value} {rest : Led} {s : Shared}
    {l : Addr} {nl : Nat} {x1 d1 : Addr} {t11 t12 t13 t14 t15 t16 : Tok} {n1 : Nat} {nm1 : Nm} {Q E : Value → Shared → Prop}
    (H : Here w.params loose mean mg mb A₀ base h₀ outer L m [] rest s.heap) (hk : cs.kind = .function) (hl : At h₀ rest l (lstOf [.ref x1] nl)) (hx1 : At h₀ rest x1 (instObj 741 d1)) (hd1 : At h₀ rest d1 (wildDict w.params t11 t12 t13 t14 t15 t16 n1 nm1))
    (hd : dp + 2 < recursionLimit)
    (ret : ∀ c t D h' tks, 0 ≤ c → Fr h₀ L h' m → News h₀ L h' ([] ++ (rest ++ [(D, tupOf [.int c t, .bool false])])) → (∀ q ∈ rest, ∀ p ∈ [(D, tupOf [.int c t, .bool false])], @Ne Nat p.1 q.1) → Q (.ref D) { s with heap := h', toks := tks }) :
    wpAny (model prog w) (ktrTop dp un gd cn cs L a ccd cl outer) (call (.ref 443) [.ref l]) Q E s := by
  obtain ⟨B, F, X, N, T, off⟩ := H
  have N1 := subLed N
  refine wpAny_call ?_
  k_dflt (refine' code_defG (binds := [(Str.ofString "operands", .ref l)]) B F X N1 T ?kA ?kF ?kK ?k6 ?k7 ?k8 ?k9 ?kB ?_ ?c2 ?c3 ?c4 ?c5; (case kA => exact rfl); (case kF => exact rfl); (case kK => exact hk); (case k6 => k_is); (case k7 => k_is); (case k8 => k_room); (case k9 => exact BindsTo.of_eq rfl); (case c5 => decide); (case kB => exact locs rfl); (case c2 => exact rfl); (case c3 => exact rfl); (case c4 => exact rfl))
  intro g L' h1 FG F' N' B' X' T' kG
  have hR := grounded N off kG FG.keep
  have hl1 := hR l _ hl
  have hl2 : g.IsList l _ := ⟨_, hl1, rfl, _, rfl⟩
  have gx1 := hR _ _ hx1; have gd1 := hR _ _ hd1
  (try dsimp only); (try k_fold)
  k_steps
  · refine ret _ _ _ _ _ ?c0 (by assumption) (back (M' := []) N hR (by assumption) (by assumption)) (ne_of hR (by assumption) (fun p hp => hp)); (case c0 => decide)
theorem count_1n {prog : Program} {w : World} {loose : List Str} {mean : ExcName → Option Value} {mg mb : Str → Option Value} {dp un : Nat} {gd : Option (List Code)} {cn : Str} {cs : Scope} {a : Addr} {ccd : Value} {cl : List (Str × Addr)} {outer : List Env} {A₀ : Around} {base h₀ : Heap} {L : Addr} {m : Str → Option Value} {rest : Led} {s : Shared}
    {l : Addr} {nl : Nat} {x1 d1 D1 : Addr} {o1 : Obj} {Q E : Value → Shared → Prop}
    (H : Here w.params loose mean mg mb A₀ base h₀ outer L m [] rest s.heap) (hk : cs.kind = .function) (hl : At h₀ rest l (lstOf [.ref x1] nl)) (hD1 : D1 = 637 ∨ D1 = 561) (hx1 : At h₀ rest x1 (instObj D1 d1)) (hd1 : At h₀ rest d1 o1)
    (hd : dp + 2 < recursionLimit)
    (ret : ∀ c t D h' tks, 0 ≤ c → Fr h₀ L h' m → News h₀ L h' ([] ++ (rest ++ [(D, tupOf [.int c t, .bool false])])) → (∀ q ∈ rest, ∀ p ∈ [(D, tupOf [.int c t, .bool false])], @Ne Nat p.1 q.1) → Q (.ref D) { s with heap := h', toks := tks }) :
    wpAny (model prog w) (ktrTop dp un gd cn cs L a ccd cl outer) (call (.ref 443) [.ref l]) Q E s := by
  obtain ⟨B, F, X, N, T, off⟩ := H
  have N1 := subLed N
  refine wpAny_call ?_
  k_dflt (refine' code_defG (binds := [(Str.ofString "operands", .ref l)]) B F X N1 T ?kA ?kF ?kK ?k6 ?k7 ?k8 ?k9 ?kB ?_ ?c2 ?c3 ?c4 ?c5; (case kA => exact rfl); (case kF => exact rfl); (case kK => exact hk); (case k6 => k_is); (case k7 => k_is); (case k8 => k_room); (case k9 => exact BindsTo.of_eq rfl); (case c5 => decide); (case kB => exact locs rfl); (case c2 => exact rfl); (case c3 => exact rfl); (case c4 => exact rfl))
  intro g L' h1 FG F' N' B' X' T' kG
  have hR := grounded N off kG FG.keep
  have hl1 := hR l _ hl
  have hl2 : g.IsList l _ := ⟨_, hl1, rfl, _, rfl⟩
  have gx1 := hR _ _ hx1; have gd1 := hR _ _ hd1
  (try dsimp only); (try k_fold)
  k_steps
  · refine ret _ _ _ _ _ ?c0 (by assumption) (back (M' := []) N hR (by assumption) (by assumption)) (ne_of hR (by assumption) (fun p hp => hp)); (case c0 => decide)
theorem count_2ww {prog : Program} {w : World} {loose : List Str} {mean : ExcName → Option Value} {mg mb : Str → Option Value} {dp un : Nat} {gd : Option (List Code)} {cn : Str} {cs : Scope} {a : Addr} {ccd : Value} {cl : List (Str × Addr)} {outer : List Env} {A₀ : Around} {base h₀ : Heap} {L : Addr} {m : Str → Option Value} {rest : Led} {s : Shared}
    {l : Addr} {nl : Nat} {x1 d1 : Addr} {t11 t12 t13 t14 t15 t16 : Tok} {n1 : Nat} {nm1 : Nm} {x2 d2 : Addr} {t21 t22 t23 t24 t25 t26 : Tok} {n2 : Nat} {nm2 : Nm} {Q E : Value → Shared → Prop}
    (H : Here w.params loose mean mg mb A₀ base h₀ outer L m [] rest s.heap) (hk : cs.kind = .function) (hl : At h₀ rest l (lstOf [.ref x1, .ref x2] nl)) (hx1 : At h₀ rest x1 (instObj 741 d1)) (hd1 : At h₀ rest d1 (wildDict w.params t11 t12 t13 t14 t15 t16 n1 nm1)) (hx2 : At h₀ rest x2 (instObj 741 d2)) (hd2 : At h₀ rest d2 (wildDict w.params t21 t22 t23 t24 t25 t26 n2 nm2))
    (hd : dp + 2 < recursionLimit)
    (ret : ∀ c t D h' tks, 0 ≤ c → Fr h₀ L h' m → News h₀ L h' ([] ++ (rest ++ [(D, tupOf [.int c t, .bool false])])) → (∀ q ∈ rest, ∀ p ∈ [(D, tupOf [.int c t, .bool false])], @Ne Nat p.1 q.1) → Q (.ref D) { s with heap := h', toks := tks }) :
    wpAny (model prog w) (ktrTop dp un gd cn cs L a ccd cl outer) (call (.ref 443) [.ref l]) Q E s := by
  obtain ⟨B, F, X, N, T, off⟩ := H
  have N1 := subLed N
  refine wpAny_call ?_
  k_dflt (refine' code_defG (binds := [(Str.ofString "operands", .ref l)]) B F X N1 T ?kA ?kF ?kK ?k6 ?k7 ?k8 ?k9 ?kB ?_ ?c2 ?c3 ?c4 ?c5; (case kA => exact rfl); (case kF => exact rfl); (case kK => exact hk); (case k6 => k_is); (case k7 => k_is); (case k8 => k_room); (case k9 => exact BindsTo.of_eq rfl); (case c5 => decide); (case kB => exact locs rfl); (case c2 => exact rfl); (case c3 => exact rfl); (case c4 => exact rfl))
  intro g L' h1 FG F' N' B' X' T' kG
  have hR := grounded N off kG FG.keep
  have hl1 := hR l _ hl
  have hl2 : g.IsList l _ := ⟨_, hl1, rfl, _, rfl⟩
  have gx1 := hR _ _ hx1; have gd1 := hR _ _ hd1; have gx2 := hR _ _ hx2; have gd2 := hR _ _ hd2
  (try dsimp only); (try k_fold)
  k_steps
  · refine ret _ _ _ _ _ ?c0 (by assumption) (back (M' := []) N hR (by assumption) (by assumption)) (ne_of hR (by assumption) (fun p hp => hp)); (case c0 => decide)
theorem count_2wn {prog : Program} {w : World} {loose : List Str} {mean : ExcName → Option Value} {mg mb : Str → Option Value} {dp un : Nat} {gd : Option (List Code)} {cn : Str} {cs : Scope} {a : Addr} {ccd : Value} {cl : List (Str × Addr)} {outer : List Env} {A₀ : Around} {base h₀ : Heap} {L : Addr} {m : Str → Option Value} {rest : Led} {s : Shared}
    {l : Addr} {nl : Nat} {x1 d1 : Addr} {t11 t12 t13 t14 t15 t16 : Tok} {n1 : Nat} {nm1 : Nm} {x2 d2 D2 : Addr} {o2 : Obj} {Q E : Value → Shared → Prop}
    (H : Here w.params loose mean mg mb A₀ base h₀ outer L m [] rest s.heap) (hk : cs.kind = .function) (hl : At h₀ rest l (lstOf [.ref x1, .ref x2] nl)) (hx1 : At h₀ rest x1 (instObj 741 d1)) (hd1 : At h₀ rest d1 (wildDict w.params t11 t12 t13 t14 t15 t16 n1 nm1)) (hD2 : D2 = 637 ∨ D2 = 561) (hx2 : At h₀ rest x2 (instObj D2 d2)) (hd2 : At h₀ rest d2 o2)
    (hd : dp + 2 < recursionLimit)
    (ret : ∀ c t D h' tks, 0 ≤ c → Fr h₀ L h' m → News h₀ L h' ([] ++ (rest ++ [(D, tupOf [.int c t, .bool false])])) → (∀ q ∈ rest, ∀ p ∈ [(D, tupOf [.int c t, .bool false])], @Ne Nat p.1 q.1) → Q (.ref D) { s with heap := h', toks := tks }) :
    wpAny (model prog w) (ktrTop dp un gd cn cs L a ccd cl outer) (call (.ref 443) [.ref l]) Q E s := by
  obtain ⟨B, F, X, N, T, off⟩ := H
  have N1 := subLed N
  refine wpAny_call ?_
  k_dflt (refine' code_defG (binds := [(Str.ofString "operands", .ref l)]) B F X N1 T ?kA ?kF ?kK ?k6 ?k7 ?k8 ?k9 ?kB ?_ ?c2 ?c3 ?c4 ?c5; (case kA => exact rfl); (case kF => exact rfl); (case kK => exact hk); (case k6 => k_is); (case k7 => k_is); (case k8 => k_room); (case k9 => exact BindsTo.of_eq rfl); (case c5 => decide); (case kB => exact locs rfl); (case c2 => exact rfl); (case c3 => exact rfl); (case c4 => exact rfl))
  intro g L' h1 FG F' N' B' X' T' kG
  have hR := grounded N off kG FG.keep
  have hl1 := hR l _ hl
  have hl2 : g.IsList l _ := ⟨_, hl1, rfl, _, rfl⟩
  have gx1 := hR _ _ hx1; have gd1 := hR _ _ hd1; have gx2 := hR _ _ hx2; have gd2 := hR _ _ hd2
  (try dsimp only); (try k_fold)
  k_steps
  · refine ret _ _ _ _ _ ?c0 (by assumption) (back (M' := []) N hR (by assumption) (by assumption)) (ne_of hR (by assumption) (fun p hp => hp)); (case c0 => decide)
theorem count_2nw {prog : Program} {w : World} {loose : List Str} {mean : ExcName → Option Value} {mg mb : Str → Option Value} {dp un : Nat} {gd : Option (List Code)} {cn : Str} {cs : Scope} {a : Addr} {ccd : Value} {cl : List (Str × Addr)} {outer : List Env} {A₀ : Around} {base h₀ : Heap} {L : Addr} {m : Str → Option Value} {rest : Led} {s : Shared}
    {l : Addr} {nl : Nat} {x1 d1 D1 : Addr} {o1 : Obj} {x2 d2 : Addr} {t21 t22 t23 t24 t25 t26 : Tok} {n2 : Nat} {nm2 : Nm} {Q E : Value → Shared → Prop}
    (H : Here w.params loose mean mg mb A₀ base h₀ outer L m [] rest s.heap) (hk : cs.kind = .function) (hl : At h₀ rest l (lstOf [.ref x1, .ref x2] nl)) (hD1 : D1 = 637 ∨ D1 = 561) (hx1 : At h₀ rest x1 (instObj D1 d1)) (hd1 : At h₀ rest d1 o1) (hx2 : At h₀ rest x2 (instObj 741 d2)) (hd2 : At h₀ rest d2 (wildDict w.params t21 t22 t23 t24 t25 t26 n2 nm2))
    (hd : dp + 2 < recursionLimit)
    (ret : ∀ c t D h' tks, 0 ≤ c → Fr h₀ L h' m → News h₀ L h' ([] ++ (rest ++ [(D, tupOf [.int c t, .bool false])])) → (∀ q ∈ rest, ∀ p ∈ [(D, tupOf [.int c t, .bool false])], @Ne Nat p.1 q.1) → Q (.ref D) { s with heap := h', toks := tks }) :
    wpAny (model prog w) (ktrTop dp un gd cn cs L a ccd cl outer) (call (.ref 443) [.ref l]) Q E s := by
  obtain ⟨B, F, X, N, T, off⟩ := H
  have N1 := subLed N
  refine wpAny_call ?_
  k_dflt (refine' code_defG (binds := [(Str.ofString "operands", .ref l)]) B F X N1 T ?kA ?kF ?kK ?k6 ?k7 ?k8 ?k9 ?kB ?_ ?c2 ?c3 ?c4 ?c5; (case kA => exact rfl); (case kF => exact rfl); (case kK => exact hk); (case k6 => k_is); (case k7 => k_is); (case k8 => k_room); (case k9 => exact BindsTo.of_eq rfl); (case c5 => decide); (case kB => exact locs rfl); (case c2 => exact rfl); (case c3 => exact rfl); (case c4 => exact rfl))
  intro g L' h1 FG F' N' B' X' T' kG
  have hR := grounded N off kG FG.keep
  have hl1 := hR l _ hl
  have hl2 : g.IsList l _ := ⟨_, hl1, rfl, _, rfl⟩
  have gx1 := hR _ _ hx1; have gd1 := hR _ _ hd1; have gx2 := hR _ _ hx2; have gd2 := hR _ _ hd2
  (try dsimp only); (try k_fold)
  k_steps
  · refine ret _ _ _ _ _ ?c0 (by assumption) (back (M' := []) N hR (by assumption) (by assumption)) (ne_of hR (by assumption) (fun p hp => hp)); (case c0 => decide)
theorem count_2nn {prog : Program} {w : World} {loose : List Str} {mean : ExcName → Option Value} {mg mb : Str → Option Value} {dp un : Nat} {gd : Option (List Code)} {cn : Str} {cs : Scope} {a : Addr} {ccd : Value} {cl : List (Str × Addr)} {outer : List Env} {A₀ : Around} {base h₀ : Heap} {L : Addr} {m : Str → Option Value} {rest : Led} {s : Shared}
    {l : Addr} {nl : Nat} {x1 d1 D1 : Addr} {o1 : Obj} {x2 d2 D2 : Addr} {o2 : Obj} {Q E : Value → Shared → Prop}
    (H : Here w.params loose mean mg mb A₀ base h₀ outer L m [] rest s.heap) (hk : cs.kind = .function) (hl : At h₀ rest l (lstOf [.ref x1, .ref x2] nl)) (hD1 : D1 = 637 ∨ D1 = 561) (hx1 : At h₀ rest x1 (instObj D1 d1)) (hd1 : At h₀ rest d1 o1) (hD2 : D2 = 637 ∨ D2 = 561) (hx2 : At h₀ rest x2 (instObj D2 d2)) (hd2 : At h₀ rest d2 o2)
    (hd : dp + 2 < recursionLimit)
    (ret : ∀ c t D h' tks, 0 ≤ c → Fr h₀ L h' m → News h₀ L h' ([] ++ (rest ++ [(D, tupOf [.int c t, .bool false])])) → (∀ q ∈ rest, ∀ p ∈ [(D, tupOf [.int c t, .bool false])], @Ne Nat p.1 q.1) → Q (.ref D) { s with heap := h', toks := tks }) :
    wpAny (model prog w) (ktrTop dp un gd cn cs L a ccd cl outer) (call (.ref 443) [.ref l]) Q E s := by
  obtain ⟨B, F, X, N, T, off⟩ := H
  have N1 := subLed N
  refine wpAny_call ?_
  k_dflt (refine' code_defG (binds := [(Str.ofString "operands", .ref l)]) B F X N1 T ?kA ?kF ?kK ?k6 ?k7 ?k8 ?k9 ?kB ?_ ?c2 ?c3 ?c4 ?c5; (case kA => exact rfl); (case kF => exact rfl); (case kK => exact hk); (case k6 => k_is); (case k7 => k_is); (case k8 => k_room); (case k9 => exact BindsTo.of_eq rfl); (case c5 => decide); (case kB => exact locs rfl); (case c2 => exact rfl); (case c3 => exact rfl); (case c4 => exact rfl))
  intro g L' h1 FG F' N' B' X' T' kG
  have hR := grounded N off kG FG.keep
  have hl1 := hR l _ hl
  have hl2 : g.IsList l _ := ⟨_, hl1, rfl, _, rfl⟩
  have gx1 := hR _ _ hx1; have gd1 := hR _ _ hd1; have gx2 := hR _ _ hx2; have gd2 := hR _ _ hd2
  (try dsimp only); (try k_fold)
  k_steps
  · refine ret _ _ _ _ _ ?c0 (by assumption) (back (M' := []) N hR (by assumption) (by assumption)) (ne_of hR (by assumption) (fun p hp => hp)); (case c0 => decide)
end ops

section
variable {prog : Program} {w : World} {loose : List Str} {mean : ExcName → Option Value} {mg mb : Str → Option Value} {dp un : Nat} {gd : Option (List Code)} {cn : Str} {cs : Scope} {a : Addr} {ccd : Value} {cl : List (Str × Addr)} {outer : List Env} {A₀ : Around} {base h₀ : Heap} {L : Addr} {m : Str → Option Value} {rest : Led} {s : Shared}
theorem rk15 : True := by
  k_with_none
  trivial
theorem count_1 {l : Addr} {nl : Nat} {v : Value} {T1 : Nd} {Q E : Value → Shared → Prop}
    (H : Here w.params loose mean mg mb A₀ base h₀ outer L m [] rest s.heap) (hk : cs.kind = .function) (hl : At h₀ rest l (lstOf [v] nl)) (hE : ExprIn w.params (At h₀ rest) v T1)
    (hd : dp + 2 < recursionLimit)
    (ret : ∀ c t D h' tks, 0 ≤ c → Fr h₀ L h' m → News h₀ L h' ([] ++ (rest ++ [(D, tupOf [.int c t, .bool false])])) → (∀ q ∈ rest, ∀ p ∈ [(D, tupOf [.int c t, .bool false])], @Ne Nat p.1 q.1) → Q (.ref D) { s with heap := h', toks := tks }) :
    wpAny (model prog w) (ktrTop dp un gd cn cs L a ccd cl outer) (call (.ref 443) [.ref l]) Q E s := by
  rcases hE.wild with ⟨x, d, t1, t2, t3, t4, t5, t6, n, nm, rfl, hx, hd'⟩ | ⟨x, D, d, o, rfl, hD, hx, hd'⟩
  · exact count_1w H hk hl hx hd' hd ret
  · exact count_1n H hk hl hD hx hd' hd ret
theorem count_2 {l : Addr} {nl : Nat} {v u : Value} {T1 T2 : Nd} {Q E : Value → Shared → Prop}
    (H : Here w.params loose mean mg mb A₀ base h₀ outer L m [] rest s.heap) (hk : cs.kind = .function) (hl : At h₀ rest l (lstOf [v, u] nl)) (hE : ExprIn w.params (At h₀ rest) v T1) (hE2 : ExprIn w.params (At h₀ rest) u T2)
    (hd : dp + 2 < recursionLimit)
    (ret : ∀ c t D h' tks, 0 ≤ c → Fr h₀ L h' m → News h₀ L h' ([] ++ (rest ++ [(D, tupOf [.int c t, .bool false])])) → (∀ q ∈ rest, ∀ p ∈ [(D, tupOf [.int c t, .bool false])], @Ne Nat p.1 q.1) → Q (.ref D) { s with heap := h', toks := tks }) :
    wpAny (model prog w) (ktrTop dp un gd cn cs L a ccd cl outer) (call (.ref 443) [.ref l]) Q E s := by
  rcases hE.wild with ⟨x, d, t1, t2, t3, t4, t5, t6, n, nm, rfl, hx, hd'⟩ | ⟨x, D, d, o, rfl, hD, hx, hd'⟩ <;>
    rcases hE2.wild with ⟨x2, d2, t1', t2', t3', t4', t5', t6', n2, nm2, rfl, hx2, hd2⟩ | ⟨x2, D2, d2, o2, rfl, hD2, hx2, hd2⟩
  · exact count_2ww H hk hl hx hd' hx2 hd2 hd ret
  · exact count_2wn H hk hl hx hd' hD2 hx2 hd2 hd ret
  · exact count_2nw H hk hl hD hx hd' hx2 hd2 hd ret
  · exact count_2nn H hk hl hD hx hd' hD2 hx2 hd2 hd ret
end
end secOp2
section secOp3
set_option maxHeartbeats 4000000

theorem ExprIn.up {P : Params} {g g2 : Heap} {L : Addr} {m : Str → Option Value} {r2 : Led} {v : Value} {T : Nd} (F : Fr g L g2 m) (h : ∀ r, ExprIn P (At g r) v T) : ExprIn P (At g2 r2) v T :=
  (h []).mono fun a o h => h.elim (fun h => Or.inl (F.keep _ _ h)) fun h => nomatch h
theorem inst_get {h : Heap} {x C d : Addr} {o : Obj} (h1 : h.get? x = some (instObj C d)) (h2 : h.get? d = some o) : InstAt h x (instObj C d) C (some o) := ⟨h1, rfl, rfl, h2⟩
/-- an operation's dict -/
@[reducible] noncomputable def opDict (P : Params) (t1 t2 t3 t4 t5 t6 t7 t8 t9 : Tok) (n : Nat) (kd ar : Addr) (k : Bool) (l : Addr) : Obj := dictOf [ent P (Str.ofString "variable_name") t1 .none, ent P (Str.ofString "head") t2 (.ref kd), ent P (Str.ofString "name") t3 (.str (opStr k) t9), ent P (Str.ofString "arity") t4 (.ref ar), ent P (Str.ofString "associative") t5 (.bool false), ent P (Str.ofString "commutative") t6 (.bool false), ent P (Str.ofString "one_identity") t7 (.bool false), ent P (Str.ofString "operands") t8 (.ref l)] n
theorem here0 {P : Params} {loose : List Str} {mean : ExcName → Option Value} {mg mb : Str → Option Value} {A₀ : Around} {base h₀ : Heap} {outer : List Env} {L : Addr} {m : Str → Option Value} {rest : Led} {h : Heap} (B : Below A₀ base outer h₀) (F : Fr h₀ L h m) (X : (MyK P).In h₀) (N : News h₀ L h rest) (T : Top topProg loose mean mg mb h₀) : Here P loose mean mg mb A₀ base h₀ outer L m [] rest h := ⟨B, F, X, N, T, trivial⟩
theorem ExprIn.here {P : Params} {g : Heap} {r : Led} {v : Value} {T : Nd} (h : ∀ r, ExprIn P (At g r) v T) : ExprIn P (At g r) v T := h r
end secOp3
section secOp4
set_option maxHeartbeats 4000000
theorem count_vs {prog : Program} {w : World} {loose : List Str} {mean : ExcName → Option Value} {mg mb : Str → Option Value} {dp un : Nat} {gd : Option (List Code)} {cn : Str} {cs : Scope} {a : Addr} {ccd : Value} {cl : List (Str × Addr)} {outer : List Env} {A₀ : Around} {base h₀ : Heap} {L : Addr} {m : Str → Option Value} {rest : Led} {s : Shared}
    {l : Addr} {nl : Nat} {vs : List Value} {Q E : Value → Shared → Prop}
    (H : Here w.params loose mean mg mb A₀ base h₀ outer L m [] rest s.heap) (hk : cs.kind = .function) (hl : At h₀ rest l (lstOf vs nl)) (hn : vs.length ≤ 2) (hE : ∀ v ∈ vs, ∃ T, ExprIn w.params (At h₀ rest) v T)
    (hd : dp + 2 < recursionLimit)
    (ret : ∀ c t D h' tks, 0 ≤ c → Fr h₀ L h' m → News h₀ L h' ([] ++ (rest ++ [(D, tupOf [.int c t, .bool false])])) → (∀ q ∈ rest, ∀ p ∈ [(D, tupOf [.int c t, .bool false])], @Ne Nat p.1 q.1) → Q (.ref D) { s with heap := h', toks := tks }) :
    wpAny (model prog w) (ktrTop dp un gd cn cs L a ccd cl outer) (call (.ref 443) [.ref l]) Q E s := by
  match vs, hl, hn, hE with
  | [], hl, _, _ => exact count_0 H hk hl hd ret
  | [v], hl, _, hE => obtain ⟨T, h⟩ := hE v (.head _); exact count_1 H hk hl h hd ret
  | [v, u], hl, _, hE => obtain ⟨T, h⟩ := hE v (.head _); obtain ⟨T', h'⟩ := hE u (.tail _ (.head _)); exact count_2 H hk hl h h' hd ret
  | _ :: _ :: _ :: _, _, hn, _ => exact absurd hn (by simp)
theorem ExprIn.upL {P : Params} {g g2 : Heap} {L : Addr} {m : Str → Option Value} {r2 : Led} {vs : List Value} (F : Fr g L g2 m) (h : ∀ v ∈ vs, ∃ T, ∀ r, ExprIn P (At g r) v T) : ∀ v ∈ vs, ∃ T, ExprIn P (At g2 r2) v T :=
  fun v hv => let ⟨T, h⟩ := h v hv; ⟨T, ExprIn.up F h⟩
section ops
theorem rk16 : True := by
  k_with "~k_room" => case' fr9 => (((try simp only [depth_under_make, depth_under_kw, depth_in1, depth_deeper, depth_caller]); (try dsimp only [ktrTop]); omega))
  k_with "~k_mem" => case' fr9 => (with_reducible assumption)
  k_with "~my_at" => case' fr9 => (first | exact Or.inr (by with_reducible kcf_m) | exact Or.inl (by with_reducible assumption) | exact Or.inl (Fr.keep (by with_reducible assumption) _ _ (by with_reducible assumption)) | fail "my_at")
  k_with "~my_get" => case' fr9 => (first | exact News.get (by with_reducible assumption) (by with_reducible kcf_m) | exact Fr.keep (by with_reducible assumption) _ _ (by with_reducible assumption) | exact Fr.keep (by with_reducible assumption) _ _ (Fr.keep (by with_reducible assumption) _ _ (by with_reducible assumption)) | fail "my_get")
  k_with "~k_inst" => case' fr9 => (first | exact inst_get (Fr.keep (by with_reducible assumption) _ _ (by with_reducible assumption)) (Fr.keep (by with_reducible assumption) _ _ (by with_reducible assumption)) | exact inst_get (Fr.keep (by with_reducible assumption) _ _ (Fr.keep (by with_reducible assumption) _ _ (by with_reducible assumption))) (Fr.keep (by with_reducible assumption) _ _ (Fr.keep (by with_reducible assumption) _ _ (by with_reducible assumption))) | fail "my_inst")
  k_with "~my_enter" => case' fr9 => ((refine' code_def ?k1 ?k2 ?k3 ?k4 ?k5 ?kA ?kF ?kK ?k6 ?k7 ?k8 ?k9 ?kB ?_ ?c2 ?c3 ?c4 ?c5; (case kA => exact rfl); (case kF => exact rfl); (case kK => exact rfl); (case k1 => k_asm); (case k2 => k_asm); (case k3 => k_asm); (case k4 => k_asm); (case k5 => k_asm); (case k6 => k_is); (case k7 => k_is); (case k8 => k_room); (case k9 => first | exact BindsTo.of_eq rfl | exact binds_K (by k_in) rfl (by k_is) rfl rfl rfl); (case c5 => decide); (case kB => exact locs rfl); (case c2 => exact rfl); (case c3 => exact rfl); (case c4 => exact rfl); intro g' L' h' FG' F' N' B' X' T'; (try dsimp only); (try k_lift B'); (try k_fold)))
  k_with "~my_enterS" => case' fr9 => ((refine' ks_code_super ?k1 ?k2 ?k3 ?k4 ?k5 ?kA ?kF ?kK ?k6 ?k7 ?k8 ?k9 ?kB ?_ ?c1 ?c2 ?c3 ?c4; (case kA => exact rfl); (case kF => exact rfl); (case kK => exact rfl); (case k1 => k_asm); (case k2 => k_asm); (case k3 => k_asm); (case k4 => k_asm); (case k5 => k_asm); (case k6 => k_is); (case k7 => k_is); (case k8 => k_room); (case k9 => first | exact BindsTo.of_eq rfl | exact binds_K (by k_in) rfl (by k_is) rfl rfl rfl); (case kB => exact locs rfl); (case c1 => decide); (case c2 => exact rfl); (case c3 => exact rfl); (case c4 => exact rfl); intro g' L' h' FG' F' N' B' X' T' l1; (try k_lt l1); (try dsimp only); (try k_lift B')))
  k_with "~getAttr ref" => case' fr9 => ((k_here; (with_reducible show wpAny _ _ (getAttr _ (Str.ofString "min_count") _) _ _ _); k_dflt (refine' arityB_min ?F ?X ?ho ?ho2 ?_; (case ho => walk_at "my_get"); (case ho2 => walk_at "my_get"); (case F => k_asm); (case X => k_asm))))
  k_with "~getAttr ref" => case' fr9 => ((k_here; (with_reducible show wpAny _ _ (getAttr _ (Str.ofString "fixed_size") _) _ _ _); k_dflt (refine' arityB_fix ?F ?X ?ho ?ho2 ?_; (case ho => walk_at "my_get"); (case ho2 => walk_at "my_get"); (case F => k_asm); (case X => k_asm))))
  k_with "~call ref" => case' fr9 => ((k_here; (with_reducible show wpAny _ _ (call (Value.ref 161) [Value.ref 372, _, _]) _ _ _); k_dflt (refine' get_min (here0 ?B ?F ?X ?N ?T) ?hk ?ho ?ho2 ?hd ?_; (case F => with_reducible assumption); (case N => with_reducible assumption); (case ho => walk_at "my_at"); (case ho2 => walk_at "my_at"); (case B => k_asm); (case X => k_asm); (case T => k_asm); (case hk => exact rfl); (case hd => k_room)); intro h9 tks9 F9 N9; (try simp only [List.nil_append] at N9); k_dflt (refine handed_on (by k_handed) ?_); (try dsimp only); (try k_fold)))
  k_with "~call ref" => case' fr9 => ((k_here; (with_reducible show wpAny _ _ (call (Value.ref 161) [Value.ref 375, _, _]) _ _ _); k_dflt (refine' get_fix (here0 ?B ?F ?X ?N ?T) ?hk ?ho ?ho2 ?hd ?_; (case F => with_reducible assumption); (case N => with_reducible assumption); (case ho => walk_at "my_at"); (case ho2 => walk_at "my_at"); (case B => k_asm); (case X => k_asm); (case T => k_asm); (case hk => exact rfl); (case hd => k_room)); intro h9 tks9 F9 N9; (try simp only [List.nil_append] at N9); k_dflt (refine handed_on (by k_handed) ?_); (try dsimp only); (try k_fold)))
  k_with "~call ref" => case' fr9 => ((k_here; (with_reducible show wpAny _ _ (call (Value.ref 443) _) _ _ _); k_dflt (refine' count_vs (here0 ?B ?F ?X ?N ?T) ?hk ?hl (by with_reducible assumption) ?hE ?hd ?_; (case F => with_reducible assumption); (case N => with_reducible assumption); (case B => k_asm); (case X => k_asm); (case T => k_asm); (case hk => exact rfl); (case hd => k_room); (case hl => walk_at "my_at"); (case hE => exact ExprIn.upL (by with_reducible assumption) (by with_reducible assumption))); k_whole; intro c9 t9 D9 h9 tks9 i9 F9 N9 ne9; (try simp only [List.cons_append, List.nil_append] at N9); (try simp only [List.mem_cons, List.mem_singleton, List.not_mem_nil, or_false, forall_eq_or_imp, forall_eq] at ne9); (try dsimp only); (try k_fold)))
  k_with "~wpAt" => case' fr9 => ((walk_at "my_whr"; ks_step "execs cons"; k_dflt (refine ks_wpAt_execs_cons ?_)))
  k_with "~wpAt" => case' fr9 => ((walk_at "my_whr"; ks_step "exec Expr"; k_dflt (refine ks_wpAt_Expr_any ?_)))
  k_with "~wpAt" => case' fr9 => ((walk_at "my_whr"; ks_step "eval Call"; k_dflt (refine ks_wpAt_MethodCall ?_)))
  k_with "~wpAt" => case' fr9 => ((walk_at "my_whr"; ks_step "exec If"; k_dflt (refine ks_wpAt_If ?_)))
  k_with "~wpAt" => case' fr9 => ((walk_at "my_whr"; ks_step "attributeBase Call"; k_here; k_dflt (refine ks_node (by k_asm) (by k_asm) (by k_asm) (by k_asm) (by k_is) (by rfl) (by rfl) (by k_inst) (by k_is) (by rfl) (by assumption) (by k_is) (by k_is) (by k_is) (by k_is) (by decide) (by rfl) (by rfl) (by rfl) (by rfl) (by assumption) (by first | boot_by_name | rfl | kernel_rfl) ?_; intro so' h' F' N' l1; (try k_lt l1))))
  k_with "~call ref" => case' fr9 => ((k_here; ks_any; (with_reducible show wpAny _ _ (call (Value.ref 561) _ _) _ _ _); k_dflt (refine' call_cls ?k1 ?k2 ?k3 ?k4 ?k5 ?k6 ?_; (case k1 => k_asm); (case k2 => k_asm); (case k3 => k_asm); (case k4 => k_is); (case k5 => k_is); (case k6 => k_is); intro x' d' h' F' N' l1 l2; (try k_lt l1); (try k_lt2 l2); walk_at "my_enterS")))
  k_with "~my_whr" => case' fr9 => ((with_reducible conv => whnf))
  trivial
theorem op_calln {prog : Program} {w : World} {loose : List Str} {mean : ExcName → Option Value} {mg mb : Str → Option Value} (pf : ((prog.main.file : Str) == Str.ofString "/claim/cut.py") = true) (pt : (prog.main.scope.names.lookup (Str.ofString "super")).isSome = false) {dp un : Nat} {gd : Option (List Code)} {cn : Str} {cs : Scope} {a : Addr} {ccd : Value} {cl : List (Str × Addr)} {outer : List Env} {A₀ : Around} {base h₀ : Heap} {L : Addr} {m : Str → Option Value} {rest : Led} {s : Shared}
    {kd dk ar da : Addr} {k : Bool} {t1 t2 t3 t4 t5 t6 t7 t8 : Tok} {ta : Tok} {n na : Nat} {oa : Obj} {vs : List Value} {kw : List (Str × Value)} {Q E : Value → Shared → Prop}
    (H : Here w.params loose mean mg mb A₀ base h₀ outer L m [] rest s.heap) (hk : cs.kind = .function) (hkd : KindIn w.params (At h₀ rest) kd dk ar da k t1 t2 t3 t4 t5 t6 t7 t8 ta n na oa) (hn : vs.length ≤ 2) (hv : ∀ v ∈ vs, ∃ T, ExprIn w.params (At h₀ rest) v T) (hkw : kw = [] ∨ kw = [(Str.ofString "variable_name", .none)])
    (hd : dp + 8 < recursionLimit)
    (ret : ∀ x d l t1' t2' t3' t4' t5' t6' t7' t8' t9' n1 n2 h' tks, Fr h₀ L h' m →
      News h₀ L h' ([] ++ (rest ++ [(x, instObj 561 d), (d, opDict w.params t1' t2' t3' t4' t5' t6' t7' t8' t9' n1 kd ar k l), (l, lstOf vs n2)])) →
      (∀ q ∈ rest, ∀ p ∈ [(x, instObj 561 d), (d, opDict w.params t1' t2' t3' t4' t5' t6' t7' t8' t9' n1 kd ar k l), (l, lstOf vs n2)], @Ne Nat p.1 q.1) → Q (.ref x) { s with heap := h', toks := tks }) :
    wpAny (model prog w) (ktrTop dp un gd cn cs L a ccd cl outer) (call (.ref kd) vs kw) Q E s := by
  obtain ⟨B, F, X, N, T, off⟩ := H
  have hI : InstAt s.heap kd (instObj 415 dk) 415 (some _) := inst_get (at_get F N hkd.inst) (at_get F N hkd.dict)
  refine wpAny_call ?_
  k_dflt (refine' kco_code ?k1 hI ?k3 ?k4 ?k5 ?k6 ?_; (case k1 => exact X.keeps F.keep); (case k3 => exact rfl); (case k4 => k_is); (case k5 => k_is); (case k6 => k_is))
  (try dsimp only)
  k_dflt (refine' restG (vs := vs) (g₁ := fun D => some [(Str.ofString "cls", .ref kd), (Str.ofString "variable_name", .none), (Str.ofString "operands", .ref D)]) (binds := fun D => [(Str.ofString "cls", .ref kd), (Str.ofString "variable_name", .none), (Str.ofString "operands", .ref D)]) B F X N T ?kA ?kF ?kK ?k6 ?k7 ?k8 ?kP ?kG ?kB ?_ ?c2 ?c3 ?c4 ?c5; (case kA => exact rfl); (case kF => exact rfl); (case kK => exact hk); (case k6 => k_is); (case k7 => k_is); (case k8 => k_room); (case kP => (rcases hkw with rfl | rfl <;> (match vs, hn with | [], _ => exact rfl | [_], _ => exact rfl | [_, _], _ => exact rfl | _ :: _ :: _ :: _, hn => exact absurd hn (by simp)))); (case kG => exact fun _ => rfl); (case c5 => decide); (case kB => exact fun _ => locs rfl); (case c2 => exact rfl); (case c3 => exact rfl); (case c4 => exact rfl))
  intro D g L' h1 FG F' N' B' X' T' hR l1
  have hk1 := hR _ _ hkd.inst
  have hk2 := hR _ _ hkd.dict
  have hk3 := hR _ _ hkd.ar
  have hk4 := hR _ _ hkd.da
  have hv' : ∀ v ∈ vs, ∃ T, ∀ r, ExprIn w.params (At g r) v T := fun v h => let ⟨T, h⟩ := hv v h; ⟨T, fun r => h.mono (fun a o h => Or.inl (hR a o h))⟩
  (try dsimp only); (try k_fold)
  k_steps
  · rename_i kF9 kN9 kT9 kX9
    exact ret _ _ _ _ _ _ _ _ _ _ _ _ _ _ _ _ kF9 (back (M' := []) N hR (by assumption) (subNews kN9 (List.forall_mem_cons.mpr ⟨.tail _ (.tail _ (.head _)), List.forall_mem_cons.mpr ⟨.tail _ (.tail _ (.tail _ (.head _))), List.forall_mem_singleton.mpr (.tail _ (.tail _ (.tail _ (.tail _ (.head _)))))⟩⟩))) (ne_of hR (by assumption) (List.forall_mem_cons.mpr ⟨.tail _ (.tail _ (.head _)), List.forall_mem_cons.mpr ⟨.tail _ (.tail _ (.tail _ (.head _))), List.forall_mem_singleton.mpr (.tail _ (.tail _ (.tail _ (.tail _ (.head _)))))⟩⟩))
end ops
theorem rk17 : True := by
  k_with_none
  trivial
theorem op_call0 {prog : Program} {w : World} {loose : List Str} {mean : ExcName → Option Value} {mg mb : Str → Option Value} (pf : ((prog.main.file : Str) == Str.ofString "/claim/cut.py") = true) (pt : (prog.main.scope.names.lookup (Str.ofString "super")).isSome = false) {dp un : Nat} {gd : Option (List Code)} {cn : Str} {cs : Scope} {a : Addr} {ccd : Value} {cl : List (Str × Addr)} {outer : List Env} {A₀ : Around} {base h₀ : Heap} {L : Addr} {m : Str → Option Value} {rest : Led} {s : Shared}
    {kd dk ar da : Addr} {k : Bool} {t1 t2 t3 t4 t5 t6 t7 t8 : Tok} {ta : Tok} {n na : Nat} {oa : Obj}  {Q E : Value → Shared → Prop}
    (H : Here w.params loose mean mg mb A₀ base h₀ outer L m [] rest s.heap) (hk : cs.kind = .function) (hkd : KindIn w.params (At h₀ rest) kd dk ar da k t1 t2 t3 t4 t5 t6 t7 t8 ta n na oa) 
    (hd : dp + 8 < recursionLimit)
    (ret : ∀ x d l t1' t2' t3' t4' t5' t6' t7' t8' t9' n1 n2 h' tks, Fr h₀ L h' m →
      News h₀ L h' ([] ++ (rest ++ [(x, instObj 561 d), (d, opDict w.params t1' t2' t3' t4' t5' t6' t7' t8' t9' n1 kd ar k l), (l, lstOf [] n2)])) →
      (∀ q ∈ rest, ∀ p ∈ [(x, instObj 561 d), (d, opDict w.params t1' t2' t3' t4' t5' t6' t7' t8' t9' n1 kd ar k l), (l, lstOf [] n2)], @Ne Nat p.1 q.1) → Q (.ref x) { s with heap := h', toks := tks }) :
    wpAny (model prog w) (ktrTop dp un gd cn cs L a ccd cl outer) (call (.ref kd) [] []) Q E s :=
  op_calln pf pt H hk hkd (by decide) (fun _ h => nomatch h) (.inl rfl) hd ret
theorem op_call1 {prog : Program} {w : World} {loose : List Str} {mean : ExcName → Option Value} {mg mb : Str → Option Value} (pf : ((prog.main.file : Str) == Str.ofString "/claim/cut.py") = true) (pt : (prog.main.scope.names.lookup (Str.ofString "super")).isSome = false) {dp un : Nat} {gd : Option (List Code)} {cn : Str} {cs : Scope} {a : Addr} {ccd : Value} {cl : List (Str × Addr)} {outer : List Env} {A₀ : Around} {base h₀ : Heap} {L : Addr} {m : Str → Option Value} {rest : Led} {s : Shared}
    {kd dk ar da : Addr} {k : Bool} {t1 t2 t3 t4 t5 t6 t7 t8 : Tok} {ta : Tok} {n na : Nat} {oa : Obj} {v : Value} {T1 : Nd} {Q E : Value → Shared → Prop}
    (H : Here w.params loose mean mg mb A₀ base h₀ outer L m [] rest s.heap) (hk : cs.kind = .function) (hkd : KindIn w.params (At h₀ rest) kd dk ar da k t1 t2 t3 t4 t5 t6 t7 t8 ta n na oa) (hv : ExprIn w.params (At h₀ rest) v T1)
    (hd : dp + 8 < recursionLimit)
    (ret : ∀ x d l t1' t2' t3' t4' t5' t6' t7' t8' t9' n1 n2 h' tks, Fr h₀ L h' m →
      News h₀ L h' ([] ++ (rest ++ [(x, instObj 561 d), (d, opDict w.params t1' t2' t3' t4' t5' t6' t7' t8' t9' n1 kd ar k l), (l, lstOf [v] n2)])) →
      (∀ q ∈ rest, ∀ p ∈ [(x, instObj 561 d), (d, opDict w.params t1' t2' t3' t4' t5' t6' t7' t8' t9' n1 kd ar k l), (l, lstOf [v] n2)], @Ne Nat p.1 q.1) → Q (.ref x) { s with heap := h', toks := tks }) :
    wpAny (model prog w) (ktrTop dp un gd cn cs L a ccd cl outer) (call (.ref kd) [v] [(Str.ofString "variable_name", .none)]) Q E s :=
  op_calln pf pt H hk hkd (by simp) (List.forall_mem_singleton.mpr ⟨_, hv⟩) (.inr rfl) hd ret
theorem op_call2 {prog : Program} {w : World} {loose : List Str} {mean : ExcName → Option Value} {mg mb : Str → Option Value} (pf : ((prog.main.file : Str) == Str.ofString "/claim/cut.py") = true) (pt : (prog.main.scope.names.lookup (Str.ofString "super")).isSome = false) {dp un : Nat} {gd : Option (List Code)} {cn : Str} {cs : Scope} {a : Addr} {ccd : Value} {cl : List (Str × Addr)} {outer : List Env} {A₀ : Around} {base h₀ : Heap} {L : Addr} {m : Str → Option Value} {rest : Led} {s : Shared}
    {kd dk ar da : Addr} {k : Bool} {t1 t2 t3 t4 t5 t6 t7 t8 : Tok} {ta : Tok} {n na : Nat} {oa : Obj} {v u : Value} {T1 T2 : Nd} {Q E : Value → Shared → Prop}
    (H : Here w.params loose mean mg mb A₀ base h₀ outer L m [] rest s.heap) (hk : cs.kind = .function) (hkd : KindIn w.params (At h₀ rest) kd dk ar da k t1 t2 t3 t4 t5 t6 t7 t8 ta n na oa) (hv : ExprIn w.params (At h₀ rest) v T1) (hu : ExprIn w.params (At h₀ rest) u T2)
    (hd : dp + 8 < recursionLimit)
    (ret : ∀ x d l t1' t2' t3' t4' t5' t6' t7' t8' t9' n1 n2 h' tks, Fr h₀ L h' m →
      News h₀ L h' ([] ++ (rest ++ [(x, instObj 561 d), (d, opDict w.params t1' t2' t3' t4' t5' t6' t7' t8' t9' n1 kd ar k l), (l, lstOf [v, u] n2)])) →
      (∀ q ∈ rest, ∀ p ∈ [(x, instObj 561 d), (d, opDict w.params t1' t2' t3' t4' t5' t6' t7' t8' t9' n1 kd ar k l), (l, lstOf [v, u] n2)], @Ne Nat p.1 q.1) → Q (.ref x) { s with heap := h', toks := tks }) :
    wpAny (model prog w) (ktrTop dp un gd cn cs L a ccd cl outer) (call (.ref kd) [v, u] [(Str.ofString "variable_name", .none)]) Q E s :=
  op_calln pf pt H hk hkd (by simp) (List.forall_mem_cons.mpr ⟨⟨_, hv⟩, List.forall_mem_singleton.mpr ⟨_, hu⟩⟩) (.inr rfl) hd ret
end secOp4
section secMake1
set_option maxHeartbeats 4000000
theorem in_nm {prog : Program} {w : World} {A : Around} {E : Value → Shared → Prop} {s : Shared} {n : Nm} {l : Addr} {t t1 t2 t3 : Tok} {Q : Value → Shared → Prop} (hl : s.heap.IsList l [.str (Str.ofString "x") t1, .str (Str.ofString "y") t2, .str (Str.ofString "z") t3].toArray) (h : Q (.bool true) s) : wpAny (model prog w) A (compareOp .In (.str n.str t) (.ref l)) Q E s :=
  in_list_strs hl (.cons _ _ (.cons _ _ (.cons _ _ .nil))) (by rw [show ((List.any [Str.ofString "x", Str.ofString "y", Str.ofString "z"] (· == n.str))) = true from by cases n <;> decide +kernel]; exact h)
theorem meta_tuple' : typeOf (.type "tuple") = pure (.type "type") := by first | rfl | kernel_rfl
/-- _law_make: a tree as the law writes it, made into the project's objects -/
noncomputable def MakeSpec (prog : Program) (w : World) (loose : List Str) (mean : ExcName → Option Value) (mg mb : Str → Option Value) (T : Nd) : Prop :=
  ∀ (dp un : Nat) (gd : Option (List Code)) (cn : Str) (cs : Scope) (a : Addr) (ccd : Value) (cl : List (Str × Addr)) (outer : List Env) (A₀ : Around) (base h₀ : Heap) (L : Addr) (m : Str → Option Value) (rest : Led) (s : Shared) (node : Value) (Q E : Value → Shared → Prop),
    Here w.params loose mean mg mb A₀ base h₀ outer L m [] rest s.heap → cs.kind = .function → NdIn (At h₀ rest) node T → dp + T.depth + 12 < recursionLimit →
    (∀ r tl' h' tks, Fr h₀ L h' m → News h₀ L h' ([] ++ (rest ++ tl')) → (∀ q ∈ rest, ∀ p ∈ tl', @Ne Nat p.1 q.1) → ExprIn w.params (InL tl') r T → Q r { s with heap := h', toks := tks }) →
    wpAny (model prog w) (ktrTop dp un gd cn cs L a ccd cl outer) (call (.ref 875) [node]) Q E s
section mk

theorem rk18 : True := by
  k_with "~k_room" => case' fr9 => (((try simp only [depth_under_make, depth_under_kw, depth_in1, depth_deeper, depth_caller]); (try dsimp only [ktrTop]); omega))
  k_with "~k_mem" => case' fr9 => (with_reducible assumption)
  k_with "~my_at" => case' fr9 => (first | exact Or.inr (by with_reducible kcf_m) | exact Or.inl (by with_reducible assumption) | exact Or.inl (Fr.keep (by with_reducible assumption) _ _ (by with_reducible assumption)) | fail "my_at")
  k_with "~my_get" => case' fr9 => (first | exact News.get (by with_reducible assumption) (by with_reducible kcf_m) | exact Fr.keep (by with_reducible assumption) _ _ (by with_reducible assumption) | exact Fr.keep (by with_reducible assumption) _ _ (Fr.keep (by with_reducible assumption) _ _ (by with_reducible assumption)) | fail "my_get")
  k_with "~compareOp Eq str str" => case' fr9 => ((k_here; (with_reducible show wpAny _ _ (compareOp _ (Value.str (Nm.str _) _) (Value.str _ _)) _ _ _); refine eq_nm_ay ?_))
  k_with "~compareOp In str ref" => case' fr9 => ((k_here; (with_reducible show wpAny _ _ (compareOp _ (Value.str (Nm.str _) _) (Value.ref _)) _ _ _); k_dflt (refine in_nm (News.isList (by k_asm) (by k_mem)) ?_)))
  k_with "~my_enter" => case' fr9 => ((refine' code_def ?k1 ?k2 ?k3 ?k4 ?k5 ?kA ?kF ?kK ?k6 ?k7 ?k8 ?k9 ?kB ?_ ?c2 ?c3 ?c4 ?c5; (case kA => exact rfl); (case kF => exact rfl); (case kK => exact rfl); (case k1 => k_asm); (case k2 => k_asm); (case k3 => k_asm); (case k4 => k_asm); (case k5 => k_asm); (case k6 => k_is); (case k7 => k_is); (case k8 => k_room); (case k9 => first | exact BindsTo.of_eq rfl | exact binds_K (by k_in) rfl (by k_is) rfl rfl rfl); (case c5 => decide); (case kB => exact locs rfl); (case c2 => exact rfl); (case c3 => exact rfl); (case c4 => exact rfl); intro g' L' h' FG' F' N' B' X' T'; (try dsimp only); (try k_lift B'); (try k_fold)))
  k_with "~my_enterS" => case' fr9 => ((refine' ks_code_super ?k1 ?k2 ?k3 ?k4 ?k5 ?kA ?kF ?kK ?k6 ?k7 ?k8 ?k9 ?kB ?_ ?c1 ?c2 ?c3 ?c4; (case kA => exact rfl); (case kF => exact rfl); (case kK => exact rfl); (case k1 => k_asm); (case k2 => k_asm); (case k3 => k_asm); (case k4 => k_asm); (case k5 => k_asm); (case k6 => k_is); (case k7 => k_is); (case k8 => k_room); (case k9 => first | exact BindsTo.of_eq rfl | exact binds_K (by k_in) rfl (by k_is) rfl rfl rfl); (case kB => exact locs rfl); (case c1 => decide); (case c2 => exact rfl); (case c3 => exact rfl); (case c4 => exact rfl); intro g' L' h' FG' F' N' B' X' T' l1; (try k_lt l1); (try dsimp only); (try k_lift B')))
  k_with "~call ref" => case' fr9 => ((k_here; (with_reducible show wpAny _ _ (call (Value.ref 380) _) _ _ _); k_dflt (refine' arity_call ?F ?X ?_; (case F => k_asm); (case X => k_asm); intro tk'; walk_at "my_enter")))
  k_with "~call builtin:tuple.__new__" => case' fr9 => ((k_here; k_dflt (refine' arity_new ?F ?N ?X ?hm ?hc ?hd ?hsz ?_; (case F => k_asm); (case N => k_asm); (case X => k_asm); (case hm => k_mem); (case hc => exact rfl); (case hd => exact rfl); (case hsz => size_fits); intro x' d' h' F' N' l1 l2; (try k_lt l1); (try k_lt2 l2))))
  k_with "~NewBack" => case' fr9 => ((k_here; k_dflt (refine ⟨_, _, rfl, (News.get (by k_asm) (by k_mem)), rfl, Frag.In.keeps (by k_asm) (Fr.keep (by k_asm)), ?_⟩; (try dsimp only))))
  k_with "~getMethod type:tuple" => case' fr9 => ((k_here; refine' method_type ?F ?X ?m (by decide +kernel) ?e ?h ?_; (case F => k_asm); (case X => k_asm); (case m => exact meta_tuple'); (case e => k_dflt k_is); (case h => k_handed)))
  k_with "~subscriptTail" => case' fr9 => ((k_here; (with_reducible show wpAny _ _ (subscriptTail _ _ (Value.ref _) (Value.int _ _)) _ _ _); k_dflt (first | (refine' arityB_item1 ?F ?X ?ho ?_; (case ho => walk_at "my_get"); (case F => k_asm); (case X => k_asm)) | (refine' arityB_item0 ?F ?X ?ho ?_; (case ho => walk_at "my_get"); (case F => k_asm); (case X => k_asm)))))
  k_with "~call builtin:tuple.__getitem__" => case' fr9 => ((k_here; k_dflt (first | (refine' arityB_get1 ?F ?X ?ho ?_; (case ho => walk_at "my_get"); (case F => k_asm); (case X => k_asm)) | (refine' arityB_get0 ?F ?X ?ho ?_; (case ho => walk_at "my_get"); (case F => k_asm); (case X => k_asm)))))
  k_with "~wpAt" => case' fr9 => ((walk_at "my_whr"; ks_step "execs cons"; k_dflt (refine ks_wpAt_execs_cons ?_)))
  k_with "~wpAt" => case' fr9 => ((walk_at "my_whr"; ks_step "exec Expr"; k_dflt (refine ks_wpAt_Expr_any ?_)))
  k_with "~wpAt" => case' fr9 => ((walk_at "my_whr"; ks_step "eval Call"; k_dflt (refine ks_wpAt_MethodCall ?_)))
  k_with "~wpAt" => case' fr9 => ((walk_at "my_whr"; ks_step "exec If"; k_dflt (refine ks_wpAt_If ?_)))
  k_with "~wpAt" => case' fr9 => ((walk_at "my_whr"; ks_step "attributeBase Call"; k_here; k_dflt (refine ks_node (by k_asm) (by k_asm) (by k_asm) (by k_asm) (by k_is) (by rfl) (by rfl) (by k_inst) (by k_is) (by rfl) (by assumption) (by k_is) (by k_is) (by k_is) (by k_is) (by decide) (by rfl) (by rfl) (by rfl) (by rfl) (by assumption) (by first | boot_by_name | rfl | kernel_rfl) ?_; intro so' h' F' N' l1; (try k_lt l1))))
  k_with "~my_whr" => case' fr9 => ((with_reducible conv => whnf))
  k_with "~call ref" => case' fr9 => ((k_here; ks_any; k_dflt (refine' call_cls ?k1 ?k2 ?k3 ?k4 ?k5 ?k6 ?_; (case k1 => k_asm); (case k2 => k_asm); (case k3 => k_asm); (case k4 => k_is); (case k5 => k_is); (case k6 => k_is); intro x' d' h' F' N' l1 l2; (try k_lt l1); (try k_lt2 l2); walk_at "my_enterS")))
  trivial
theorem make_a {prog : Program} {w : World} {loose : List Str} {mean : ExcName → Option Value} {mg mb : Str → Option Value} (pf : ((prog.main.file : Str) == Str.ofString "/claim/cut.py") = true) (pt : (prog.main.scope.names.lookup (Str.ofString "super")).isSome = false) : MakeSpec prog w loose mean mg mb (.s .a) := by
  intro dp un gd cn cs a ccd cl outer A₀ base h₀ L m rest s node Q E H hk hnd hd ret
  obtain ⟨B, F, X, N, T, off⟩ := H
  have N1 := subLed N
  cases hnd
  rename_i tn
  simp only [Nd.depth] at hd
  simp only [Lf.str]
  refine wpAny_call ?_
  k_dflt (refine' code_defG (binds := [(Str.ofString "node", .str (Str.ofString "a") tn)]) B F X N1 T ?kA ?kF ?kK ?k6 ?k7 ?k8 ?k9 ?kB ?_ ?c2 ?c3 ?c4 ?c5; (case kA => exact rfl); (case kF => exact rfl); (case kK => exact hk); (case k6 => k_is); (case k7 => k_is); (case k8 => k_room); (case k9 => exact BindsTo.of_eq rfl); (case c5 => decide); (case kB => exact locs rfl); (case c2 => exact rfl); (case c3 => exact rfl); (case c4 => exact rfl))
  intro g L' h1 FG F' N' B' X' T' kG
  have hR := grounded N off kG FG.keep
  (try dsimp only); (try k_fold)
  k_steps
  · rename_i kF9 kN9 kT9 kX9
    exact ret _ _ _ _ kF9 (back (M' := []) N hR (by assumption) kN9) (ne_of hR (by assumption) fun p hp => hp) (.sa (.tail _ (.tail _ (.head _))) (.tail _ (.tail _ (.tail _ (.head _)))))

theorem make_b {prog : Program} {w : World} {loose : List Str} {mean : ExcName → Option Value} {mg mb : Str → Option Value} (pf : ((prog.main.file : Str) == Str.ofString "/claim/cut.py") = true) (pt : (prog.main.scope.names.lookup (Str.ofString "super")).isSome = false) : MakeSpec prog w loose mean mg mb (.s .b) := by
  intro dp un gd cn cs a ccd cl outer A₀ base h₀ L m rest s node Q E H hk hnd hd ret
  obtain ⟨B, F, X, N, T, off⟩ := H
  have N1 := subLed N
  cases hnd
  rename_i tn
  simp only [Nd.depth] at hd
  simp only [Lf.str]
  refine wpAny_call ?_
  k_dflt (refine' code_defG (binds := [(Str.ofString "node", .str (Str.ofString "b") tn)]) B F X N1 T ?kA ?kF ?kK ?k6 ?k7 ?k8 ?k9 ?kB ?_ ?c2 ?c3 ?c4 ?c5; (case kA => exact rfl); (case kF => exact rfl); (case kK => exact hk); (case k6 => k_is); (case k7 => k_is); (case k8 => k_room); (case k9 => exact BindsTo.of_eq rfl); (case c5 => decide); (case kB => exact locs rfl); (case c2 => exact rfl); (case c3 => exact rfl); (case c4 => exact rfl))
  intro g L' h1 FG F' N' B' X' T' kG
  have hR := grounded N off kG FG.keep
  (try dsimp only); (try k_fold)
  k_steps
  · rename_i kF9 kN9 kT9 kX9
    exact ret _ _ _ _ kF9 (back (M' := []) N hR (by assumption) kN9) (ne_of hR (by assumption) fun p hp => hp) (.sb (.tail _ (.tail _ (.head _))) (.tail _ (.tail _ (.tail _ (.head _)))))

theorem make_ay {prog : Program} {w : World} {loose : List Str} {mean : ExcName → Option Value} {mg mb : Str → Option Value} (pf : ((prog.main.file : Str) == Str.ofString "/claim/cut.py") = true) (pt : (prog.main.scope.names.lookup (Str.ofString "super")).isSome = false) : MakeSpec prog w loose mean mg mb (.s .ay) := by
  intro dp un gd cn cs a ccd cl outer A₀ base h₀ L m rest s node Q E H hk hnd hd ret
  obtain ⟨B, F, X, N, T, off⟩ := H
  have N1 := subLed N
  cases hnd
  rename_i tn
  simp only [Nd.depth] at hd
  simp only [Lf.str]
  refine wpAny_call ?_
  k_dflt (refine' code_defG (binds := [(Str.ofString "node", .str (Str.ofString "a:y") tn)]) B F X N1 T ?kA ?kF ?kK ?k6 ?k7 ?k8 ?k9 ?kB ?_ ?c2 ?c3 ?c4 ?c5; (case kA => exact rfl); (case kF => exact rfl); (case kK => exact hk); (case k6 => k_is); (case k7 => k_is); (case k8 => k_room); (case k9 => exact BindsTo.of_eq rfl); (case c5 => decide); (case kB => exact locs rfl); (case c2 => exact rfl); (case c3 => exact rfl); (case c4 => exact rfl))
  intro g L' h1 FG F' N' B' X' T' kG
  have hR := grounded N off kG FG.keep
  (try dsimp only); (try k_fold)
  k_steps
  · rename_i kF9 kN9 kT9 kX9
    exact ret _ _ _ _ kF9 (back (M' := []) N hR (by assumption) kN9) (ne_of hR (by assumption) fun p hp => hp) (.sy (.tail _ (.tail _ (.head _))) (.tail _ (.tail _ (.tail _ (.head _)))))

theorem make_v {prog : Program} {w : World} {loose : List Str} {mean : ExcName → Option Value} {mg mb : Str → Option Value} (pf : ((prog.main.file : Str) == Str.ofString "/claim/cut.py") = true) (pt : (prog.main.scope.names.lookup (Str.ofString "super")).isSome = false) {v : Nm} : MakeSpec prog w loose mean mg mb (.s (.v v)) := by
  intro dp un gd cn cs a ccd cl outer A₀ base h₀ L m rest s node Q E H hk hnd hd ret
  obtain ⟨B, F, X, N, T, off⟩ := H
  have N1 := subLed N
  cases hnd
  rename_i tn
  simp only [Nd.depth] at hd
  rw [show (Lf.v v).str = v.str from by cases v <;> rfl]
  refine wpAny_call ?_
  k_dflt (refine' code_defG (binds := [(Str.ofString "node", .str v.str tn)]) B F X N1 T ?kA ?kF ?kK ?k6 ?k7 ?k8 ?k9 ?kB ?_ ?c2 ?c3 ?c4 ?c5; (case kA => exact rfl); (case kF => exact rfl); (case kK => exact hk); (case k6 => k_is); (case k7 => k_is); (case k8 => k_room); (case k9 => exact BindsTo.of_eq rfl); (case c5 => decide); (case kB => exact locs rfl); (case c2 => exact rfl); (case c3 => exact rfl); (case c4 => exact rfl))
  intro g L' h1 FG F' N' B' X' T' kG
  have hR := grounded N off kG FG.keep
  (try dsimp only); (try k_fold)
  k_steps
  · rename_i kF9 kN9 kT9 kX9
    exact ret _ _ _ _ kF9 (back (M' := []) N hR (by assumption) kN9) (ne_of hR (by assumption) fun p hp => hp) (.v (.tail _ (.tail _ (.head _))) (.tail _ (.tail _ (.tail _ (.head _)))))
end mk
end secMake1
section secStar
section
variable {M : Model} {A : Around} {E : Value → Shared → Prop} {s : Shared} {K : Frag} {env : Env} {pos p : Pos} {x C : Addr} {ox : Obj} {od : Option Obj} {first : List Value}
theorem rk19 : True := by
  k_with_none
  trivial
/-- f(*x, k=v): the starred value, the named values, then the items -/
theorem args_starKw {f : Value} {t : Sem Value} {kws : List (Option Str × Sem Value)} {Q : Args → Shared → Prop} (hall : kws.all (·.1.isSome) = true)
    (h : wpAny M A t (fun v s₁ => wpAny M A (evalAll (kws.map (·.2))) (fun ks s₂ => StarOf M A E v (fun vs s₃ => Q ⟨vs, (kws.filterMap (·.1)).zip ks⟩ s₃) s₂) E s₁) E s) :
    wpAny M A (evalArgs f true [(true, (do let v ← t; standAt pos; pure v))] kws) Q E s := by
  unfold evalArgs
  refine wpAny_bind (wpAny_bind (wpAny_mono h (fun v s₁ h₁ => wpAny_bind (wpAny_standAt (wpAny_pure ?_))) fun _ _ x => x))
  refine wpAny_holding ?_
  simp only [hall, if_true]
  refine wpAny_bind (wpAny_mono h₁ (fun ks s₂ h₂ => ?_) fun _ _ x => x)
  unfold StarOf at h₂
  refine wpAny_bind (wpAny_bind (wpAny_mono h₂ (fun b s₃ h₃ => ?_) fun _ _ x => x))
  obtain ⟨rfl, h₃⟩ := h₃
  simp only [Bool.false_eq_true, if_false]
  exact wpAny_holding (wpAny_mono h₃ (fun vs s₄ h₄ => wpAny_pure h₄) fun _ _ x => x)
theorem inst_starKw {e : Expr} {kws : List Keyword} {Q : Value → Shared → Prop} (_X : K.In s.heap) (_I : InstAt s.heap x ox C od) (hd : ox.data = .plain) (hall : (backToKw pos (keywordEach kws env)).all (·.1.isSome) = true)
    (h : wpAny M A (eval e env) (fun v s₁ => wpAny M A (evalAll ((backToKw pos (keywordEach kws env)).map (·.2))) (fun ks s₂ => StarOf M A E v (fun vs s₃ => kco_P K x C ox od s₃.heap ∧ wpAny M A (call (.ref x) (first ++ vs) (((backToKw pos (keywordEach kws env)).filterMap (·.1)).zip ks)) Q E s₃) s₂) E s₁) E s)
    (he : starEach [.Starred e p] env = [(true, eval e env)] := by rfl) :
    wpAny M A (callWith pos (.ref x) first (backTo pos (starEach [.Starred e p] env)) (backToKw pos (keywordEach kws env))) Q E s := by
  rw [he]
  unfold callWith
  refine wpAny_bind (wpAny_holding (wpAny_mono (args_starKw (pos := pos) (Q := fun a s₁ => kco_P K x C ox od s₁.heap ∧ wpAny M A (call (.ref x) (first ++ a.pos) a.kw) Q E s₁) hall h) (fun a s₁ h₁ => wpAny_bind (wpAny_standAt ?_)) fun _ _ y => y))
  have L := kco_keeper (M := M) h₁.1.2 hd
  refine wpAny_bind (L.here ?_)
  exact wpAny_bind (wpAny_mono (wpAny_operateT h₁.2) (fun r s₂ hr => wpAny_bind (wpAny_holding (wpAny_point (wpAny_pure hr)))) fun _ _ y => y)
theorem meth_starKw {o e : Expr} {name : Str} {apos : Pos} {kws : List Keyword} {Q : Value → Shared → Prop}
    (h : wpAny M A (eval o env) (fun ov s₁ => wpAny M A (getAttr ov name true) (fun f s₂ => wpAny M A (callWith pos f [] (backTo pos (starEach [.Starred e p] env)) (backToKw pos (keywordEach kws env))) Q E s₂) E s₁) E s)
    (he : eval (.Call (.Attribute o name apos) [.Starred e p] kws pos) env = (do
      let ov ← eval o env
      standAt apos.atName
      let (f, first) ← holding [ov] (do pure (← getAttr ov name true, []))
      callWith pos f first (backTo pos (starEach [.Starred e p] env)) (backToKw pos (keywordEach kws env))) := by rfl) :
    wpAny M A (eval (.Call (.Attribute o name apos) [.Starred e p] kws pos) env) Q E s := by
  rw [he]
  exact wpAny_bind (wpAny_mono h (fun ov s₁ h₁ => wpAny_bind (wpAny_standAt (wpAny_bind (wpAny_holding (wpAny_bind (wpAny_mono h₁ (fun f s₂ h₂ => wpAny_pure h₂) fun _ _ x => x)))))) fun _ _ x => x)
end
end secStar
section secMake2
set_option maxHeartbeats 4000000
theorem news_front {g h : Heap} {L : Addr} {rest new : Led} (N : News g L h ([] ++ (rest ++ new))) : News g L h (new ++ rest) := fun p hp => N p (show p ∈ rest ++ new from (List.mem_append.mp hp).elim (fun hp => List.mem_append_right _ hp) fun hp => List.mem_append_left _ hp)
theorem off_in {I C D : Addr} {oI oC oD : Obj} {news tl all l : Led} (h : LCg.Off3 I C D news) (f : ∀ q ∈ all, ∀ p ∈ tl, @Ne Nat p.1 q.1) (hI : (I, oI) ∈ all) (hC : (C, oC) ∈ all) (hD : (D, oD) ∈ all) (s : ∀ p ∈ l, p ∈ news ++ tl) : LCg.Off3 I C D l := off3_sub (off3_app h (off_tl f hI hC hD)) s
theorem myCompEnd0 {h₀ : Heap} {L I C D : Addr} {m : Str → Option Value} {s₁ : Shared} {oI oC oD : Obj} {S : Led → Prop} {rest : Value → Led → Prop} {y : Value} {h' : Heap} {tk : Nat} {n : Led}
    (F : Fr h₀ L h' m) (N : News h₀ L h' ((I, oI) :: (C, oC) :: (D, oD) :: n)) (off : LCg.Off3 I C D n) (hS : S n) (r : rest y n) :
    LCg.CompEnd h₀ L m s₁ I oI C oC D oD S rest y { s₁ with heap := h', toks := tk } := LCg.CompEnd.intro F N n (fun _ h => h) off hS r
theorem ExprIn.sub {P : Params} {tl r : Led} {v : Value} {T : Nd} (x : ExprIn P (InL tl) v T) (h : ∀ p ∈ tl, p ∈ r) : ExprIn P (InL r) v T := x.mono fun _ _ hm => h _ hm
theorem ExprIn.inTl {P : Params} {h₀ : Heap} {tl r : Led} {v : Value} {T : Nd} (x : ExprIn P (InL tl) v T) (h : ∀ p ∈ tl, p ∈ r) : ExprIn P (At h₀ r) v T := x.mono fun _ _ hm => .inr (h _ hm)
section
variable {prog : Program} {w : World} {loose : List Str} {mean : ExcName → Option Value} {mg mb : Str → Option Value}
theorem make_use {T : Nd} (IH : MakeSpec prog w loose mean mg mb T) {dp un : Nat} {gd : Option (List Code)} {cn : Str} {cs : Scope} {a : Addr} {ccd : Value} {cl : List (Str × Addr)} {outer : List Env} {A₀ : Around} {base h₀ : Heap} {L : Addr} {m : Str → Option Value} {rest : Led} {s : Shared} {node : Value} {Q E : Value → Shared → Prop}
    (H : Here w.params loose mean mg mb A₀ base h₀ outer L m [] rest s.heap) (hk : cs.kind = .function) (hnd : NdIn (At h₀ rest) node T) (hd : dp + T.depth + 12 < recursionLimit)
    (ret : ∀ r tl' h' tks, Fr h₀ L h' m → News h₀ L h' (rest ++ tl') → (∀ q ∈ rest, ∀ p ∈ tl', @Ne Nat p.1 q.1) → ExprIn w.params (InL tl') r T → Q r { s with heap := h', toks := tks }) :
    wpAny (model prog w) (ktrTop dp un gd cn cs L a ccd cl outer) (call (.ref 875) [node]) Q E s :=
  IH _ _ _ _ _ _ _ _ _ _ _ _ _ _ _ _ _ _ _ H hk hnd hd ret
end
section mk
theorem rk20 : True := by
  k_with "~k_room" => case' fr9 => (((try simp only [depth_under_make, depth_under_kw, depth_in1, depth_deeper, depth_caller]); (try dsimp only [ktrTop]); omega))
  k_with "~k_mem" => case' fr9 => (with_reducible assumption)
  k_with "~my_at" => case' fr9 => (first | exact Or.inr (by with_reducible kcf_m) | exact Or.inl (by with_reducible assumption) | exact Or.inl (Fr.keep (by with_reducible assumption) _ _ (by with_reducible assumption)) | fail "my_at")
  k_with "~my_get" => case' fr9 => (first | exact News.get (by with_reducible assumption) (by with_reducible kcf_m) | exact Fr.keep (by with_reducible assumption) _ _ (by with_reducible assumption) | exact Fr.keep (by with_reducible assumption) _ _ (Fr.keep (by with_reducible assumption) _ _ (by with_reducible assumption)) | fail "my_get")
  k_with "~compareOp Eq str str" => case' fr9 => ((k_here; (with_reducible show wpAny _ _ (compareOp _ (Value.str (Nm.str _) _) (Value.str _ _)) _ _ _); refine eq_nm_ay ?_))
  k_with "~compareOp In str ref" => case' fr9 => ((k_here; (with_reducible show wpAny _ _ (compareOp _ (Value.str (Nm.str _) _) (Value.ref _)) _ _ _); k_dflt (refine in_nm (News.isList (by k_asm) (by k_mem)) ?_)))
  k_with "~my_enter" => case' fr9 => ((refine' code_def ?k1 ?k2 ?k3 ?k4 ?k5 ?kA ?kF ?kK ?k6 ?k7 ?k8 ?k9 ?kB ?_ ?c2 ?c3 ?c4 ?c5; (case kA => exact rfl); (case kF => exact rfl); (case kK => exact rfl); (case k1 => k_asm); (case k2 => k_asm); (case k3 => k_asm); (case k4 => k_asm); (case k5 => k_asm); (case k6 => k_is); (case k7 => k_is); (case k8 => k_room); (case k9 => first | exact BindsTo.of_eq rfl | exact binds_K (by k_in) rfl (by k_is) rfl rfl rfl); (case c5 => decide); (case kB => exact locs rfl); (case c2 => exact rfl); (case c3 => exact rfl); (case c4 => exact rfl); intro g' L' h' FG' F' N' B' X' T'; (try dsimp only); (try k_lift B'); (try k_fold)))
  k_with "~my_enterS" => case' fr9 => ((refine' ks_code_super ?k1 ?k2 ?k3 ?k4 ?k5 ?kA ?kF ?kK ?k6 ?k7 ?k8 ?k9 ?kB ?_ ?c1 ?c2 ?c3 ?c4; (case kA => exact rfl); (case kF => exact rfl); (case kK => exact rfl); (case k1 => k_asm); (case k2 => k_asm); (case k3 => k_asm); (case k4 => k_asm); (case k5 => k_asm); (case k6 => k_is); (case k7 => k_is); (case k8 => k_room); (case k9 => first | exact BindsTo.of_eq rfl | exact binds_K (by k_in) rfl (by k_is) rfl rfl rfl); (case kB => exact locs rfl); (case c1 => decide); (case c2 => exact rfl); (case c3 => exact rfl); (case c4 => exact rfl); intro g' L' h' FG' F' N' B' X' T' l1; (try k_lt l1); (try dsimp only); (try k_lift B')))
  k_with "~call ref" => case' fr9 => ((k_here; (with_reducible show wpAny _ _ (call (Value.ref 380) _) _ _ _); k_dflt (refine' arity_call ?F ?X ?_; (case F => k_asm); (case X => k_asm); intro tk'; walk_at "my_enter")))
  k_with "~call builtin:tuple.__new__" => case' fr9 => ((k_here; k_dflt (refine' arity_new ?F ?N ?X ?hm ?hc ?hd ?hsz ?_; (case F => k_asm); (case N => k_asm); (case X => k_asm); (case hm => k_mem); (case hc => exact rfl); (case hd => exact rfl); (case hsz => size_fits); intro x' d' h' F' N' l1 l2; (try k_lt l1); (try k_lt2 l2))))
  k_with "~NewBack" => case' fr9 => ((k_here; k_dflt (refine ⟨_, _, rfl, (News.get (by k_asm) (by k_mem)), rfl, Frag.In.keeps (by k_asm) (Fr.keep (by k_asm)), ?_⟩; (try dsimp only))))
  k_with "~getMethod type:tuple" => case' fr9 => ((k_here; refine' method_type ?F ?X ?m (by decide +kernel) ?e ?h ?_; (case F => k_asm); (case X => k_asm); (case m => exact meta_tuple'); (case e => k_dflt k_is); (case h => k_handed)))
  k_with "~subscriptTail" => case' fr9 => ((k_here; (with_reducible show wpAny _ _ (subscriptTail _ _ (Value.ref _) (Value.int 1 _)) _ _ _); k_dflt (refine' arityB_item1 ?F ?X (by walk_at "my_get") ?_; (case F => k_asm); (case X => k_asm))))
  k_with "~subscriptTail" => case' fr9 => ((k_here; (with_reducible show wpAny _ _ (subscriptTail _ _ (Value.ref _) (Value.int 0 _)) _ _ _); k_dflt (refine' arityB_item0 ?F ?X (by walk_at "my_get") ?_; (case F => k_asm); (case X => k_asm))))
  k_with "~call builtin:tuple.__getitem__" => case' fr9 => ((k_here; (with_reducible show wpAny _ _ (call _ [Value.ref _, Value.int 1 _]) _ _ _); k_dflt (refine' arityB_get1 ?F ?X (by walk_at "my_get") ?_; (case F => k_asm); (case X => k_asm))))
  k_with "~call builtin:tuple.__getitem__" => case' fr9 => ((k_here; (with_reducible show wpAny _ _ (call _ [Value.ref _, Value.int 0 _]) _ _ _); k_dflt (refine' arityB_get0 ?F ?X (by walk_at "my_get") ?_; (case F => k_asm); (case X => k_asm))))
  k_with "~wpAt" => case' fr9 => ((walk_at "my_whr"; ks_step "execs cons"; k_dflt (refine ks_wpAt_execs_cons ?_)))
  k_with "~wpAt" => case' fr9 => ((walk_at "my_whr"; ks_step "exec Expr"; k_dflt (refine ks_wpAt_Expr_any ?_)))
  k_with "~wpAt" => case' fr9 => ((walk_at "my_whr"; ks_step "eval Call"; k_dflt (refine ks_wpAt_MethodCall ?_)))
  k_with "~wpAt" => case' fr9 => ((walk_at "my_whr"; ks_step "exec If"; k_dflt (refine ks_wpAt_If ?_)))
  k_with "~wpAt" => case' fr9 => ((walk_at "my_whr"; ks_step "attributeBase Call"; k_here; k_dflt (refine ks_node (by k_asm) (by k_asm) (by k_asm) (by k_asm) (by k_is) (by rfl) (by rfl) (by k_inst) (by k_is) (by rfl) (by assumption) (by k_is) (by k_is) (by k_is) (by k_is) (by decide) (by rfl) (by rfl) (by rfl) (by rfl) (by assumption) (by first | boot_by_name | rfl | kernel_rfl) ?_; intro so' h' F' N' l1; (try k_lt l1))))
  k_with "~my_whr" => case' fr9 => ((with_reducible conv => whnf))
  k_with "~call ref" => case' fr9 => ((k_here; ks_any; k_dflt (refine' call_cls ?k1 ?k2 ?k3 ?k4 ?k5 ?k6 ?_; (case k1 => k_asm); (case k2 => k_asm); (case k3 => k_asm); (case k4 => k_is); (case k5 => k_is); (case k6 => k_is); intro x' d' h' F' N' l1 l2; (try k_lt l1); (try k_lt2 l2); walk_at "my_enterS")))
  k_with "~eval Call Attribute" => case' fr9 => ((k_here; (with_reducible show wpAny _ _ (eval (Expr.Call (Expr.Attribute _ _ _) [Expr.Starred _ _] (_ :: _) _) _) _ _ _); refine meth_starKw ?_))
  k_with "~callWith ref" => case' fr9 => ((k_here; (with_reducible show wpAny _ _ (callWith _ (Value.ref _) _ (backTo _ (starEach [Expr.Starred _ _] _)) (backToKw _ _)) _ _ _); k_dflt (refine' inst_starKw ?X ?I ?hd ?hall ?_; (case X => k_in); (case I => k_inst); (case hd => exact rfl); (case hall => exact rfl))))
  k_with "~my_m" => case' fr9 => (with_reducible first | exact List.mem_cons_self | (refine List.mem_cons_of_mem _ ?_; walk_at "my_m") | (refine List.mem_append.mpr (Or.inl ?_); walk_at "my_m") | (refine List.mem_append.mpr (Or.inr ?_); walk_at "my_m") | fail "my_m")
  k_with "~my_mt" => case' fr9 => (with_reducible first | assumption | (refine List.mem_cons_of_mem _ ?_; walk_at "my_mt") | (refine List.mem_append.mpr (Or.inl ?_); walk_at "my_mt") | (refine List.mem_append.mpr (Or.inr ?_); walk_at "my_mt") | fail "my_mt")
  k_with "~my_all" => case' fr9 => (with_reducible first | exact List.forall_mem_nil _ | exact fun _ hp => hp | exact fun _ hp => List.mem_append_right _ hp | (refine List.forall_mem_cons.mpr ⟨?_, ?_⟩; (focus walk_at "my_m"); walk_at "my_all") | (refine List.forall_mem_append.mpr ⟨?_, ?_⟩ <;> walk_at "my_all") | (intro p hp; walk_at "my_mt") | fail "my_all")
  k_with "~my_off" => case' fr9 => (first | exact off_in (by with_reducible assumption) (by with_reducible assumption) (by walk_at "my_m") (by walk_at "my_m") (by walk_at "my_m") (by walk_at "my_all") | exact True.intro | with_reducible assumption | exact off_tl (by with_reducible assumption) (by kcf_m) (by kcf_m) (by kcf_m) | exact off3_sub (by with_reducible assumption) (by kcf_all) | (refine off3_app ?_ ?_ <;> walk_at "my_off") | (refine And.intro ⟨by k_ne, by k_ne, by k_ne⟩ ?_; walk_at "my_off"))
  k_with "~CompEnd" => case' fr9 => ((k_here; k_dflt (refine' myCompEnd0 ?F ?N ?off ?src ?_; (case F => with_reducible assumption); (case N => with_reducible assumption); (case off => walk_at "my_off"); (case src => exact Or.inl (by assumption)))))
  k_with "~CompRest" => case' fr9 => ((with_unfolding_all (refine LCg.CompRest.succ ?_; intro v' I' oI' C' oC' D' m' h' tk' E' hv' hC' hx' F' N' off' ne'; lcg_open hv'; have offz' := off'; (try simp only [LCg.Off3, and_true] at off'))))
  k_with "~call ref" => case' fr9 => ((k_here; (with_reducible show wpAny _ _ (call (Value.ref _) [] []) _ _ _); k_dflt (refine' op_call0 (by with_reducible assumption) (by with_reducible assumption) (here0 ?B ?F ?X ?N ?T) ?hk ?hkd ?hd ?_; (case F => with_reducible assumption); (case N => with_reducible assumption); (case hkd => exact ⟨by walk_at "my_at", by walk_at "my_at", by walk_at "my_at", by walk_at "my_at"⟩); (case B => k_asm); (case X => k_asm); (case T => k_asm); (case hk => exact rfl); (case hd => k_room)); intro x9 d9 l9 ta9 tb9 tc9 td9 te9 tf9 tg9 th9 ti9 na9 nb9 h9 tks9 F9 N9 ne9; replace N9 := news_front N9; (try simp only [List.cons_append, List.nil_append] at N9); (try simp only [List.mem_cons, List.mem_singleton, List.not_mem_nil, or_false, forall_eq_or_imp, forall_eq] at ne9); (try dsimp only); (try k_fold)))
  k_with "~call ref" => case' fr9 => ((k_here; (with_reducible show wpAny _ _ (call (Value.ref _) [_] (List.zip _ _)) _ _ _); k_dflt (refine' op_call1 (by with_reducible assumption) (by with_reducible assumption) (here0 ?B ?F ?X ?N ?T) ?hk ?hkd ?hv ?hd ?_; (case F => with_reducible assumption); (case N => with_reducible assumption); (case hkd => exact ⟨by walk_at "my_at", by walk_at "my_at", by walk_at "my_at", by walk_at "my_at"⟩); (case hv => exact ExprIn.inTl (by with_reducible assumption) (by walk_at "my_all")); (case B => k_asm); (case X => k_asm); (case T => k_asm); (case hk => exact rfl); (case hd => k_room)); intro x9 d9 l9 ta9 tb9 tc9 td9 te9 tf9 tg9 th9 ti9 na9 nb9 h9 tks9 F9 N9 ne9; replace N9 := news_front N9; (try simp only [List.cons_append, List.nil_append] at N9); (try dsimp only); (try k_fold)))
  k_with "~call ref" => case' fr9 => ((k_here; (with_reducible show wpAny _ _ (call (Value.ref _) [_, _] (List.zip _ _)) _ _ _); k_dflt (refine' op_call2 (by with_reducible assumption) (by with_reducible assumption) (here0 ?B ?F ?X ?N ?T) ?hk ?hkd ?hv ?hu ?hd ?_; (case F => with_reducible assumption); (case N => with_reducible assumption); (case hkd => exact ⟨by walk_at "my_at", by walk_at "my_at", by walk_at "my_at", by walk_at "my_at"⟩); (case hv => exact ExprIn.inTl (by with_reducible assumption) (by walk_at "my_all")); (case hu => exact ExprIn.inTl (by with_reducible assumption) (by walk_at "my_all")); (case B => k_asm); (case X => k_asm); (case T => k_asm); (case hk => exact rfl); (case hd => k_room)); intro x9 d9 l9 ta9 tb9 tc9 td9 te9 tf9 tg9 th9 ti9 na9 nb9 h9 tks9 F9 N9 ne9; replace N9 := news_front N9; (try simp only [List.cons_append, List.nil_append] at N9); (try dsimp only); (try k_fold)))
  k_with "~call ref" => ((k_here; (with_reducible show wpAny _ _ (call (Value.ref 875) _) _ _ _); k_dflt (refine' make_use ?IH (here0 ?B ?F ?X ?N ?T) ?hk ?hnd ?hd ?_; (case F => with_reducible assumption); (case N => with_reducible assumption); (case B => k_asm); (case X => k_asm); (case T => k_asm); (case hk => exact rfl); (case hnd => exact NdIn.out (by assumption)); (case IH => assumption); (case hd => first | exact hd1 | exact hd2); k_whole); intro r9 tl9 h9 tks9 F9 N9 g9 e9; (try simp only [List.cons_append, List.nil_append] at N9 g9); (try dsimp only); (try k_fold)))
  trivial
theorem make_o1 {prog : Program} {w : World} {loose : List Str} {mean : ExcName → Option Value} {mg mb : Str → Option Value} (pf : ((prog.main.file : Str) == Str.ofString "/claim/cut.py") = true) (pt : (prog.main.scope.names.lookup (Str.ofString "super")).isSome = false) {kk : Bool} {t : Nd} (IH : MakeSpec prog w loose mean mg mb t) : MakeSpec prog w loose mean mg mb (.o1 kk t) := by
  intro dp un gd cn cs a ccd cl outer A₀ base h₀ L m rest s node Q E H hk hnd hd ret
  obtain ⟨B, F, X, N, T, off⟩ := H
  have N1 := subLed N
  cases hnd
  rename_i al ll tn nn nn2 vv hB hA hnv
  simp only [Nd.depth] at hd
  refine wpAny_call ?_
  k_dflt (refine' code_defG (binds := [(Str.ofString "node", .ref al)]) B F X N1 T ?kA ?kF ?kK ?k6 ?k7 ?k8 ?k9 ?kB ?_ ?c2 ?c3 ?c4 ?c5; (case kA => exact rfl); (case kF => exact rfl); (case kK => exact hk); (case k6 => k_is); (case k7 => k_is); (case k8 => k_room); (case k9 => exact BindsTo.of_eq rfl); (case c5 => decide); (case kB => exact locs rfl); (case c2 => exact rfl); (case c3 => exact rfl); (case c4 => exact rfl))
  intro g L' h1 FG F' N' B' X' T' kG
  have hR := grounded N off kG FG.keep
  have hT0 := hR _ _ hA
  have hL0 := hR _ _ hB
  have hT1 : g.IsTuple al _ := ⟨_, hT0, rfl, _, rfl⟩
  have hL1 : g.IsList ll _ := ⟨_, hL0, rfl, _, rfl⟩
  have hnv' : ∀ r, NdIn (At g r) vv t := fun r => hnv.mono (fun a o h => Or.inl (hR a o h))
  have hd1 : dp + 1 + t.depth + 12 < recursionLimit := by omega
  clear hd
  (try dsimp only); (try k_fold)
  k_steps
  · rename_i kF9 kN9 kT9 kX9
    exact ret _ _ _ _ kF9 (back (M' := []) N hR (by assumption) kN9) (ne_of hR (by assumption) fun p hp => hp) (.o1 (.head _) (.tail _ (.head _)) (.tail _ (.tail _ (.head _))) (ExprIn.sub (by assumption) (by walk_at "my_all")))
end mk
end secMake2
section secMake3
theorem rk21 : True := by
  k_with_none
  trivial
set_option maxHeartbeats 4000000
section mk
theorem rk22 : True := by
  k_with "~k_room" => case' fr9 => (((try simp only [depth_under_make, depth_under_kw, depth_in1, depth_deeper, depth_caller]); (try dsimp only [ktrTop]); omega))
  k_with "~k_mem" => case' fr9 => (with_reducible assumption)
  k_with "~my_at" => case' fr9 => (first | exact Or.inr (by with_reducible kcf_m) | exact Or.inl (by with_reducible assumption) | exact Or.inl (Fr.keep (by with_reducible assumption) _ _ (by with_reducible assumption)) | fail "my_at")
  k_with "~my_get" => case' fr9 => (first | exact News.get (by with_reducible assumption) (by with_reducible kcf_m) | exact Fr.keep (by with_reducible assumption) _ _ (by with_reducible assumption) | exact Fr.keep (by with_reducible assumption) _ _ (Fr.keep (by with_reducible assumption) _ _ (by with_reducible assumption)) | fail "my_get")
  k_with "~compareOp Eq str str" => case' fr9 => ((k_here; (with_reducible show wpAny _ _ (compareOp _ (Value.str (Nm.str _) _) (Value.str _ _)) _ _ _); refine eq_nm_ay ?_))
  k_with "~compareOp In str ref" => case' fr9 => ((k_here; (with_reducible show wpAny _ _ (compareOp _ (Value.str (Nm.str _) _) (Value.ref _)) _ _ _); k_dflt (refine in_nm (News.isList (by k_asm) (by k_mem)) ?_)))
  k_with "~my_enter" => case' fr9 => ((refine' code_def ?k1 ?k2 ?k3 ?k4 ?k5 ?kA ?kF ?kK ?k6 ?k7 ?k8 ?k9 ?kB ?_ ?c2 ?c3 ?c4 ?c5; (case kA => exact rfl); (case kF => exact rfl); (case kK => exact rfl); (case k1 => k_asm); (case k2 => k_asm); (case k3 => k_asm); (case k4 => k_asm); (case k5 => k_asm); (case k6 => k_is); (case k7 => k_is); (case k8 => k_room); (case k9 => first | exact BindsTo.of_eq rfl | exact binds_K (by k_in) rfl (by k_is) rfl rfl rfl); (case c5 => decide); (case kB => exact locs rfl); (case c2 => exact rfl); (case c3 => exact rfl); (case c4 => exact rfl); intro g' L' h' FG' F' N' B' X' T'; (try dsimp only); (try k_lift B'); (try k_fold)))
  k_with "~my_enterS" => case' fr9 => ((refine' ks_code_super ?k1 ?k2 ?k3 ?k4 ?k5 ?kA ?kF ?kK ?k6 ?k7 ?k8 ?k9 ?kB ?_ ?c1 ?c2 ?c3 ?c4; (case kA => exact rfl); (case kF => exact rfl); (case kK => exact rfl); (case k1 => k_asm); (case k2 => k_asm); (case k3 => k_asm); (case k4 => k_asm); (case k5 => k_asm); (case k6 => k_is); (case k7 => k_is); (case k8 => k_room); (case k9 => first | exact BindsTo.of_eq rfl | exact binds_K (by k_in) rfl (by k_is) rfl rfl rfl); (case kB => exact locs rfl); (case c1 => decide); (case c2 => exact rfl); (case c3 => exact rfl); (case c4 => exact rfl); intro g' L' h' FG' F' N' B' X' T' l1; (try k_lt l1); (try dsimp only); (try k_lift B')))
  k_with "~call ref" => case' fr9 => ((k_here; (with_reducible show wpAny _ _ (call (Value.ref 380) _) _ _ _); k_dflt (refine' arity_call ?F ?X ?_; (case F => k_asm); (case X => k_asm); intro tk'; walk_at "my_enter")))
  k_with "~call builtin:tuple.__new__" => case' fr9 => ((k_here; k_dflt (refine' arity_new ?F ?N ?X ?hm ?hc ?hd ?hsz ?_; (case F => k_asm); (case N => k_asm); (case X => k_asm); (case hm => k_mem); (case hc => exact rfl); (case hd => exact rfl); (case hsz => size_fits); intro x' d' h' F' N' l1 l2; (try k_lt l1); (try k_lt2 l2))))
  k_with "~NewBack" => case' fr9 => ((k_here; k_dflt (refine ⟨_, _, rfl, (News.get (by k_asm) (by k_mem)), rfl, Frag.In.keeps (by k_asm) (Fr.keep (by k_asm)), ?_⟩; (try dsimp only))))
  k_with "~getMethod type:tuple" => case' fr9 => ((k_here; refine' method_type ?F ?X ?m (by decide +kernel) ?e ?h ?_; (case F => k_asm); (case X => k_asm); (case m => exact meta_tuple'); (case e => k_dflt k_is); (case h => k_handed)))
  k_with "~subscriptTail" => case' fr9 => ((k_here; (with_reducible show wpAny _ _ (subscriptTail _ _ (Value.ref _) (Value.int 1 _)) _ _ _); k_dflt (refine' arityB_item1 ?F ?X (by walk_at "my_get") ?_; (case F => k_asm); (case X => k_asm))))
  k_with "~subscriptTail" => case' fr9 => ((k_here; (with_reducible show wpAny _ _ (subscriptTail _ _ (Value.ref _) (Value.int 0 _)) _ _ _); k_dflt (refine' arityB_item0 ?F ?X (by walk_at "my_get") ?_; (case F => k_asm); (case X => k_asm))))
  k_with "~call builtin:tuple.__getitem__" => case' fr9 => ((k_here; (with_reducible show wpAny _ _ (call _ [Value.ref _, Value.int 1 _]) _ _ _); k_dflt (refine' arityB_get1 ?F ?X (by walk_at "my_get") ?_; (case F => k_asm); (case X => k_asm))))
  k_with "~call builtin:tuple.__getitem__" => case' fr9 => ((k_here; (with_reducible show wpAny _ _ (call _ [Value.ref _, Value.int 0 _]) _ _ _); k_dflt (refine' arityB_get0 ?F ?X (by walk_at "my_get") ?_; (case F => k_asm); (case X => k_asm))))
  k_with "~wpAt" => case' fr9 => ((walk_at "my_whr"; ks_step "execs cons"; k_dflt (refine ks_wpAt_execs_cons ?_)))
  k_with "~wpAt" => case' fr9 => ((walk_at "my_whr"; ks_step "exec Expr"; k_dflt (refine ks_wpAt_Expr_any ?_)))
  k_with "~wpAt" => case' fr9 => ((walk_at "my_whr"; ks_step "eval Call"; k_dflt (refine ks_wpAt_MethodCall ?_)))
  k_with "~wpAt" => case' fr9 => ((walk_at "my_whr"; ks_step "exec If"; k_dflt (refine ks_wpAt_If ?_)))
  k_with "~wpAt" => case' fr9 => ((walk_at "my_whr"; ks_step "attributeBase Call"; k_here; k_dflt (refine ks_node (by k_asm) (by k_asm) (by k_asm) (by k_asm) (by k_is) (by rfl) (by rfl) (by k_inst) (by k_is) (by rfl) (by assumption) (by k_is) (by k_is) (by k_is) (by k_is) (by decide) (by rfl) (by rfl) (by rfl) (by rfl) (by assumption) (by first | boot_by_name | rfl | kernel_rfl) ?_; intro so' h' F' N' l1; (try k_lt l1))))
  k_with "~my_whr" => case' fr9 => ((with_reducible conv => whnf))
  k_with "~call ref" => case' fr9 => ((k_here; ks_any; k_dflt (refine' call_cls ?k1 ?k2 ?k3 ?k4 ?k5 ?k6 ?_; (case k1 => k_asm); (case k2 => k_asm); (case k3 => k_asm); (case k4 => k_is); (case k5 => k_is); (case k6 => k_is); intro x' d' h' F' N' l1 l2; (try k_lt l1); (try k_lt2 l2); walk_at "my_enterS")))
  k_with "~eval Call Attribute" => case' fr9 => ((k_here; (with_reducible show wpAny _ _ (eval (Expr.Call (Expr.Attribute _ _ _) [Expr.Starred _ _] (_ :: _) _) _) _ _ _); refine meth_starKw ?_))
  k_with "~callWith ref" => case' fr9 => ((k_here; (with_reducible show wpAny _ _ (callWith _ (Value.ref _) _ (backTo _ (starEach [Expr.Starred _ _] _)) (backToKw _ _)) _ _ _); k_dflt (refine' inst_starKw ?X ?I ?hd ?hall ?_; (case X => k_in); (case I => k_inst); (case hd => exact rfl); (case hall => exact rfl))))
  k_with "~my_m" => case' fr9 => (with_reducible first | exact List.mem_cons_self | (refine List.mem_cons_of_mem _ ?_; walk_at "my_m") | (refine List.mem_append.mpr (Or.inl ?_); walk_at "my_m") | (refine List.mem_append.mpr (Or.inr ?_); walk_at "my_m") | fail "my_m")
  k_with "~my_mt" => case' fr9 => (with_reducible first | assumption | (refine List.mem_cons_of_mem _ ?_; walk_at "my_mt") | (refine List.mem_append.mpr (Or.inl ?_); walk_at "my_mt") | (refine List.mem_append.mpr (Or.inr ?_); walk_at "my_mt") | fail "my_mt")
  k_with "~my_all" => case' fr9 => (with_reducible first | exact List.forall_mem_nil _ | exact fun _ hp => hp | exact fun _ hp => List.mem_append_right _ hp | (refine List.forall_mem_cons.mpr ⟨?_, ?_⟩; (focus walk_at "my_m"); walk_at "my_all") | (refine List.forall_mem_append.mpr ⟨?_, ?_⟩ <;> walk_at "my_all") | (intro p hp; walk_at "my_mt") | fail "my_all")
  k_with "~my_off" => case' fr9 => (first | exact off_in (by with_reducible assumption) (by with_reducible assumption) (by walk_at "my_m") (by walk_at "my_m") (by walk_at "my_m") (by walk_at "my_all") | exact True.intro | with_reducible assumption | exact off_tl (by with_reducible assumption) (by kcf_m) (by kcf_m) (by kcf_m) | exact off3_sub (by with_reducible assumption) (by kcf_all) | (refine off3_app ?_ ?_ <;> walk_at "my_off") | (refine And.intro ⟨by k_ne, by k_ne, by k_ne⟩ ?_; walk_at "my_off"))
  k_with "~CompEnd" => case' fr9 => ((k_here; k_dflt (refine' myCompEnd0 ?F ?N ?off ?src ?_; (case F => with_reducible assumption); (case N => k_asm); (case off => walk_at "my_off"); (case src => exact Or.inl (by assumption)))))
  k_with "~CompRest" => case' fr9 => ((with_unfolding_all (refine LCg.CompRest.succ ?_; intro v' I' oI' C' oC' D' m' h' tk' E' hv' hC' hx' F' N' off' ne'; lcg_open hv'; have offz' := off'; (try simp only [LCg.Off3, and_true] at off'))))
  k_with "~call ref" => case' fr9 => ((k_here; (with_reducible show wpAny _ _ (call (Value.ref _) [] []) _ _ _); k_dflt (refine' op_call0 (by with_reducible assumption) (by with_reducible assumption) (here0 ?B ?F ?X ?N ?T) ?hk ?hkd ?hd ?_; (case F => with_reducible assumption); (case N => with_reducible assumption); (case hkd => exact ⟨by walk_at "my_at", by walk_at "my_at", by walk_at "my_at", by walk_at "my_at"⟩); (case B => k_asm); (case X => k_asm); (case T => k_asm); (case hk => exact rfl); (case hd => k_room)); intro x9 d9 l9 ta9 tb9 tc9 td9 te9 tf9 tg9 th9 ti9 na9 nb9 h9 tks9 F9 N9 ne9; replace N9 := news_front N9; (try simp only [List.cons_append, List.nil_append] at N9); (try simp only [List.mem_cons, List.mem_singleton, List.not_mem_nil, or_false, forall_eq_or_imp, forall_eq] at ne9); (try dsimp only); (try k_fold)))
  k_with "~call ref" => case' fr9 => ((k_here; (with_reducible show wpAny _ _ (call (Value.ref _) [_] (List.zip _ _)) _ _ _); k_dflt (refine' op_call1 (by with_reducible assumption) (by with_reducible assumption) (here0 ?B ?F ?X ?N ?T) ?hk ?hkd ?hv ?hd ?_; (case F => with_reducible assumption); (case N => with_reducible assumption); (case hkd => exact ⟨by walk_at "my_at", by walk_at "my_at", by walk_at "my_at", by walk_at "my_at"⟩); (case hv => exact ExprIn.inTl (by with_reducible assumption) (by walk_at "my_all")); (case B => k_asm); (case X => k_asm); (case T => k_asm); (case hk => exact rfl); (case hd => k_room)); intro x9 d9 l9 ta9 tb9 tc9 td9 te9 tf9 tg9 th9 ti9 na9 nb9 h9 tks9 F9 N9 ne9; replace N9 := news_front N9; (try simp only [List.cons_append, List.nil_append] at N9); (try dsimp only); (try k_fold)))
  k_with "~call ref" => case' fr9 => ((k_here; (with_reducible show wpAny _ _ (call (Value.ref _) [_, _] (List.zip _ _)) _ _ _); k_dflt (refine' op_call2 (by with_reducible assumption) (by with_reducible assumption) (here0 ?B ?F ?X ?N ?T) ?hk ?hkd ?hv ?hu ?hd ?_; (case F => with_reducible assumption); (case N => with_reducible assumption); (case hkd => exact ⟨by walk_at "my_at", by walk_at "my_at", by walk_at "my_at", by walk_at "my_at"⟩); (case hv => exact ExprIn.inTl (by with_reducible assumption) (by walk_at "my_all")); (case hu => exact ExprIn.inTl (by with_reducible assumption) (by walk_at "my_all")); (case B => k_asm); (case X => k_asm); (case T => k_asm); (case hk => exact rfl); (case hd => k_room)); intro x9 d9 l9 ta9 tb9 tc9 td9 te9 tf9 tg9 th9 ti9 na9 nb9 h9 tks9 F9 N9 ne9; replace N9 := news_front N9; (try simp only [List.cons_append, List.nil_append] at N9); (try dsimp only); (try k_fold)))
  k_with "~call ref" => ((k_here; (with_reducible show wpAny _ _ (call (Value.ref 875) _) _ _ _); k_dflt (refine' make_use ?IH (here0 ?B ?F ?X ?N ?T) ?hk ?hnd ?hd ?_; (case F => with_reducible assumption); (case N => with_reducible assumption); (case B => k_asm); (case X => k_asm); (case T => k_asm); (case hk => exact rfl); (case hnd => exact NdIn.out (by assumption)); (case IH => assumption); (case hd => first | exact hd1 | exact hd2); k_whole); intro r9 tl9 h9 tks9 F9 N9 g9 e9; (try simp only [List.cons_append, List.nil_append] at N9 g9); (try dsimp only); (try k_fold)))
  trivial
theorem make_o2 {prog : Program} {w : World} {loose : List Str} {mean : ExcName → Option Value} {mg mb : Str → Option Value} (pf : ((prog.main.file : Str) == Str.ofString "/claim/cut.py") = true) (pt : (prog.main.scope.names.lookup (Str.ofString "super")).isSome = false) {kk : Bool} {t t2 : Nd} (IH : MakeSpec prog w loose mean mg mb t) (IH2 : MakeSpec prog w loose mean mg mb t2) : MakeSpec prog w loose mean mg mb (.o2 kk t t2) := by
  intro dp un gd cn cs a ccd cl outer A₀ base h₀ L m rest s node Q E H hk hnd hd ret
  obtain ⟨B, F, X, N, T, off⟩ := H
  have N1 := subLed N
  cases hnd
  rename_i al ll tn nn nn2 vv uu hB hA hnv hnu
  simp only [Nd.depth] at hd
  refine wpAny_call ?_
  k_dflt (refine' code_defG (binds := [(Str.ofString "node", .ref al)]) B F X N1 T ?kA ?kF ?kK ?k6 ?k7 ?k8 ?k9 ?kB ?_ ?c2 ?c3 ?c4 ?c5; (case kA => exact rfl); (case kF => exact rfl); (case kK => exact hk); (case k6 => k_is); (case k7 => k_is); (case k8 => k_room); (case k9 => exact BindsTo.of_eq rfl); (case c5 => decide); (case kB => exact locs rfl); (case c2 => exact rfl); (case c3 => exact rfl); (case c4 => exact rfl))
  intro g L' h1 FG F' N' B' X' T' kG
  have hR := grounded N off kG FG.keep
  have hT0 := hR _ _ hA
  have hL0 := hR _ _ hB
  have hT1 : g.IsTuple al _ := ⟨_, hT0, rfl, _, rfl⟩
  have hL1 : g.IsList ll _ := ⟨_, hL0, rfl, _, rfl⟩
  have hnv' : ∀ r, NdIn (At g r) vv t := fun r => hnv.mono (fun a o h => Or.inl (hR a o h))
  have hnu' : ∀ r, NdIn (At g r) uu t2 := fun r => hnu.mono (fun a o h => Or.inl (hR a o h))
  have hd1 : dp + 1 + t.depth + 12 < recursionLimit := by omega
  have hd2 : dp + 1 + t2.depth + 12 < recursionLimit := by omega
  clear hd
  (try dsimp only); (try k_fold)
  k_steps
  · rename_i kF9 kN9 kT9 kX9
    exact ret _ _ _ _ kF9 (back (M' := []) N hR (by assumption) kN9) (ne_of hR (by assumption) fun p hp => hp) (.o2 (.head _) (.tail _ (.head _)) (.tail _ (.tail _ (.head _))) (ExprIn.sub (by assumption) (by walk_at "my_all")) (ExprIn.sub (by assumption) (by walk_at "my_all")))
end mk
end secMake3
section secMake4
theorem rk23 : True := by
  k_with_none
  trivial
theorem make_all {prog : Program} {w : World} {loose : List Str} {mean : ExcName → Option Value} {mg mb : Str → Option Value} (pf : ((prog.main.file : Str) == Str.ofString "/claim/cut.py") = true) (pt : (prog.main.scope.names.lookup (Str.ofString "super")).isSome = false) :
    ∀ T : Nd, MakeSpec prog w loose mean mg mb T
  | .s (.v _) => make_v pf pt
  | .s .ay => make_ay pf pt
  | .s .a => make_a pf pt
  | .s .b => make_b pf pt
  | .o1 _ p => make_o1 pf pt (make_all pf pt p)
  | .o2 _ p q => make_o2 pf pt (make_all pf pt p) (make_all pf pt q)
end secMake4
section secRead1
set_option maxHeartbeats 4000000
/-- _law_read: the project's object, written as the law writes trees -/
noncomputable def ReadSpec (prog : Program) (w : World) (loose : List Str) (mean : ExcName → Option Value) (mg mb : Str → Option Value) (T : Nd) : Prop :=
  ∀ (dp un : Nat) (gd : Option (List Code)) (cn : Str) (cs : Scope) (a : Addr) (ccd : Value) (cl : List (Str × Addr)) (outer : List Env) (A₀ : Around) (base h₀ : Heap) (L : Addr) (m : Str → Option Value) (rest : Led) (s : Shared) (ex : Value) (Q E : Value → Shared → Prop),
    Here w.params loose mean mg mb A₀ base h₀ outer L m [] rest s.heap → cs.kind = .function → ExprIn w.params (At h₀ rest) ex T → dp + T.depth + 4 < recursionLimit →
    (∀ r tl' h' tks, Fr h₀ L h' m → News h₀ L h' ([] ++ (rest ++ tl')) → (∀ q ∈ rest, ∀ p ∈ tl', @Ne Nat p.1 q.1) → NdIn (InL tl') r T → Q r { s with heap := h', toks := tks }) →
    wpAny (model prog w) (ktrTop dp un gd cn cs L a ccd cl outer) (call (.ref 880) [ex]) Q E s
section
variable {prog : Program} {w : World} {loose : List Str} {mean : ExcName → Option Value} {mg mb : Str → Option Value}
theorem read_use {T : Nd} (IH : ReadSpec prog w loose mean mg mb T) {dp un : Nat} {gd : Option (List Code)} {cn : Str} {cs : Scope} {a : Addr} {ccd : Value} {cl : List (Str × Addr)} {outer : List Env} {A₀ : Around} {base h₀ : Heap} {L : Addr} {m : Str → Option Value} {rest : Led} {s : Shared} {ex : Value} {Q E : Value → Shared → Prop}
    (H : Here w.params loose mean mg mb A₀ base h₀ outer L m [] rest s.heap) (hk : cs.kind = .function) (hnd : ExprIn w.params (At h₀ rest) ex T) (hd : dp + T.depth + 4 < recursionLimit)
    (ret : ∀ r tl' h' tks, Fr h₀ L h' m → News h₀ L h' (rest ++ tl') → (∀ q ∈ rest, ∀ p ∈ tl', @Ne Nat p.1 q.1) → NdIn (InL tl') r T → Q r { s with heap := h', toks := tks }) :
    wpAny (model prog w) (ktrTop dp un gd cn cs L a ccd cl outer) (call (.ref 880) [ex]) Q E s :=
  IH _ _ _ _ _ _ _ _ _ _ _ _ _ _ _ _ _ _ _ H hk hnd hd ret
end
theorem NdIn.sub {tl r : Led} {v : Value} {T : Nd} (x : NdIn (InL tl) v T) (h : ∀ p ∈ tl, p ∈ r) : NdIn (InL r) v T := x.mono fun _ _ hm => h _ hm
section rd
theorem rk24 : True := by
  k_with "~k_room" => case' fr9 => (((try simp only [depth_under_make, depth_under_kw, depth_in1, depth_deeper, depth_caller]); (try dsimp only [ktrTop]); omega))
  k_with "~k_mem" => case' fr9 => (with_reducible assumption)
  k_with "~k_inst" => case' fr9 => (first | exact inst_get (Fr.keep (by with_reducible assumption) _ _ (by with_reducible assumption)) (Fr.keep (by with_reducible assumption) _ _ (by with_reducible assumption)) | fail "my_inst")
  k_with "~my_m" => case' fr9 => (with_reducible first | exact List.mem_cons_self | (refine List.mem_cons_of_mem _ ?_; walk_at "my_m") | (refine List.mem_append.mpr (Or.inl ?_); walk_at "my_m") | (refine List.mem_append.mpr (Or.inr ?_); walk_at "my_m") | fail "my_m")
  k_with "~my_mt" => case' fr9 => (with_reducible first | assumption | (refine List.mem_cons_of_mem _ ?_; walk_at "my_mt") | (refine List.mem_append.mpr (Or.inl ?_); walk_at "my_mt") | (refine List.mem_append.mpr (Or.inr ?_); walk_at "my_mt") | fail "my_mt")
  k_with "~my_all" => case' fr9 => (with_reducible first | exact List.forall_mem_nil _ | exact fun _ hp => hp | exact fun _ hp => List.mem_append_right _ hp | (refine List.forall_mem_cons.mpr ⟨?_, ?_⟩; (focus walk_at "my_m"); walk_at "my_all") | (refine List.forall_mem_append.mpr ⟨?_, ?_⟩ <;> walk_at "my_all") | (intro p hp; walk_at "my_mt") | fail "my_all")
  k_with "~my_off" => case' fr9 => (first | exact off_in (by with_reducible assumption) (by with_reducible assumption) (by walk_at "my_m") (by walk_at "my_m") (by walk_at "my_m") (by walk_at "my_all") | exact True.intro | with_reducible assumption | exact off_tl (by with_reducible assumption) (by kcf_m) (by kcf_m) (by kcf_m) | exact off3_sub (by with_reducible assumption) (by kcf_all) | (refine off3_app ?_ ?_ <;> walk_at "my_off") | (refine And.intro ⟨by k_ne, by k_ne, by k_ne⟩ ?_; walk_at "my_off"))
  k_with "~CompEnd" => case' fr9 => ((k_here; k_dflt (refine' myCompEnd0 ?F ?N ?off ?src ?_; (case F => with_reducible assumption); (case N => k_asm); (case off => walk_at "my_off"); (case src => exact Or.inl (by assumption)))))
  k_with "~CompRest" => case' fr9 => ((with_unfolding_all (refine LCg.CompRest.succ ?_; intro v' I' oI' C' oC' D' m' h' tk' E' hv' hC' hx' F' N' off' ne'; lcg_open hv'; have offz' := off'; (try simp only [LCg.Off3, and_true] at off'))))
  k_with "~call ref" => ((k_here; (with_reducible show wpAny _ _ (call (Value.ref 880) _) _ _ _); k_dflt (refine' read_use ?IH (here0 ?B ?F ?X ?N ?T) ?hk ?hnd ?hd ?_; (case F => with_reducible assumption); (case N => with_reducible assumption); (case B => k_asm); (case X => k_asm); (case T => k_asm); (case hk => exact rfl); (case hnd => exact ExprIn.here (by with_reducible assumption)); (case IH => assumption); (case hd => first | exact hd1 | exact hd2); k_whole); intro r9 tl9 h9 tks9 F9 N9 g9 e9; (try simp only [List.cons_append, List.nil_append] at N9 g9); (try dsimp only); (try k_fold)))
  trivial
theorem read_a {prog : Program} {w : World} {loose : List Str} {mean : ExcName → Option Value} {mg mb : Str → Option Value} : ReadSpec prog w loose mean mg mb (.s .a) := by
  intro dp un gd cn cs a ccd cl outer A₀ base h₀ L m rest s ex Q E H hk hnd hd ret
  obtain ⟨B, F, X, N, T, off⟩ := H
  have N1 := subLed N
  simp only [Nd.depth] at hd
  cases hnd
  rename_i xx dd t1 t2 t3 n hdd hx
  refine wpAny_call ?_
  k_dflt (refine' code_defG (binds := [(Str.ofString "expression", .ref xx)]) B F X N1 T ?kA ?kF ?kK ?k6 ?k7 ?k8 ?k9 ?kB ?_ ?c2 ?c3 ?c4 ?c5; (case kA => exact rfl); (case kF => exact rfl); (case kK => exact hk); (case k6 => k_is); (case k7 => k_is); (case k8 => k_room); (case k9 => exact BindsTo.of_eq rfl); (case c5 => decide); (case kB => exact locs rfl); (case c2 => exact rfl); (case c3 => exact rfl); (case c4 => exact rfl))
  intro g L' h1 FG F' N' B' X' T' kG
  have hR := grounded N off kG FG.keep
  have hx1 : g.get? xx = some (instObj _ dd) := hR _ _ (by assumption)
  have hx2 : g.get? dd = some (dictOf _ _) := hR _ _ (by assumption)
  clear hd
  (try dsimp only); (try k_fold)
  k_steps

  · exact ret _ [] _ _ (by assumption) (back (M' := []) (tl := []) N hR (by assumption) (by assumption)) (fun _ _ _ h => nomatch h) (.s (l := .a))
theorem read_b {prog : Program} {w : World} {loose : List Str} {mean : ExcName → Option Value} {mg mb : Str → Option Value} : ReadSpec prog w loose mean mg mb (.s .b) := by
  intro dp un gd cn cs a ccd cl outer A₀ base h₀ L m rest s ex Q E H hk hnd hd ret
  obtain ⟨B, F, X, N, T, off⟩ := H
  have N1 := subLed N
  simp only [Nd.depth] at hd
  cases hnd
  rename_i xx dd t1 t2 t3 n hdd hx
  refine wpAny_call ?_
  k_dflt (refine' code_defG (binds := [(Str.ofString "expression", .ref xx)]) B F X N1 T ?kA ?kF ?kK ?k6 ?k7 ?k8 ?k9 ?kB ?_ ?c2 ?c3 ?c4 ?c5; (case kA => exact rfl); (case kF => exact rfl); (case kK => exact hk); (case k6 => k_is); (case k7 => k_is); (case k8 => k_room); (case k9 => exact BindsTo.of_eq rfl); (case c5 => decide); (case kB => exact locs rfl); (case c2 => exact rfl); (case c3 => exact rfl); (case c4 => exact rfl))
  intro g L' h1 FG F' N' B' X' T' kG
  have hR := grounded N off kG FG.keep
  have hx1 : g.get? xx = some (instObj _ dd) := hR _ _ (by assumption)
  have hx2 : g.get? dd = some (dictOf _ _) := hR _ _ (by assumption)
  clear hd
  (try dsimp only); (try k_fold)
  k_steps

  · exact ret _ [] _ _ (by assumption) (back (M' := []) (tl := []) N hR (by assumption) (by assumption)) (fun _ _ _ h => nomatch h) (.s (l := .b))
theorem read_o1 {prog : Program} {w : World} {loose : List Str} {mean : ExcName → Option Value} {mg mb : Str → Option Value} {kk : Bool} {t : Nd} (IH : ReadSpec prog w loose mean mg mb t) : ReadSpec prog w loose mean mg mb (.o1 kk t) := by
  intro dp un gd cn cs a ccd cl outer A₀ base h₀ L m rest s ex Q E H hk hnd hd ret
  obtain ⟨B, F, X, N, T, off⟩ := H
  have N1 := subLed N
  simp only [Nd.depth] at hd
  cases hnd
  rename_i xx dd kd ar ll k1 k2 k3 k4 k5 k6 k7 k8 k9 n n2 vv hx hdd hl hv
  refine wpAny_call ?_
  k_dflt (refine' code_defG (binds := [(Str.ofString "expression", .ref xx)]) B F X N1 T ?kA ?kF ?kK ?k6 ?k7 ?k8 ?k9 ?kB ?_ ?c2 ?c3 ?c4 ?c5; (case kA => exact rfl); (case kF => exact rfl); (case kK => exact hk); (case k6 => k_is); (case k7 => k_is); (case k8 => k_room); (case k9 => exact BindsTo.of_eq rfl); (case c5 => decide); (case kB => exact locs rfl); (case c2 => exact rfl); (case c3 => exact rfl); (case c4 => exact rfl))
  intro g L' h1 FG F' N' B' X' T' kG
  have hR := grounded N off kG FG.keep
  have hx1 : g.get? xx = some (instObj _ dd) := hR _ _ (by assumption)
  have hx2 : g.get? dd = some (dictOf _ _) := hR _ _ (by assumption)
  have hl1 : g.get? ll = some (lstOf [vv] _) := hR _ _ (by assumption)
  have hL1 : g.IsList ll _ := ⟨_, hl1, rfl, _, rfl⟩
  have hv' : ∀ r, ExprIn w.params (At g r) vv t := fun r => hv.mono (fun a o h => Or.inl (hR a o h))
  have hd1 : dp + 1 + t.depth + 4 < recursionLimit := by omega
  clear hd
  (try dsimp only); (try k_fold)
  k_steps

  · rename_i kF9 kN9 kT9 kX9
    exact ret _ _ _ _ kF9 (back (M' := []) N hR (by assumption) kN9) (ne_of hR (by assumption) fun p hp => hp) (.o1 (.head _) (.tail _ (.head _)) (NdIn.sub (by assumption) (by walk_at "my_all")))
theorem read_o2 {prog : Program} {w : World} {loose : List Str} {mean : ExcName → Option Value} {mg mb : Str → Option Value} {kk : Bool} {t t2 : Nd} (IH : ReadSpec prog w loose mean mg mb t) (IH2 : ReadSpec prog w loose mean mg mb t2) : ReadSpec prog w loose mean mg mb (.o2 kk t t2) := by
  intro dp un gd cn cs a ccd cl outer A₀ base h₀ L m rest s ex Q E H hk hnd hd ret
  obtain ⟨B, F, X, N, T, off⟩ := H
  have N1 := subLed N
  simp only [Nd.depth] at hd
  cases hnd
  rename_i xx dd kd ar ll k1 k2 k3 k4 k5 k6 k7 k8 k9 n n2 vv uu hx hdd hl hv hu
  refine wpAny_call ?_
  k_dflt (refine' code_defG (binds := [(Str.ofString "expression", .ref xx)]) B F X N1 T ?kA ?kF ?kK ?k6 ?k7 ?k8 ?k9 ?kB ?_ ?c2 ?c3 ?c4 ?c5; (case kA => exact rfl); (case kF => exact rfl); (case kK => exact hk); (case k6 => k_is); (case k7 => k_is); (case k8 => k_room); (case k9 => exact BindsTo.of_eq rfl); (case c5 => decide); (case kB => exact locs rfl); (case c2 => exact rfl); (case c3 => exact rfl); (case c4 => exact rfl))
  intro g L' h1 FG F' N' B' X' T' kG
  have hR := grounded N off kG FG.keep
  have hx1 : g.get? xx = some (instObj _ dd) := hR _ _ (by assumption)
  have hx2 : g.get? dd = some (dictOf _ _) := hR _ _ (by assumption)
  have hl1 : g.get? ll = some (lstOf [vv, uu] _) := hR _ _ (by assumption)
  have hL1 : g.IsList ll _ := ⟨_, hl1, rfl, _, rfl⟩
  have hv' : ∀ r, ExprIn w.params (At g r) vv t := fun r => hv.mono (fun a o h => Or.inl (hR a o h))
  have hd1 : dp + 1 + t.depth + 4 < recursionLimit := by omega
  have hu' : ∀ r, ExprIn w.params (At g r) uu t2 := fun r => hu.mono (fun a o h => Or.inl (hR a o h))
  have hd2 : dp + 1 + t2.depth + 4 < recursionLimit := by omega
  clear hd
  (try dsimp only); (try k_fold)
  k_steps

  · rename_i kF9 kN9 kT9 kX9
    exact ret _ _ _ _ kF9 (back (M' := []) N hR (by assumption) kN9) (ne_of hR (by assumption) fun p hp => hp) (.o2 (.head _) (.tail _ (.head _)) (NdIn.sub (by assumption) (by walk_at "my_all")) (NdIn.sub (by assumption) (by walk_at "my_all")))
end rd
end secRead1
section secNe
section
variable {prog : Program} {w : World} {A : Around} {E : Value → Shared → Prop} {s : Shared} {K : Frag} {x y C D f f' : Addr} {ox oy : Obj} {od od' : Option Obj} {b : Value}
theorem rk25 : True := by
  k_with_none
  trivial
/-- a special that a builtin serves, found on an object of a user's class -/
theorem ifBound_B {M : Model} {args : List Value} {name : Str} {id : String} {Q : Option Value → Shared → Prop} (X : K.In s.heap) (I : InstAt s.heap x ox C od) (hs : findIn K (.ref C) name = some (some (.builtin id))) (hb : ∀ self, bindSpecial (.builtin id) self = pure (.builtin id, [self]))
    (h : wpAny M A (call (.builtin id) (.ref x :: args)) (fun v => Q (some v)) E s) : wpAny M A (callSpecialIfBound? (.ref x) name args) Q E s := by
  simp only [callSpecialIfBound?, bindSpecialIfBound?]
  refine wpAny_holding (wpAny_bind (wpAny_bind (wpAny_bind (I.type.here ((looks_findIn X hs).here ?_)))))
  refine wpAny_bind (wpAny_askSetting (wpAny_ite ?_))
  have fin : wpAny M A (call (.builtin id) ([.ref x] ++ args) >>= fun v => pure (some v)) Q E s := wpAny_bind (wpAny_mono h (fun v s' h' => wpAny_pure h') fun _ _ h' => h')
  split
  · exact wpAny_bind ((Looks.of_pure (hb _)).here (wpAny_pure (by exact fin)))
  · exact wpAny_tryCatch (wpAny_bind ((Looks.of_pure (hb _)).here (wpAny_pure (by exact fin))))
theorem inst_keeps {h h' : Heap} (J : InstAt h y oy D od') (k : ∀ b o, h.get? b = some o → h'.get? b = some o) : InstAt h' y oy D od' := by
  refine ⟨k _ _ J.at_, J.cls, J.no, ?_⟩
  have d := J.dict
  revert d
  cases oy.dict <;> cases od' <;> intro d <;> first | exact d | exact k _ _ d
/-- what `__eq__` told, turned -/
noncomputable def NeBack (Q : Value → Shared → Prop) (v : Value) (s' : Shared) : Prop := (v = .notImplemented ∧ Q .notImplemented s') ∨ ∃ c, v = .bool c ∧ Q (.bool (!c)) s'
open Builtin in
theorem objNe_K {Q : Value → Shared → Prop} (hu : A.in1.units < cLine) (X : K.In s.heap) (I : InstAt s.heap x ox C od) (hm : mroIn K C (.type "object") = some true) (he : findIn K (.ref C) "__eq__" = some (some (.ref f))) (hf : isFn K (.ref f) = true)
    (h : wpAny (model prog w) A.in1 (call (.ref f) [.ref x, b]) (NeBack Q) E s) : wpAny (model prog w) A (call (.builtin "object.__ne__") [.ref x, b]) Q E s := by
  refine wpAny_call (codeAny_call_builtin PySem.F.cmp_object.ne.plain PySem.F.cmpEntry_ne (check_slot (i := "object.__ne__") (owner := "object") (n := "__ne__") PySem.F.cmpKind_ne PySem.F.cmpSplit_ne (I.type.andThen (looks_mroIn X hm)) (PySem.F.cmpArgs_ne _ _) ?_))
  unfold Builtin.«object.__ne__»
  refine wpAny_bind (m := slotArgs "__ne__" 1 _) (wpAny_pure ?_)
  refine wpAny_bind (m := cRoomFor _ _) (wpAny_cRoomFor hu ?_)
  refine wpAny_bind (m := callSpecialIfBound? (.ref x) (Str.ofString "__eq__") _) (ifBound_K X I he hf (wpAny_mono h (fun r s' hq => ?_) fun _ _ y => y))
  rcases hq with ⟨rfl, hq⟩ | ⟨c, rfl, hq⟩
  · exact wpAny_pure hq
  · exact wpAny_bind (m := truthy (.bool c)) (wpAny_truthy_bool (wpAny_pure hq))
theorem tryNe_K {Q : Option Value → Shared → Prop} (hu : A.in1.units < cLine) (X : K.In s.heap) (I : InstAt s.heap x ox C od) (hm : mroIn K C (.type "object") = some true) (hn : findIn K (.ref C) "__ne__" = some (some (.builtin "object.__ne__"))) (he : findIn K (.ref C) "__eq__" = some (some (.ref f))) (hf : isFn K (.ref f) = true)
    (h : wpAny (model prog w) A.in1 (call (.ref f) [.ref x, b]) (fun v s' => (v = .notImplemented ∧ Q none s') ∨ ∃ c, v = .bool c ∧ Q (some (.bool (!c))) s') E s) : wpAny (model prog w) A (tryCompare (.ref x) "__ne__" b) Q E s := by
  unfold tryCompare
  refine wpAny_bind (ifBound_B X I hn (fun self => PySem.F.cmp_object.ne.bind self) (objNe_K hu X I hm he hf (wpAny_mono h (fun v s' hv => ?_) fun _ _ e => e)))
  rcases hv with ⟨rfl, hq⟩ | ⟨c, rfl, hq⟩
  · exact .inl ⟨rfl, wpAny_pure hq⟩
  · exact .inr ⟨c, rfl, wpAny_pure hq⟩
/-- x != y: `__eq__` of both asked, then the identity -/
theorem ne_K {Q : Value → Shared → Prop} (hu : A.in1.units < cLine) (X : K.In s.heap) (I : InstAt s.heap x ox C od) (J : InstAt s.heap y oy D od') (hc : notFirst K C (.ref D) = true) (hm : mroIn K C (.type "object") = some true) (hn : findIn K (.ref C) "__ne__" = some (some (.builtin "object.__ne__"))) (he : findIn K (.ref C) "__eq__" = some (some (.ref f))) (hf : isFn K (.ref f) = true)
    (hm' : mroIn K D (.type "object") = some true) (hn' : findIn K (.ref D) "__ne__" = some (some (.builtin "object.__ne__"))) (he' : findIn K (.ref D) "__eq__" = some (some (.ref f'))) (hf' : isFn K (.ref f') = true)
    (h : wpAny (model prog w) A.in1 (call (.ref f) [.ref x, .ref y]) (fun v s' => (v = .notImplemented ∧ x ≠ y ∧ (∀ b o, s.heap.get? b = some o → s'.heap.get? b = some o) ∧
      wpAny (model prog w) A.in1 (call (.ref f') [.ref y, .ref x]) (fun v s' => (v = .notImplemented ∧ (∀ b o, s.heap.get? b = some o → s'.heap.get? b = some o) ∧ Q (.bool true) s') ∨ ∃ c, v = .bool c ∧ Q (.bool (!c)) s') E s') ∨ ∃ c, v = .bool c ∧ Q (.bool (!c)) s') E s) :
    wpAny (model prog w) A (compareOp .NotEq (.ref x) (.ref y)) Q E s := by
  refine cmp_ofNotEq ?_
  unfold richCompare
  simp only [oneThing_ref]
  refine wpAny_holding (wpAny_bind (wpAny_cRoomFor (Nat.lt_of_succ_lt hu) ?_))
  refine wpAny_bind (I.type.here (wpAny_bind (J.type.here ?_)))
  have same : ∀ s' : Shared, (∀ b o, s.heap.get? b = some o → s'.heap.get? b = some o) → x ≠ y → Q (.bool true) s' → wpAny (model prog w) A (isSame (.ref x) (.ref y) >>= fun r => pure (Value.bool (!r))) Q E s' := by
    intro s' k hxy hq
    unfold isSame
    have e : (x == y) = false := by simpa using hxy
    simp only [e, Bool.false_eq_true, if_false]
    refine wpAny_bind (wpAny_bind (wpAny_load (k _ _ I.at_) (wpAny_bind (wpAny_load (k _ _ J.at_) ?_))))
    have hcx := I.cls
    rw [hcx]
    exact wpAny_pure (wpAny_pure hq)
  have fin : wpAny (model prog w) A (tryCompare (.ref x) "__ne__" (.ref y)) (fun r s' => (r = none ∧ x ≠ y ∧ (∀ b o, s.heap.get? b = some o → s'.heap.get? b = some o) ∧
      wpAny (model prog w) A (tryCompare (.ref y) "__ne__" (.ref x)) (fun r s' => (r = none ∧ (∀ b o, s.heap.get? b = some o → s'.heap.get? b = some o) ∧ Q (.bool true) s') ∨ ∃ v, r = some v ∧ Q v s') E s') ∨ ∃ v, r = some v ∧ Q v s') E s := by
    refine tryNe_K hu X I hm hn he hf (wpAny_mono h (fun v s' hv => ?_) fun _ _ e => e)
    rcases hv with ⟨rfl, hxy, k, hq⟩ | ⟨c, rfl, hq⟩
    · refine .inl ⟨rfl, .inl ⟨rfl, hxy, k, tryNe_K hu (X.keeps k) (inst_keeps J k) hm' hn' he' hf' (wpAny_mono hq (fun v s'' hv => ?_) fun _ _ e => e)⟩⟩
      rcases hv with ⟨rfl, k', hq⟩ | ⟨c, rfl, hq⟩
      · exact .inl ⟨rfl, .inl ⟨rfl, k', hq⟩⟩
      · exact .inr ⟨c, rfl, .inr ⟨_, rfl, hq⟩⟩
    · exact .inr ⟨c, rfl, .inr ⟨_, rfl, hq⟩⟩
  have tail : wpAny (model prog w) A (tryCompare (.ref x) "__ne__" (.ref y)) (fun r s' => (r = none ∧ wpAny (model prog w) A (tryCompare (.ref y) "__ne__" (.ref x)) (fun r s' => (r = none ∧ wpAny (model prog w) A (isSame (.ref x) (.ref y) >>= fun r => pure (Value.bool (!r))) Q E s') ∨ ∃ v, r = some v ∧ Q v s') E s') ∨ ∃ v, r = some v ∧ Q v s') E s := by
    refine wpAny_mono fin (fun r s' hr => ?_) fun _ _ e => e
    rcases hr with ⟨rfl, hxy, k, hq⟩ | ⟨v, rfl, hq⟩
    · refine .inl ⟨rfl, wpAny_mono hq (fun r s'' hr => ?_) fun _ _ e => e⟩
      rcases hr with ⟨rfl, k', hq⟩ | ⟨v, rfl, hq⟩
      · exact .inl ⟨rfl, same s'' k' hxy hq⟩
      · exact .inr ⟨v, rfl, hq⟩
    · exact .inr ⟨v, rfl, hq⟩
  split
  · rename_i q
    have e : subIn K (.ref D) (.ref C) = some false := by
      rcases Bool.or_eq_true_iff.mp hc with e | e
      · rw [beq_iff_eq.mp e] at q; simp at q
      · exact beq_iff_eq.mp e
    refine wpAny_bind ((looks_subIn X e).here ?_)
    simp only [Bool.false_eq_true, if_false, Bool.not_false, if_true]
    refine wpAny_bind (wpAny_mono tail (fun r s' hr => ?_) fun _ _ e => e)
    rcases hr with ⟨rfl, hq⟩ | ⟨v, rfl, hq⟩
    · refine wpAny_bind (wpAny_mono hq (fun r s'' hr => ?_) fun _ _ e => e)
      rcases hr with ⟨rfl, hq⟩ | ⟨v, rfl, hq⟩
      · first | exact hq | exact wpAny_bind (wpAny_pure hq)
      · exact wpAny_pure hq
    · exact wpAny_pure hq
  · refine wpAny_bind (wpAny_pure ?_)
    simp only [Bool.false_eq_true, if_false, Bool.not_false, if_true]
    refine wpAny_bind (wpAny_mono tail (fun r s' hr => ?_) fun _ _ e => e)
    rcases hr with ⟨rfl, hq⟩ | ⟨v, rfl, hq⟩
    · refine wpAny_bind (wpAny_mono hq (fun r s'' hr => ?_) fun _ _ e => e)
      rcases hr with ⟨rfl, hq⟩ | ⟨v, rfl, hq⟩
      · first | exact hq | exact wpAny_bind (wpAny_pure hq)
      · exact wpAny_pure hq
    · exact wpAny_pure hq
end
end secNe
section secEq1
set_option maxHeartbeats 4000000
section
variable {prog : Program} {w : World} {A : Around} {s : Shared} {K : Frag} {L : Addr} {h₀ : Heap} {m mg mb : Str → Option Value} {p : Program} {loose : List Str} {mean : ExcName → Option Value}
/-- a def is entered whatever frames stand: all that stands is the ground -/
theorem plainG {R : Result → Shared → Prop} {name qual : Str} {params : Arguments} {body : List Stmt} {scope : Scope} {dV kV doc pm cdv ct oc : Value} {an od : Option Addr} {osl : Array (Option Value)} {f : Addr} {args : Args} {binds : List (Str × Value)}
    (F : Fr h₀ L s.heap m) (X₀ : K.In h₀) (T : Top p loose mean mg mb h₀)
    (ho : K.lookup f = some ⟨oc, od, .func (fnOf name qual params body scope dV kV doc pm an cdv ct), osl⟩) (hcd : codeIn K cdv qual = true) (hroom : A.depth < recursionLimit)
    (hbind : BindsTo s (fnOf name qual params body scope dV kV doc pm an cdv ct) args binds) (hloc : ∀ y ∈ binds, scope.names.lookup y.1 = some .local)
    (h : ∀ L' h₁, Fr s.heap L' h₁ (fun y => binds.reverse.lookup y) → News s.heap L' h₁ [] → K.In s.heap → Top p loose mean mg mb s.heap →
      wpAny (model prog w) (A.deeper (envOf qual scope L' f cdv)) (execs body (envOf qual scope L' f cdv))
        (fun fl s' => R (.ok (.ret (match fl with | .ret v => v | _ => .none))) s')
        (fun e s' => wpAny (model prog w) (A.deeper (envOf qual scope L' f cdv)) («leaving» (envOf qual scope L' f cdv) e) (fun _ s'' => R (.error e) s'') (fun e' s'' => R (.error e') s'') s')
        { s with heap := h₁, toks := s.toks + binds.length })
    (hco : scope.isCoroutine = false) (hgen : scope.isGenerator = false) (hk : scope.kind = .function)
    (hcell : ∀ x ∈ scope.names, x.2 ≠ .cell) : codeAny (model prog w) A (.call (.ref f) args) R s :=
  codeAny_call_def (fd := fnX name qual params body scope [] dV kV doc pm an cdv ct) (body := body) (binds := binds) hroom ((X₀.keeps F.keep) _ _ ho) rfl (T.nolimit.keeps F.keep) (codeRec_of (X₀.keeps F.keep) hcd) rfl hbind hcell hloc
    (fun h₁ hns hk₁ => h s.heap.objs.size h₁ ⟨hns, hk₁, Nat.le_refl _⟩ (fun _ h => nomatch h) (X₀.keeps F.keep) (T.keeps F.keep)) hco hgen hk
end
@[reducible] noncomputable def symDict (P : Params) (t1 t2 t3 : Tok) (n : Nat) (x : Str) : Obj := dictOf [ent P (Str.ofString "variable_name") t1 .none, ent P (Str.ofString "name") t2 (.str x t3)] n
section eqs
theorem rk26 : True := by
  k_with "~k_room" => case' fr9 => (((try simp only [depth_under_make, depth_under_kw, depth_in1, depth_deeper, depth_caller]); (try dsimp only [ktrTop]); omega))
  k_with "~k_mem" => case' fr9 => (with_reducible assumption)
  k_with "~k_inst" => case' fr9 => (first | exact inst_get (Fr.keep (by with_reducible assumption) _ _ (by with_reducible assumption)) (Fr.keep (by with_reducible assumption) _ _ (by with_reducible assumption)) | fail "my_inst")
  trivial
theorem eq_ss {prog : Program} {w : World} {loose : List Str} {mean : ExcName → Option Value} {mg mb : Str → Option Value} {A : Around} {h₀ : Heap} {L : Addr} {m : Str → Option Value} {s : Shared} {Q E : Value → Shared → Prop}
    {x d y d2 : Addr} {t1 t2 t3 : Tok} {n : Nat} {n1 : Str} {t4 t5 t6 : Tok} {nn : Nat} {n2 : Str}
    (F : Fr h₀ L s.heap m) (X : (MyK w.params).In h₀) (T : Top topProg loose mean mg mb h₀) (hd : A.depth < recursionLimit) (hx : s.heap.get? x = some (instObj 637 d)) (hdx : s.heap.get? d = some (symDict w.params t1 t2 t3 n n1)) (hy : s.heap.get? y = some (instObj 637 d2)) (hdy : s.heap.get? d2 = some (symDict w.params t4 t5 t6 nn n2))
    (ret : ∀ h' tk, (∀ b o, s.heap.get? b = some o → h'.get? b = some o) → Q (.bool (n1 == n2)) { s with heap := h', toks := tk }) :
    wpAny (model prog w) A (call (.ref 634) [.ref x, .ref y]) Q E s := by
  refine wpAny_call ?_
  k_dflt (refine' plainG (binds := [(Str.ofString "self", .ref x), (Str.ofString "other", .ref y)]) F X T ?k6 ?k7 ?k8 ?k9 ?kB ?_ ?c2 ?c3 ?c4 ?c5; (case k6 => k_is); (case k7 => k_is); (case k8 => exact hd); (case k9 => exact BindsTo.of_eq rfl); (case c5 => decide); (case kB => exact locs rfl); (case c2 => exact rfl); (case c3 => exact rfl); (case c4 => exact rfl))
  intro L' h1 F' N' X' T'
  (try dsimp only); (try k_fold)
  k_steps
  · have e : (n1 == n2) = true := by first | assumption | exact beq_iff_eq.mpr (by assumption)
    rw [e] at ret
    exact ret _ _ (Fr.keep (by assumption))
  · exact ret _ _ (Fr.keep (by assumption))
theorem eq_so {prog : Program} {w : World} {loose : List Str} {mean : ExcName → Option Value} {mg mb : Str → Option Value} {A : Around} {h₀ : Heap} {L : Addr} {m : Str → Option Value} {s : Shared} {Q E : Value → Shared → Prop}
    {x d y d2 : Addr} {t1 t2 t3 : Tok} {n : Nat} {n1 : Str} {v1 v2 v3 v4 v5 v6 v7 v8 v9 : Tok} {nn : Nat} {kd2 ar2 l2 : Addr} {k2 : Bool}
    (F : Fr h₀ L s.heap m) (X : (MyK w.params).In h₀) (T : Top topProg loose mean mg mb h₀) (hd : A.depth < recursionLimit) (hx : s.heap.get? x = some (instObj 637 d)) (hdx : s.heap.get? d = some (symDict w.params t1 t2 t3 n n1)) (hy : s.heap.get? y = some (instObj 561 d2)) (hdy : s.heap.get? d2 = some (opDict w.params v1 v2 v3 v4 v5 v6 v7 v8 v9 nn kd2 ar2 k2 l2))
    (ret : ∀ h' tk, (∀ b o, s.heap.get? b = some o → h'.get? b = some o) → Q (.notImplemented) { s with heap := h', toks := tk }) :
    wpAny (model prog w) A (call (.ref 634) [.ref x, .ref y]) Q E s := by
  refine wpAny_call ?_
  k_dflt (refine' plainG (binds := [(Str.ofString "self", .ref x), (Str.ofString "other", .ref y)]) F X T ?k6 ?k7 ?k8 ?k9 ?kB ?_ ?c2 ?c3 ?c4 ?c5; (case k6 => k_is); (case k7 => k_is); (case k8 => exact hd); (case k9 => exact BindsTo.of_eq rfl); (case c5 => decide); (case kB => exact locs rfl); (case c2 => exact rfl); (case c3 => exact rfl); (case c4 => exact rfl))
  intro L' h1 F' N' X' T'
  (try dsimp only); (try k_fold)
  k_steps
  all_goals exact ret _ _ (Fr.keep (by assumption))
theorem eq_os {prog : Program} {w : World} {loose : List Str} {mean : ExcName → Option Value} {mg mb : Str → Option Value} {A : Around} {h₀ : Heap} {L : Addr} {m : Str → Option Value} {s : Shared} {Q E : Value → Shared → Prop}
    {x d y d2 : Addr} {u1 u2 u3 u4 u5 u6 u7 u8 u9 : Tok} {n : Nat} {kd ar l : Addr} {k : Bool} {t4 t5 t6 : Tok} {nn : Nat} {n2 : Str}
    (F : Fr h₀ L s.heap m) (X : (MyK w.params).In h₀) (T : Top topProg loose mean mg mb h₀) (hd : A.depth < recursionLimit) (hx : s.heap.get? x = some (instObj 561 d)) (hdx : s.heap.get? d = some (opDict w.params u1 u2 u3 u4 u5 u6 u7 u8 u9 n kd ar k l)) (hy : s.heap.get? y = some (instObj 637 d2)) (hdy : s.heap.get? d2 = some (symDict w.params t4 t5 t6 nn n2))
    (ret : ∀ h' tk, (∀ b o, s.heap.get? b = some o → h'.get? b = some o) → Q (.notImplemented) { s with heap := h', toks := tk }) :
    wpAny (model prog w) A (call (.ref 479) [.ref x, .ref y]) Q E s := by
  refine wpAny_call ?_
  k_dflt (refine' plainG (binds := [(Str.ofString "self", .ref x), (Str.ofString "other", .ref y)]) F X T ?k6 ?k7 ?k8 ?k9 ?kB ?_ ?c2 ?c3 ?c4 ?c5; (case k6 => k_is); (case k7 => k_is); (case k8 => exact hd); (case k9 => exact BindsTo.of_eq rfl); (case c5 => decide); (case kB => exact locs rfl); (case c2 => exact rfl); (case c3 => exact rfl); (case c4 => exact rfl))
  intro L' h1 F' N' X' T'
  (try dsimp only); (try k_fold)
  k_steps
  all_goals exact ret _ _ (Fr.keep (by assumption))
theorem eq_ft {prog : Program} {w : World} {loose : List Str} {mean : ExcName → Option Value} {mg mb : Str → Option Value} {A : Around} {h₀ : Heap} {L : Addr} {m : Str → Option Value} {s : Shared} {Q E : Value → Shared → Prop}
    {x d y d2 : Addr} {u1 u2 u3 u4 u5 u6 u7 u8 u9 : Tok} {n : Nat} {kd ar l : Addr} {v1 v2 v3 v4 v5 v6 v7 v8 v9 : Tok} {nn : Nat} {kd2 ar2 l2 : Addr}
    (F : Fr h₀ L s.heap m) (X : (MyK w.params).In h₀) (T : Top topProg loose mean mg mb h₀) (hd : A.depth < recursionLimit) (hx : s.heap.get? x = some (instObj 561 d)) (hdx : s.heap.get? d = some (opDict w.params u1 u2 u3 u4 u5 u6 u7 u8 u9 n kd ar false l)) (hy : s.heap.get? y = some (instObj 561 d2)) (hdy : s.heap.get? d2 = some (opDict w.params v1 v2 v3 v4 v5 v6 v7 v8 v9 nn kd2 ar2 true l2))
    (ret : ∀ h' tk, (∀ b o, s.heap.get? b = some o → h'.get? b = some o) → Q (.notImplemented) { s with heap := h', toks := tk }) :
    wpAny (model prog w) A (call (.ref 479) [.ref x, .ref y]) Q E s := by
  simp only [opDict, opStr] at hdx hdy
  refine wpAny_call ?_
  k_dflt (refine' plainG (binds := [(Str.ofString "self", .ref x), (Str.ofString "other", .ref y)]) F X T ?k6 ?k7 ?k8 ?k9 ?kB ?_ ?c2 ?c3 ?c4 ?c5; (case k6 => k_is); (case k7 => k_is); (case k8 => exact hd); (case k9 => exact BindsTo.of_eq rfl); (case c5 => decide); (case kB => exact locs rfl); (case c2 => exact rfl); (case c3 => exact rfl); (case c4 => exact rfl))
  intro L' h1 F' N' X' T'
  (try dsimp only); (try k_fold)
  k_steps
  all_goals exact ret _ _ (Fr.keep (by assumption))
theorem eq_tf {prog : Program} {w : World} {loose : List Str} {mean : ExcName → Option Value} {mg mb : Str → Option Value} {A : Around} {h₀ : Heap} {L : Addr} {m : Str → Option Value} {s : Shared} {Q E : Value → Shared → Prop}
    {x d y d2 : Addr} {u1 u2 u3 u4 u5 u6 u7 u8 u9 : Tok} {n : Nat} {kd ar l : Addr} {v1 v2 v3 v4 v5 v6 v7 v8 v9 : Tok} {nn : Nat} {kd2 ar2 l2 : Addr}
    (F : Fr h₀ L s.heap m) (X : (MyK w.params).In h₀) (T : Top topProg loose mean mg mb h₀) (hd : A.depth < recursionLimit) (hx : s.heap.get? x = some (instObj 561 d)) (hdx : s.heap.get? d = some (opDict w.params u1 u2 u3 u4 u5 u6 u7 u8 u9 n kd ar true l)) (hy : s.heap.get? y = some (instObj 561 d2)) (hdy : s.heap.get? d2 = some (opDict w.params v1 v2 v3 v4 v5 v6 v7 v8 v9 nn kd2 ar2 false l2))
    (ret : ∀ h' tk, (∀ b o, s.heap.get? b = some o → h'.get? b = some o) → Q (.notImplemented) { s with heap := h', toks := tk }) :
    wpAny (model prog w) A (call (.ref 479) [.ref x, .ref y]) Q E s := by
  simp only [opDict, opStr] at hdx hdy
  refine wpAny_call ?_
  k_dflt (refine' plainG (binds := [(Str.ofString "self", .ref x), (Str.ofString "other", .ref y)]) F X T ?k6 ?k7 ?k8 ?k9 ?kB ?_ ?c2 ?c3 ?c4 ?c5; (case k6 => k_is); (case k7 => k_is); (case k8 => exact hd); (case k9 => exact BindsTo.of_eq rfl); (case c5 => decide); (case kB => exact locs rfl); (case c2 => exact rfl); (case c3 => exact rfl); (case c4 => exact rfl))
  intro L' h1 F' N' X' T'
  (try dsimp only); (try k_fold)
  k_steps
  all_goals exact ret _ _ (Fr.keep (by assumption))
end eqs
end secEq1
section secNe2
theorem rk27 : True := by
  k_with_none
  trivial
set_option maxHeartbeats 4000000
section
variable {prog : Program} {w : World} {loose : List Str} {mean : ExcName → Option Value} {mg mb : Str → Option Value} {A : Around} {h₀ : Heap} {L : Addr} {m : Str → Option Value} {s : Shared} {Q E : Value → Shared → Prop}
  {x d y d2 : Addr} {t1 t2 t3 t4 t5 t6 : Tok} {n nn : Nat} {n1 n2 : Str} {u1 u2 u3 u4 u5 u6 u7 u8 u9 v1 v2 v3 v4 v5 v6 v7 v8 v9 : Tok} {kd ar l kd2 ar2 l2 : Addr} {k k2 : Bool}
theorem ne_ss (F : Fr h₀ L s.heap m) (X : (MyK w.params).In h₀) (T : Top topProg loose mean mg mb h₀) (hu : A.in1.units < cLine) (hd : A.depth < recursionLimit)
    (hx : s.heap.get? x = some (instObj 637 d)) (hdx : s.heap.get? d = some (symDict w.params t1 t2 t3 n n1)) (hy : s.heap.get? y = some (instObj 637 d2)) (hdy : s.heap.get? d2 = some (symDict w.params t4 t5 t6 nn n2))
    (ret : ∀ h' tk, (∀ b o, s.heap.get? b = some o → h'.get? b = some o) → Q (.bool (!(n1 == n2))) { s with heap := h', toks := tk }) :
    wpAny (model prog w) A (compareOp .NotEq (.ref x) (.ref y)) Q E s :=
  ne_K (K := MyK w.params) hu (X.keeps F.keep) (inst_get hx hdx) (inst_get hy hdy) (by k_is) (by k_is) (by k_is) (by k_is) (by k_is) (by k_is) (by k_is) (by k_is) (by k_is)
    (eq_ss F X T hd hx hdx hy hdy fun h' tk kk => .inr ⟨_, rfl, ret h' tk kk⟩)
theorem ne_so (F : Fr h₀ L s.heap m) (X : (MyK w.params).In h₀) (T : Top topProg loose mean mg mb h₀) (hu : A.in1.units < cLine) (hd : A.depth < recursionLimit)
    (hx : s.heap.get? x = some (instObj 637 d)) (hdx : s.heap.get? d = some (symDict w.params t1 t2 t3 n n1)) (hy : s.heap.get? y = some (instObj 561 d2)) (hdy : s.heap.get? d2 = some (opDict w.params v1 v2 v3 v4 v5 v6 v7 v8 v9 nn kd2 ar2 k2 l2))
    (ret : ∀ h' tk, (∀ b o, s.heap.get? b = some o → h'.get? b = some o) → Q (.bool true) { s with heap := h', toks := tk }) :
    wpAny (model prog w) A (compareOp .NotEq (.ref x) (.ref y)) Q E s :=
  ne_K (K := MyK w.params) hu (X.keeps F.keep) (inst_get hx hdx) (inst_get hy hdy) (by k_is) (by k_is) (by k_is) (by k_is) (by k_is) (by k_is) (by k_is) (by k_is) (by k_is)
    (eq_so F X T hd hx hdx hy hdy fun h' tk kk => .inl ⟨rfl, fun e => by rw [e, hy] at hx; simp [instObj] at hx, kk,
      eq_os (s := { s with heap := h', toks := tk }) (F.keeps kk) X T hd (kk _ _ hy) (kk _ _ hdy) (kk _ _ hx) (kk _ _ hdx) fun h'' tk' kk' => .inl ⟨rfl, fun b o e => kk' b o (kk b o e), ret h'' tk' fun b o e => kk' b o (kk b o e)⟩⟩)
theorem ne_os (F : Fr h₀ L s.heap m) (X : (MyK w.params).In h₀) (T : Top topProg loose mean mg mb h₀) (hu : A.in1.units < cLine) (hd : A.depth < recursionLimit)
    (hx : s.heap.get? x = some (instObj 561 d)) (hdx : s.heap.get? d = some (opDict w.params u1 u2 u3 u4 u5 u6 u7 u8 u9 n kd ar k l)) (hy : s.heap.get? y = some (instObj 637 d2)) (hdy : s.heap.get? d2 = some (symDict w.params t4 t5 t6 nn n2))
    (ret : ∀ h' tk, (∀ b o, s.heap.get? b = some o → h'.get? b = some o) → Q (.bool true) { s with heap := h', toks := tk }) :
    wpAny (model prog w) A (compareOp .NotEq (.ref x) (.ref y)) Q E s :=
  ne_K (K := MyK w.params) hu (X.keeps F.keep) (inst_get hx hdx) (inst_get hy hdy) (by k_is) (by k_is) (by k_is) (by k_is) (by k_is) (by k_is) (by k_is) (by k_is) (by k_is)
    (eq_os F X T hd hx hdx hy hdy fun h' tk kk => .inl ⟨rfl, fun e => by rw [e, hy] at hx; simp [instObj] at hx, kk,
      eq_so (s := { s with heap := h', toks := tk }) (F.keeps kk) X T hd (kk _ _ hy) (kk _ _ hdy) (kk _ _ hx) (kk _ _ hdx) fun h'' tk' kk' => .inl ⟨rfl, fun b o e => kk' b o (kk b o e), ret h'' tk' fun b o e => kk' b o (kk b o e)⟩⟩)
theorem ne_oo (hkk : k ≠ k2) (F : Fr h₀ L s.heap m) (X : (MyK w.params).In h₀) (T : Top topProg loose mean mg mb h₀) (hu : A.in1.units < cLine) (hd : A.depth < recursionLimit)
    (hx : s.heap.get? x = some (instObj 561 d)) (hdx : s.heap.get? d = some (opDict w.params u1 u2 u3 u4 u5 u6 u7 u8 u9 n kd ar k l)) (hy : s.heap.get? y = some (instObj 561 d2)) (hdy : s.heap.get? d2 = some (opDict w.params v1 v2 v3 v4 v5 v6 v7 v8 v9 nn kd2 ar2 k2 l2)) (hxy : x ≠ y)
    (ret : ∀ h' tk, (∀ b o, s.heap.get? b = some o → h'.get? b = some o) → Q (.bool true) { s with heap := h', toks := tk }) :
    wpAny (model prog w) A (compareOp .NotEq (.ref x) (.ref y)) Q E s := by
  cases k <;> cases k2
  · exact absurd rfl hkk
  · exact ne_K (K := MyK w.params) hu (X.keeps F.keep) (inst_get hx hdx) (inst_get hy hdy) (by k_is) (by k_is) (by k_is) (by k_is) (by k_is) (by k_is) (by k_is) (by k_is) (by k_is)
      (eq_ft F X T hd hx hdx hy hdy fun h' tk kk => .inl ⟨rfl, hxy, kk,
        eq_tf (s := { s with heap := h', toks := tk }) (F.keeps kk) X T hd (kk _ _ hy) (kk _ _ hdy) (kk _ _ hx) (kk _ _ hdx) fun h'' tk' kk' => .inl ⟨rfl, fun b o e => kk' b o (kk b o e), ret h'' tk' fun b o e => kk' b o (kk b o e)⟩⟩)
  · exact ne_K (K := MyK w.params) hu (X.keeps F.keep) (inst_get hx hdx) (inst_get hy hdy) (by k_is) (by k_is) (by k_is) (by k_is) (by k_is) (by k_is) (by k_is) (by k_is) (by k_is)
      (eq_tf F X T hd hx hdx hy hdy fun h' tk kk => .inl ⟨rfl, hxy, kk,
        eq_ft (s := { s with heap := h', toks := tk }) (F.keeps kk) X T hd (kk _ _ hy) (kk _ _ hdy) (kk _ _ hx) (kk _ _ hdx) fun h'' tk' kk' => .inl ⟨rfl, fun b o e => kk' b o (kk b o e), ret h'' tk' fun b o e => kk' b o (kk b o e)⟩⟩)
  · exact absurd rfl hkk
end
end secNe2
section secGen
/-- a code object's table as it grew -/
noncomputable def TabOk (P : Addr) (h : Heap) : Prop := ∃ ps, h.get? P = some (tabObj ps) ∧ TriplesOk ps.toList
section
variable {prog : Program} {w : World} {A : Around} {E : Value → Shared → Prop} {s : Shared} {h₀ : Heap} {L c P : Addr} {m mg : Str → Option Value} {bm : Addr} {ob : Obj}
/-- a generator expression's code: made, or found in the table -/
theorem code_any {M : Model} {env : Env} {ps : Array Value} {pos : Pos} {qualname : Str} {scope : Scope} {Q : Value → Shared → Prop} (hc : env.code = .ref c) (C : CodeHd s.heap c P) (hP : s.heap.get? P = some (tabObj ps)) (ht : TriplesOk ps.toList)
    (h : ∀ code h' tk, Heap.ExtBut P s.heap h' → s.heap.objs.size ≤ h'.objs.size → TabOk P h' → Q code { s with heap := h', toks := tk }) : wpAny M A (genexprCode env pos qualname scope) Q E s := by
  cases e : codeAmong pos ps.toList with
  | none =>
    refine wpAny_genexprCodeX hc (C.code hP ht) (C.tab hP) e fun c' h' tk hx hge hlt hcode _ htab _ => h _ h' tk hx (Nat.le_trans hge (Nat.le_of_lt hlt)) ⟨_, htab.2, ?_⟩
    obtain ⟨_, _, _, _, _, _, _, _, _, _, _, _, _, _, _, _, _, hop, hd, hT, _⟩ := hcode
    rw [htab.2] at hop
    cases hop
    cases hd
    exact hT
  | some c' => exact wpAny_genexprCode_hit hc (C.code hP ht) e (h c' s.heap s.toks (fun b o _ e => e) (Nat.le_refl _) ⟨ps, hP, ht⟩)

/-- what the walk of a generator expression over zip owes behind its iterator -/
noncomputable def GenZip (prog : Program) (w : World) (A : Around) (E : Value → Shared → Prop) (env : Env) (scope : Scope) (cl : List (Str × Addr)) (pos : Pos) (xa xb : Str) (elt : Expr) (Q : Value → Shared → Prop) (it : Value) (s₂ : Shared) : Prop :=
  s₂.heap.NoLimit ∧
      wpAny (model prog w) A (genexprCode env pos (env.qual ++ "<genexpr>") scope) (fun code s₃ => wpAny (model prog w) A (builtinsFor env.globals env.builtins) (fun bi s₄ =>
        ∃ I fp wr n₀ Pt St₀ Mid, ∃ (pz : Nat → Bool) (F : Nat → Value → Prop), it = .ref I ∧ (∀ A' : Around, A'.handled = none → WalksU prog w A' I fp wr n₀ Pt St₀ Mid) ∧ (∀ i vals, Pt i vals → ∃ va vb, vals = #[va, vb]) ∧ St₀ 0 s₄.heap ∧ (∀ b ∈ fp, b < s₄.heap.objs.size) ∧ s₄.heap.NoLimit ∧ cStatics ∉ wr ∧
          (∀ href : Heap, (∀ b o, s₄.heap.get? b = some o → href.get? b = some o) →
            QuietGenTD prog w (genEnv scope cl s₄.heap.objs.size code bi env) xa xb [] elt (List.range s₄.heap.objs.size) wr Pt pz F href (A.depth + 1) (A.units + 8)) ∧
          (∀ a h₅ tk gs, gs.bare = true → s₄.heap.objs.size < a → h₅.objs.size = a + 1 → (∀ b o, s₄.heap.get? b = some o → h₅.get? b = some o) →
            WalksS prog w A.in4 a (a :: s₄.heap.objs.size :: List.range s₄.heap.objs.size) (s₄.heap.objs.size :: wr) (GenOnlyQ s₄.gens.size) (passing pz n₀ 0).length
              (fun j y => ∃ i, (passing pz n₀ 0)[j]? = some i ∧ F i y) (GenAt prog w A.in4 a s₄.gens.size s₄.heap.objs.size (List.range s₄.heap.objs.size) wr pz n₀ F) →
            GenAt prog w A.in4 a s₄.gens.size s₄.heap.objs.size (List.range s₄.heap.objs.size) wr pz n₀ F 0 { s₄ with gens := s₄.gens.push gs, toks := tk, heap := h₅ } →
            Q (.ref a) { s₄ with gens := s₄.gens.push gs, toks := tk, heap := h₅ })) E s₃) E s₂
theorem gen_open {env : Env} {elt iter : Expr} {xa xb : Str} {pa pb pt : Pos} {kt : Nat} {scope : Scope} {cl : List (Str × Addr)} {pos : Pos} {Q : Value → Shared → Prop}
    (hh : A.handled = none) (hco : scope.isCoroutine = false) (hclos : closureFor scope env = pure cl) (hcell : ∀ y ∈ scope.names, y.2 ≠ .cell) (h0 : scope.names.lookup (".0" : Str) = some NameKind.local)
    (hxa : scope.names.lookup xa = some .local) (hxb : scope.names.lookup xb = some .local) (hab : xa ≠ xb) (hkind : scope.kind = .function) (hroom : A.depth < recursionLimit)
    (h : wpAny (model prog w) A (eval iter env) (fun xv s₁ => wpAny (model prog w) A (pyIter xv) (GenZip prog w A E env scope cl pos xa xb elt Q) E s₁) E s)
    (hs : ∀ x, genFold iter env x = pure x) :
    wpAny (model prog w) A (eval (.GeneratorExp elt [⟨.Tuple [.Name xa pa, .Name xb pb] kt pt, iter, [], 0⟩] scope pos) env) Q E s := by
  refine wpAny_GeneratorExp_walksQTD hh hco hclos hcell h0 hxa hxb hab hkind hroom (wpAny_mono h (fun xv s₁ h₁ => wpAny_mono h₁ (fun it s₂ h₂ => ⟨h₂.1, wpAny_mono h₂.2 (fun code s₃ h₃ => wpAny_mono h₃ (fun bi s₄ h₄ => ?_) fun _ _ e => e) fun _ _ e => e⟩) fun _ _ e => e) fun _ _ e => e) hs
  obtain ⟨I, fp, wr, n₀, Pt, St₀, Mid, pz, F, r⟩ := h₄
  exact ⟨I, fp, wr, n₀, Pt, St₀, Mid, pz, F, r⟩
end
end secGen
section secGen2
section
variable {prog : Program} {w : World} {A : Around} {E : Value → Shared → Prop} {s : Shared} {h₀ : Heap} {L c P : Addr} {m mg : Str → Option Value} {bm : Addr} {ob : Obj}
theorem gen_zip {env : Env} {elt : Expr} {xa xb : Str} {scope : Scope} {cl : List (Str × Addr)} {pos : Pos} {Q : Value → Shared → Prop} {l1 l2 : Addr} {xs ys : List Value} {n1 n2 : Nat} {pe : Nat → Bool}
    (hh : A.handled = none) (F : Fr h₀ L s.heap m) (M : BMod h₀ env.globals mg bm ob) (G : AllBare s.gens) (hlim : h₀.NoLimit) (hc : env.code = .ref c) (C : CodeHd h₀ c P) (hn : h₀.get? P = none) (hLP : P ≠ L) (hP : TabOk P s.heap)
    (hx : h₀.get? l1 = some (lstOf xs n1)) (hy : h₀.get? l2 = some (lstOf ys n2))
    (elts : ∀ (A' : Around) E' i va vb (t : Shared) m₂ code K, A'.handled = none → A'.depth ≤ A.depth + 1 → A'.units ≤ A.units + 8 → xs[i]? = some va → ys[i]? = some vb → Fr h₀ K t.heap m₂ → m₂ xa = some va → m₂ xb = some vb →
      wpAny (model prog w) A' (eval elt (genEnv scope cl K code builtinsNs env)) (fun y s₃ => y = .bool (pe i) ∧ Keeps t s₃) E' t)
    (k : ∀ a (s₅ : Shared), Fr h₀ L s₅.heap m → AllBare s₅.gens → s₅.os = s.os → TabOk P s₅.heap → P < s.heap.objs.size → Gen prog w A (s.heap.objs.size - 1) a (min xs.length ys.length) (fun j y => y = .bool (pe j)) s₅ → Q (.ref a) s₅) :
    wpAny (model prog w) A (call (.type "zip") [.ref l1, .ref l2]) (fun xv s₁ => wpAny (model prog w) A (pyIter xv) (GenZip prog w A E env scope cl pos xa xb elt Q) E s₁) E s := by
  have hax1 := F.keep _ _ hx
  have hax2 := F.keep _ _ hy
  have hl1 : s.heap.IsList l1 xs.toArray := ⟨_, hax1, rfl, n1, rfl⟩
  have hl2 : s.heap.IsList l2 ys.toArray := ⟨_, hax2, rfl, n2, rfl⟩
  have hlt1 : l1 < s.heap.objs.size := Heap.lt_size hax1
  have hlt2 : l2 < s.heap.objs.size := Heap.lt_size hax2
  obtain ⟨ps, hPs, ht⟩ := hP
  have hPlt : P < s.heap.objs.size := Heap.lt_size hPs
  have nb : ∀ b o, h₀.get? b = some o → b ≠ P := fun b o e q => by rw [q, hn] at e; cases e
  have D : ZipApart (s.heap.objs.size + 4) (s.heap.objs.size + 2) (s.heap.objs.size + 3) s.heap.objs.size (s.heap.objs.size + 1) l1 l2 := ktu_apart _ _ _ hlt1 hlt2
  refine call_zip_2 hl1 hl2 fun h' hz hTI hTO hi1 hi2 hsz hk => ?_
  refine wpAny_pyIter_zip hz ?_
  have F' : Fr h₀ L h' m := F.keeps hk
  have W := fun (A' : Around) (hA : A'.handled = none) => (WalksT.zip2 (prog := prog) (w := w) hA (s.heap.objs.size + 4) (s.heap.objs.size + 2) (s.heap.objs.size + 3) s.heap.objs.size (s.heap.objs.size + 1) l1 l2 D xs.toArray ys.toArray).toU
  refine ⟨hlim.keeps F'.keep, code_any hc (C.keeps F'.keep) (hk _ _ hPs) ht fun code h₃ tk₃ hx₃ hsz₃ hP₃ => ?_⟩
  have hsz₃' : s.heap.objs.size + 5 ≤ h₃.objs.size := hsz ▸ hsz₃
  have F₃ : Fr h₀ L h₃ m := ⟨F'.ns.extBut hx₃ (Ne.symm hLP), fun b o e => hx₃ b o (nb b o e) (F'.keep b o e), F.above⟩
  have M₃ : BMod h₃ env.globals mg bm ob := M.keeps F₃.keep
  refine wpAny_builtinsFor M₃.ns M₃.name M₃.ne M₃.obj M₃.cls M₃.dict M₃.data ?_
  have low : ∀ {a : Nat}, a < s.heap.objs.size → a ∉ [s.heap.objs.size + 4, s.heap.objs.size + 3, s.heap.objs.size, s.heap.objs.size + 1] := fun {a} h q => by
    simp only [List.mem_cons, List.not_mem_nil, or_false] at q
    omega
  have hcw : cStatics ∉ [s.heap.objs.size + 4, s.heap.objs.size + 3, s.heap.objs.size, s.heap.objs.size + 1] := low (by
    obtain ⟨_, hns, _⟩ := hlim.keeps F.keep
    exact hns.lt)
  have hfp : ∀ b ∈ [s.heap.objs.size + 4, s.heap.objs.size + 2, s.heap.objs.size + 3, s.heap.objs.size, s.heap.objs.size + 1, l1, l2], b < h₃.objs.size ∧ b ≠ P := by
    intro b hb
    have hb' : b = s.heap.objs.size + 4 ∨ b = s.heap.objs.size + 2 ∨ b = s.heap.objs.size + 3 ∨ b = s.heap.objs.size ∨ b = s.heap.objs.size + 1 ∨ b = l1 ∨ b = l2 := by simpa using hb
    have up : ∀ {a : Nat}, a < s.heap.objs.size → a < h₃.objs.size := fun h => Nat.lt_of_lt_of_le h (Nat.le_trans (Nat.le_add_right _ 5) hsz₃')
    rcases hb' with rfl | rfl | rfl | rfl | rfl | rfl | rfl
    · exact ⟨by omega, Ne.symm (ktu_ne 4 hPlt)⟩
    · exact ⟨by omega, Ne.symm (ktu_ne 2 hPlt)⟩
    · exact ⟨by omega, Ne.symm (ktu_ne 3 hPlt)⟩
    · exact ⟨by omega, Nat.ne_of_gt hPlt⟩
    · exact ⟨by omega, Ne.symm (ktu_ne 1 hPlt)⟩
    · exact ⟨up hlt1, nb _ _ hx⟩
    · exact ⟨up hlt2, nb _ _ hy⟩
  refine ⟨_, _, _, _, _, _, _, fun _ => true, fun i y => y = .bool (pe i), rfl, W, (fun i vals hv => by obtain ⟨x, y, _, _, e⟩ := hv; exact ⟨x, y, e⟩),
    (W A hh).frame 0 h' h₃ ⟨hz, hTI, ⟨_, _, hTO⟩, hi1, hi2, hl1.at fun o e => hk l1 o e, hl2.at fun o e => hk l2 o e⟩ (fun b hb o e => hx₃ b o (hfp b hb).2 e), fun b hb => (hfp b hb).1, hlim.keeps F₃.keep, hcw, fun href hhref => ?_, fun a h₅ tk gs hgb hag hsz₅ hk₅ X hat => ?_⟩
  · refine ⟨fun A' E' i va vb t m₂ hA hD hU hp hns hma hmb hkp => ?_, fun A' E' i va vb t m₂ hA hD hU hp _ hns hma hmb hkp => ?_⟩
    · exact wpAny_pure ⟨rfl, t.heap, t.toks, rfl, fun _ _ e => e⟩
    · obtain ⟨x, y, hx', hy', e⟩ := hp
      obtain ⟨e1, e2⟩ : va = x ∧ vb = y := by simpa using congrArg Array.toList e
      subst e1 e2
      refine elts A' E' i va vb t m₂ code _ hA hD hU (by simpa using hx') (by simpa using hy') ⟨hns, fun b o e => ?_, Nat.le_trans F₃.above (Nat.le_of_lt F₃.ns.lt)⟩ hma hmb
      exact hkp b (List.mem_range.mpr (Heap.lt_size (F₃.keep b o e))) (low (Heap.lt_size (F.keep b o e))) o (hhref b o (F₃.keep b o e))
  · have hpos : 0 < s.heap.objs.size := Nat.lt_of_le_of_lt (Nat.zero_le _) hPlt
    have hP₅ : TabOk P h₅ := let ⟨ps', a, b⟩ := hP₃; ⟨ps', hk₅ _ _ a, b⟩
    have pass : passing (fun _ : Nat => true) (min xs.toArray.size ys.toArray.size) 0 = List.range (min xs.length ys.length) := by simp [passing]
    have X0 : Gen prog w A (s.heap.objs.size - 1) a (passing (fun _ : Nat => true) (min xs.toArray.size ys.toArray.size) 0).length (fun j y => ∃ i, (passing (fun _ : Nat => true) (min xs.toArray.size ys.toArray.size) 0)[j]? = some i ∧ y = .bool (pe i)) { s with heap := h₅, gens := s.gens.push gs, toks := tk } :=
      by
      refine ⟨_, _, _, _, X, hat, (fun i s' st => st.1.typeIs), List.mem_cons_self, ?_, ?_⟩
      · intro b hb
        show b < h₅.objs.size
        rw [hsz₅]
        rcases List.mem_cons.mp hb with rfl | hb
        · exact Nat.lt_succ_self _
        · rcases List.mem_cons.mp hb with rfl | hb
          · exact Nat.lt_succ_of_lt hag
          · exact Nat.lt_succ_of_lt (Nat.lt_trans (List.mem_range.mp hb) hag)
      · intro b hb
        rcases List.mem_cons.mp hb with rfl | hb
        · show s.heap.objs.size - 1 < h₃.objs.size
          omega
        · have hb' : b = s.heap.objs.size + 4 ∨ b = s.heap.objs.size + 3 ∨ b = s.heap.objs.size ∨ b = s.heap.objs.size + 1 := by simpa using hb
          have key : ∀ k : Nat, (s.heap.objs.size - 1 : Nat) < s.heap.objs.size + k := fun k => by omega
          rcases hb' with rfl | rfl | rfl | rfl
          · exact key 4
          · exact key 3
          · exact key 0
          · exact key 1
    rw [pass, List.length_range] at X0
    refine k a { s with heap := h₅, gens := s.gens.push gs, toks := tk } (F₃.keeps hk₅) (G.push hgb) rfl hP₅ hPlt (X0.imp fun j y hy => ?_)
    · obtain ⟨i, hi, rfl⟩ := hy
      have : i = j := by
        rw [List.getElem?_range (by
          have := (List.getElem?_eq_some_iff.mp hi).1
          simpa using this)] at hi
        exact (Option.some.inj hi).symm
      rw [this]
end
end secGen2
section secEq2
set_option maxHeartbeats 4000000
theorem elt_eq {prog : Program} {w : World} {loose : List Str} {mean : ExcName → Option Value} {mg mb : Str → Option Value} {A : Around} {h₀ : Heap} {L : Addr} {m : Str → Option Value} {s : Shared} {E : Value → Shared → Prop} {env : Env} {scope : Scope} {cl : List (Str × Addr)} {code : Value} {p1 p2 p3 : Pos}
    {x d y d2 : Addr} {t1 t2 t3 t4 t5 t6 : Tok} {n nn : Nat} {n1 n2 : Str}
    (F : Fr h₀ L s.heap m) (X : (MyK w.params).In h₀) (T : Top topProg loose mean mg mb h₀) (hu : A.units < cLine) (hd : A.depth < recursionLimit)
    (hk : scope.kind = .function) (kx : (genEnv scope cl L code builtinsNs env).kindOf (Str.ofString "x") = some .local) (ky : (genEnv scope cl L code builtinsNs env).kindOf (Str.ofString "y") = some .local)
    (mx : m (Str.ofString "x") = some (.ref x)) (my : m (Str.ofString "y") = some (.ref y))
    (hx : h₀.get? x = some (instObj 637 d)) (hdx : h₀.get? d = some (symDict w.params t1 t2 t3 n n1)) (hy : h₀.get? y = some (instObj 637 d2)) (hdy : h₀.get? d2 = some (symDict w.params t4 t5 t6 nn n2)) :
    wpAny (model prog w) A (eval (.Compare (.Name (Str.ofString "x") p1) [.Eq] [.Name (Str.ofString "y") p2] p3) (genEnv scope cl L code builtinsNs env)) (fun v s₃ => v = .bool (n1 == n2) ∧ Keeps s s₃) E s := by
  have ek : wpAny (model prog w) A (compareOp .Eq (.ref x) (.ref y)) (fun v s₃ => v = .bool (n1 == n2) ∧ Keeps s s₃) E s := by
    refine cmp_ofEq ?_
    refine cmp_K (K := MyK w.params) (C := 637) (f := 634) hu F X (inst_get (F.keep _ _ hx) (F.keep _ _ hdx)) (tb := .ref 637) (InstAt.type (inst_get (F.keep _ _ hy) (F.keep _ _ hdy))) (by k_is) (by k_is) (by k_is) ?_
    exact eq_ss F X T hd (F.keep _ _ hx) (F.keep _ _ hdx) (F.keep _ _ hy) (F.keep _ _ hdy) fun h' tk kk => ⟨rfl, h', tk, rfl, kk⟩
  exact wpAny_Compare1 (ldVarG F mx (ldVarG F my ek hk ky (by decide)) hk kx (by decide))
end secEq2
section secEq3
set_option maxHeartbeats 4000000
section
variable {prog : Program} {w : World} {A : Around} {s : Shared} {K : Frag} {L P : Addr} {h₀ : Heap} {m mg mb : Str → Option Value} {p : Program} {loose : List Str} {mean : ExcName → Option Value}
/-- a def is entered whatever frames stand; one table is kept in the ledger -/
theorem plainT {R : Result → Shared → Prop} {ps : Array Value} {name qual : Str} {params : Arguments} {body : List Stmt} {scope : Scope} {dV kV doc pm cdv ct oc : Value} {an od : Option Addr} {osl : Array (Option Value)} {f : Addr} {args : Args} {binds : List (Str × Value)}
    (F : Fr h₀ L s.heap m) (X₀ : K.In h₀) (T : Top p loose mean mg mb h₀) (hP : s.heap.get? P = some (tabObj ps)) (hn : h₀.get? P = none)
    (ho : K.lookup f = some ⟨oc, od, .func (fnOf name qual params body scope dV kV doc pm an cdv ct), osl⟩) (hcd : codeIn K cdv qual = true) (hroom : A.depth < recursionLimit)
    (hbind : BindsTo s (fnOf name qual params body scope dV kV doc pm an cdv ct) args binds) (hloc : ∀ y ∈ binds, scope.names.lookup y.1 = some .local)
    (h : ∀ g L' h₁, (∀ b o, h₀.get? b = some o → g.get? b = some o) → (∀ b o, s.heap.get? b = some o → b ≠ P → g.get? b = some o) → (∀ b o, g.get? b = some o → s.heap.get? b = some o) → Fr g L' h₁ (fun y => binds.reverse.lookup y) → News g L' h₁ [(P, tabObj ps)] → K.In g → Top p loose mean mg mb g →
      wpAny (model prog w) (A.deeper (envOf qual scope L' f cdv)) (execs body (envOf qual scope L' f cdv))
        (fun fl s' => R (.ok (.ret (match fl with | .ret v => v | _ => .none))) s')
        (fun e s' => wpAny (model prog w) (A.deeper (envOf qual scope L' f cdv)) («leaving» (envOf qual scope L' f cdv) e) (fun _ s'' => R (.error e) s'') (fun e' s'' => R (.error e') s'') s')
        { s with heap := h₁, toks := s.toks + binds.length })
    (hco : scope.isCoroutine = false) (hgen : scope.isGenerator = false) (hk : scope.kind = .function)
    (hcell : ∀ x ∈ scope.names, x.2 ≠ .cell) : codeAny (model prog w) A (.call (.ref f) args) R s := by
  have st : ∀ b o, h₀.get? b = some o → (hideAll s.heap [P]).get? b = some o := fun b o e => hideAll_get _ (F.keep b o e) fun q => by
    rw [List.mem_singleton.mp q, hn] at e; cases e
  exact codeAny_call_def (fd := fnX name qual params body scope [] dV kV doc pm an cdv ct) (body := body) (binds := binds) hroom ((X₀.keeps F.keep) _ _ ho) rfl (T.nolimit.keeps F.keep) (codeRec_of (X₀.keeps F.keep) hcd) rfl hbind hcell hloc
    (fun h₁ hns hk₁ => h (hideAll s.heap [P]) s.heap.objs.size h₁ st (fun b o e n => hideAll_get _ e fun q => n (List.mem_singleton.mp q)) (fun b o e => of_hideAll _ e)
      ⟨hns, fun b o e => hk₁ b o (of_hideAll _ e), Nat.le_of_eq (hideAll_size _ _)⟩ (fun q hq => by
        rw [List.mem_singleton.mp hq]
        exact ⟨hk₁ _ _ hP, Nat.ne_of_lt (Heap.lt_size hP), hideAll_none _ (List.mem_singleton.mpr rfl)⟩) (X₀.keeps st) (T.keeps st)) hco hgen hk
end
/-- a symbol without a variable -/
noncomputable def SymAt (P : Params) (h : Heap) (v : Value) (x : Str) : Prop := ∃ a d t1 t2 t3 n, v = .ref a ∧ h.get? a = some (instObj 637 d) ∧ h.get? d = some (symDict P t1 t2 t3 n x)
theorem SymAt.up {P : Params} {h g : Heap} {v : Value} {x : Str} {ps : Array Value} {a : Addr} (q : SymAt P h v x) (hP : h.get? a = some (tabObj ps)) (up : ∀ b o, h.get? b = some o → b ≠ a → g.get? b = some o) : SymAt P g v x := by
  obtain ⟨b, d, t1, t2, t3, n, rfl, h1, h2⟩ := q
  exact ⟨b, d, t1, t2, t3, n, rfl, up _ _ h1 fun e => by rw [e, hP] at h1; simp [instObj] at h1, up _ _ h2 fun e => by rw [e, hP] at h2; simp [dictOf] at h2⟩
theorem els_of {prog : Program} {w : World} {loose : List Str} {mean : ExcName → Option Value} {mg mb : Str → Option Value} {A : Around} {g : Heap} {env : Env} {scope : Scope} {cl : List (Str × Addr)} {p1 p2 p3 : Pos} {vs us : List Value} {ns1 ns2 : Nat → Str}
    (X : (MyK w.params).In g) (T : Top topProg loose mean mg mb g) (hd : A.depth + 1 < recursionLimit) (hu : A.units + 8 < cLine) (gv : ∀ i v, vs[i]? = some v → SymAt w.params g v (ns1 i)) (gu : ∀ i v, us[i]? = some v → SymAt w.params g v (ns2 i))
    (hk : scope.kind = .function) (kx : ∀ K code, (genEnv scope cl K code builtinsNs env).kindOf (Str.ofString "x") = some .local) (ky : ∀ K code, (genEnv scope cl K code builtinsNs env).kindOf (Str.ofString "y") = some .local) :
    ∀ (A' : Around) (E' : Value → Shared → Prop) i va vb (t : Shared) m₂ code K, A'.handled = none → A'.depth ≤ A.depth + 1 → A'.units ≤ A.units + 8 → vs[i]? = some va → us[i]? = some vb → Fr g K t.heap m₂ → m₂ (Str.ofString "x") = some va → m₂ (Str.ofString "y") = some vb →
      wpAny (model prog w) A' (eval (.Compare (.Name (Str.ofString "x") p1) [.Eq] [.Name (Str.ofString "y") p2] p3) (genEnv scope cl K code builtinsNs env)) (fun y s₃ => y = .bool (ns1 i == ns2 i) ∧ Keeps t s₃) E' t := by
  intro A' E' i va vb t m₂ code K _ hD hU hx hy F mx my
  obtain ⟨x, d, t1, t2, t3, n, rfl, h1, h2⟩ := gv i va hx
  obtain ⟨y, d2, t4, t5, t6, n2, rfl, h3, h4⟩ := gu i vb hy
  exact elt_eq F X T (by omega) (by omega) hk (kx _ _) (ky _ _) mx my h1 h2 h3 h4
theorem truth_of {prog : Program} {w : World} {A : Around} {pe : Nat → Bool} : TruthOf prog w A (fun j y => y = .bool (pe j)) pe := fun i v s Q E h q => by rw [h]; exact wpAny_truthy_bool q
theorem lk_of {g h : Heap} {L : Addr} {m : Str → Option Value} (F : Fr g L h m) : L ≤ h.objs.size - 1 := Nat.le_sub_one_of_lt F.ns.lt
theorem tab_on {h h' : Heap} {K : Nat} (t : TabOk 474 h) (lt : 474 < K) (k : ∀ b o, b ≤ K - 1 → h.get? b = some o → h'.get? b = some o) : TabOk 474 h' := let ⟨ps, a, b⟩ := t; ⟨ps, k _ _ (Nat.le_sub_one_of_lt lt) a, b⟩
section eqs
theorem rk28 : True := by
  k_with "~k_room" => case' fr9 => (((try simp only [depth_under_make, depth_under_kw, depth_in1, depth_deeper, depth_caller]); (try dsimp only [ktrTop]); omega))
  k_with "~k_mem" => case' fr9 => (with_reducible assumption)
  k_with "~k_inst" => case' fr9 => (first | exact inst_get (Fr.keep (by with_reducible assumption) _ _ (by with_reducible assumption)) (Fr.keep (by with_reducible assumption) _ _ (by with_reducible assumption)) | fail "my_inst")
  k_with "~call builtin:len" => case' fr9 => ((k_here; (with_reducible show wpAny _ _ (call (Value.builtin "len") [Value.ref _]) _ _ _); k_dflt (refine' call_len_list ?hl ?hf ?_; (case hl => exact ⟨_, Fr.keep (by with_reducible assumption) _ _ (by with_reducible assumption), rfl, _, rfl⟩); (case hf => (simp only [List.size_toArray]; omega)))))
  k_with "~eval GeneratorExp" => case' fr9 => ((k_here; k_dflt (refine' gen_open ?hh ?hco ?hclos ?hcell ?h0 ?hxa ?hxb ?hab ?hkind ?hroom ?_ ?hs; (case hh => assumption); (case hco => exact rfl); (case hclos => exact rfl); (case hcell => decide); (case h0 => exact rfl); (case hxa => exact rfl); (case hxb => exact rfl); (case hab => decide); (case hkind => exact rfl); (case hroom => k_room); (case hs => intro _; rfl))))
  k_with "~call type:zip" => case' fr9 => ((k_here; k_dflt (refine' gen_zip (c := 478) (P := 474) ?hh ?F ?M ?G ?hlim ?hc ?C ?hn ?hLP ?hP ?hx ?hy ?elts ?_; (case F => with_reducible assumption); (case M => assumption); (case hh => assumption); (case G => assumption); (case hlim => assumption); (case hc => exact rfl); (case C => assumption); (case hn => assumption); (case hLP => assumption); (case hx => assumption); (case hy => assumption); (case hP => exact ⟨_, News.get (by k_asm) (by with_reducible kcf_m), by assumption⟩); (case elts => exact els_of (by assumption) (by assumption) (by k_room) (by ((try simp only [units_in1, units_deeper]); omega)) (by assumption) (by assumption) rfl (fun _ _ => rfl) (fun _ _ => rfl))); intro a9 s9 F9 G9 o9 t9 lt9 X9))
  k_with "~call builtin:all" => case' fr9 => ((k_here; k_dflt (refine' all_rowsK ?F ?G ?X ?hLK _ ?htr ?_; (case F => with_reducible assumption); (case G => with_reducible assumption); (case X => with_reducible assumption); (case htr => exact truth_of); (case hLK => exact lk_of (by assumption))); intro s8 F8 G8 o8 k8))
  trivial
theorem eq_f {prog : Program} {w : World} {loose : List Str} {mean : ExcName → Option Value} {mg mb : Str → Option Value} {A : Around} {h₀ : Heap} {L : Addr} {m : Str → Option Value} {s : Shared} {Q E : Value → Shared → Prop}
    {x d y d2 : Addr} {q1 q2 q3 q4 q5 q6 q7 q8 q9 r1 r2 r3 r4 r5 r6 r7 r8 r9 : Tok} {n nn nl nl2 : Nat} {kd ar l kd2 ar2 l2 : Addr} {vs us : List Value} {ns1 ns2 : Nat → Str} {ps : Array Value}
    (F : Fr h₀ L s.heap m) (X : (MyK w.params).In h₀) (T : Top topProg loose mean mg mb h₀) (hP : s.heap.get? 474 = some (tabObj ps)) (hn : h₀.get? 474 = none) (ht : TriplesOk ps.toList) (C : CodeHd h₀ 478 474) (G : AllBare s.gens) (hd : A.depth + 4 < recursionLimit) (hh : A.handled = none) (hu : A.units + 30 < cLine)
    (hx : s.heap.get? x = some (instObj 561 d)) (hdx : s.heap.get? d = some (opDict w.params q1 q2 q3 q4 q5 q6 q7 q8 q9 n kd ar false l)) (hl : s.heap.get? l = some (lstOf vs nl))
    (hy : s.heap.get? y = some (instObj 561 d2)) (hdy : s.heap.get? d2 = some (opDict w.params r1 r2 r3 r4 r5 r6 r7 r8 r9 nn kd2 ar2 false l2)) (hl2 : s.heap.get? l2 = some (lstOf us nl2))
    (hz : vs.length ≤ 2) (hz2 : us.length ≤ 2) (hvs : ∀ i v, vs[i]? = some v → SymAt w.params s.heap v (ns1 i)) (hus : ∀ i v, us[i]? = some v → SymAt w.params s.heap v (ns2 i))
    (ret : ∀ s' : Shared, (∀ b o, b ≠ 474 → s.heap.get? b = some o → s'.heap.get? b = some o) → TabOk 474 s'.heap → AllBare s'.gens → s'.os = s.os → Q (.bool (vs.length == us.length && (List.range (min vs.length us.length)).all fun j => ns1 j == ns2 j)) s') :
    wpAny (model prog w) A (call (.ref 479) [.ref x, .ref y]) Q E s := by
  simp only [opDict, opStr] at hdx hdy
  refine wpAny_call ?_
  k_dflt (refine' plainT (binds := [(Str.ofString "self", .ref x), (Str.ofString "other", .ref y)]) F X T hP hn ?k6 ?k7 ?k8 ?k9 ?kB ?_ ?c2 ?c3 ?c4 ?c5; (case k6 => k_is); (case k7 => k_is); (case k8 => omega); (case k9 => exact BindsTo.of_eq rfl); (case c5 => decide); (case kB => exact locs rfl); (case c2 => exact rfl); (case c3 => exact rfl); (case c4 => exact rfl))
  intro g L' h1 st up dn F' N' X' T'
  have gx := up _ _ hx (fun e => by rw [e, hP] at hx; simp [instObj] at hx)
  have gdx := up _ _ hdx (fun e => by rw [e, hP] at hdx; simp [dictOf] at hdx)
  have gl := up _ _ hl (fun e => by rw [e, hP] at hl; simp [lstOf] at hl)
  have gy := up _ _ hy (fun e => by rw [e, hP] at hy; simp [instObj] at hy)
  have gdy := up _ _ hdy (fun e => by rw [e, hP] at hdy; simp [dictOf] at hdy)
  have gl2 := up _ _ hl2 (fun e => by rw [e, hP] at hl2; simp [lstOf] at hl2)
  have gL : g.IsList l vs.toArray := ⟨_, gl, rfl, _, rfl⟩
  have gL2 : g.IsList l2 us.toArray := ⟨_, gl2, rfl, _, rfl⟩
  have gv : ∀ i v, vs[i]? = some v → SymAt w.params g v (ns1 i) := fun i v e => (hvs i v e).up hP up
  have gu : ∀ i v, us[i]? = some v → SymAt w.params g v (ns2 i) := fun i v e => (hus i v e).up hP up
  have gC : CodeHd g 478 474 := C.keeps st
  have gn : g.get? 474 = none := (N' _ (.head _)).2.2
  have gLP : (474 : Addr) ≠ L' := (N' _ (.head _)).2.1
  have gT : TabOk 474 h1 := ⟨ps, (N' _ (.head _)).1, ht⟩
  have gl' : g.NoLimit := T'.nolimit
  obtain ⟨bm, ob, gM⟩ := bmod_of_top T'
  (try dsimp only); (try k_fold)
  k_steps
  · rename_i s8 F8 G8 o8 k8 ha
    have q0 : (vs.toArray.size : Int) = (us.toArray.size : Int) := by assumption
    have e1 : vs.length = us.length := by simp only [List.size_toArray] at q0; omega
    have e : Value.bool true = .bool (vs.length == us.length && (List.range (min vs.length us.length)).all fun j => ns1 j == ns2 j) := by rw [ha, e1]; simp
    rw [e]
    exact ret _ (fun b o n h => F8.keep _ _ (up b o h n)) (tab_on (by assumption) (by assumption) k8) G8 (o8.trans (by assumption))
  · rename_i s8 F8 G8 o8 k8 ha
    have q0 : (vs.toArray.size : Int) = (us.toArray.size : Int) := by assumption
    have e1 : vs.length = us.length := by simp only [List.size_toArray] at q0; omega
    have e : Value.bool ((List.range (min vs.length us.length)).all fun j => ns1 j == ns2 j) = .bool (vs.length == us.length && (List.range (min vs.length us.length)).all fun j => ns1 j == ns2 j) := by rw [e1]; simp
    rw [e]
    exact ret _ (fun b o n h => F8.keep _ _ (up b o h n)) (tab_on (by assumption) (by assumption) k8) G8 (o8.trans (by assumption))
  · have q0 : (vs.toArray.size : Int) ≠ (us.toArray.size : Int) := by assumption
    have q2 : ((vs.toArray.size : Int) == (us.toArray.size : Int)) = false := beq_eq_false_iff_ne.mpr q0
    have e1 : ¬ vs.length = us.length := by simp only [List.size_toArray] at q0; omega
    have e : Value.bool ((vs.toArray.size : Int) == (us.toArray.size : Int)) = .bool (vs.length == us.length && (List.range (min vs.length us.length)).all fun j => ns1 j == ns2 j) := by
      have q1 : (vs.length == us.length) = false := by simpa using e1
      rw [q1, q2]; rfl
    rw [e]
    exact ret _ (fun b o n h => F'.keep _ _ (up b o h n)) gT G rfl
theorem eq_t {prog : Program} {w : World} {loose : List Str} {mean : ExcName → Option Value} {mg mb : Str → Option Value} {A : Around} {h₀ : Heap} {L : Addr} {m : Str → Option Value} {s : Shared} {Q E : Value → Shared → Prop}
    {x d y d2 : Addr} {q1 q2 q3 q4 q5 q6 q7 q8 q9 r1 r2 r3 r4 r5 r6 r7 r8 r9 : Tok} {n nn nl nl2 : Nat} {kd ar l kd2 ar2 l2 : Addr} {vs us : List Value} {ns1 ns2 : Nat → Str} {ps : Array Value}
    (F : Fr h₀ L s.heap m) (X : (MyK w.params).In h₀) (T : Top topProg loose mean mg mb h₀) (hP : s.heap.get? 474 = some (tabObj ps)) (hn : h₀.get? 474 = none) (ht : TriplesOk ps.toList) (C : CodeHd h₀ 478 474) (G : AllBare s.gens) (hd : A.depth + 4 < recursionLimit) (hh : A.handled = none) (hu : A.units + 30 < cLine)
    (hx : s.heap.get? x = some (instObj 561 d)) (hdx : s.heap.get? d = some (opDict w.params q1 q2 q3 q4 q5 q6 q7 q8 q9 n kd ar true l)) (hl : s.heap.get? l = some (lstOf vs nl))
    (hy : s.heap.get? y = some (instObj 561 d2)) (hdy : s.heap.get? d2 = some (opDict w.params r1 r2 r3 r4 r5 r6 r7 r8 r9 nn kd2 ar2 true l2)) (hl2 : s.heap.get? l2 = some (lstOf us nl2))
    (hz : vs.length ≤ 2) (hz2 : us.length ≤ 2) (hvs : ∀ i v, vs[i]? = some v → SymAt w.params s.heap v (ns1 i)) (hus : ∀ i v, us[i]? = some v → SymAt w.params s.heap v (ns2 i))
    (ret : ∀ s' : Shared, (∀ b o, b ≠ 474 → s.heap.get? b = some o → s'.heap.get? b = some o) → TabOk 474 s'.heap → AllBare s'.gens → s'.os = s.os → Q (.bool (vs.length == us.length && (List.range (min vs.length us.length)).all fun j => ns1 j == ns2 j)) s') :
    wpAny (model prog w) A (call (.ref 479) [.ref x, .ref y]) Q E s := by
  simp only [opDict, opStr] at hdx hdy
  refine wpAny_call ?_
  k_dflt (refine' plainT (binds := [(Str.ofString "self", .ref x), (Str.ofString "other", .ref y)]) F X T hP hn ?k6 ?k7 ?k8 ?k9 ?kB ?_ ?c2 ?c3 ?c4 ?c5; (case k6 => k_is); (case k7 => k_is); (case k8 => omega); (case k9 => exact BindsTo.of_eq rfl); (case c5 => decide); (case kB => exact locs rfl); (case c2 => exact rfl); (case c3 => exact rfl); (case c4 => exact rfl))
  intro g L' h1 st up dn F' N' X' T'
  have gx := up _ _ hx (fun e => by rw [e, hP] at hx; simp [instObj] at hx)
  have gdx := up _ _ hdx (fun e => by rw [e, hP] at hdx; simp [dictOf] at hdx)
  have gl := up _ _ hl (fun e => by rw [e, hP] at hl; simp [lstOf] at hl)
  have gy := up _ _ hy (fun e => by rw [e, hP] at hy; simp [instObj] at hy)
  have gdy := up _ _ hdy (fun e => by rw [e, hP] at hdy; simp [dictOf] at hdy)
  have gl2 := up _ _ hl2 (fun e => by rw [e, hP] at hl2; simp [lstOf] at hl2)
  have gL : g.IsList l vs.toArray := ⟨_, gl, rfl, _, rfl⟩
  have gL2 : g.IsList l2 us.toArray := ⟨_, gl2, rfl, _, rfl⟩
  have gv : ∀ i v, vs[i]? = some v → SymAt w.params g v (ns1 i) := fun i v e => (hvs i v e).up hP up
  have gu : ∀ i v, us[i]? = some v → SymAt w.params g v (ns2 i) := fun i v e => (hus i v e).up hP up
  have gC : CodeHd g 478 474 := C.keeps st
  have gn : g.get? 474 = none := (N' _ (.head _)).2.2
  have gLP : (474 : Addr) ≠ L' := (N' _ (.head _)).2.1
  have gT : TabOk 474 h1 := ⟨ps, (N' _ (.head _)).1, ht⟩
  have gl' : g.NoLimit := T'.nolimit
  obtain ⟨bm, ob, gM⟩ := bmod_of_top T'
  (try dsimp only); (try k_fold)
  k_steps
  · rename_i s8 F8 G8 o8 k8 ha
    have q0 : (vs.toArray.size : Int) = (us.toArray.size : Int) := by assumption
    have e1 : vs.length = us.length := by simp only [List.size_toArray] at q0; omega
    have e : Value.bool true = .bool (vs.length == us.length && (List.range (min vs.length us.length)).all fun j => ns1 j == ns2 j) := by rw [ha, e1]; simp
    rw [e]
    exact ret _ (fun b o n h => F8.keep _ _ (up b o h n)) (tab_on (by assumption) (by assumption) k8) G8 (o8.trans (by assumption))
  · rename_i s8 F8 G8 o8 k8 ha
    have q0 : (vs.toArray.size : Int) = (us.toArray.size : Int) := by assumption
    have e1 : vs.length = us.length := by simp only [List.size_toArray] at q0; omega
    have e : Value.bool ((List.range (min vs.length us.length)).all fun j => ns1 j == ns2 j) = .bool (vs.length == us.length && (List.range (min vs.length us.length)).all fun j => ns1 j == ns2 j) := by rw [e1]; simp
    rw [e]
    exact ret _ (fun b o n h => F8.keep _ _ (up b o h n)) (tab_on (by assumption) (by assumption) k8) G8 (o8.trans (by assumption))
  · have q0 : (vs.toArray.size : Int) ≠ (us.toArray.size : Int) := by assumption
    have q2 : ((vs.toArray.size : Int) == (us.toArray.size : Int)) = false := beq_eq_false_iff_ne.mpr q0
    have e1 : ¬ vs.length = us.length := by simp only [List.size_toArray] at q0; omega
    have e : Value.bool ((vs.toArray.size : Int) == (us.toArray.size : Int)) = .bool (vs.length == us.length && (List.range (min vs.length us.length)).all fun j => ns1 j == ns2 j) := by
      have q1 : (vs.length == us.length) = false := by simpa using e1
      rw [q1, q2]; rfl
    rw [e]
    exact ret _ (fun b o n h => F'.keep _ _ (up b o h n)) gT G rfl
end eqs
end secEq3
section secNe3
theorem rk29 : True := by
  k_with_none
  trivial
set_option maxHeartbeats 4000000
theorem ne_same {prog : Program} {w : World} {loose : List Str} {mean : ExcName → Option Value} {mg mb : Str → Option Value} {A : Around} {h₀ : Heap} {L : Addr} {m : Str → Option Value} {s : Shared} {Q E : Value → Shared → Prop}
    {x d y d2 : Addr} {q1 q2 q3 q4 q5 q6 q7 q8 q9 r1 r2 r3 r4 r5 r6 r7 r8 r9 : Tok} {n nn nl nl2 : Nat} {kd ar l kd2 ar2 l2 : Addr} {k : Bool} {vs us : List Value} {ns1 ns2 : Nat → Str} {ps : Array Value}
    (F : Fr h₀ L s.heap m) (X : (MyK w.params).In h₀) (T : Top topProg loose mean mg mb h₀) (hP : s.heap.get? 474 = some (tabObj ps)) (hn : h₀.get? 474 = none) (ht : TriplesOk ps.toList) (C : CodeHd h₀ 478 474) (G : AllBare s.gens) (hd : A.depth + 4 < recursionLimit) (hh : A.handled = none) (hu : A.units + 31 < cLine)
    (hx : s.heap.get? x = some (instObj 561 d)) (hdx : s.heap.get? d = some (opDict w.params q1 q2 q3 q4 q5 q6 q7 q8 q9 n kd ar k l)) (hl : s.heap.get? l = some (lstOf vs nl))
    (hy : s.heap.get? y = some (instObj 561 d2)) (hdy : s.heap.get? d2 = some (opDict w.params r1 r2 r3 r4 r5 r6 r7 r8 r9 nn kd2 ar2 k l2)) (hl2 : s.heap.get? l2 = some (lstOf us nl2))
    (hz : vs.length ≤ 2) (hz2 : us.length ≤ 2) (hvs : ∀ i v, vs[i]? = some v → SymAt w.params s.heap v (ns1 i)) (hus : ∀ i v, us[i]? = some v → SymAt w.params s.heap v (ns2 i))
    (ret : ∀ s' : Shared, (∀ b o, b ≠ 474 → s.heap.get? b = some o → s'.heap.get? b = some o) → TabOk 474 s'.heap → AllBare s'.gens → s'.os = s.os → Q (.bool (!(vs.length == us.length && (List.range (min vs.length us.length)).all fun j => ns1 j == ns2 j))) s') :
    wpAny (model prog w) A (compareOp .NotEq (.ref x) (.ref y)) Q E s := by
  have hu1 : A.in1.units < cLine := by rw [units_in1]; omega
  have hu2 : A.in1.units + 30 < cLine := by rw [units_in1]; omega
  cases k
  · exact ne_K (K := MyK w.params) hu1 (X.keeps F.keep) (inst_get hx hdx) (inst_get hy hdy) (by k_is) (by k_is) (by k_is) (by k_is) (by k_is) (by k_is) (by k_is) (by k_is) (by k_is)
      (eq_f F X T hP hn ht C G hd hh hu2 hx hdx hl hy hdy hl2 hz hz2 hvs hus fun s' a b c d => .inr ⟨_, rfl, ret s' a b c d⟩)
  · exact ne_K (K := MyK w.params) hu1 (X.keeps F.keep) (inst_get hx hdx) (inst_get hy hdy) (by k_is) (by k_is) (by k_is) (by k_is) (by k_is) (by k_is) (by k_is) (by k_is) (by k_is)
      (eq_t F X T hP hn ht C G hd hh hu2 hx hdx hl hy hdy hl2 hz hz2 hvs hus fun s' a b c d => .inr ⟨_, rfl, ret s' a b c d⟩)
end secNe3
section secPiece
/-- what tells a piece: a symbol's name, or an operation's letter and its operands' names -/
noncomputable def pv : Fin 8 → Sum Str (Bool × List Str)
  | 0 => .inl (Str.ofString "a")
  | 1 => .inl (Str.ofString "b")
  | 2 => .inr (false, [Str.ofString "a"])
  | 3 => .inr (true, [Str.ofString "a", Str.ofString "b"])
  | 4 => .inr (true, [Str.ofString "b", Str.ofString "a"])
  | 5 => .inr (true, [Str.ofString "a", Str.ofString "a"])
  | 6 => .inr (true, [Str.ofString "a"])
  | 7 => .inr (false, [Str.ofString "a", Str.ofString "b"])
noncomputable abbrev Gets (h : Heap) (a : Addr) (o : Obj) : Prop := h.get? a = some o
noncomputable def OpAt (P : Params) (h : Heap) (v : Value) (k : Bool) (ns : List Str) : Prop :=
  ∃ x d q1 q2 q3 q4 q5 q6 q7 q8 q9 n nl kd ar l vs, v = .ref x ∧ h.get? x = some (instObj 561 d) ∧ h.get? d = some (opDict P q1 q2 q3 q4 q5 q6 q7 q8 q9 n kd ar k l) ∧ h.get? l = some (lstOf vs nl) ∧ vs.length = ns.length ∧ vs.length ≤ 2 ∧ ∀ i u, vs[i]? = some u → SymAt P h u (ns.getD i (Str.ofString ""))
noncomputable def View (P : Params) (h : Heap) (v : Value) : Sum Str (Bool × List Str) → Prop
  | .inl x => SymAt P h v x
  | .inr (k, ns) => OpAt P h v k ns
theorem sym_a {P : Params} {h : Heap} {v : Value} (e : ExprIn P (Gets h) v (.s .a)) : SymAt P h v (Str.ofString "a") := by
  cases e with
  | sa a b => exact ⟨_, _, _, _, _, _, rfl, a, b⟩
theorem sym_b {P : Params} {h : Heap} {v : Value} (e : ExprIn P (Gets h) v (.s .b)) : SymAt P h v (Str.ofString "b") := by
  cases e with
  | sb a b => exact ⟨_, _, _, _, _, _, rfl, a, b⟩
theorem op_1 {P : Params} {h : Heap} {v : Value} {k : Bool} {t : Nd} {x : Str} (e : ExprIn P (Gets h) v (.o1 k t)) (f : ∀ u, ExprIn P (Gets h) u t → SymAt P h u x) : OpAt P h v k [x] := by
  cases e with
  | o1 a b c i =>
    refine ⟨_, _, _, _, _, _, _, _, _, _, _, _, _, _, _, _, _, rfl, a, b, c, rfl, by simp, fun j u hu => ?_⟩
    match j, hu with
    | 0, hu => cases hu; exact f _ i
theorem op_2 {P : Params} {h : Heap} {v : Value} {k : Bool} {t t' : Nd} {x y : Str} (e : ExprIn P (Gets h) v (.o2 k t t')) (f : ∀ u, ExprIn P (Gets h) u t → SymAt P h u x) (f' : ∀ u, ExprIn P (Gets h) u t' → SymAt P h u y) : OpAt P h v k [x, y] := by
  cases e with
  | o2 a b c i i' =>
    refine ⟨_, _, _, _, _, _, _, _, _, _, _, _, _, _, _, _, _, rfl, a, b, c, rfl, by simp, fun j u hu => ?_⟩
    match j, hu with
    | 0, hu => cases hu; exact f _ i
    | 1, hu => cases hu; exact f' _ i'
theorem view {P : Params} {h : Heap} {v : Value} : ∀ {i : Fin 8}, ExprIn P (Gets h) v (pieceNd i) → View P h v (pv i)
  | 0, e => sym_a e
  | 1, e => sym_b e
  | 2, e => op_1 e fun _ => sym_a
  | 3, e => op_2 e (fun _ => sym_a) fun _ => sym_b
  | 4, e => op_2 e (fun _ => sym_b) fun _ => sym_a
  | 5, e => op_2 e (fun _ => sym_a) fun _ => sym_a
  | 6, e => op_1 e fun _ => sym_a
  | 7, e => op_2 e (fun _ => sym_a) fun _ => sym_b
/-- the comparison's answer -/
noncomputable def pvEq : Sum Str (Bool × List Str) → Sum Str (Bool × List Str) → Bool
  | .inl x, .inl y => x == y
  | .inr (k, ns), .inr (k', ns') => k == k' && (ns.length == ns'.length && (List.range (min ns.length ns'.length)).all fun j => ns.getD j (Str.ofString "") == ns'.getD j (Str.ofString ""))
  | _, _ => false
theorem pvEq_eq : ∀ i j : Fin 8, pvEq (pv i) (pv j) = decide (i = j) := by decide +kernel
theorem op_ne {P : Params} {h : Heap} {x y d d2 : Addr} {q1 q2 q3 q4 q5 q6 q7 q8 q9 r1 r2 r3 r4 r5 r6 r7 r8 r9 : Tok} {n nn : Nat} {kd ar l kd2 ar2 l2 : Addr} {k k2 : Bool} (hk : k ≠ k2) (hx : h.get? x = some (instObj 561 d)) (hdx : h.get? d = some (opDict P q1 q2 q3 q4 q5 q6 q7 q8 q9 n kd ar k l))
    (hy : h.get? y = some (instObj 561 d2)) (hdy : h.get? d2 = some (opDict P r1 r2 r3 r4 r5 r6 r7 r8 r9 nn kd2 ar2 k2 l2)) : x ≠ y := by
  intro e
  subst e
  have e1 := Option.some.inj (hx.symm.trans hy)
  have e2 : d = d2 := by
    have := congrArg Obj.dict e1
    exact Option.some.inj this
  subst e2
  have e3 := Option.some.inj (hdx.symm.trans hdy)
  have e4 : (some (Value.str (opStr k) q9) : Option Value) = some (.str (opStr k2) r9) := congrArg (fun o : Obj => (match o.data with | .dict es _ => (es[2]?).map DictEntry.val | _ => none : Option Value)) e3
  have e5 : opStr k = opStr k2 := by injection e4 with e4; injection e4
  cases k <;> cases k2 <;> first | exact hk rfl | exact absurd e5 (by decide +kernel)
section
variable {prog : Program} {w : World} {loose : List Str} {mean : ExcName → Option Value} {mg mb : Str → Option Value} {A : Around} {h₀ : Heap} {L : Addr} {m : Str → Option Value} {s : Shared} {Q E : Value → Shared → Prop}
theorem ne_view {r e : Value} {p q : Sum Str (Bool × List Str)} (F : Fr h₀ L s.heap m) (X : (MyK w.params).In h₀) (T : Top topProg loose mean mg mb h₀) (hP : TabOk 474 s.heap) (hn : h₀.get? 474 = none) (C : CodeHd h₀ 478 474) (G : AllBare s.gens) (hd : A.depth + 4 < recursionLimit) (hh : A.handled = none) (hu : A.units + 31 < cLine)
    (vr : View w.params s.heap r p) (ve : View w.params s.heap e q)
    (ret : ∀ s' : Shared, (∀ b o, b ≠ 474 → s.heap.get? b = some o → s'.heap.get? b = some o) → TabOk 474 s'.heap → AllBare s'.gens → s'.os = s.os → Q (.bool (!(pvEq p q))) s') :
    wpAny (model prog w) A (compareOp .NotEq r e) Q E s := by
  obtain ⟨ps, hPs, ht⟩ := hP
  have hu1 : A.in1.units < cLine := by rw [units_in1]; omega
  have hd1 : A.depth < recursionLimit := by omega
  have plain : ∀ c, c = (!(pvEq p q)) → ∀ h' tk, (∀ b o, s.heap.get? b = some o → h'.get? b = some o) → Q (.bool c) { s with heap := h', toks := tk } := fun c hc h' tk kk => by
    rw [hc]
    exact ret _ (fun b o _ e => kk b o e) ⟨ps, kk _ _ hPs, ht⟩ G rfl
  rcases p with a | ⟨k, ns⟩ <;> rcases q with b | ⟨k', ns'⟩
  · obtain ⟨x, d, t1, t2, t3, n, rfl, h1, h2⟩ := vr
    obtain ⟨y, d2, t4, t5, t6, n2, rfl, h3, h4⟩ := ve
    exact ne_ss F X T hu1 hd1 h1 h2 h3 h4 (plain _ rfl)
  · obtain ⟨x, d, t1, t2, t3, n, rfl, h1, h2⟩ := vr
    obtain ⟨y, d2, r1, r2, r3, r4, r5, r6, r7, r8, r9, nn, nl, kd, ar, l, vs, rfl, h3, h4, _⟩ := ve
    exact ne_so F X T hu1 hd1 h1 h2 h3 h4 (plain _ rfl)
  · obtain ⟨y, d2, r1, r2, r3, r4, r5, r6, r7, r8, r9, nn, nl, kd, ar, l, vs, rfl, h3, h4, _⟩ := vr
    obtain ⟨x, d, t1, t2, t3, n, rfl, h1, h2⟩ := ve
    exact ne_os F X T hu1 hd1 h3 h4 h1 h2 (plain _ rfl)
  · obtain ⟨x, d, q1, q2, q3, q4, q5, q6, q7, q8, q9, n, nl, kd, ar, l, vs, rfl, h1, h2, h3, e1, z1, f1⟩ := vr
    obtain ⟨y, d2, r1, r2, r3, r4, r5, r6, r7, r8, r9, nn, nl2, kd2, ar2, l2, us, rfl, h4, h5, h6, e2, z2, f2⟩ := ve
    by_cases hk : k = k'
    · subst hk
      refine ne_same F X T hPs hn ht C G hd hh hu h1 h2 h3 h4 h5 h6 z1 z2 f1 f2 fun s' a b c d => ?_
      have := ret s' a b c d
      simp only [pvEq, beq_self_eq_true, Bool.true_and] at this
      rw [e1, e2]
      exact this
    · exact ne_oo hk F X T hu1 hd1 h1 h2 h4 h5 (op_ne hk h1 h2 h4 h5) (plain _ (by simp [pvEq, hk]))
end
end secPiece
section secPc2
section
variable {prog : Program} {w : World} {loose : List Str} {mean : ExcName → Option Value} {mg mb : Str → Option Value} {A : Around} {h₀ : Heap} {L : Addr} {m : Str → Option Value} {s : Shared} {Q E : Value → Shared → Prop}
/-- two pieces compared, in a frame whose ledger holds the table -/
theorem ne_piece {r e : Value} {i j : Fin 8} {ps : Array Value} {news : Led} (F : Fr h₀ L s.heap m) (N : News h₀ L s.heap news) (hm : (474, PySem.W.tabObj ps) ∈ news) (ht : TriplesOk ps.toList) (X : (MyK w.params).In h₀) (T : Top topProg loose mean mg mb h₀) (C : PySem.W.CodeHd h₀ 478 474) (G : AllBare s.gens) (hd : A.depth + 4 < recursionLimit) (hh : A.handled = none) (hu : A.units + 31 < cLine)
    (vr : ExprIn w.params (Gets s.heap) r (pieceNd i)) (ve : ExprIn w.params (Gets s.heap) e (pieceNd j))
    (ret : ∀ (s' : Shared) ps', TriplesOk ps'.toList → Fr h₀ L s'.heap m → (∀ b o, b ≠ 474 → s.heap.get? b = some o → s'.heap.get? b = some o) → News h₀ L s'.heap [(474, PySem.W.tabObj ps')] → AllBare s'.gens → s'.os = s.os → Q (.bool (!(decide (i = j)))) s') :
    wpAny (model prog w) A (compareOp .NotEq r e) Q E s := by
  have hN := N _ hm
  refine ne_view F X T ⟨ps, hN.1, ht⟩ hN.2.2 C G hd hh hu (view vr) (view ve) fun s' a b c d => ?_
  obtain ⟨ps', hp, ht'⟩ := b
  rw [pvEq_eq]
  have nb : ∀ b o, h₀.get? b = some o → b ≠ 474 := fun b o e q => by rw [q, hN.2.2] at e; cases e
  have F' : Fr h₀ L s'.heap m := by
    obtain ⟨oL, es, ep, hL, rr⟩ := F.ns
    exact ⟨⟨oL, es, ep, a _ _ (Ne.symm hN.2.1) hL, rr⟩, fun b o e => a _ _ (nb _ _ e) (F.keep _ _ e), F.above⟩
  exact ret s' ps' ht' F' a (fun q hq => by rw [List.mem_singleton.mp hq]; exact ⟨hp, hN.2⟩) c d
end
end secPc2
section secRows
/-- a substitution in plain words: names and pieces, in the order of their coming -/
noncomputable abbrev Sub := List (Nm × Fin 8)
noncomputable def Sub.get (S : Sub) (n : Nm) : Option (Fin 8) := (S.find? fun p => p.1 = n).map (·.2)
/-- places taken in from the left to the right, up to the first that does not fit -/
noncomputable def Sub.run : Sub → List (Nm × Fin 8) → Sub × Bool
  | S, [] => (S, true)
  | S, (n, i) :: r => match S.get n with
    | none => Sub.run (S ++ [(n, i)]) r
    | some j => if i = j then Sub.run S r else (S, false)
inductive RowsAre (V : Value → Fin 8 → Prop) : AL → Sub → Prop
  | nil : RowsAre V [] []
  | cons {n : Nm} {v : Value} {i : Fin 8} {D : AL} {S : Sub} : V v i → RowsAre V D S → RowsAre V ((n, v) :: D) ((n, i) :: S)
theorem RowsAre.mono {V V' : Value → Fin 8 → Prop} (h : ∀ v i, V v i → V' v i) {D : AL} {S : Sub} (x : RowsAre V D S) : RowsAre V' D S := by
  induction x with
  | nil => exact .nil
  | cons a _ ih => exact .cons (h _ _ a) ih
theorem RowsAre.length {V : Value → Fin 8 → Prop} {D : AL} {S : Sub} (x : RowsAre V D S) : D.length = S.length := by
  induction x with
  | nil => rfl
  | cons _ _ ih => simp [ih]
theorem RowsAre.get {V : Value → Fin 8 → Prop} {D : AL} {S : Sub} (x : RowsAre V D S) (n : Nm) : (D.get n = none ∧ S.get n = none) ∨ ∃ v i, D.get n = some v ∧ S.get n = some i ∧ V v i := by
  induction x with
  | nil => exact .inl ⟨rfl, rfl⟩
  | @cons n' v i D S a _ ih =>
    by_cases h : n' = n
    · refine .inr ⟨v, i, ?_, ?_, a⟩ <;> simp [AL.get, Sub.get, h]
    · have e1 : AL.get ((n', v) :: D) n = D.get n := by simp [AL.get, h]
      have e2 : Sub.get ((n', i) :: S) n = S.get n := by simp [Sub.get, h]
      rw [e1, e2]
      exact ih
theorem RowsAre.snoc {V : Value → Fin 8 → Prop} {D : AL} {S : Sub} (x : RowsAre V D S) {n : Nm} {v : Value} {i : Fin 8} (a : V v i) : RowsAre V (D ++ [(n, v)]) (S ++ [(n, i)]) := by
  induction x with
  | nil => exact .cons a .nil
  | cons b _ ih => exact .cons b ih
theorem AL.set_new {D : AL} {n : Nm} {v : Value} (h : D.get n = none) : D.set n v = D ++ [(n, v)] := by
  unfold AL.set
  have : D.any (fun p => decide (p.1 = n)) = false := by
    cases e : D.any (fun p => decide (p.1 = n)) with
    | false => rfl
    | true =>
      obtain ⟨p, hp, q⟩ := List.any_eq_true.mp e
      have : (D.find? fun p => decide (p.1 = n)) = none := by simpa [AL.get] using h
      exact absurd q (by simpa using List.find?_eq_none.mp this p hp)
  rw [this]
  rfl
end secRows
section secDeep
/-- the namespaces of the frames beneath -/
noncomputable abbrev frs (l : List Env) : List Addr := l.filterMap (·.frame)
section
variable {prog : Program} {w : World} {A₀ A : Around} {s : Shared} {base h₀ : Heap} {outer : List Env} {L a : Addr} {m : Str → Option Value} {cn : Str} {cs : Scope} {ccd : Value} {news : Led} {K : Frag} {p : Program} {loose : List Str} {mean : ExcName → Option Value} {mg mb : Str → Option Value}
theorem frs_mem {env : Env} {b : Addr} (hf : env.frame = some L) (hm : b ∈ frs (env :: outer)) : b = L ∨ b ∈ frs outer := by
  rw [show frs (env :: outer) = L :: frs outer from by simp [frs, hf]] at hm
  exact List.mem_cons.mp hm
/-- a frame's call has turned its ground (slots of frames alone): so is the caller's ground turned -/
theorem turned {env : Env} {g g' H : Heap} (hf : env.frame = some L) (B : Below A₀ base outer h₀) (XB : K.In base) (TB : Top p loose mean mg mb base) (D : KtsDicts (frs outer) h₀)
    (st : h₀.StaysIn g) (nL : h₀.get? L = none) (T' : KtsTurn (frs (env :: outer)) g g') (kp : ∀ b o, g'.get? b = some o → H.get? b = some o) :
    ∃ h₁, KtsTurn (frs outer) h₀ h₁ ∧ (∀ b o, h₁.get? b = some o → H.get? b = some o) ∧ Below A₀ base outer h₁ ∧ K.In h₁ ∧ Top p loose mean mg mb h₁ ∧ KtsDicts (frs outer) h₁ := by
  have out : ∀ b o, h₀.get? b = some o → b ∉ frs outer → b ∉ frs (env :: outer) := fun b o e nm q => (frs_mem hf q).elim (fun z => by rw [z, nL] at e; cases e) nm
  obtain ⟨T₁, S₁⟩ := kts_turn_at (g := h₀) (h := H) (fs := frs outer) (fun b hb => let ⟨_, o, ho, _⟩ := B.frames.mem hb; ⟨o, ho⟩)
    (fun b o e nm => kp b o (T'.other b o (st b o e) (out b o e nm)))
    (fun b o e _ => let ⟨sl, hs⟩ := T'.up (st b o e); ⟨sl, kp _ _ hs⟩)
  have B₁ : Below A₀ base outer (ktsHeap H (frs outer) h₀) :=
    ⟨B.stack, fun b o e => T₁.other b o (B.stays b o e) (fun hm => by rw [(B.frames.mem hm).1] at e; cases e), B.frames.of_keeps fun b o e _ => let ⟨sl, hs⟩ := T₁.up e; ⟨_, hs, rfl⟩⟩
  exact ⟨_, T₁, S₁, B₁, XB.keeps B₁.stays, TB.keeps B₁.stays, D.turn T₁⟩
/-- behind a call that has caught: what stood beside the mutable part still stands -/
theorem backD {env : Env} {g g' h₁ H h' : Heap} {L' : Addr} {m' : Str → Option Value} {M rest M' : Led} (hf : env.frame = some L) (N : News h₀ L H (M ++ rest)) (hR : ∀ a o, At h₀ rest a o → g.get? a = some o) (D : KtsDicts (frs outer) h₀)
    (T' : KtsTurn (frs (env :: outer)) g g') (F' : Fr g' L' h' m') (T₁ : KtsTurn (frs outer) h₀ h₁) (kN : News h₁ L h' M') : News h₁ L h' (M' ++ rest) := by
  intro p hp
  rcases List.mem_append.mp hp with hp | hp
  · exact kN p hp
  · have n := (N p (List.mem_append_right _ hp)).2
    refine ⟨F'.keep _ _ (T'.other _ _ (hR p.1 p.2 (.inr hp)) fun q => ?_), n.1, T₁.none_ _ n.2⟩
    rcases frs_mem hf q with q | q
    · exact n.1 q
    · obtain ⟨o, _, _, e, _⟩ := D _ q
      rw [n.2] at e
      cases e
variable {R : Result → Shared → Prop} {name qual : Str} {params : Arguments} {body : List Stmt} {scope : Scope} {dV kV doc pm cdv ct oc : Value} {an od : Option Addr} {osl : Array (Option Value)} {f : Addr} {args : Args} {binds : List (Str × Value)}
/-- a def with a handler is entered: the ground keeps all but the mutable part -/
theorem enterD {env : Env} (B : Below A₀ base outer h₀) (F : Fr h₀ L s.heap m) (X₀ : K.In h₀) (N : News h₀ L s.heap news) (T : Top p loose mean mg mb h₀) (XB : K.In base) (TB : Top p loose mean mg mb base) (D : KtsDicts (frs outer) h₀)
    (hA : A.frames = some (env :: outer)) (hf : env.frame = some L) (hke : env.scope.kind = .function)
    (ho : K.lookup f = some ⟨oc, od, .func (fnOf name qual params body scope dV kV doc pm an cdv ct), osl⟩) (hcd : codeIn K cdv qual = true) (hroom : A.depth < recursionLimit)
    (hbind : BindsTo s (fnOf name qual params body scope dV kV doc pm an cdv ct) args binds) (hloc : ∀ y ∈ binds, scope.names.lookup y.1 = some .local)
    (h : ∀ g L' h₁, Fr h₀ L g m → Fr g L' h₁ (fun y => binds.reverse.lookup y) → News g L' h₁ news → Below A base (env :: outer) g → K.In g → Top p loose mean mg mb g → KtsDicts (frs (env :: outer)) g → GSub s.heap g (news.map (·.1)) →
      wpAny (model prog w) (A.deeper (envOf qual scope L' f cdv)) (execs body (envOf qual scope L' f cdv))
        (fun fl s' => LeaveS (frs (env :: outer)) A₀ base outer K p loose mean mg mb h₀ h₀ L m g R (match fl with | .ret v => v | _ => .none) s')
        (fun e s' => wpAny (model prog w) (A.deeper (envOf qual scope L' f cdv)) («leaving» (envOf qual scope L' f cdv) e) (fun _ s'' => R (.error e) s'') (fun e' s'' => R (.error e') s'') s')
        { s with heap := h₁, toks := s.toks + binds.length })
    (hco : scope.isCoroutine = false) (hgen : scope.isGenerator = false) (hk : scope.kind = .function)
    (hcell : ∀ x ∈ scope.names, x.2 ≠ .cell) : codeAny (model prog w) A (.call (.ref f) args) R s := by
  have X := X₀.keeps F.keep
  refine codeAny_call_def (fd := fnOf name qual params body scope dV kV doc pm an cdv ct) (body := body) (binds := binds) hroom (X _ _ ho) rfl (T.nolimit.keeps F.keep) (codeRec_of X hcd) rfl hbind hcell hloc (fun h₁ hns hk₁ => ?_) hco hgen hk
  obtain ⟨FG, B', st, lv⟩ := groundX (R := R) B F N hA hf hke
  obtain ⟨oL, es, ep, hL, hLd, hLk, hLf⟩ := FG.ns
  have ns2 : ∀ (sl : Array (Option Value)) h', h'.get? L = some { oL with slots := sl } → Heap.Ns h' L m := fun sl h' e => ⟨_, es, ep, e, hLd, hLk, hLf⟩
  have nL : h₀.get? L = none := kts_self F
  have DD : KtsDicts (frs (env :: outer)) (hideAll s.heap (news.map (·.1))) := fun b hb => by
    rcases frs_mem hf hb with rfl | hb
    · exact ⟨oL, es, ep, hL, hLd⟩
    · obtain ⟨o, es', n', ho', hd'⟩ := D b hb
      exact ⟨o, es', n', st b o ho', hd'⟩
  refine wpAny_mono (h _ s.heap.objs.size h₁ FG ⟨hns, fun b o e => hk₁ b o (of_hideAll _ e), Nat.le_of_eq (hideAll_size _ _)⟩
    (fun p hp => ⟨hk₁ _ _ (N p hp).1, Nat.ne_of_lt (Heap.lt_size (N p hp).1), hideAll_none _ (List.mem_map_of_mem hp)⟩) B' (X₀.keeps st) (T.keeps st) DD (fun b o e n => hideAll_get _ e n)) (fun fl s' hl => ?_) fun _ _ y => y
  rcases hl with ⟨L', m', news', F', N', k⟩ | ⟨g', L', m', news', T', F', N', k⟩
  · exact lv _ _ ⟨L', m', news', F', N', k⟩
  · obtain ⟨sl, hs⟩ := T'.up hL
    obtain ⟨h₂, T₂, S₂, B₂, X₂, P₂, D₂⟩ := turned hf B XB TB D st nL T' F'.keep
    refine k h₂ T₂ ⟨ns2 sl _ (F'.keep _ _ hs), S₂, by rw [T₂.size]; exact F.above⟩ (fun p hp => ⟨(N' p hp).1, fun q => ?_, ?_⟩) B₂ X₂ P₂ D₂
    · have := (N' p hp).2.2; rw [q, hs] at this; cases this
    · refine T₂.none_ _ ?_
      cases q : h₀.get? p.1 with
      | none => rfl
      | some o =>
        obtain ⟨sl', hs'⟩ := T'.up (st _ _ q)
        have := (N' p hp).2.2
        rw [hs'] at this
        cases this
end
end secDeep
section secExt1
set_option maxHeartbeats 4000000
noncomputable abbrev subDict (P : Params) (t : Tok) (rd : Addr) (n : Nat) : Obj := dictOf [ent P (Str.ofString "rows") t (.ref rd)] n
theorem truthy_nm {prog : Program} {w : World} {A : Around} {E : Value → Shared → Prop} {s : Shared} {n : Nm} {t : Tok} {Q : Bool → Shared → Prop} (h : Q true { s with toks := s.toks + 1 + 1 }) : wpAny (model prog w) A (truthy (.str n.str t)) Q E s := by
  cases n <;> exact PySem.P.truthy_str (by decide +kernel) (by exact h)
theorem in_rows {prog : Program} {w : World} {A : Around} {E : Value → Shared → Prop} {s : Shared} {h₀ : Heap} {L rd : Addr} {news : Led} {oh : Obj} {D : AL} {v : Nm} {t : Tok} {Q : Value → Shared → Prop} (N : News h₀ L s.heap news) (hp : (rd, oh) ∈ news) (hD : oh.IsDictOf (strKind prog w) D.kvs) (lo : (rd == sysModules) = false) (b : Bool) (hb : (D.get v).isSome = b)
    (h : Q (.bool b) { s with toks := s.toks + 1 }) : wpAny (model prog w) A (compareOp .In (.str v.str t) (.ref rd)) Q E s :=
  wpAny_in_of (knd := strKind prog w) (k := v.str) (strKind_is _ _ _ _) lo (kda_dict N hp hD).mapOf (by rw [AL.get_kvs, hb]; exact h)
theorem View.up {P : Params} {h h' : Heap} {v : Value} {p : Sum Str (Bool × List Str)} (q : View P h v p) (k : ∀ b o, h.get? b = some o → h'.get? b = some o) : View P h' v p := by
  rcases p with a | ⟨kk, ns⟩
  · obtain ⟨x, d, t1, t2, t3, n, rfl, h1, h2⟩ := q
    exact ⟨x, d, t1, t2, t3, n, rfl, k _ _ h1, k _ _ h2⟩
  · obtain ⟨x, d, q1, q2, q3, q4, q5, q6, q7, q8, q9, n, nl, kd, ar, l, vs, rfl, h1, h2, h3, e1, z1, f1⟩ := q
    exact ⟨x, d, q1, q2, q3, q4, q5, q6, q7, q8, q9, n, nl, kd, ar, l, vs, rfl, k _ _ h1, k _ _ h2, k _ _ h3, e1, z1, fun i u e => by
      obtain ⟨x, d, t1, t2, t3, n, rfl, h1, h2⟩ := f1 i u e
      exact ⟨x, d, t1, t2, t3, n, rfl, k _ _ h1, k _ _ h2⟩⟩
theorem not_ms {prog : Program} {w : World} {A : Around} {E : Value → Shared → Prop} {s : Shared} {r : Value} {p : Sum Str (Bool × List Str)} {Q : Value → Shared → Prop} (X : (MyK w.params).In s.heap) (q : View w.params s.heap r p) (h : Q (.bool false) { s with toks := s.toks + 1 }) : wpAny (model prog w) A (call (.builtin "isinstance") [r, .ref 135]) Q E s := by
  rcases p with a | ⟨kk, ns⟩
  · obtain ⟨x, d, t1, t2, t3, n, rfl, h1, h2⟩ := q
    exact kin_callC X (inst_get h1 h2) (by kin_no) (by k_is) (by k_is) (by k_is) (by k_is) (by k_is) (by k_is) h
  · obtain ⟨x, d, q1, q2, q3, q4, q5, q6, q7, q8, q9, n, nl, kd, ar, l, vs, rfl, h1, h2, _⟩ := q
    exact kin_callC X (inst_get h1 h2) (by kin_no) (by k_is) (by k_is) (by k_is) (by k_is) (by k_is) (by k_is) h
theorem not_tup {prog : Program} {w : World} {A : Around} {E : Value → Shared → Prop} {s : Shared} {r : Value} {p : Sum Str (Bool × List Str)} {Q : Value → Shared → Prop} (X : (MyK w.params).In s.heap) (q : View w.params s.heap r p) (h : Q (.bool false) { s with toks := s.toks + 1 }) : wpAny (model prog w) A (call (.builtin "isinstance") [r, .type "tuple"]) Q E s := by
  rcases p with a | ⟨kk, ns⟩
  · obtain ⟨x, d, t1, t2, t3, n, rfl, h1, h2⟩ := q
    exact kin_callT X (inst_get h1 h2) (by kin_no) (by kernel_rfl) (by k_is) (by k_is) (by k_is) (by k_is) (by k_is) (by k_is) h
  · obtain ⟨x, d, q1, q2, q3, q4, q5, q6, q7, q8, q9, n, nl, kd, ar, l, vs, rfl, h1, h2, _⟩ := q
    exact kin_callT X (inst_get h1 h2) (by kin_no) (by kernel_rfl) (by k_is) (by k_is) (by k_is) (by k_is) (by k_is) (by k_is) h
theorem ne_piece2 {prog : Program} {w : World} {loose : List Str} {mean : ExcName → Option Value} {mg mb : Str → Option Value} {A : Around} {h₀ : Heap} {L : Addr} {m : Str → Option Value} {s : Shared} {Q E : Value → Shared → Prop} {r e : Value} {i j : Fin 8} {ps : Array Value} {rd : Addr} {oh : Obj} (F : Fr h₀ L s.heap m) (N : News h₀ L s.heap [(rd, oh), (474, PySem.W.tabObj ps)]) (hr4 : @Ne Nat rd 474) (ht : TriplesOk ps.toList) (X : (MyK w.params).In h₀) (T : Top topProg loose mean mg mb h₀) (C : PySem.W.CodeHd h₀ 478 474) (G : AllBare s.gens) (hd : A.depth + 4 < recursionLimit) (hh : A.handled = none) (hu : A.units + 31 < cLine)
    (vr : ExprIn w.params (Gets s.heap) r (pieceNd i)) (ve : ExprIn w.params (Gets s.heap) e (pieceNd j)) {b : Bool} (hij : decide (i = j) = b)
    (ret : ∀ (s' : Shared) ps', TriplesOk ps'.toList → Fr h₀ L s'.heap m → News h₀ L s'.heap [(rd, oh), (474, PySem.W.tabObj ps')] → AllBare s'.gens → s'.os = s.os → Q (.bool (!b)) s') :
    wpAny (model prog w) A (compareOp .NotEq r e) Q E s := by
  refine ne_piece F N (.tail _ (.head _)) ht X T C G hd hh hu vr ve fun s' ps' a b c d e f => ?_
  rw [hij]
  refine ret s' ps' a b (fun p hp => ?_) e f
  rcases List.mem_cons.mp hp with rfl | hp
  · exact ⟨c _ _ hr4 (N _ (.head _)).1, (N _ (.head _)).2⟩
  · exact d p hp
theorem up1 {P : Params} {g h : Heap} {v : Value} {T : Nd} (x : ExprIn P (Gets g) v T) (k : ∀ b o, g.get? b = some o → h.get? b = some o) : ExprIn P (Gets h) v T := x.mono k
section ext
theorem rk30 : True := by
  k_with "~truthy str" => case' fr9 => ((k_here; refine truthy_nm ?_))
  k_with "~compareOp In str ref" => case' fr9 => ((k_here; k_dflt (refine in_rows (by k_asm) (by with_reducible kcf_m) (by assumption) (by assumption) _ (by assumption) ?_)))
  k_with "~call builtin:isinstance" => case' fr9 => ((k_here; (with_reducible show wpAny _ _ (call _ [_, Value.ref 135]) _ _ _); k_dflt (refine' not_ms ?X (p := _) ?q ?_; (case X => k_in); (case q => first | exact View.up (by with_reducible assumption) (Fr.keep (by with_reducible assumption)) | exact View.up (by with_reducible assumption) (fun b o e => Fr.keep (by with_reducible assumption) _ _ (Fr.keep (by with_reducible assumption) _ _ e)) | fail "no"))))
  k_with "~k_room" => case' fr9 => (((try simp only [depth_under_make, depth_under_kw, depth_in1, depth_deeper, depth_caller]); (try dsimp only [ktrTop]); omega))
  k_with "~k_inst" => case' fr9 => (first | exact inst_get (Fr.keep (by with_reducible assumption) _ _ (by with_reducible assumption)) (Fr.keep (by with_reducible assumption) _ _ (by with_reducible assumption)) | exact inst_get (Fr.keep (by with_reducible assumption) _ _ (Fr.keep (by with_reducible assumption) _ _ (by with_reducible assumption))) (Fr.keep (by with_reducible assumption) _ _ (Fr.keep (by with_reducible assumption) _ _ (by with_reducible assumption))) | exact inst_get (Fr.keep (by with_reducible assumption) _ _ (Fr.keep (by with_reducible assumption) _ _ (Fr.keep (by with_reducible assumption) _ _ (by with_reducible assumption)))) (Fr.keep (by with_reducible assumption) _ _ (Fr.keep (by with_reducible assumption) _ _ (Fr.keep (by with_reducible assumption) _ _ (by with_reducible assumption)))) | exact inst_get (Fr.keep (by with_reducible assumption) _ _ (Fr.keep (by with_reducible assumption) _ _ (Fr.keep (by with_reducible assumption) _ _ (Fr.keep (by with_reducible assumption) _ _ (by with_reducible assumption))))) (Fr.keep (by with_reducible assumption) _ _ (Fr.keep (by with_reducible assumption) _ _ (Fr.keep (by with_reducible assumption) _ _ (Fr.keep (by with_reducible assumption) _ _ (by with_reducible assumption))))) | fail "my_inst")
  k_with "~setItem ref str" => case' fr9 => ((k_here; k_dflt (refine' kda_set (knd := PySem.strKind _ _) ?F ?N ?U ?d (strKind_is _ _ _ _) ?z ?_; (case F => k_asm); (case N => k_asm); (case U => k_updF); (case d => k_asm); (case z => (rw [sizeLine_eq]; simp only [AL.kvs, List.length_map]; omega))); intro h' o' F' N' hd'; (try dsimp only at N')))
  k_with "~subscriptTail" => case' fr9 => ((k_here; (with_reducible show wpAny _ _ (subscriptTail _ _ (Value.ref _) (Value.str (Nm.str _) _)) _ _ _); k_dflt (refine kdt_tail (knd := PySem.strKind _ _) (by k_asm) (by with_reducible kcf_m) (by assumption) (kdt_getItem (knd := PySem.strKind _ _) (by k_asm) (by with_reducible kcf_m) (by assumption) (strKind_is _ _ _ _) (by assumption) ?_))))
  k_with "~call builtin:isinstance" => case' fr9 => ((k_here; (with_reducible show wpAny _ _ (call _ [_, Value.type (String.ofList ['t', 'u', 'p', 'l', 'e'])]) _ _ _); k_dflt (refine' not_tup ?X (p := _) ?q ?_; (case X => k_in); (case q => first | exact View.up (by with_reducible assumption) (Fr.keep (by with_reducible assumption)) | exact View.up (by with_reducible assumption) (fun b o e => Fr.keep (by with_reducible assumption) _ _ (Fr.keep (by with_reducible assumption) _ _ e)) | fail "no"))))
  k_with "~my_up" => case' fr9 => (first | exact up1 (by with_reducible assumption) (Fr.keep (by with_reducible assumption)) | exact up1 (by with_reducible assumption) (fun b o e => Fr.keep (by with_reducible assumption) _ _ (Fr.keep (by with_reducible assumption) _ _ e)) | fail "my_up")
  k_with "~my_units" => case' fr9 => (((try simp only [units_under_make, units_in1, units_deeper, Around.mark_units]); (try dsimp only [ktrTop]); omega))
  k_with "~compareOp NotEq" => case' fr9 => ((k_here; k_dflt (refine' ne_piece2 ?F ?N ?n4 ?ht ?X ?T ?C ?G ?hd ?hh ?hu ?vr ?ve ?ij ?_; (case F => with_reducible assumption); (case N => with_reducible assumption); (case n4 => assumption); (case ht => assumption); (case X => k_asm); (case T => k_asm); (case C => first | assumption | exact CodeHd.keeps (by assumption) (Fr.keep (by with_reducible assumption))); (case G => assumption); (case hd => k_room); (case hh => exact rfl); (case hu => walk_at "my_units"); (case vr => walk_at "my_up"); (case ve => walk_at "my_up"); (case ij => assumption)); intro s9 ps9 ht9 F9 N9 G9 o9; (try dsimp only [Bool.not_true, Bool.not_false]); (try k_fold)))
  k_with "~exec Raise some none" => case' fr9 => ((k_here; (with_reducible show wpAny _ _ (exec (Stmt.Raise (some (Expr.Name _ _)) none _) _) _ _ _); (with_reducible rename Fr _ _ _ _ => kF); k_dflt (refine' Raise_classB ?hh excClass_ValueError ?hs ?hx ?_; (case hh => rfl); (case hs => rw [isSubtype_type]; kernel_rfl); (case hx => (refine' name_B kF ?k1 ?k2 ?k3 ?k4 ?k5 ?_; (case k1 => k_asm); (case k2 => k_asm); (case k3 => k_is); (case k4 => boot_by_name); (case k5 => decide); exact ⟨rfl, rfl⟩))); intro h' e' x'))
  trivial
theorem ext_v_new {prog : Program} {w : World} {loose : List Str} {mean : ExcName → Option Value} {mg mb : Str → Option Value} {dp un : Nat} {gd : Option (List Code)} {cn : Str} {cs : Scope} {a : Addr} {ccd : Value} {cl : List (Str × Addr)} {outer : List Env} {A₀ : Around} {base h₀ : Heap} {L : Addr} {m : Str → Option Value} {rest : Led} {s : Shared}
    {sb sd rd : Addr} {ts : Tok} {nsd : Nat} {oh : Obj} {D : AL} {ps : Array Value} {x d : Addr} {t1 t2 t3 t4 t5 t6 : Tok} {n : Nat} {v : Nm} {r : Value} {i : Fin 8} {Q E : Value → Shared → Prop}
    (H : Here w.params loose mean mg mb A₀ base h₀ outer L m [(rd, oh), (474, tabObj ps)] rest s.heap) (hk : cs.kind = .function) (XB : (MyK w.params).In base) (TB : Top topProg loose mean mg mb base) (D0 : KtsDicts (frs outer) h₀) (hC : CodeHd h₀ 478 474) (hG : AllBare s.gens) (ht : TriplesOk ps.toList) (hsb : At h₀ rest sb (instObj 853 sd)) (hsd : At h₀ rest sd (subDict w.params ts rd nsd)) (hr4 : @Ne Nat rd 474)
    (lo : (rd == sysModules) = false) (hD : oh.IsDictOf (strKind prog w) D.kvs) (hDz : D.length ≤ 1000) (hx : At h₀ rest x (instObj 741 d)) (hdx : At h₀ rest d (wildDict w.params t1 t2 t3 t4 t5 t6 n v)) (hvr : ExprIn w.params (At h₀ rest) r (pieceNd i))
    (hd : dp + 12 < recursionLimit) (hu : un + 60 < cLine)
    (hg : AL.get D v = none) (ret : ∀ oh' h' tk, oh'.IsDictOf (strKind prog w) (AL.set D v r).kvs → Fr h₀ L h' m → News h₀ L h' ([(rd, oh'), (474, tabObj ps)] ++ rest) → Q (.bool true) { s with heap := h', toks := tk }) :
    wpAny (model prog w) (ktrTop dp un gd cn cs L a ccd cl outer) (call (.ref 836) [.ref sb, r, .ref x]) Q E s := by
  obtain ⟨B, F, X, N, T, off⟩ := H
  have N1 := subLed N
  refine wpAny_call ?_
  k_dflt (refine' enterD (binds := [(Str.ofString "self", .ref sb), (Str.ofString "subject", r), (Str.ofString "pattern", .ref x)]) B F X N1 T XB TB D0 ?kA ?kF ?kK ?k6 ?k7 ?k8 ?k9 ?kB ?_ ?c2 ?c3 ?c4 ?c5; (case kA => exact rfl); (case kF => exact rfl); (case kK => exact hk); (case k6 => k_is); (case k7 => k_is); (case k8 => k_room); (case k9 => exact BindsTo.of_eq rfl); (case c5 => decide); (case kB => exact locs rfl); (case c2 => exact rfl); (case c3 => exact rfl); (case c4 => exact rfl))
  intro g L' h1 FG F' N' B' X' T' D' kG
  have hR := grounded N off kG FG.keep
  have g1 := hR _ _ hsb
  have g2 := hR _ _ hsd
  have g3 := hR _ _ hx
  have g4 := hR _ _ hdx
  have gv : View w.params g r (pv i) := view (hvr.mono hR)
  have gvr : ExprIn w.params (Gets g) r (pieceNd i) := hvr.mono hR
  have gC : CodeHd g 478 474 := hC.keeps FG.keep
  have hg1 : (AL.get D v).isSome = false := by rw [hg]; rfl
  (try dsimp only); (try k_fold)
  k_steps
  · exact ret _ _ _ (by rw [← AL.set_kvs]; assumption) (by assumption) (back0 N hR (by assumption) (by assumption))
theorem ext_v_same {prog : Program} {w : World} {loose : List Str} {mean : ExcName → Option Value} {mg mb : Str → Option Value} {dp un : Nat} {gd : Option (List Code)} {cn : Str} {cs : Scope} {a : Addr} {ccd : Value} {cl : List (Str × Addr)} {outer : List Env} {A₀ : Around} {base h₀ : Heap} {L : Addr} {m : Str → Option Value} {rest : Led} {s : Shared}
    {sb sd rd : Addr} {ts : Tok} {nsd : Nat} {oh : Obj} {D : AL} {ps : Array Value} {x d : Addr} {t1 t2 t3 t4 t5 t6 : Tok} {n : Nat} {v : Nm} {r : Value} {i : Fin 8} {e : Value} {j : Fin 8} {Q E : Value → Shared → Prop}
    (H : Here w.params loose mean mg mb A₀ base h₀ outer L m [(rd, oh), (474, tabObj ps)] rest s.heap) (hk : cs.kind = .function) (XB : (MyK w.params).In base) (TB : Top topProg loose mean mg mb base) (D0 : KtsDicts (frs outer) h₀) (hC : CodeHd h₀ 478 474) (hG : AllBare s.gens) (ht : TriplesOk ps.toList) (hsb : At h₀ rest sb (instObj 853 sd)) (hsd : At h₀ rest sd (subDict w.params ts rd nsd)) (hr4 : @Ne Nat rd 474)
    (lo : (rd == sysModules) = false) (hD : oh.IsDictOf (strKind prog w) D.kvs) (hDz : D.length ≤ 1000) (hx : At h₀ rest x (instObj 741 d)) (hdx : At h₀ rest d (wildDict w.params t1 t2 t3 t4 t5 t6 n v)) (hvr : ExprIn w.params (At h₀ rest) r (pieceNd i))
    (hd : dp + 12 < recursionLimit) (hu : un + 60 < cLine)
    (hg : AL.get D v = some e) (hve : ExprIn w.params (At h₀ rest) e (pieceNd j)) (hij : decide (i = j) = true) (ret : ∀ (s' : Shared) ps', TriplesOk ps'.toList → Fr h₀ L s'.heap m → News h₀ L s'.heap ([(rd, oh), (474, tabObj ps')] ++ rest) → AllBare s'.gens → s'.os = s.os → Q (.bool true) s') :
    wpAny (model prog w) (ktrTop dp un gd cn cs L a ccd cl outer) (call (.ref 836) [.ref sb, r, .ref x]) Q E s := by
  obtain ⟨B, F, X, N, T, off⟩ := H
  have N1 := subLed N
  refine wpAny_call ?_
  k_dflt (refine' enterD (binds := [(Str.ofString "self", .ref sb), (Str.ofString "subject", r), (Str.ofString "pattern", .ref x)]) B F X N1 T XB TB D0 ?kA ?kF ?kK ?k6 ?k7 ?k8 ?k9 ?kB ?_ ?c2 ?c3 ?c4 ?c5; (case kA => exact rfl); (case kF => exact rfl); (case kK => exact hk); (case k6 => k_is); (case k7 => k_is); (case k8 => k_room); (case k9 => exact BindsTo.of_eq rfl); (case c5 => decide); (case kB => exact locs rfl); (case c2 => exact rfl); (case c3 => exact rfl); (case c4 => exact rfl))
  intro g L' h1 FG F' N' B' X' T' D' kG
  have hR := grounded N off kG FG.keep
  have g1 := hR _ _ hsb
  have g2 := hR _ _ hsd
  have g3 := hR _ _ hx
  have g4 := hR _ _ hdx
  have gv : View w.params g r (pv i) := view (hvr.mono hR)
  have gvr : ExprIn w.params (Gets g) r (pieceNd i) := hvr.mono hR
  have gC : CodeHd g 478 474 := hC.keeps FG.keep
  have hg1 : (AL.get D v).isSome = true := by rw [hg]; rfl
  have hg2 : valueAt D.kvs (Nm.str v) = some e := (AL.get_kvs D v).trans hg
  have ge : View w.params g e (pv j) := view (hve.mono hR)
  have gve : ExprIn w.params (Gets g) e (pieceNd j) := hve.mono hR
  (try dsimp only); (try k_fold)
  k_steps
  · exact ret _ _ (by assumption) (by assumption) (back0 N hR (by assumption) (by assumption)) (by assumption) (by assumption)
theorem ext_v_other {prog : Program} {w : World} {loose : List Str} {mean : ExcName → Option Value} {mg mb : Str → Option Value} {dp un : Nat} {gd : Option (List Code)} {cn : Str} {cs : Scope} {a : Addr} {ccd : Value} {cl : List (Str × Addr)} {outer : List Env} {A₀ : Around} {base h₀ : Heap} {L : Addr} {m : Str → Option Value} {rest : Led} {s : Shared}
    {sb sd rd : Addr} {ts : Tok} {nsd : Nat} {oh : Obj} {D : AL} {ps : Array Value} {x d : Addr} {t1 t2 t3 t4 t5 t6 : Tok} {n : Nat} {v : Nm} {r : Value} {i : Fin 8} {e : Value} {j : Fin 8} {Q E : Value → Shared → Prop}
    (H : Here w.params loose mean mg mb A₀ base h₀ outer L m [(rd, oh), (474, tabObj ps)] rest s.heap) (hk : cs.kind = .function) (XB : (MyK w.params).In base) (TB : Top topProg loose mean mg mb base) (D0 : KtsDicts (frs outer) h₀) (hC : CodeHd h₀ 478 474) (hG : AllBare s.gens) (ht : TriplesOk ps.toList) (hsb : At h₀ rest sb (instObj 853 sd)) (hsd : At h₀ rest sd (subDict w.params ts rd nsd)) (hr4 : @Ne Nat rd 474)
    (lo : (rd == sysModules) = false) (hD : oh.IsDictOf (strKind prog w) D.kvs) (hDz : D.length ≤ 1000) (hx : At h₀ rest x (instObj 741 d)) (hdx : At h₀ rest d (wildDict w.params t1 t2 t3 t4 t5 t6 n v)) (hvr : ExprIn w.params (At h₀ rest) r (pieceNd i))
    (hd : dp + 12 < recursionLimit) (hu : un + 60 < cLine)
    (hg : AL.get D v = some e) (hve : ExprIn w.params (At h₀ rest) e (pieceNd j)) (hij : decide (i = j) = false) (ret : ∀ (h₁ : Heap) (s' : Shared) ps', KtsTurn (frs outer) h₀ h₁ → Fr h₁ L s'.heap m → News h₁ L s'.heap ([(rd, oh), (474, tabObj ps')] ++ rest) → Below A₀ base outer h₁ → (MyK w.params).In h₁ → Top topProg loose mean mg mb h₁ → KtsDicts (frs outer) h₁ → TriplesOk ps'.toList → AllBare s'.gens → s'.os = s.os → Q (.bool false) s') :
    wpAny (model prog w) (ktrTop dp un gd cn cs L a ccd cl outer) (call (.ref 836) [.ref sb, r, .ref x]) Q E s := by
  obtain ⟨B, F, X, N, T, off⟩ := H
  have N1 := subLed N
  refine wpAny_call ?_
  k_dflt (refine' enterD (binds := [(Str.ofString "self", .ref sb), (Str.ofString "subject", r), (Str.ofString "pattern", .ref x)]) B F X N1 T XB TB D0 ?kA ?kF ?kK ?k6 ?k7 ?k8 ?k9 ?kB ?_ ?c2 ?c3 ?c4 ?c5; (case kA => exact rfl); (case kF => exact rfl); (case kK => exact hk); (case k6 => k_is); (case k7 => k_is); (case k8 => k_room); (case k9 => exact BindsTo.of_eq rfl); (case c5 => decide); (case kB => exact locs rfl); (case c2 => exact rfl); (case c3 => exact rfl); (case c4 => exact rfl))
  intro g L' h1 FG F' N' B' X' T' D' kG
  have hR := grounded N off kG FG.keep
  have g1 := hR _ _ hsb
  have g2 := hR _ _ hsd
  have g3 := hR _ _ hx
  have g4 := hR _ _ hdx
  have gv : View w.params g r (pv i) := view (hvr.mono hR)
  have gvr : ExprIn w.params (Gets g) r (pieceNd i) := hvr.mono hR
  have gC : CodeHd g 478 474 := hC.keeps FG.keep
  have hg1 : (AL.get D v).isSome = true := by rw [hg]; rfl
  have hg2 : valueAt D.kvs (Nm.str v) = some e := (AL.get_kvs D v).trans hg
  have ge : View w.params g e (pv j) := view (hve.mono hR)
  have gve : ExprIn w.params (Gets g) e (pieceNd j) := hve.mono hR
  (try dsimp only); (try k_fold)
  k_steps
  · exact ret _ _ _ (by assumption) (by assumption) (backD rfl N hR D0 (by assumption) (by assumption) (by assumption) (by assumption)) (by assumption) (by assumption) (by assumption) (by assumption) (by assumption) (by assumption) (by assumption)
theorem ext_ay_new {prog : Program} {w : World} {loose : List Str} {mean : ExcName → Option Value} {mg mb : Str → Option Value} {dp un : Nat} {gd : Option (List Code)} {cn : Str} {cs : Scope} {a : Addr} {ccd : Value} {cl : List (Str × Addr)} {outer : List Env} {A₀ : Around} {base h₀ : Heap} {L : Addr} {m : Str → Option Value} {rest : Led} {s : Shared}
    {sb sd rd : Addr} {ts : Tok} {nsd : Nat} {oh : Obj} {D : AL} {ps : Array Value} {x d : Addr} {t1 t2 t3 t4 : Tok} {n : Nat} {r : Value}  {Q E : Value → Shared → Prop}
    (H : Here w.params loose mean mg mb A₀ base h₀ outer L m [(rd, oh), (474, tabObj ps)] rest s.heap) (hk : cs.kind = .function) (XB : (MyK w.params).In base) (TB : Top topProg loose mean mg mb base) (D0 : KtsDicts (frs outer) h₀) (hC : CodeHd h₀ 478 474) (hG : AllBare s.gens) (ht : TriplesOk ps.toList) (hsb : At h₀ rest sb (instObj 853 sd)) (hsd : At h₀ rest sd (subDict w.params ts rd nsd)) (hr4 : @Ne Nat rd 474)
    (lo : (rd == sysModules) = false) (hD : oh.IsDictOf (strKind prog w) D.kvs) (hDz : D.length ≤ 1000) (hx : At h₀ rest x (instObj 637 d)) (hdx : At h₀ rest d (dictOf [ent w.params (Str.ofString "variable_name") t1 (.str Nm.y.str t4), ent w.params (Str.ofString "name") t2 (.str (Str.ofString "a") t3)] n)) (hvr : ExprIn w.params (At h₀ rest) r (pieceNd 0))
    (hd : dp + 12 < recursionLimit) (hu : un + 60 < cLine)
    (hg : AL.get D .y = none) (ret : ∀ oh' h' tk, oh'.IsDictOf (strKind prog w) (AL.set D .y r).kvs → Fr h₀ L h' m → News h₀ L h' ([(rd, oh'), (474, tabObj ps)] ++ rest) → Q (.bool true) { s with heap := h', toks := tk }) :
    wpAny (model prog w) (ktrTop dp un gd cn cs L a ccd cl outer) (call (.ref 836) [.ref sb, r, .ref x]) Q E s := by
  obtain ⟨B, F, X, N, T, off⟩ := H
  have N1 := subLed N
  refine wpAny_call ?_
  k_dflt (refine' enterD (binds := [(Str.ofString "self", .ref sb), (Str.ofString "subject", r), (Str.ofString "pattern", .ref x)]) B F X N1 T XB TB D0 ?kA ?kF ?kK ?k6 ?k7 ?k8 ?k9 ?kB ?_ ?c2 ?c3 ?c4 ?c5; (case kA => exact rfl); (case kF => exact rfl); (case kK => exact hk); (case k6 => k_is); (case k7 => k_is); (case k8 => k_room); (case k9 => exact BindsTo.of_eq rfl); (case c5 => decide); (case kB => exact locs rfl); (case c2 => exact rfl); (case c3 => exact rfl); (case c4 => exact rfl))
  intro g L' h1 FG F' N' B' X' T' D' kG
  have hR := grounded N off kG FG.keep
  have g1 := hR _ _ hsb
  have g2 := hR _ _ hsd
  have g3 := hR _ _ hx
  have g4 := hR _ _ hdx
  have gv : View w.params g r (pv 0) := view (hvr.mono hR)
  have gvr : ExprIn w.params (Gets g) r (pieceNd 0) := hvr.mono hR
  have gC : CodeHd g 478 474 := hC.keeps FG.keep
  have hg1 : (AL.get D .y).isSome = false := by rw [hg]; rfl
  (try dsimp only); (try k_fold)
  k_steps
  · exact ret _ _ _ (by rw [← AL.set_kvs]; assumption) (by assumption) (back0 N hR (by assumption) (by assumption))
theorem ext_ay_same {prog : Program} {w : World} {loose : List Str} {mean : ExcName → Option Value} {mg mb : Str → Option Value} {dp un : Nat} {gd : Option (List Code)} {cn : Str} {cs : Scope} {a : Addr} {ccd : Value} {cl : List (Str × Addr)} {outer : List Env} {A₀ : Around} {base h₀ : Heap} {L : Addr} {m : Str → Option Value} {rest : Led} {s : Shared}
    {sb sd rd : Addr} {ts : Tok} {nsd : Nat} {oh : Obj} {D : AL} {ps : Array Value} {x d : Addr} {t1 t2 t3 t4 : Tok} {n : Nat} {r : Value}  {e : Value} {j : Fin 8} {Q E : Value → Shared → Prop}
    (H : Here w.params loose mean mg mb A₀ base h₀ outer L m [(rd, oh), (474, tabObj ps)] rest s.heap) (hk : cs.kind = .function) (XB : (MyK w.params).In base) (TB : Top topProg loose mean mg mb base) (D0 : KtsDicts (frs outer) h₀) (hC : CodeHd h₀ 478 474) (hG : AllBare s.gens) (ht : TriplesOk ps.toList) (hsb : At h₀ rest sb (instObj 853 sd)) (hsd : At h₀ rest sd (subDict w.params ts rd nsd)) (hr4 : @Ne Nat rd 474)
    (lo : (rd == sysModules) = false) (hD : oh.IsDictOf (strKind prog w) D.kvs) (hDz : D.length ≤ 1000) (hx : At h₀ rest x (instObj 637 d)) (hdx : At h₀ rest d (dictOf [ent w.params (Str.ofString "variable_name") t1 (.str Nm.y.str t4), ent w.params (Str.ofString "name") t2 (.str (Str.ofString "a") t3)] n)) (hvr : ExprIn w.params (At h₀ rest) r (pieceNd 0))
    (hd : dp + 12 < recursionLimit) (hu : un + 60 < cLine)
    (hg : AL.get D .y = some e) (hve : ExprIn w.params (At h₀ rest) e (pieceNd j)) (hij : decide (0 = j) = true) (ret : ∀ (s' : Shared) ps', TriplesOk ps'.toList → Fr h₀ L s'.heap m → News h₀ L s'.heap ([(rd, oh), (474, tabObj ps')] ++ rest) → AllBare s'.gens → s'.os = s.os → Q (.bool true) s') :
    wpAny (model prog w) (ktrTop dp un gd cn cs L a ccd cl outer) (call (.ref 836) [.ref sb, r, .ref x]) Q E s := by
  obtain ⟨B, F, X, N, T, off⟩ := H
  have N1 := subLed N
  refine wpAny_call ?_
  k_dflt (refine' enterD (binds := [(Str.ofString "self", .ref sb), (Str.ofString "subject", r), (Str.ofString "pattern", .ref x)]) B F X N1 T XB TB D0 ?kA ?kF ?kK ?k6 ?k7 ?k8 ?k9 ?kB ?_ ?c2 ?c3 ?c4 ?c5; (case kA => exact rfl); (case kF => exact rfl); (case kK => exact hk); (case k6 => k_is); (case k7 => k_is); (case k8 => k_room); (case k9 => exact BindsTo.of_eq rfl); (case c5 => decide); (case kB => exact locs rfl); (case c2 => exact rfl); (case c3 => exact rfl); (case c4 => exact rfl))
  intro g L' h1 FG F' N' B' X' T' D' kG
  have hR := grounded N off kG FG.keep
  have g1 := hR _ _ hsb
  have g2 := hR _ _ hsd
  have g3 := hR _ _ hx
  have g4 := hR _ _ hdx
  have gv : View w.params g r (pv 0) := view (hvr.mono hR)
  have gvr : ExprIn w.params (Gets g) r (pieceNd 0) := hvr.mono hR
  have gC : CodeHd g 478 474 := hC.keeps FG.keep
  have hg1 : (AL.get D .y).isSome = true := by rw [hg]; rfl
  have hg2 : valueAt D.kvs (Nm.str .y) = some e := (AL.get_kvs D .y).trans hg
  have ge : View w.params g e (pv j) := view (hve.mono hR)
  have gve : ExprIn w.params (Gets g) e (pieceNd j) := hve.mono hR
  (try dsimp only); (try k_fold)
  k_steps
  · exact ret _ _ (by assumption) (by assumption) (back0 N hR (by assumption) (by assumption)) (by assumption) (by assumption)
theorem ext_ay_other {prog : Program} {w : World} {loose : List Str} {mean : ExcName → Option Value} {mg mb : Str → Option Value} {dp un : Nat} {gd : Option (List Code)} {cn : Str} {cs : Scope} {a : Addr} {ccd : Value} {cl : List (Str × Addr)} {outer : List Env} {A₀ : Around} {base h₀ : Heap} {L : Addr} {m : Str → Option Value} {rest : Led} {s : Shared}
    {sb sd rd : Addr} {ts : Tok} {nsd : Nat} {oh : Obj} {D : AL} {ps : Array Value} {x d : Addr} {t1 t2 t3 t4 : Tok} {n : Nat} {r : Value}  {e : Value} {j : Fin 8} {Q E : Value → Shared → Prop}
    (H : Here w.params loose mean mg mb A₀ base h₀ outer L m [(rd, oh), (474, tabObj ps)] rest s.heap) (hk : cs.kind = .function) (XB : (MyK w.params).In base) (TB : Top topProg loose mean mg mb base) (D0 : KtsDicts (frs outer) h₀) (hC : CodeHd h₀ 478 474) (hG : AllBare s.gens) (ht : TriplesOk ps.toList) (hsb : At h₀ rest sb (instObj 853 sd)) (hsd : At h₀ rest sd (subDict w.params ts rd nsd)) (hr4 : @Ne Nat rd 474)
    (lo : (rd == sysModules) = false) (hD : oh.IsDictOf (strKind prog w) D.kvs) (hDz : D.length ≤ 1000) (hx : At h₀ rest x (instObj 637 d)) (hdx : At h₀ rest d (dictOf [ent w.params (Str.ofString "variable_name") t1 (.str Nm.y.str t4), ent w.params (Str.ofString "name") t2 (.str (Str.ofString "a") t3)] n)) (hvr : ExprIn w.params (At h₀ rest) r (pieceNd 0))
    (hd : dp + 12 < recursionLimit) (hu : un + 60 < cLine)
    (hg : AL.get D .y = some e) (hve : ExprIn w.params (At h₀ rest) e (pieceNd j)) (hij : decide (0 = j) = false) (ret : ∀ (h₁ : Heap) (s' : Shared) ps', KtsTurn (frs outer) h₀ h₁ → Fr h₁ L s'.heap m → News h₁ L s'.heap ([(rd, oh), (474, tabObj ps')] ++ rest) → Below A₀ base outer h₁ → (MyK w.params).In h₁ → Top topProg loose mean mg mb h₁ → KtsDicts (frs outer) h₁ → TriplesOk ps'.toList → AllBare s'.gens → s'.os = s.os → Q (.bool false) s') :
    wpAny (model prog w) (ktrTop dp un gd cn cs L a ccd cl outer) (call (.ref 836) [.ref sb, r, .ref x]) Q E s := by
  obtain ⟨B, F, X, N, T, off⟩ := H
  have N1 := subLed N
  refine wpAny_call ?_
  k_dflt (refine' enterD (binds := [(Str.ofString "self", .ref sb), (Str.ofString "subject", r), (Str.ofString "pattern", .ref x)]) B F X N1 T XB TB D0 ?kA ?kF ?kK ?k6 ?k7 ?k8 ?k9 ?kB ?_ ?c2 ?c3 ?c4 ?c5; (case kA => exact rfl); (case kF => exact rfl); (case kK => exact hk); (case k6 => k_is); (case k7 => k_is); (case k8 => k_room); (case k9 => exact BindsTo.of_eq rfl); (case c5 => decide); (case kB => exact locs rfl); (case c2 => exact rfl); (case c3 => exact rfl); (case c4 => exact rfl))
  intro g L' h1 FG F' N' B' X' T' D' kG
  have hR := grounded N off kG FG.keep
  have g1 := hR _ _ hsb
  have g2 := hR _ _ hsd
  have g3 := hR _ _ hx
  have g4 := hR _ _ hdx
  have gv : View w.params g r (pv 0) := view (hvr.mono hR)
  have gvr : ExprIn w.params (Gets g) r (pieceNd 0) := hvr.mono hR
  have gC : CodeHd g 478 474 := hC.keeps FG.keep
  have hg1 : (AL.get D .y).isSome = true := by rw [hg]; rfl
  have hg2 : valueAt D.kvs (Nm.str .y) = some e := (AL.get_kvs D .y).trans hg
  have ge : View w.params g e (pv j) := view (hve.mono hR)
  have gve : ExprIn w.params (Gets g) e (pieceNd j) := hve.mono hR
  (try dsimp only); (try k_fold)
  k_steps
  · exact ret _ _ _ (by assumption) (by assumption) (backD rfl N hR D0 (by assumption) (by assumption) (by assumption) (by assumption)) (by assumption) (by assumption) (by assumption) (by assumption) (by assumption) (by assumption) (by assumption)
end ext
end secExt1
section secExt2
theorem rk31 : True := by
  k_with_none
  trivial
set_option maxHeartbeats 4000000
theorem Sub.run_app : ∀ (S : Sub) (l l' : List (Nm × Fin 8)), (Sub.run S l).2 = true → Sub.run S (l ++ l') = Sub.run (Sub.run S l).1 l'
  | S, [], l', _ => rfl
  | S, (n, i) :: r, l', h => by
    rw [List.cons_append, Sub.run, Sub.run]
    rw [Sub.run] at h
    cases e : S.get n with
    | none => rw [e] at h; exact Sub.run_app _ r l' h
    | some j =>
      rw [e] at h
      by_cases q : i = j
      · simp only [q, if_true] at h ⊢; exact Sub.run_app _ r l' h
      · simp only [q, if_false] at h; cases h
theorem Sub.run_bad : ∀ (S : Sub) (l l' : List (Nm × Fin 8)), (Sub.run S l).2 = false → Sub.run S (l ++ l') = Sub.run S l
  | S, [], l', h => by cases h
  | S, (n, i) :: r, l', h => by
    rw [List.cons_append, Sub.run, Sub.run]
    rw [Sub.run] at h
    cases e : S.get n with
    | none => rw [e] at h; exact Sub.run_bad _ r l' h
    | some j =>
      rw [e] at h
      by_cases q : i = j
      · simp only [q, if_true] at h ⊢; exact Sub.run_bad _ r l' h
      · simp only [q, if_false]
/-- the rows of a substitution, as the project's objects -/
noncomputable abbrev RowsIn (P : Params) (R₀ : Addr → Obj → Prop) (D : AL) (S : Sub) : Prop := RowsAre (fun v i => ExprIn P R₀ v (pieceNd i)) D S
/-- extract_substitution: the places are taken in from the left to the right, up to the first that does not fit -/
noncomputable def ExtSpec (prog : Program) (w : World) (loose : List Str) (mean : ExcName → Option Value) (mg mb : Str → Option Value) (T : Nd) : Prop :=
  ∀ (dp un : Nat) (gd : Option (List Code)) (cn : Str) (cs : Scope) (a : Addr) (ccd : Value) (cl : List (Str × Addr)) (outer : List Env) (A₀ : Around) (base h₀ : Heap) (L : Addr) (m : Str → Option Value) (rest : Led) (s : Shared)
    (sb sd rd : Addr) (ts : Tok) (nsd : Nat) (oh : Obj) (D : AL) (S : Sub) (ps : Array Value) (x r : Value) (T' : Nd) (pl : List (Nm × Fin 8)) (R₀ : Addr → Obj → Prop) (Q E : Value → Shared → Prop),
    Here w.params loose mean mg mb A₀ base h₀ outer L m [(rd, oh), (474, tabObj ps)] rest s.heap → cs.kind = .function → (MyK w.params).In base → Top topProg loose mean mg mb base → KtsDicts (frs outer) h₀ → CodeHd h₀ 478 474 → AllBare s.gens → TriplesOk ps.toList →
    At h₀ rest sb (instObj 853 sd) → At h₀ rest sd (subDict w.params ts rd nsd) → @Ne Nat rd 474 → (rd == sysModules) = false → oh.IsDictOf (strKind prog w) D.kvs → D.length + T.leaves ≤ 1000 → (∀ a o, R₀ a o → At h₀ rest a o) → RowsIn w.params R₀ D S → Fits T T' pl → ExprIn w.params R₀ x T → ExprIn w.params R₀ r T' →
    dp + T.depth + 12 < recursionLimit → un + 3 * T.depth + 60 < cLine →
    (∀ (s' : Shared) oh' D' ps', (Sub.run S pl).2 = true → oh'.IsDictOf (strKind prog w) (AL.kvs D') → D'.length ≤ D.length + T.leaves → RowsIn w.params R₀ D' (Sub.run S pl).1 → TriplesOk ps'.toList → Fr h₀ L s'.heap m → News h₀ L s'.heap ([(rd, oh'), (474, tabObj ps')] ++ rest) → AllBare s'.gens → s'.os = s.os → Q (.bool true) s') →
    (∀ (h₁ : Heap) (s' : Shared) oh' D' ps', (Sub.run S pl).2 = false → oh'.IsDictOf (strKind prog w) (AL.kvs D') → RowsIn w.params R₀ D' (Sub.run S pl).1 → TriplesOk ps'.toList → KtsTurn (frs outer) h₀ h₁ → Fr h₁ L s'.heap m → News h₁ L s'.heap ([(rd, oh'), (474, tabObj ps')] ++ rest) → Below A₀ base outer h₁ → (MyK w.params).In h₁ → Top topProg loose mean mg mb h₁ → KtsDicts (frs outer) h₁ → AllBare s'.gens → s'.os = s.os → Q (.bool false) s') →
    wpAny (model prog w) (ktrTop dp un gd cn cs L a ccd cl outer) (call (.ref 836) [.ref sb, r, x]) Q E s
theorem AL.set_fresh {D : AL} {n : Nm} {v : Value} (h : D.get n = none) : AL.set D n v = D ++ [(n, v)] := AL.set_new h
theorem ext_var {prog : Program} {w : World} {loose : List Str} {mean : ExcName → Option Value} {mg mb : Str → Option Value} {v : Nm} : ExtSpec prog w loose mean mg mb (.s (.v v)) := by
  intro dp un gd cn cs a ccd cl outer A₀ base h₀ L m rest s sb sd rd ts nsd oh D S ps x r T' pl R₀ Q E H hk XB TB D0 hC hG ht hsb hsd hr4 lo hD hDz hR₀ hS hF hx hr hd hu r1 r2
  simp only [Nd.leaves] at hDz
  simp only [Nd.depth] at hd hu
  cases hF
  rename_i p
  cases hx
  rename_i xx dd t1 t2 t3 t4 t5 t6 n hxx hdd
  rcases hS.get v with ⟨e1, e2⟩ | ⟨e, j, e1, e2, ev⟩
  · have run : Sub.run S [(v, p)] = (S ++ [(v, p)], true) := by rw [Sub.run, e2]; rfl
    refine ext_v_new H hk XB TB D0 hC hG ht hsb hsd hr4 lo hD (by omega) (hR₀ _ _ hxx) (hR₀ _ _ hdd) (hr.mono hR₀) (by omega) (by omega) e1 fun oh' h' tk d F N => ?_
    refine r1 _ oh' _ ps (by rw [run]) d ?_ ?_ ht F N hG rfl
    · rw [AL.set_fresh e1, List.length_append]; exact Nat.le_refl _
    · rw [run, AL.set_fresh e1]; exact hS.snoc hr
  · by_cases q : p = j
    · have run : Sub.run S [(v, p)] = (S, true) := by rw [Sub.run, e2]; simp only [q, if_true]; rfl
      refine ext_v_same H hk XB TB D0 hC hG ht hsb hsd hr4 lo hD (by omega) (hR₀ _ _ hxx) (hR₀ _ _ hdd) (hr.mono hR₀) (by omega) (by omega) e1 (ev.mono hR₀) (decide_eq_true q) fun s' ps' b F N G o => ?_
      exact r1 s' oh D ps' (by rw [run]) hD (Nat.le_add_right _ _) (by rw [run]; exact hS) b F N G o
    · have run : Sub.run S [(v, p)] = (S, false) := by rw [Sub.run, e2]; simp only [q, if_false]
      refine ext_v_other H hk XB TB D0 hC hG ht hsb hsd hr4 lo hD (by omega) (hR₀ _ _ hxx) (hR₀ _ _ hdd) (hr.mono hR₀) (by omega) (by omega) e1 (ev.mono hR₀) (decide_eq_false q) fun h₁ s' ps' t F N B X T D b G o => ?_
      exact r2 h₁ s' oh _ ps' (by rw [run]) hD (by rw [run]; exact hS) b t F N B X T D G o
theorem ext_ay {prog : Program} {w : World} {loose : List Str} {mean : ExcName → Option Value} {mg mb : Str → Option Value} : ExtSpec prog w loose mean mg mb (.s .ay) := by
  intro dp un gd cn cs a ccd cl outer A₀ base h₀ L m rest s sb sd rd ts nsd oh D S ps x r T' pl R₀ Q E H hk XB TB D0 hC hG ht hsb hsd hr4 lo hD hDz hR₀ hS hF hx hr hd hu r1 r2
  simp only [Nd.leaves] at hDz
  simp only [Nd.depth] at hd hu
  cases hF
  cases hx
  rename_i xx dd t1 t2 t3 t4 n hxx hdd
  have hr' : ExprIn w.params R₀ r (pieceNd 0) := hr
  rcases hS.get .y with ⟨e1, e2⟩ | ⟨e, j, e1, e2, ev⟩
  · have run : Sub.run S [(Nm.y, (0 : Fin 8))] = (S ++ [(.y, 0)], true) := by rw [Sub.run, e2]; rfl
    refine ext_ay_new H hk XB TB D0 hC hG ht hsb hsd hr4 lo hD (by omega) (hR₀ _ _ hxx) (hR₀ _ _ hdd) (hr'.mono hR₀) (by omega) (by omega) e1 fun oh' h' tk d F N => ?_
    refine r1 _ oh' _ ps (by rw [run]) d ?_ ?_ ht F N hG rfl
    · rw [AL.set_fresh e1, List.length_append]; exact Nat.le_refl _
    · rw [run, AL.set_fresh e1]; exact hS.snoc hr'
  · by_cases q : (0 : Fin 8) = j
    · have run : Sub.run S [(Nm.y, (0 : Fin 8))] = (S, true) := by rw [Sub.run, e2]; simp only [q, if_true]; rfl
      refine ext_ay_same H hk XB TB D0 hC hG ht hsb hsd hr4 lo hD (by omega) (hR₀ _ _ hxx) (hR₀ _ _ hdd) (hr'.mono hR₀) (by omega) (by omega) e1 (ev.mono hR₀) (decide_eq_true q) fun s' ps' b F N G o => ?_
      exact r1 s' oh D ps' (by rw [run]) hD (Nat.le_add_right _ _) (by rw [run]; exact hS) b F N G o
    · have run : Sub.run S [(Nm.y, (0 : Fin 8))] = (S, false) := by rw [Sub.run, e2]; simp only [q, if_false]
      refine ext_ay_other H hk XB TB D0 hC hG ht hsb hsd hr4 lo hD (by omega) (hR₀ _ _ hxx) (hR₀ _ _ hdd) (hr'.mono hR₀) (by omega) (by omega) e1 (ev.mono hR₀) (decide_eq_false q) fun h₁ s' ps' t F N B X T D b G o => ?_
      exact r2 h₁ s' oh _ ps' (by rw [run]) hD (by rw [run]; exact hS) b t F N B X T D G o
section
variable {prog : Program} {w : World} {loose : List Str} {mean : ExcName → Option Value} {mg mb : Str → Option Value}
theorem ext_use {T : Nd} (IH : ExtSpec prog w loose mean mg mb T) {dp un : Nat} {gd : Option (List Code)} {cn : Str} {cs : Scope} {a : Addr} {ccd : Value} {cl : List (Str × Addr)} {outer : List Env} {A₀ : Around} {base h₀ : Heap} {L : Addr} {m : Str → Option Value} {rest : Led} {s : Shared}
    {sb sd rd : Addr} {ts : Tok} {nsd : Nat} {oh : Obj} {D : AL} {S : Sub} {ps : Array Value} {x r : Value} {T' : Nd} {pl : List (Nm × Fin 8)} {R₀ : Addr → Obj → Prop} {Q E : Value → Shared → Prop}
    (H : Here w.params loose mean mg mb A₀ base h₀ outer L m [(rd, oh), (474, tabObj ps)] rest s.heap) (hk : cs.kind = .function) (XB : (MyK w.params).In base) (TB : Top topProg loose mean mg mb base) (D0 : KtsDicts (frs outer) h₀) (hC : CodeHd h₀ 478 474) (hG : AllBare s.gens) (ht : TriplesOk ps.toList)
    (hsb : h₀.get? sb = some (instObj 853 sd)) (hsd : h₀.get? sd = some (subDict w.params ts rd nsd)) (hr4 : @Ne Nat rd 474) (lo : (rd == sysModules) = false) (hD : oh.IsDictOf (strKind prog w) D.kvs) (hDz : D.length + T.leaves ≤ 1000) (hR₀ : ∀ a o, R₀ a o → h₀.get? a = some o) (hS : RowsIn w.params R₀ D S) (hF : Fits T T' pl) (hx : ExprIn w.params R₀ x T) (hr : ExprIn w.params R₀ r T')
    (hd : dp + T.depth + 12 < recursionLimit) (hu : un + 3 * T.depth + 60 < cLine)
    (r1 : ∀ (s' : Shared) oh' D' ps', (Sub.run S pl).2 = true → oh'.IsDictOf (strKind prog w) (AL.kvs D') → D'.length ≤ D.length + T.leaves → RowsIn w.params R₀ D' (Sub.run S pl).1 → TriplesOk ps'.toList → Fr h₀ L s'.heap m → News h₀ L s'.heap ([(rd, oh'), (474, tabObj ps')] ++ rest) → AllBare s'.gens → s'.os = s.os → Q (.bool true) s')
    (r2 : ∀ (h₁ : Heap) (s' : Shared) oh' D' ps', (Sub.run S pl).2 = false → oh'.IsDictOf (strKind prog w) (AL.kvs D') → RowsIn w.params R₀ D' (Sub.run S pl).1 → TriplesOk ps'.toList → KtsTurn (frs outer) h₀ h₁ → Fr h₁ L s'.heap m → News h₁ L s'.heap ([(rd, oh'), (474, tabObj ps')] ++ rest) → Below A₀ base outer h₁ → (MyK w.params).In h₁ → Top topProg loose mean mg mb h₁ → KtsDicts (frs outer) h₁ → AllBare s'.gens → s'.os = s.os → Q (.bool false) s') :
    wpAny (model prog w) (ktrTop dp un gd cn cs L a ccd cl outer) (call (.ref 836) [.ref sb, r, x]) Q E s :=
  IH _ _ _ _ _ _ _ _ _ _ _ _ _ _ _ _ _ _ _ _ _ _ _ _ _ _ _ _ _ _ _ _ H hk XB TB D0 hC hG ht (.inl hsb) (.inl hsd) hr4 lo hD hDz (fun a o h => .inl (hR₀ a o h)) hS hF hx hr hd hu r1 r2
theorem eq_op {A : Around} {E : Value → Shared → Prop} {s : Shared} {k : Bool} {t u : Tok} {Q : Value → Shared → Prop} (h : Q (.bool true) s) : wpAny (model prog w) A (compareOp .Eq (.str (opStr k) t) (.str (opStr k) u)) Q E s :=
  eq_str (by rw [beq_self_eq_true]; exact h)
theorem len_1 {A : Around} {E : Value → Shared → Prop} {s : Shared} {l : Addr} {v : Value} {n : Nat} {Q : Value → Shared → Prop} (hl : s.heap.get? l = some (lstOf [v] n)) (h : ∀ t tk, Q (.int 1 t) { s with toks := tk }) : wpAny (model prog w) A (call (.builtin "len") [.ref l]) Q E s :=
  call_len_list ⟨_, hl, rfl, _, rfl⟩ (show ((1 : Int)) < 2 ^ 63 by decide) (h _ _)
theorem len_2 {A : Around} {E : Value → Shared → Prop} {s : Shared} {l : Addr} {v u : Value} {n : Nat} {Q : Value → Shared → Prop} (hl : s.heap.get? l = some (lstOf [v, u] n)) (h : ∀ t tk, Q (.int 2 t) { s with toks := tk }) : wpAny (model prog w) A (call (.builtin "len") [.ref l]) Q E s :=
  call_len_list ⟨_, hl, rfl, _, rfl⟩ (show ((2 : Int)) < 2 ^ 63 by decide) (h _ _)
end
section ext2
theorem rk32 : True := by
  k_with "~k_room" => case' fr9 => (((try simp only [depth_under_make, depth_under_kw, depth_in1, depth_deeper, depth_caller]); (try dsimp only [ktrTop]); omega))
  k_with "~k_mem" => case' fr9 => (with_reducible kcf_m)
  k_with "~k_inst" => case' fr9 => (first | exact inst_get (Fr.keep (by with_reducible assumption) _ _ (by with_reducible assumption)) (Fr.keep (by with_reducible assumption) _ _ (by with_reducible assumption)) | exact inst_get (Fr.keep (by with_reducible assumption) _ _ (Fr.keep (by with_reducible assumption) _ _ (by with_reducible assumption))) (Fr.keep (by with_reducible assumption) _ _ (Fr.keep (by with_reducible assumption) _ _ (by with_reducible assumption))) | exact inst_get (Fr.keep (by with_reducible assumption) _ _ (Fr.keep (by with_reducible assumption) _ _ (Fr.keep (by with_reducible assumption) _ _ (by with_reducible assumption)))) (Fr.keep (by with_reducible assumption) _ _ (Fr.keep (by with_reducible assumption) _ _ (Fr.keep (by with_reducible assumption) _ _ (by with_reducible assumption)))) | fail "my_inst")
  k_with "~compareOp Eq str str" => case' fr9 => ((k_here; (with_reducible show wpAny _ _ (compareOp _ (Value.str (opStr _) _) (Value.str (opStr _) _)) _ _ _); refine eq_op ?_))
  k_with "~my_keep" => case' fr9 => (first | exact Fr.keep (by with_reducible assumption) _ _ (by with_reducible assumption) | exact Fr.keep (by with_reducible assumption) _ _ (Fr.keep (by with_reducible assumption) _ _ (by with_reducible assumption)) | exact Fr.keep (by with_reducible assumption) _ _ (Fr.keep (by with_reducible assumption) _ _ (Fr.keep (by with_reducible assumption) _ _ (by with_reducible assumption))) | fail "my_keep")
  k_with "~exec For Tuple Call" => case' fr9 => ((k_here; (rename Fr _ _ _ _ => lF'); (with_unfolding_all refine' For_my lF' ?_; k_whole)))
  k_with "~call type:zip" => case' fr9 => ((k_here; (with_unfolding_all refine' my_zip (keep := []) ?hh ?F ?N ?hk ?hx ?hy ?_; (case hh => exact rfl); (case F => k_asm); (case N => k_asm); (case hk => exact fun _ h => nomatch h); (case hx => exact Or.inl (by with_reducible assumption)); (case hy => exact Or.inl (by with_reducible assumption))); intro i' l1; (try k_lt l1)))
  k_with "~call builtin:len" => case' fr9 => ((k_here; (with_reducible show wpAny _ _ (call (Value.builtin "len") [Value.ref _]) _ _ _); k_dflt (first | (refine' len_1 ?hl ?_; (case hl => walk_at "my_keep")) | (refine' len_2 ?hl ?_; (case hl => walk_at "my_keep"))); intro t9 tk9))
  k_with "~MyRest" => case' fr9 => (first
  | ((with_unfolding_all refine MyRest.val (fun h' tk' F' => ?_)); ktu_objs)
  | ((with_unfolding_all refine MyRest.pair (fun T' t' h' tk' hT' F' => ?_)); (try dsimp only at hT'); ktu_objs)
  | (with_unfolding_all refine MyRest.zero (fun h' tk' F' N' => ?_)))
  k_with "~MyPost" => case' fr9 => (first | with_reducible refine MyPost.next ?_ | with_reducible refine MyPost.cont ?_ | with_reducible refine MyPost.brk ?_ | with_reducible refine MyPost.ret ?_)
  k_with "~MyEnd" => case' fr9 => ((k_here; refine' MyEnd.intro ?F ?N ?d ?hI ?off ?hk ?_; (case F => k_asm); (case N => k_asm); (case d => exact Drops.keep (Drops.keep (Drops.skip (by with_reducible kcf_m) (Drops.skip (by with_reducible kcf_m) (Drops.skip (by with_reducible kcf_m) (Drops.skip (by with_reducible kcf_m) (Drops.skip (by with_reducible kcf_m) Drops.nil))))))); (case hI => kcf_all); (case off => ktu_offL); (case hk => first | exact fun _ h => nomatch h | kcf_all)))
  k_with "~lcg_src" => case' fr9 => (first | exact Take.head | (refine' Take.tail ?zz; (case zz => lcg_src)))
  k_with "~call ref" => ((k_here; (with_reducible show wpAny _ _ (call (Value.ref 836) _) _ _ _); k_dflt (refine' ext_use ?IH ⟨?B, ?F, ?X, pick2 ?N ?t ?t2, ?T, off2 ?off ?off2⟩ ?hk ?XB ?TB ?D0 ?hC ?hG ?ht ?hsb ?hsd ?hr4 ?lo ?hD ?hDz ?hR ?hS ?hF ?hx ?hr ?hd ?hu ?_ ?_; (case hsb => with_reducible assumption); (case hsd => with_reducible assumption); (case F => k_asm); (case B => k_asm); (case X => k_asm); (case N => k_asm); (case t => lcg_src); (case t2 => lcg_src); (case T => k_asm); (case off => k_all); (case off2 => k_all); (case hk => exact rfl); (case XB => with_reducible assumption); (case TB => with_reducible assumption); (case D0 => with_reducible assumption); (case hC => with_reducible assumption); (case hG => assumption); (case ht => assumption); (case hr4 => assumption); (case lo => assumption); (case hD => assumption); (case hR => with_reducible assumption); (case hS => assumption); (case hx => assumption); (case hr => assumption); (case IH => assumption); (case hF => assumption); (case hDz => first | assumption | omega); (case hd => first | exact hd1 | exact hd2); (case hu => first | exact hu1' | exact hu2')); rotate_left; (intro h9 s9 oh9 D9 ps9 run9 d9 S9 t9 T9 F9 N9 B9 X9 P9 K9 G9 o9; (try simp only [List.cons_append, List.nil_append] at N9); (try dsimp only); (try k_fold)); rotate_left; (intro s9 oh9 D9 ps9 run9 d9 l9 S9 t9 F9 N9 G9 o9; (try simp only [List.cons_append, List.nil_append] at N9); (try dsimp only); (try k_fold))))
  trivial
theorem ext_a {prog : Program} {w : World} {loose : List Str} {mean : ExcName → Option Value} {mg mb : Str → Option Value} : ExtSpec prog w loose mean mg mb (.s .a) := by
  intro dp un gd cn cs a ccd cl outer A₀ base h₀ L m rest s sb sd rd ts nsd oh D S ps x r T' pl R₀ Q E H hk XB TB D0 hC hG ht hsb hsd hr4 lo hD hDz hR₀ hS hF hx hr hd hu r1 r2
  obtain ⟨B, F, X, N, T, off⟩ := H
  have N1 := subLed N
  simp only [Nd.leaves] at hDz
  simp only [Nd.depth] at hd hu
  cases hF
  cases hx
  rename_i xx dd t1 t2 t3 n hxx hdd
  refine wpAny_call ?_
  k_dflt (refine' enterD (binds := [(Str.ofString "self", .ref sb), (Str.ofString "subject", r), (Str.ofString "pattern", .ref xx)]) B F X N1 T XB TB D0 ?kA ?kF ?kK ?k6 ?k7 ?k8 ?k9 ?kB ?_ ?c2 ?c3 ?c4 ?c5; (case kA => exact rfl); (case kF => exact rfl); (case kK => exact hk); (case k6 => k_is); (case k7 => k_is); (case k8 => k_room); (case k9 => exact BindsTo.of_eq rfl); (case c5 => decide); (case kB => exact locs rfl); (case c2 => exact rfl); (case c3 => exact rfl); (case c4 => exact rfl))
  intro g L' h1 FG F' N' B' X' T' D' kG
  have hR := grounded N off kG FG.keep
  have g1 := hR _ _ hsb
  have g2 := hR _ _ hsd
  have hRg : ∀ a o, R₀ a o → g.get? a = some o := fun a o h => hR a o (hR₀ a o h)
  have gC : CodeHd g 478 474 := hC.keeps FG.keep
  have g3 := hRg _ _ hxx
  have g4 := hRg _ _ hdd
  (try dsimp only); (try k_fold)
  k_steps
  · exact r1 _ oh D ps rfl hD (Nat.le_add_right _ _) hS ht (by assumption) (back0 N hR (by assumption) (by assumption)) hG rfl
theorem ext_b {prog : Program} {w : World} {loose : List Str} {mean : ExcName → Option Value} {mg mb : Str → Option Value} : ExtSpec prog w loose mean mg mb (.s .b) := by
  intro dp un gd cn cs a ccd cl outer A₀ base h₀ L m rest s sb sd rd ts nsd oh D S ps x r T' pl R₀ Q E H hk XB TB D0 hC hG ht hsb hsd hr4 lo hD hDz hR₀ hS hF hx hr hd hu r1 r2
  obtain ⟨B, F, X, N, T, off⟩ := H
  have N1 := subLed N
  simp only [Nd.leaves] at hDz
  simp only [Nd.depth] at hd hu
  cases hF
  cases hx
  rename_i xx dd t1 t2 t3 n hxx hdd
  refine wpAny_call ?_
  k_dflt (refine' enterD (binds := [(Str.ofString "self", .ref sb), (Str.ofString "subject", r), (Str.ofString "pattern", .ref xx)]) B F X N1 T XB TB D0 ?kA ?kF ?kK ?k6 ?k7 ?k8 ?k9 ?kB ?_ ?c2 ?c3 ?c4 ?c5; (case kA => exact rfl); (case kF => exact rfl); (case kK => exact hk); (case k6 => k_is); (case k7 => k_is); (case k8 => k_room); (case k9 => exact BindsTo.of_eq rfl); (case c5 => decide); (case kB => exact locs rfl); (case c2 => exact rfl); (case c3 => exact rfl); (case c4 => exact rfl))
  intro g L' h1 FG F' N' B' X' T' D' kG
  have hR := grounded N off kG FG.keep
  have g1 := hR _ _ hsb
  have g2 := hR _ _ hsd
  have hRg : ∀ a o, R₀ a o → g.get? a = some o := fun a o h => hR a o (hR₀ a o h)
  have gC : CodeHd g 478 474 := hC.keeps FG.keep
  have g3 := hRg _ _ hxx
  have g4 := hRg _ _ hdd
  (try dsimp only); (try k_fold)
  k_steps
  · exact r1 _ oh D ps rfl hD (Nat.le_add_right _ _) hS ht (by assumption) (back0 N hR (by assumption) (by assumption)) hG rfl
theorem ext_o1 {prog : Program} {w : World} {loose : List Str} {mean : ExcName → Option Value} {mg mb : Str → Option Value} {kk : Bool} {t : Nd} (IH : ExtSpec prog w loose mean mg mb t) : ExtSpec prog w loose mean mg mb (.o1 kk t) := by
  intro dp un gd cn cs a ccd cl outer A₀ base h₀ L m rest s sb sd rd ts nsd oh D S ps x r T' pl R₀ Q E H hk XB TB D0 hC hG ht hsb hsd hr4 lo hD hDz hR₀ hS hF hx hr hd hu r1 r2
  obtain ⟨B, F, X, N, T, off⟩ := H
  have N1 := subLed N
  simp only [Nd.leaves] at hDz
  simp only [Nd.depth] at hd hu
  cases hF
  rename_i u hf
  cases hx
  rename_i xx dd kd ar ll k1 k2 k3 k4 k5 k6 k7 k8 k9 n n2 vv hxx hll hdd hv
  cases hr
  rename_i yy ee kd2 ar2 l2 j1 j2 j3 j4 j5 j6 j7 j8 j9 n3 n4 uu hyy hl2 hee hu1
  refine wpAny_call ?_
  k_dflt (refine' enterD (binds := [(Str.ofString "self", .ref sb), (Str.ofString "subject", .ref yy), (Str.ofString "pattern", .ref xx)]) B F X N1 T XB TB D0 ?kA ?kF ?kK ?k6 ?k7 ?k8 ?k9 ?kB ?_ ?c2 ?c3 ?c4 ?c5; (case kA => exact rfl); (case kF => exact rfl); (case kK => exact hk); (case k6 => k_is); (case k7 => k_is); (case k8 => k_room); (case k9 => exact BindsTo.of_eq rfl); (case c5 => decide); (case kB => exact locs rfl); (case c2 => exact rfl); (case c3 => exact rfl); (case c4 => exact rfl))
  intro g L' h1 FG F' N' B' X' T' D' kG
  have hR := grounded N off kG FG.keep
  have g1 := hR _ _ hsb
  have g2 := hR _ _ hsd
  have hRg : ∀ a o, R₀ a o → g.get? a = some o := fun a o h => hR a o (hR₀ a o h)
  have gC : CodeHd g 478 474 := hC.keeps FG.keep
  have g3 := hRg _ _ hxx
  have g4 := hRg _ _ hdd
  have g5 : g.get? ll = some (lstOf _ _) := hRg _ _ hll
  have g6 := hRg _ _ hyy
  have g7 := hRg _ _ hee
  have g8 : g.get? l2 = some (lstOf _ _) := hRg _ _ hl2
  have hd1 : dp + 1 + t.depth + 12 < recursionLimit := by omega
  have hu1' : un + 3 + 3 * t.depth + 60 < cLine := by omega
  have hz1 : D.length + t.leaves ≤ 1000 := by omega
  (try dsimp only); (try k_fold)
  k_steps
  · rename_i kF kN kT kX
    exact r1 _ oh9 D9 ps9 run9 d9 l9 S9 t9 kF (back0 N hR (by assumption) (subNews kN (by kcf_all))) G9 o9
  · rename_i kg kT kF kN kB kX₀ kP kD kX
    exact r2 kg _ oh9 D9 ps9 run9 d9 S9 t9 kT kF (backD rfl N hR D0 T9 F9 kT (subNews kN (by kcf_all))) kB kX₀ kP kD G9 o9
theorem ext_o2 {prog : Program} {w : World} {loose : List Str} {mean : ExcName → Option Value} {mg mb : Str → Option Value} {kk : Bool} {t t2 : Nd} (IH : ExtSpec prog w loose mean mg mb t) (IH2 : ExtSpec prog w loose mean mg mb t2) : ExtSpec prog w loose mean mg mb (.o2 kk t t2) := by
  intro dp un gd cn cs a ccd cl outer A₀ base h₀ L m rest s sb sd rd ts nsd oh D S ps x r T' pl R₀ Q E H hk XB TB D0 hC hG ht hsb hsd hr4 lo hD hDz hR₀ hS hF hx hr hd hu r1 r2
  obtain ⟨B, F, X, N, T, off⟩ := H
  have N1 := subLed N
  simp only [Nd.leaves] at hDz
  simp only [Nd.depth] at hd hu
  cases hF
  rename_i u u2 pl1 pl2 hf hf2
  cases hx
  rename_i xx dd kd ar ll k1 k2 k3 k4 k5 k6 k7 k8 k9 n n2 vv vw hxx hll hdd hv hw
  cases hr
  rename_i yy ee kd2 ar2 l2 j1 j2 j3 j4 j5 j6 j7 j8 j9 n3 n4 uu uw hyy hl2 hee hu1 hu2
  refine wpAny_call ?_
  k_dflt (refine' enterD (binds := [(Str.ofString "self", .ref sb), (Str.ofString "subject", .ref yy), (Str.ofString "pattern", .ref xx)]) B F X N1 T XB TB D0 ?kA ?kF ?kK ?k6 ?k7 ?k8 ?k9 ?kB ?_ ?c2 ?c3 ?c4 ?c5; (case kA => exact rfl); (case kF => exact rfl); (case kK => exact hk); (case k6 => k_is); (case k7 => k_is); (case k8 => k_room); (case k9 => exact BindsTo.of_eq rfl); (case c5 => decide); (case kB => exact locs rfl); (case c2 => exact rfl); (case c3 => exact rfl); (case c4 => exact rfl))
  intro g L' h1 FG F' N' B' X' T' D' kG
  have hR := grounded N off kG FG.keep
  have g1 := hR _ _ hsb
  have g2 := hR _ _ hsd
  have hRg : ∀ a o, R₀ a o → g.get? a = some o := fun a o h => hR a o (hR₀ a o h)
  have gC : CodeHd g 478 474 := hC.keeps FG.keep
  have g3 := hRg _ _ hxx
  have g4 := hRg _ _ hdd
  have g5 : g.get? ll = some (lstOf _ _) := hRg _ _ hll
  have g6 := hRg _ _ hyy
  have g7 := hRg _ _ hee
  have g8 : g.get? l2 = some (lstOf _ _) := hRg _ _ hl2
  have hd1 : dp + 1 + t.depth + 12 < recursionLimit := by omega
  have hu1' : un + 3 + 3 * t.depth + 60 < cLine := by omega
  have hz1 : D.length + t.leaves ≤ 1000 := by omega
  have hd2 : dp + 1 + t2.depth + 12 < recursionLimit := by omega
  have hu2' : un + 3 + 3 * t2.depth + 60 < cLine := by omega
  (try dsimp only); (try k_fold)
  k_steps
  · rename_i kF kN kT kX
    have e := Sub.run_app S pl1 pl2 (by assumption)
    exact r1 _ oh9 D9 ps9 (by rw [e]; exact run9) d9 (by simp only [Nd.leaves]; omega) (by rw [e]; exact S9) t9 kF (back0 N hR (by assumption) (subNews kN (by kcf_all))) G9 (o9.trans (by assumption))
  · rename_i kg kT kF kN kB kX₀ kP kD kX
    have e := Sub.run_app S pl1 pl2 (by assumption)
    exact r2 kg _ oh9 D9 ps9 (by rw [e]; exact run9) d9 (by rw [e]; exact S9) t9 kT kF (backD rfl N hR D0 T9 F9 kT (subNews kN (by kcf_all))) kB kX₀ kP kD G9 (o9.trans (by assumption))
  · rename_i kg kT kF kN kB kX₀ kP kD kX
    have e := Sub.run_bad S pl1 pl2 run9
    exact r2 kg _ oh9 D9 ps9 (by rw [e]; exact run9) d9 (by rw [e]; exact S9) t9 kT kF (backD rfl N hR D0 T9 F9 kT (subNews kN (by kcf_all))) kB kX₀ kP kD G9 o9
end ext2
theorem rk33 : True := by
  k_with_none
  trivial
theorem ext_all {prog : Program} {w : World} {loose : List Str} {mean : ExcName → Option Value} {mg mb : Str → Option Value} : ∀ T : Nd, ExtSpec prog w loose mean mg mb T
  | .s (.v _) => ext_var
  | .s .ay => ext_ay
  | .s .a => ext_a
  | .s .b => ext_b
  | .o1 _ p => ext_o1 (ext_all p)
  | .o2 _ p q => ext_o2 (ext_all p) (ext_all q)
end secExt2
section secDat
/-- a tree of the law as plain data -/
noncomputable def ndData : Nd → PyData
  | .s l => .str l.str
  | .o1 k p => .tuple [.str (opStr k), .list [ndData p]]
  | .o2 k p q => .tuple [.str (opStr k), .list [ndData p, ndData q]]
theorem NdIn.reads {h : Heap} {v : Value} {T : Nd} (x : NdIn (fun a o => h.get? a = some o) v T) : ∃ as, Reads h v (ndData T) as := by
  induction x with
  | s => exact ⟨_, .str _ _⟩
  | o1 a b _ ih =>
    obtain ⟨as, r⟩ := ih
    exact ⟨_, .tuple a rfl rfl (.cons (.str _ _) (.cons (.list b rfl rfl (.cons r .nil)) .nil))⟩
  | o2 a b _ _ ih1 ih2 =>
    obtain ⟨as, r⟩ := ih1
    obtain ⟨bs, q⟩ := ih2
    exact ⟨_, .tuple a rfl rfl (.cons (.str _ _) (.cons (.list b rfl rfl (.cons r (.cons q .nil))) .nil))⟩
theorem nd_shaped : ∀ i : Fin 8, SeqAt.shaped (ndData (pieceNd i)) = true := by decide +kernel
theorem nd_eqv : ∀ i j : Fin 8, PyData.eqv (ndData (pieceNd i)) (ndData (pieceNd j)) = decide (i = j) := by decide +kernel
section
variable {prog : Program} {w : World} {A : Around} {E : Value → Shared → Prop} {s : Shared} {v u : Value} {i j : Fin 8} {Q : Value → Shared → Prop}
/-- two pieces, as the law writes them, compared -/
theorem eq_nd (a : NdIn (fun a o => s.heap.get? a = some o) v (pieceNd i)) (b : NdIn (fun a o => s.heap.get? a = some o) u (pieceNd j)) (hu : A.units + 64 < cLine) (h : Q (.bool (decide (i = j))) s) : wpAny (model prog w) A (compareOp .Eq v u) Q E s := by
  obtain ⟨as, r⟩ := a.reads
  obtain ⟨bs, q⟩ := b.reads
  exact eq_dataH r q (nd_shaped i) (nd_shaped j) hu (by rw [nd_eqv]; exact h)
theorem ne_nd (a : NdIn (fun a o => s.heap.get? a = some o) v (pieceNd i)) (b : NdIn (fun a o => s.heap.get? a = some o) u (pieceNd j)) (hu : A.units + 64 < cLine) (h : Q (.bool (!decide (i = j))) s) : wpAny (model prog w) A (compareOp .NotEq v u) Q E s := by
  obtain ⟨as, r⟩ := a.reads
  obtain ⟨bs, q⟩ := b.reads
  exact ne_dataH r q (nd_shaped i) (nd_shaped j) hu (by rw [nd_eqv]; exact h)
end
end secDat
section secKeys
section
variable {prog : Program} {w : World} {A : Around} {E : Value → Shared → Prop} {s : Shared} {env : Env} {h₀ : Heap} {target : Expr} {body : List Stmt} {Q : Flow → Shared → Prop}
/-- the keys of a dict with keys of text, each with some token -/
theorem my_keys {d : Addr} {od : Obj} {kvs : List (Str × Value)} {m₀ : Str → Option Value} {news keep : Led}
    (hh : A.handled = none) (F : Fr h₀ env.locals s.heap m₀) (N : News h₀ env.locals s.heap news) (lo : (d == sysModules) = false) (hd : od.IsDictOf (strKind prog w) kvs) (hk : ∀ p ∈ keep, p ∈ news) (hx : At h₀ keep d od)
    (rest₀ : ∀ I : Addr, (∀ p ∈ news, p.1 < I) → MyRest prog w A E h₀ env target body Q [(I, "dict_keyiterator")] keep (kvs.map fun p => .tok (.str p.1)) s m₀ news) :
    wpAny (model prog w) A (pyIter (.ref d)) (fun it s₂ => MyTurns prog w A env target body Q E it s₂) E s := by
  have hax : s.heap.get? d = some od ∧ d ≠ env.locals := hx.elim (fun e => ⟨F.keep _ _ e, fun q => Nat.lt_irrefl _ (q ▸ Nat.lt_of_lt_of_le (Heap.lt_size e) F.above)⟩) fun e => ⟨(N _ (hk _ e)).1, (N _ (hk _ e)).2.1⟩
  obtain ⟨ep, hat⟩ := (Heap.dictOf_iff.mpr ⟨od, hax.1, hd⟩ : s.heap.DictOf (strKind prog w) d kvs).dictAt
  have hne : d ≠ s.heap.objs.size := Nat.ne_of_lt hat.lt_size
  refine wpAny_pyIter_dict lo hat ?_
  refine my_core (ws := [(s.heap.objs.size, "dict_keyiterator")]) (KTurns.ofWalks (Walks.dictKeys (knd := strKind prog w) hh s.heap.objs.size d hne kvs ep) fun i v s Q E st q => letGo_keyiter st.1 q) (by rw [List.length_map]) ?_ ?_ ?_ ?_ ?_ ?_ ?_ ?_ (F.push _) (fun p hp => ⟨Heap.get?_push_of_some _ (N p hp).1, (N p hp).2⟩) hk (rest₀ _ fun p hp => Heap.lt_size (N p hp).1).at
  · rintro i v h ⟨k, x, hx, hk⟩
    exact ⟨.tok (.str k), by rw [List.getElem?_map, hx]; rfl, Value.isStrOf_shape hk⟩
  · rintro i h ⟨⟨oi, g, c, _⟩, _⟩
    exact ⟨[(s.heap.objs.size, oi)], ⟨⟨rfl, c⟩, trivial⟩, fun p hp => by rw [List.mem_singleton.mp hp]; exact g⟩
  · intro b hb
    have hb' : b = s.heap.objs.size := by simpa using hb
    rw [hb']
    exact ⟨List.mem_cons_self .., next_is_new F⟩
  · intro b hb
    simpa using hb
  · intro b hb
    have hb' : b = s.heap.objs.size ∨ b = d := by simpa using hb
    rcases hb' with e | e
    · exact .inl (by simp [e])
    · exact .inr ⟨od, e ▸ hx⟩
  · intro hI
    have hb' : env.locals = s.heap.objs.size ∨ env.locals = d := by simpa using hI
    rcases hb' with e | e
    · exact absurd F.ns.lt (e ▸ Nat.lt_irrefl _)
    · exact hax.2 e.symm
  · intro p hp hI
    exact absurd (Heap.lt_size (N p hp).1) ((List.mem_singleton.mp hI) ▸ Nat.lt_irrefl _)
  · exact ⟨⟨_, Heap.get?_push_size _ rfl, rfl, rfl⟩, hat.push _⟩
theorem my_keys1 {d : Addr} {od : Obj} {kvs : List (Str × Value)} {m₀ : Str → Option Value} {news : Led}
    (hh : A.handled = none) (F : Fr h₀ env.locals s.heap m₀) (N : News h₀ env.locals s.heap news) (hm : (d, od) ∈ news) (lo : (d == sysModules) = false) (hd : od.IsDictOf (strKind prog w) kvs)
    (rest₀ : ∀ I : Addr, (∀ p ∈ news, p.1 < I) → MyRest prog w A E h₀ env target body Q [(I, "dict_keyiterator")] [(d, od)] (kvs.map fun p => .tok (.str p.1)) s m₀ news) :
    wpAny (model prog w) A (pyIter (.ref d)) (fun it s₂ => MyTurns prog w A env target body Q E it s₂) E s :=
  my_keys hh F N lo hd (List.forall_mem_singleton.mpr hm) (.inr (.head _)) rest₀
/-- a view of a dict's rows: each turn hands out a pair -/
theorem my_items {elts : List Expr} {kk : Nat} {pos : Pos} {d vw : Addr} {od : Obj} {kvs : List (Str × Value)} {m₀ : Str → Option Value} {news keep : Led}
    (hh : A.handled = none) (F : Fr h₀ env.locals s.heap m₀) (N : News h₀ env.locals s.heap news) (hvw : s.heap.IsItemsView vw d) (hd : od.IsDictOf (strKind prog w) kvs) (hk : ∀ p ∈ keep, p ∈ news) (hx : At h₀ keep d od)
    (rest₀ : ∀ I : Addr, (∀ p ∈ news, p.1 < I) → MyRest prog w A E h₀ env (.Tuple elts kk pos) body Q [(I, "dict_itemiterator")] keep (kvs.map fun p => .pair (.str p.1) p.2) s m₀ news) :
    wpAny (model prog w) A (pyIter (.ref vw)) (fun it s₂ => MyTurns prog w A env (.Tuple elts kk pos) body Q E it s₂) E s := by
  have hax : s.heap.get? d = some od ∧ d ≠ env.locals := hx.elim (fun e => ⟨F.keep _ _ e, fun q => Nat.lt_irrefl _ (q ▸ Nat.lt_of_lt_of_le (Heap.lt_size e) F.above)⟩) fun e => ⟨(N _ (hk _ e)).1, (N _ (hk _ e)).2.1⟩
  obtain ⟨ep, hat⟩ := (Heap.dictOf_iff.mpr ⟨od, hax.1, hd⟩ : s.heap.DictOf (strKind prog w) d kvs).dictAt
  have hne : d ≠ s.heap.objs.size := Nat.ne_of_lt hat.lt_size
  refine wpAny_pyIter_items hvw hat ?_
  refine my_core (ws := [(s.heap.objs.size, "dict_itemiterator")]) (kti_itemsTurns (knd := strKind prog w) hh s.heap.objs.size d hne kvs ep) (by rw [List.length_map]) ?_ ?_ ?_ ?_ ?_ ?_ ?_ ?_ (F.push _) (fun p hp => ⟨Heap.get?_push_of_some _ (N p hp).1, (N p hp).2⟩) hk (rest₀ _ fun p hp => Heap.lt_size (N p hp).1).at
  · rintro i v h ⟨T', key, k, x, rfl, hx, hk, hT⟩
    obtain ⟨t, rfl⟩ := Value.isStrOf_shape hk
    exact ⟨.pair (.str k) x, by rw [List.getElem?_map, hx]; rfl, T', t, rfl, hT⟩
  · rintro i h ⟨⟨ok, ov, he⟩, _⟩
    have e1 : ∃ o : Obj, h.get? s.heap.objs.size = some o ∧ o.cls = .type "dict_itemiterator" := ⟨_, he, rfl⟩
    obtain ⟨oi, g, c⟩ := e1
    exact ⟨[(s.heap.objs.size, oi)], ⟨⟨rfl, c⟩, trivial⟩, fun p hp => by rw [List.mem_singleton.mp hp]; exact g⟩
  · intro b hb
    have hb' : b = s.heap.objs.size := by simpa using hb
    rw [hb']
    exact ⟨List.mem_cons_self .., next_is_new F⟩
  · intro b hb
    simpa using hb
  · intro b hb
    have hb' : b = s.heap.objs.size ∨ b = d := by simpa using hb
    rcases hb' with e | e
    · exact .inl (by simp [e])
    · exact .inr ⟨od, e ▸ hx⟩
  · intro hI
    have hb' : env.locals = s.heap.objs.size ∨ env.locals = d := by simpa using hI
    rcases hb' with e | e
    · exact absurd F.ns.lt (e ▸ Nat.lt_irrefl _)
    · exact hax.2 e.symm
  · intro p hp hI
    exact absurd (Heap.lt_size (N p hp).1) ((List.mem_singleton.mp hI) ▸ Nat.lt_irrefl _)
  · exact ⟨⟨.none, .none, Heap.get?_push_size _ rfl⟩, hat.push _⟩
theorem my_items1 {elts : List Expr} {kk : Nat} {pos : Pos} {d vw : Addr} {od : Obj} {kvs : List (Str × Value)} {m₀ : Str → Option Value} {news : Led}
    (hh : A.handled = none) (F : Fr h₀ env.locals s.heap m₀) (N : News h₀ env.locals s.heap news) (hvw : s.heap.IsItemsView vw d) (hm : (d, od) ∈ news) (hd : od.IsDictOf (strKind prog w) kvs)
    (rest₀ : ∀ I : Addr, (∀ p ∈ news, p.1 < I) → MyRest prog w A E h₀ env (.Tuple elts kk pos) body Q [(I, "dict_itemiterator")] [(d, od)] (kvs.map fun p => .pair (.str p.1) p.2) s m₀ news) :
    wpAny (model prog w) A (pyIter (.ref vw)) (fun it s₂ => MyTurns prog w A env (.Tuple elts kk pos) body Q E it s₂) E s :=
  my_items hh F N hvw hd (List.forall_mem_singleton.mpr hm) (.inr (.head _)) rest₀
theorem kdi_method {L d : Addr} {o : Obj} {kvs : List (Str × Value)} {news : Led} {pl : Sem Bool} {R : Value × List Value → Shared → Prop} (N : News h₀ L s.heap news) (hp : (d, o) ∈ news) (hd : o.IsDictOf (strKind prog w) kvs) (h : R (.builtin "dict.items", [.ref d]) s) : wpAny (model prog w) A (getMethod (.ref d) "items" pl) R E s :=
  have hD := kda_dict N hp hd
  getMethod_builtin hD.typeIs PySem.F.plainAttrs_dict PySem.F.slot_dict_items PySem.F.type_dict_items hD.mapOf.noDict h
theorem kdi_call {L d : Addr} {o : Obj} {kvs : List (Str × Value)} {m : Str → Option Value} {news : Led} {R : Value → Shared → Prop} (F : Fr h₀ L s.heap m) (N : News h₀ L s.heap news) (hp : (d, o) ∈ news) (hd : o.IsDictOf (strKind prog w) kvs) (lo : (d == sysModules) = false)
    (h : ∀ h' o v, h'.IsItemsView v d → Fr h₀ L h' m → News h₀ L h' ((v, o) :: news) → (∀ p ∈ news, p.1 < v) → R (.ref v) { s with heap := h' }) : wpAny (model prog w) A (call (.builtin "dict.items") [.ref d]) R E s := by
  have hD := kda_dict N hp hd
  exact call_meetsIn PySem.F.slot_dict_items hD.typeIs PySem.F.entry_dict_items (PySem.F.args_dict_items_1 _) (meets_dict_items (strKind prog w) d lo)
    ⟨⟨kvs, hD⟩, h _ _ _ ⟨_, Heap.get?_push_size _ rfl, rfl, rfl⟩ (F.push _) (News.push F N _) fun p hp => Heap.lt_size (N p hp).1⟩
end
end secKeys
section secLaw1
set_option maxHeartbeats 4000000
structure Marked (P : Prop) : Prop where
  get : P
theorem keepMe {P : Prop} (h : Marked P) : P := h.get
theorem all_lt {d : Addr} {l : Led} (h : AllLt d l) : ∀ p ∈ l, p.1 ≠ d := by
  induction l with
  | nil => exact fun _ hq => nomatch hq
  | cons p r ih =>
    refine List.forall_mem_cons.mpr ⟨?_, ih h.2⟩
    have := h.1
    exact Nat.ne_of_lt this
theorem depth_leaves : ∀ T : Nd, T.leaves ≤ 2 ^ T.depth := by
  intro T
  induction T with
  | s l => exact Nat.le_refl 1
  | o1 k p ih =>
    show p.leaves ≤ 2 ^ (p.depth + 1)
    have := Nat.pow_le_pow_right (n := 2) (by decide) (Nat.le_succ p.depth)
    exact Nat.le_trans ih this
  | o2 k p q ih1 ih2 =>
    show p.leaves + q.leaves ≤ 2 ^ (max p.depth q.depth + 1)
    have h1 := Nat.le_trans ih1 (Nat.pow_le_pow_right (n := 2) (by decide) (Nat.le_max_left p.depth q.depth))
    have h2 := Nat.le_trans ih2 (Nat.pow_le_pow_right (n := 2) (by decide) (Nat.le_max_right p.depth q.depth))
    rw [Nat.pow_succ]
    generalize 2 ^ max p.depth q.depth = z at h1 h2 ⊢
    omega
section
variable {prog : Program} {w : World} {loose : List Str} {mean : ExcName → Option Value} {mg mb : Str → Option Value} {dp un : Nat} {gd : Option (List Code)} {cn : Str} {cs : Scope} {a : Addr} {ccd : Value} {cl : List (Str × Addr)} {outer : List Env} {A₀ : Around} {base h₀ : Heap} {L : Addr} {m : Str → Option Value} {rest : Led} {s : Shared} {Q E : Value → Shared → Prop}
theorem grown_top {st sl : Addr} {vs : List Value} {ns : List Int} {k : Int} {tk tl : Tok} {n nl : Nat}
    (H : Here w.params loose mean mg mb A₀ base h₀ outer L m [(st, stOf sl k tk n)] rest s.heap) (hk : cs.kind = .function) (hsl : At h₀ rest sl (lstOf vs nl)) (hns : IntsAre vs ns) (hlen : ns.length ≤ 60) (hk0 : 0 ≤ k) (hd : dp + 5 < recursionLimit)
    (ret : ∀ r T k' tk' n' tl' h' tks, T.depth ≤ 3 → 0 ≤ k' → Fr h₀ L h' m → News h₀ L h' ([(st, stOf sl k' tk' n')] ++ (rest ++ tl')) → Fresh s.heap tl' → (∀ q ∈ rest, ∀ p ∈ tl', p.1 ≠ q.1) → (∀ p ∈ tl', p.1 ≠ st) → NdIn (InL tl') r T → Q r { s with heap := h', toks := tks }) :
    wpAny (model prog w) (ktrTop dp un gd cn cs L a ccd cl outer) (call (.ref 894) [.ref st, .int 3 tl]) Q E s :=
  grown_all 3 _ _ _ _ _ _ _ _ _ _ _ _ _ _ _ _ _ _ _ _ _ _ _ _ _ _ _ _ H hk hsl hns hlen hk0 rfl (by omega) (fun r T k' tk' n' tl' h' tks h1 h2 h3 h4 h5 h6 => ret r T k' tk' n' tl' h' tks h1 h2 h3 h4 h5 (fun q hq => fresh_ne H.N h5 (List.mem_append_right _ hq)) (fresh_ne H.N h5 (List.mem_append_left _ (.head _))) h6)
theorem filled_top {T : Nd} {st sl hl pl : Addr} {vs : List Value} {ns : List Int} {k : Int} {tk : Tok} {n nl : Nat} {node : Value} {oh : Obj}
    (H : Here w.params loose mean mg mb A₀ base h₀ outer L m [(st, stOf sl k tk n), (hl, oh), (pl, lstOf [] 0)] rest s.heap) (hk : cs.kind = .function) (hsl : At h₀ rest sl (lstOf vs nl)) (hns : IntsAre vs ns) (hlen : ns.length ≤ 60) (hk0 : 0 ≤ k)
    (n1 : @Ne Nat st hl) (n2 : @Ne Nat st pl) (n3 : @Ne Nat hl pl) (lo : (hl == sysModules) = false) (hD : oh.IsDictOf (strKind prog w) []) (hT : T.depth ≤ 3) (hnd : NdIn (At h₀ rest) node T) (hd : dp + 5 < recursionLimit)
    (ret : ∀ r S ps k' tk' n' np' oh' us' tl' h' tks, 0 ≤ k' → Fr h₀ L h' m → News h₀ L h' ([(st, stOf sl k' tk' n'), (hl, oh'), (pl, lstOf us' np')] ++ (rest ++ tl')) → Fresh s.heap tl' → (∀ q ∈ [(st, stOf sl k tk n), (hl, oh), (pl, lstOf [] 0)] ++ rest, ∀ p ∈ tl', @Ne Nat p.1 q.1) →
      Fits T S ps → us'.length ≤ 8 → PlacesIn (InL tl') us' ps → NdIn (fun a o => InL tl' a o ∨ InP w.params a o) r S → Q r { s with heap := h', toks := tks }) :
    wpAny (model prog w) (ktrTop dp un gd cn cs L a ccd cl outer) (call (.ref 899) [.ref st, node, .ref hl, .ref pl]) Q E s := by
  have hl8 : T.leaves ≤ 8 := Nat.le_trans (depth_leaves T) (Nat.pow_le_pow_right (show 0 < 2 by decide) hT)
  refine filled_use (filled_all T) (us := []) (D := []) (cs := cs) H hk hsl hns hlen hk0 n1 n2 n3 lo hD (Nat.le_trans (Nat.le_of_eq (Nat.zero_add _)) (by omega)) (fun _ h => nomatch h) (Nat.le_trans (Nat.le_of_eq (Nat.zero_add _)) (by omega)) hnd (by omega) ?_
  intro r S ps k' tk' n' np' oh' D' us' tl' h' tks h1 h2 h3 h4 h5 h6 h7 h8 h9 h10 h11 h12
  exact ret r S ps k' tk' n' np' oh' us' tl' h' tks h1 h2 h3 h4 h5 h9 (by omega) h11 h12
end
theorem dict_new {prog : Program} {w : World} {A : Around} {E : Value → Shared → Prop} {s : Shared} {h₀ : Heap} {L : Addr} {m : Str → Option Value} {news : Led} {env : Env} {pos : Pos} {Q : Value → Shared → Prop} {p : Program} {loose : List Str} {mean : ExcName → Option Value} {mg mb : Str → Option Value} (F : Fr h₀ L s.heap m) (N : News h₀ L s.heap news) (T : Top p loose mean mg mb h₀)
    (k : ∀ d h' o, Fr h₀ L h' m → News h₀ L h' ((d, o) :: news) → (∀ p ∈ news, p.1 < d) → (d == sysModules) = false → o.IsDictOf (strKind prog w) [] → Q (.ref d) { s with heap := h' }) : wpAny (model prog w) A (eval (.Dict [] [] pos) env) Q E s :=
  Dict_empty_made2 F N (modules_low T.nolimit) fun h' o F' N' lo hd _ _ _ _ => k _ h' o F' N' (fun p hp => Heap.lt_size (N p hp).1) lo hd
theorem menu4 {P : Value → Prop} {l : Addr} {r : Int} {t1 t2 : Tok} (h0 : 0 ≤ r) (h4 : r < 4) (ha : P .none) (hx : P (.str (Str.ofString "x") t1)) (hz : P (.str (Str.ofString "z") t2)) : ∃ v, ([.none, .none, .str (Str.ofString "x") t1, .str (Str.ofString "z") t2] : List Value)[r.toNat]? = some v ∧ P v := by
  have : r = 0 ∨ r = 1 ∨ r = 2 ∨ r = 3 := by omega
  rcases this with rfl | rfl | rfl | rfl
  · exact ⟨_, rfl, ha⟩
  · exact ⟨_, rfl, ha⟩
  · exact ⟨_, rfl, hx⟩
  · exact ⟨_, rfl, hz⟩
end secLaw1
section secLaw2a
set_option maxHeartbeats 4000000
/-- a name of the substitution that the law hands in -/
theorem menu_nm {prog : Program} {w : World} {A : Around} {E : Value → Shared → Prop} {s : Shared} {value slice : Expr} {l : Addr} {r : Int} {u t1 t2 : Tok} {Q : Value → Shared → Prop} (hl : s.heap.IsList l #[.none, .none, .str (Str.ofString "x") t1, .str (Str.ofString "z") t2]) (h0 : 0 ≤ r) (h4 : r < 4) (ha : Q .none s) (hv : ∀ (v : Nm) t, Q (.str v.str t) s)
    (hs : subscripted slice false (.ref l) (.int r u) = operate [.ref l, .int r u] (getItem (.ref l) (.int r u)) := by with_unfolding_all rfl) (hg : ∀ x, letTemporaryGo value (.ref l) x = pure () := by intro _; with_unfolding_all rfl) :
    wpAny (model prog w) A (subscriptTail value slice (.ref l) (.int r u)) Q E s := by
  have : r = 0 ∨ r = 1 ∨ r = 2 ∨ r = 3 := by omega
  refine tail_any hl.typeIs slot_list_getitem.lookup (wpAny_mono (Q := Q) ?_ (fun _ _ x => x) fun _ _ x => x) hs
  rcases this with rfl | rfl | rfl | rfl
  · exact wpAny_getItem_list hl (by decide) (by decide) rfl ha
  · exact wpAny_getItem_list hl (by decide) (by decide) rfl ha
  · exact wpAny_getItem_list hl (by decide) (by decide) rfl (hv .x t1)
  · exact wpAny_getItem_list hl (by decide) (by decide) rfl (hv .z t2)
/-- a name that a cell holds is stored -/
theorem store_cell {M : Model} {A : Around} {E : Value → Shared → Prop} {s : Shared} {env : Env} {h₀ : Heap} {L c : Addr} {m : Str → Option Value} {o : Obj} {news : Led} {g : Obj → Led} {x : Str} {v : Value} {v₀ : Option Value} {Q : Unit → Shared → Prop} (F : Fr h₀ L s.heap m) (N : News h₀ L s.heap news) (hc : env.cells.lookup x = some c) (U : UpdF c o news g) (hd : o.data = .cell v₀)
    (hk : env.scope.kind = .function) (hx : env.kindOf x = some .cell) (h : ∀ h' o', Fr h₀ L h' m → News h₀ L h' (g o') → o'.data = .cell (some v) → Q () { s with heap := h' }) : wpAny M A (storeName env x v) Q E s := by
  obtain ⟨pre, post, rfl, hg, h1, h2⟩ := U.split
  have hm := N (c, o) (List.mem_append_right _ (.head _))
  refine wpAny_storeName_cell hk hx hc ⟨o, hm.1, hd⟩ fun h' hv hs => ?_
  obtain ⟨o', ho', hd'⟩ := hv
  exact h h' o' (F.change hs hm.2.1 hm.2.2) (hg o' ▸ N.setIn h1 h2 hs ho') hd'

theorem DropsA.sub {as : List Addr} {l l' : Led} (d : DropsA as l l') : ∀ p ∈ l', p ∈ l := by
  induction d with
  | skip _ _ ih => exact fun p hp => .tail _ (ih p hp)
  | keep _ ih => exact List.forall_mem_cons.mpr ⟨.head _, fun p hp => .tail _ (ih p hp)⟩
  | stay => exact fun _ h => h
/-- a turn's end, over a ledger with open tails: one iterator -/
theorem MyEnd.one {h₀ : Heap} {L I : Addr} {oI : Obj} {keep all news' : Led} {rest : Shared → (Str → Option Value) → Led → Prop} {s₂ : Shared} {m' : Str → Option Value} (F : Fr h₀ L s₂.heap m') (N : News h₀ L s₂.heap all) (d : DropsA [I] all news') (hI : (I, oI) ∈ all)
    (off : ∀ p ∈ news', p.1 ≠ I) (hk : ∀ p ∈ keep, p ∈ news') (r : rest s₂ m' news') : MyEnd h₀ L [(I, oI)] keep rest s₂ :=
  ⟨m', news', F, fun p hp => (List.mem_append.mp hp).elim (fun hp => N p (List.mem_singleton.mp hp ▸ hI)) fun hp => N p (d.sub p hp), fun p hp q hq => List.mem_singleton.mp hq ▸ off p hp, hk, r⟩
theorem MyRest.tok {prog : Program} {w : World} {A : Around} {E : Value → Shared → Prop} {s : Shared} {env : Env} {h₀ : Heap} {target : Expr} {body : List Stmt} {Q : Flow → Shared → Prop} {ws : List (Addr × String)} {keep : Led} {f : Tok → Value} {r : List Itm} {m : Str → Option Value} {news : Led}
    (h : ∀ t h tk, Fr h₀ env.locals h m → AllObj ws (fun its => News h₀ env.locals h (its ++ news) →
      wpAny (model prog w) A (assign target env (f t)) (fun _ s₂ => wpAny (model prog w) A (execs body env) (MyPost h₀ env.locals its keep (fun s' m' n' => MyRest prog w A E h₀ env target body Q ws keep r s' m' n') Q) E s₂) E { s with heap := h, toks := tk })) :
    MyRest prog w A E h₀ env target body Q ws keep (.tok f :: r) s m news := by
  intro u h' tk e F
  obtain ⟨t, rfl⟩ := e
  exact h t h' tk F
theorem stored_one {prog : Program} {w : World} {o : Obj} {k : Str} {v : Value} (h : o.IsDictOf (strKind prog w) (stored [] k v)) : o.IsDictOf (strKind prog w) [(k, v)] := h
theorem value_one (k : Str) (v : Value) : valueAt [(k, v)] k = some v := by simp [valueAt]
theorem pieceNd_depth (i : _root_.Fin 8) : (pieceNd i).depth ≤ 2 := by revert i; decide
theorem room_piece (i : _root_.Fin 8) : callerA.depth + 1 + (pieceNd i).depth + 12 < recursionLimit := by
  have h := pieceNd_depth i
  have e : callerA.depth + 1 + 2 + 12 < recursionLimit := by decide
  omega
end secLaw2a
section secLaw3
set_option maxHeartbeats 4000000
/-- one place taken in: the flag and the rows -/
noncomputable def Sub.step (b : Bool) (S : Sub) (n : Nm) (i : _root_.Fin 8) : Sub × Bool :=
  if b then match S.get n with
    | none => (S ++ [(n, i)], true)
    | some j => (S, decide (j = i))
  else (S, false)
noncomputable def Sub.go (b : Bool) (S : Sub) : List (Nm × _root_.Fin 8) → Sub × Bool
  | [] => (S, b)
  | (n, i) :: r => Sub.go (S.step b n i).2 (S.step b n i).1 r
theorem Sub.go_false (S : Sub) : ∀ l, Sub.go false S l = (S, false)
  | [] => rfl
  | _ :: r => Sub.go_false S r
theorem Sub.go_run : ∀ (l : List (Nm × _root_.Fin 8)) (S : Sub), Sub.go true S l = Sub.run S l
  | [], S => rfl
  | (n, i) :: r, S => by
    rw [Sub.go, Sub.run, Sub.step]
    cases h : S.get n with
    | none => exact Sub.go_run r _
    | some j =>
      by_cases e : i = j
      · simp only [if_true, e, decide_true]; exact Sub.go_run r S
      · have e' : ¬ j = i := fun q => e q.symm
        simp only [if_true, e, e', decide_false, if_false]; exact Sub.go_false S r
noncomputable abbrev Sub.Uniq (S : Sub) : Prop := (S.map (·.1)).Nodup
theorem Sub.get_mem {S : Sub} {n : Nm} {i : _root_.Fin 8} (h : S.get n = some i) : (n, i) ∈ S := by
  unfold Sub.get at h
  obtain ⟨p, hp, e⟩ := Option.map_eq_some_iff.mp h
  have h1 := List.mem_of_find?_eq_some hp
  have h2 : p.1 = n := of_decide_eq_true (List.find?_some (p := fun p : Nm × _root_.Fin 8 => decide (p.1 = n)) hp)
  obtain ⟨a, b⟩ := p
  simp only at h2 e
  subst h2 e
  exact h1
theorem Sub.get_none {S : Sub} {n : Nm} (h : S.get n = none) : n ∉ S.map (·.1) := by
  intro hm
  obtain ⟨p, hp, e⟩ := List.mem_map.mp hm
  have : (S.find? fun p => decide (p.1 = n)) = none := by simpa [Sub.get] using h
  exact absurd e (by simpa using List.find?_eq_none.mp this p hp)
theorem Sub.uniq_snoc {S : Sub} {n : Nm} {i : _root_.Fin 8} (u : S.Uniq) (h : S.get n = none) : Sub.Uniq (S ++ [(n, i)]) := by
  unfold Sub.Uniq
  rw [List.map_append]
  refine List.nodup_append.mpr ⟨u, by simp, fun a ha b hb e => ?_⟩
  have hb' : b = n := by simpa using hb
  exact Sub.get_none h (hb' ▸ e ▸ ha)
theorem Sub.step_uniq {b : Bool} {S : Sub} {n : Nm} {i : _root_.Fin 8} (u : S.Uniq) : (S.step b n i).1.Uniq := by
  unfold Sub.step
  cases b with
  | false => exact u
  | true =>
    cases h : S.get n with
    | none => exact Sub.uniq_snoc u h
    | some j => exact u
theorem Sub.run_uniq : ∀ (l : List (Nm × _root_.Fin 8)) (S : Sub), S.Uniq → (Sub.run S l).1.Uniq
  | [], S, u => u
  | (n, i) :: r, S, u => by
    rw [Sub.run]
    cases h : S.get n with
    | none => exact Sub.run_uniq r _ (Sub.uniq_snoc u h)
    | some j =>
      by_cases e : i = j
      · simp only [e, if_true]; exact Sub.run_uniq r S u
      · simp only [e, if_false]; exact u
theorem Sub.get_of_mem {S : Sub} (u : S.Uniq) {n : Nm} {i : _root_.Fin 8} (h : (n, i) ∈ S) : S.get n = some i := by
  induction S with
  | nil => cases h
  | cons p S ih =>
    obtain ⟨m, j⟩ := p
    have u' := List.nodup_cons.mp u
    rcases List.mem_cons.mp h with e | h
    · cases e; simp [Sub.get]
    · have hne : ¬ m = n := fun e => u'.1 (List.mem_map.mpr ⟨(n, i), h, e.symm⟩)
      have := ih u'.2 h
      simpa [Sub.get, hne] using this
theorem RowsAre.set_same {V : Value → _root_.Fin 8 → Prop} {D : AL} {S : Sub} (x : RowsAre V D S) {n : Nm} {v : Value} {i : _root_.Fin 8} (u : S.Uniq) (h : S.get n = some i) (a : V v i) : RowsAre V (D.set n v) S := by
  have key : ∀ {D : AL} {S : Sub}, RowsAre V D S → S.Uniq → S.get n = some i → RowsAre V (D.map fun p => if p.1 = n then (p.1, v) else p) S := by
    intro D S x
    induction x with
    | nil => intro _ _; exact .nil
    | @cons m w j D S b y ih =>
      intro u h
      have u' := List.nodup_cons.mp u
      by_cases e : m = n
      · subst e
        have hj : j = i := by simpa [Sub.get] using h
        subst hj
        have same : (D.map fun p => if p.1 = m then (p.1, v) else p) = D := by
          have hD : ∀ p ∈ D, p.1 ≠ m := by
            have hm : D.map (·.1) = S.map (·.1) := by
              clear ih h u u'
              induction y with
              | nil => rfl
              | cons _ _ ih => simp [ih]
            intro p hp e
            exact u'.1 (hm ▸ List.mem_map.mpr ⟨p, hp, e⟩)
          have e1 : (D.map fun p => if p.1 = m then (p.1, v) else p) = D.map id := List.map_congr_left fun p hp => by simp only [hD p hp, if_false, id]
          rw [e1, List.map_id]
        rw [List.map_cons]
        simp only [if_true]
        exact .cons a (by rw [same]; exact y)
      · rw [List.map_cons]
        simp only [e, if_false]
        exact .cons b (ih u'.2 (by simpa [Sub.get, e] using h))
  have hany : (D.any fun p => decide (p.1 = n)) = true := by
    rcases x.get n with ⟨_, q⟩ | ⟨w, j, q, _, _⟩
    · rw [h] at q; cases q
    · obtain ⟨p, hp, e, _⟩ := AL.get_mem q
      exact List.any_eq_true.mpr ⟨p, hp, by simpa using e⟩
  unfold AL.set
  rw [hany, if_pos rfl]
  exact key x u h
end secLaw3
section secLaw4
set_option maxHeartbeats 4000000
/-- names that the loop over the places leaves alone -/
noncomputable def Same (m m' : Str → Option Value) : Prop := m' (Str.ofString "found") = m (Str.ofString "found") ∧ m' (Str.ofString "subject") = m (Str.ofString "subject") ∧ m' (Str.ofString "pattern") = m (Str.ofString "pattern")
theorem Same.refl {m : Str → Option Value} : Same m m := ⟨rfl, rfl, rfl⟩
theorem Same.trans {m m' m'' : Str → Option Value} (x : Same m m') (y : Same m' m'') : Same m m'' := ⟨y.1.trans x.1, y.2.1.trans x.2.1, y.2.2.trans x.2.2⟩
/-- one turn of the loop over the places -/
noncomputable def Turn3 (prog : Program) (w : World) (A : Around) (E : Value → Shared → Prop) (h₀ : Heap) (L : Addr) (target : Expr) (env : Env) (body : List Stmt) (R : Led) (du : Addr) : Prop :=
  ∀ (P : Flow → Shared → Prop) (s : Shared) (m : Str → Option Value) (I : Addr) (oI od : Obj) (b : Bool) (D : AL) (S : Sub) (a : Addr) (n : Nm) (i : _root_.Fin 8) (t : Tok) (v : Value),
    Fr h₀ L s.heap m → m (Str.ofString "fits") = some (.bool b) → News h₀ L s.heap ((I, oI) :: (du, od) :: R) → @Ne Nat du I → od.IsDictOf (strKind prog w) D.kvs → D.length ≤ 1000 → RowsAre PieceVal D S → S.Uniq → IsTup s.heap a #[.str n.str t, v] → PieceVal v i →
    (∀ h' tk' m' od' D', Fr h₀ L h' m' → m' (Str.ofString "fits") = some (.bool (S.step b n i).2) → Same m m' → News h₀ L h' ((I, oI) :: (du, od') :: R) → od'.IsDictOf (strKind prog w) (AL.kvs D') → D'.length ≤ D.length + 1 → RowsAre PieceVal D' (S.step b n i).1 → P .next { s with heap := h', toks := tk' }) →
    wpAny (model prog w) A (assign target env (.ref a)) (fun _ s₂ => wpAny (model prog w) A (execs body env) P E s₂) E s
theorem loop3 {prog : Program} {w : World} {A : Around} {E : Value → Shared → Prop} {h₀ : Heap} {target : Expr} {env : Env} {body : List Stmt} {R keep : Led} {du I : Addr} {Q : Flow → Shared → Prop} (turn : Turn3 prog w A E h₀ env.locals target env body R du) (hk : ∀ p ∈ keep, p ∈ R) (hI : ∀ p ∈ R, p.1 < I) (hdu : @LT.lt Nat _ du I)
    {us : List Value} {pls : List (Nm × _root_.Fin 8)} (hp : PlacesIn (At h₀ R) us pls) :
    ∀ (b : Bool) (D : AL) (S : Sub) (od : Obj) (s : Shared) (m : Str → Option Value), m (Str.ofString "fits") = some (.bool b) → od.IsDictOf (strKind prog w) D.kvs → D.length + us.length ≤ 1000 → RowsAre PieceVal D S → S.Uniq →
      (∀ h' tk' m' od' D', Fr h₀ env.locals h' m' → m' (Str.ofString "fits") = some (.bool (Sub.go b S pls).2) → Same m m' → News h₀ env.locals h' ((du, od') :: R) → od'.IsDictOf (strKind prog w) (AL.kvs D') → D'.length ≤ D.length + us.length → RowsAre PieceVal D' (Sub.go b S pls).1 → Q .next { s with heap := h', toks := tk' }) →
      MyRest prog w A E h₀ env target body Q [(I, "list_iterator")] keep (us.map .val) s m ((du, od) :: R) := by
  induction hp with
  | nil =>
    intro b D S od s m hm hd hz hr hu done
    exact MyRest.zero fun h tk F N => done h tk m od D F hm .refl N hd (Nat.le_add_right _ _) hr
  | @cons a n p t v n' vs ps ha hv hps ih =>
    intro b D S od s m hm hd hz hr hu done
    have hz' : D.length + (vs.length + 1) ≤ 1000 := hz
    refine MyRest.val fun h tk F => ?_
    intro oI hc N
    have ht : IsTup h a #[.str n.str t, v] := by
      rcases ha with e | e
      · exact ⟨_, F.keep _ _ e, rfl, n', rfl⟩
      · exact ⟨_, (N _ (.tail _ (.tail _ e))).1, rfl, n', rfl⟩
    refine turn _ _ m I oI od b D S a n p t v F hm N (Nat.ne_of_lt hdu) hd (by omega) hr hu ht hv ?_
    intro h' tk' m' od' D' F' hm' hs' N' hd' hl' hr'
    refine MyPost.next ⟨m', (du, od') :: R, F', N', fun q hq r hr e => ?_, fun q hq => .tail _ (hk q hq), ?_⟩
    · obtain rfl := List.mem_singleton.mp hr
      rcases List.mem_cons.mp hq with rfl | hq
      · exact Nat.ne_of_lt hdu e
      · exact Nat.ne_of_lt (hI q hq) e
    · refine ih _ D' _ od' _ m' hm' hd' (by omega) hr' (Sub.step_uniq hu) ?_
      intro h2 tk2 m2 od2 D2 F2 hm2 hs2 N2 hd2 hl2 hr2
      exact done h2 tk2 m2 od2 D2 F2 hm2 (hs'.trans hs2) N2 hd2 (by simp only [List.length_cons]; omega) hr2
end secLaw4
section secLaw5
set_option maxHeartbeats 4000000
noncomputable def forT : List Stmt → Expr
  | .For t _ _ _ _ :: _ => t
  | _ => .Constant .none 0 ⟨0, 0, 0, 0⟩
noncomputable def forB : List Stmt → List Stmt
  | .For _ _ b _ _ :: _ => b
  | _ => []
theorem get_kvs_none {D : AL} {n : Nm} (h : D.get n = none) : (valueAt D.kvs n.str).isSome = false := by rw [AL.get_kvs, h]; rfl
theorem get_kvs_some {D : AL} {n : Nm} {v : Value} (h : D.get n = some v) : (valueAt D.kvs n.str).isSome = true := by rw [AL.get_kvs, h]; rfl
theorem at_kvs {D : AL} {n : Nm} {v : Value} (h : D.get n = some v) : valueAt D.kvs n.str = some v := by rw [AL.get_kvs, h]
theorem dict_set {prog : Program} {w : World} {o : Obj} {D : AL} {n : Nm} {v : Value} (h : o.IsDictOf (strKind prog w) (stored D.kvs n.str v)) : o.IsDictOf (strKind prog w) (AL.kvs (D.set n v)) := by rw [← AL.set_kvs]; exact h
theorem piece_in {P : Params} {h₀ h : Heap} {L : Addr} {m : Str → Option Value} (F : Fr h₀ L h m) (X : (MyK P).In h₀) {v : Value} {i : _root_.Fin 8} (hv : PieceVal v i) : NdIn (fun a o => h.get? a = some o) v (pieceNd i) :=
  (pieceIn P hv).mono fun a o e => F.keep _ _ (X a o e)
theorem ld_any {M : Model} {A : Around} {E : Value → Shared → Prop} {s : Shared} {env : Env} {h₀ : Heap} {m : Str → Option Value} {x : Str} {pos : Pos} {v : Value} {Q : Value → Shared → Prop} (F : Fr h₀ env.locals s.heap m) (hv : m x = some v) (h : Q v s)
    (hk : env.scope.kind = .function) (hl : env.kindOf x = some .local) (hd : (x == ("__debug__" : Str)) = false) : wpAny M A (eval (.Name x pos) env) Q E s := wpAny_Name (wpAny_loadName_local hk hl F.ns hv h) hd
section law
theorem rk34 : True := by
  k_with "~k_room" => case' fr9 => (((try simp only [depth_under_make, depth_under_kw, depth_in1, depth_deeper, depth_caller]); (try dsimp only [ktrTop]); first | decide | omega))
  k_with "~k_mem" => case' fr9 => (with_reducible kcf_m)
  k_with "~eval Name" => ((k_here; (with_reducible show wpAny _ _ (eval (Expr.Name (Str.ofString "due") _) _) _ _ _); k_dflt (refine' ld_cell ?N ?hc ?hm ?hd ?_ ?hk ?hx ?hb; (case N => k_asm); (case hc => exact rfl); (case hm => exact .tail _ (.tail _ hcR)); (case hd => exact hoc); (case hk => exact rfl); (case hx => exact rfl); (case hb => decide))))
  k_with "~eval Name" => ((k_here; (with_reducible show wpAny _ _ (eval (Expr.Name (Str.ofString "fits") _) _) _ _ _); k_dflt (refine' ld_any ?F ?h ?_ ?k ?l ?d; (case F => k_asm); (case h => exact (show _ = m (Str.ofString "fits") from rfl).trans hm); (case k => exact rfl); (case l => exact rfl); (case d => decide))))
  k_with "~compareOp In str ref" => ((k_here; (with_reducible show wpAny _ _ (compareOp _ (Value.str (Nm.str _) _) (Value.ref _)) _ _ _); k_dflt (refine' kda_in (knd := PySem.strKind _ _) ?N ?m ?d lo (strKind_is _ _ _ _) _ hb9 ?_; (case N => k_asm); (case m => exact .tail _ (.head _)); (case d => exact hd))))
  k_with "~subscriptTail" => ((k_here; (with_reducible show wpAny _ _ (subscriptTail _ _ (Value.ref _) (Value.str _ _)) _ _ _); k_dflt (refine' kda_item (knd := PySem.strKind _ _) ?N ?m ?d (strKind_is _ _ _ _) (at_kvs hg9) ?_; (case N => k_asm); (case m => exact .tail _ (.head _)); (case d => exact hd))))
  k_with "~compareOp NotEq" => ((k_here; (with_reducible show wpAny _ _ (compareOp _ u9 v) _ _ _); k_dflt (refine' ne_nd ?a ?b ?u ?_; (case a => exact piece_in (by k_asm) X hu9); (case b => exact piece_in (by k_asm) X hv); (case u => k_units)); rw [hij9]))
  k_with "~setItem ref str" => ((k_here; k_dflt (refine' kda_set (knd := PySem.strKind _ _) ?F ?N ?U ?d (strKind_is _ _ _ _) ?z ?_; (case F => k_asm); (case N => k_asm); (case U => exact .tail (Ne.symm hI) (.head hduR)); (case d => exact hd); (case z => (rw [sizeLine_eq]; simp only [AL.kvs, List.length_map]; omega))); intro h' o' F' N' hd'; (try replace hd' := dict_set hd'); (try dsimp only at N')))
  trivial
theorem turn3 {prog : Program} {w : World} {loose : List Str} {mean : ExcName → Option Value} {mg mb : Str → Option Value} {fa : Addr} {cd : Value} {h₀ : Heap} {L : Addr} {R : Led} {du : Addr} {oc : Obj} {E : Value → Shared → Prop}
    (X : (MyK w.params).In h₀) (T : Top topProg loose mean mg mb h₀) (hcR : (L + 1, oc) ∈ R) (hoc : oc.data = .cell (some (.ref du))) (hduR : ∀ p ∈ R, p.1 ≠ du) (lo : (du == sysModules) = false) :
    Turn3 prog w (callerA.deeper (envOfC (Str.ofString "law") d904.1.2.2 L fa cd)) E h₀ L (forT (List.drop 11 d904.1.2.1)) (envOfC (Str.ofString "law") d904.1.2.2 L fa cd) (forB (List.drop 11 d904.1.2.1)) R du := by
  intro P s m I oI od b D S a n i t v F hm N hI hd hz hr hu ht hv ret
  (try dsimp only [d904, List.drop, forT, forB]); (try k_fold)
  cases b with
  | false =>
    k_steps
    · refine' ret _ _ _ _ _ ?F ?f ⟨?s1, ?s2, ?s3⟩ ?N ?d (Nat.le_succ _) hr; (case F => with_reducible assumption); (case N => with_reducible assumption); (case f => exact (show _ = m (Str.ofString "fits") from rfl).trans hm); (case s1 => exact rfl); (case s2 => exact rfl); (case s3 => exact rfl); (case d => exact hd)
  | true =>
    rcases hr.get n with ⟨hg9, hs9⟩ | ⟨u9, j9, hg9, hs9, hu9⟩
    · have hb9 := get_kvs_none hg9
      have st : S.step true n i = (S ++ [(n, i)], true) := by simp only [Sub.step, if_true, hs9]
      rw [st] at ret
      k_steps
      · refine' ret _ _ _ _ _ ?F ?f ⟨?s1, ?s2, ?s3⟩ ?N ?d (AL.set_length D n v) (by rw [AL.set_new hg9]; exact hr.snoc hv); (case F => with_reducible assumption); (case N => with_reducible assumption); (case f => exact (show _ = m (Str.ofString "fits") from rfl).trans hm); (case s1 => exact rfl); (case s2 => exact rfl); (case s3 => exact rfl); (case d => with_reducible assumption)
    · have hb9 := get_kvs_some hg9
      by_cases e9 : j9 = i
      · have hij9 : (!decide (j9 = i)) = false := by rw [decide_eq_true e9]; rfl
        have st : S.step true n i = (S, true) := by simp only [Sub.step, if_true, hs9, e9, decide_true]
        rw [st] at ret
        k_steps
        · refine' ret _ _ _ _ _ ?F ?f ⟨?s1, ?s2, ?s3⟩ ?N ?d (AL.set_length D n v) (hr.set_same hu (e9 ▸ hs9) hv); (case F => with_reducible assumption); (case N => with_reducible assumption); (case f => exact (show _ = m (Str.ofString "fits") from rfl).trans hm); (case s1 => exact rfl); (case s2 => exact rfl); (case s3 => exact rfl); (case d => with_reducible assumption)
      · have hij9 : (!decide (j9 = i)) = true := by rw [decide_eq_false e9]; rfl
        have st : S.step true n i = (S, false) := by simp only [Sub.step, if_true, hs9, e9, decide_false]
        rw [st] at ret
        k_steps
        · refine' ret _ _ _ _ _ ?F ?f ⟨?s1, ?s2, ?s3⟩ ?N ?d (Nat.le_succ _) hr; (case F => with_reducible assumption); (case N => with_reducible assumption); (case f => exact rfl); (case s1 => exact rfl); (case s2 => exact rfl); (case s3 => exact rfl); (case d => exact hd)
end law
end secLaw5
section secLaw6
theorem rk35 : True := by
  k_with_none
  trivial
set_option maxHeartbeats 4000000
theorem fr_turn {h₀ h₁ h : Heap} {L : Addr} {m : Str → Option Value} (T : KtsTurn [] h₀ h₁) (F : Fr h₁ L h m) : Fr h₀ L h m :=
  ⟨F.ns, fun b o e => F.keep b o (T.other b o e (fun h => nomatch h)), T.size ▸ F.above⟩
theorem news_turn {h₀ h₁ h : Heap} {L : Addr} {news : Led} (T : KtsTurn [] h₀ h₁) (N : News h₁ L h news) : News h₀ L h news := fun p hp => ⟨(N p hp).1, (N p hp).2.1, by
  cases e : h₀.get? p.1 with
  | none => rfl
  | some o => exact absurd ((N p hp).2.2.symm.trans (T.other _ o e (fun h => nomatch h))) (fun q => nomatch q)⟩
/-- extract_substitution, seen from a frame over the bare module: one outcome -/
theorem ext_top {prog : Program} {w : World} {loose : List Str} {mean : ExcName → Option Value} {mg mb : Str → Option Value} {dp un : Nat} {gd : Option (List Code)} {cn : Str} {cs : Scope} {a : Addr} {ccd : Value} {cl : List (Str × Addr)} {A₀ : Around} {h₀ : Heap} {L : Addr} {m : Str → Option Value} {rest : Led} {s : Shared}
    {sb sd rd : Addr} {ts : Tok} {nsd : Nat} {oh : Obj} {D : AL} {S : Sub} {ps : Array Value} {x r : Value} {T T' : Nd} {pl : List (Nm × _root_.Fin 8)} {Q E : Value → Shared → Prop}
    (H : Here w.params loose mean mg mb A₀ h₀ h₀ [] L m [(rd, oh), (474, tabObj ps)] rest s.heap) (hk : cs.kind = .function) (hC : CodeHd h₀ 478 474) (hG : AllBare s.gens) (ht : TriplesOk ps.toList)
    (hsb : At h₀ rest sb (instObj 853 sd)) (hsd : At h₀ rest sd (subDict w.params ts rd nsd)) (hr4 : @Ne Nat rd 474) (lo : (rd == sysModules) = false) (hD : oh.IsDictOf (strKind prog w) D.kvs) (hDz : D.length + T.leaves ≤ 1000) (hS : RowsIn w.params (At h₀ rest) D S) (hF : Fits T T' pl) (hx : ExprIn w.params (At h₀ rest) x T) (hr : ExprIn w.params (At h₀ rest) r T')
    (hd : dp + T.depth + 12 < recursionLimit) (hu : un + 3 * T.depth + 60 < cLine)
    (ret : ∀ (s' : Shared) oh' D' ps', oh'.IsDictOf (strKind prog w) (AL.kvs D') → RowsIn w.params (At h₀ rest) D' (Sub.run S pl).1 → Fr h₀ L s'.heap m → News h₀ L s'.heap ([(rd, oh'), (474, tabObj ps')] ++ rest) → AllBare s'.gens → s'.os = s.os → Q (.bool (Sub.run S pl).2) s') :
    wpAny (model prog w) (ktrTop dp un gd cn cs L a ccd cl []) (call (.ref 836) [.ref sb, r, x]) Q E s := by
  obtain ⟨B, F, X, N, T0, off⟩ := id H
  refine ext_all T dp un gd cn cs a ccd cl [] A₀ h₀ h₀ L m rest s sb sd rd ts nsd oh D S ps x r T' pl (At h₀ rest) Q E H hk X T0 ktsDicts_nil hC hG ht hsb hsd hr4 lo hD hDz (fun _ _ h => h) hS hF hx hr hd hu ?_ ?_
  · intro s' oh' D' ps' e h1 _ h3 _ h5 h6 h7 h8
    have := ret s' oh' D' ps' h1 h3 h5 h6 h7 h8
    rw [e] at this
    exact this
  · intro h₁ s' oh' D' ps' e h1 h3 _ h5 h6 h7 _ _ _ _ h8 h9
    have := ret s' oh' D' ps' h1 h3 (fr_turn h5 h6) (news_turn h5 h7) h8 h9
    rw [e] at this
    exact this
theorem fits_depth {T S : Nd} {ps : List (Nm × _root_.Fin 8)} (h : Fits T S ps) : S.depth ≤ T.depth + 2 := by
  induction h with
  | @v n p => exact Nat.le_trans (pieceNd_depth p) (Nat.le_add_left _ _)
  | ay => exact Nat.le_add_right _ _
  | a => exact Nat.le_add_right _ _
  | b => exact Nat.le_add_right _ _
  | o1 _ ih => simp only [Nd.depth]; omega
  | o2 _ _ i1 i2 => simp only [Nd.depth]; omega
end secLaw6
section secLaw7
set_option maxHeartbeats 4000000
theorem room_nd {T : Nd} (h : T.depth ≤ 5) : callerA.depth + 1 + T.depth + 12 < recursionLimit := by
  have e : callerA.depth + 1 + 5 + 12 < recursionLimit := by decide
  omega
theorem units_nd {T : Nd} (h : T.depth ≤ 3) : callerA.units + 3 + 3 * T.depth + 60 < cLine := by
  have e : callerA.units + 3 + 3 * 3 + 60 < cLine := by decide
  omega
theorem triples_nil : TriplesOk (#[] : Array Value).toList := by trivial
theorem kvs_length (D : AL) : D.kvs.length = D.length := List.length_map _
theorem AtSub {h₀ : Heap} {r r' : Led} (h : ∀ p ∈ r, p ∈ r') : ∀ a o, At h₀ r a o → At h₀ r' a o := fun _ _ x => x.imp id (h _)
theorem InLSub {h₀ : Heap} {r r' : Led} (h : ∀ p ∈ r, p ∈ r') : ∀ a o, InL r a o → At h₀ r' a o := fun _ _ x => .inr (h _ x)
theorem len_rows {prog : Program} {w : World} {A : Around} {E : Value → Shared → Prop} {s : Shared} {h₀ : Heap} {L d : Addr} {o : Obj} {news : Led} {D : AL} {k : Nat} {Q : Value → Shared → Prop} (N : News h₀ L s.heap news) (hp : (d, o) ∈ news) (hd : o.IsDictOf (strKind prog w) D.kvs) (lo : (d == sysModules) = false) (hl : D.length = k) (hk : k ≤ 16777216) (h : Q (.int k (s.toks + 1)) { s with toks := s.toks + 1 + 1 }) :
    wpAny (model prog w) A (call (.builtin "len") [.ref d]) Q E s :=
  kda_len N hp hd lo (by rw [kvs_length, hl]; exact hk) (by rw [kvs_length, hl]; exact h)
end secLaw7
section secLaw8
set_option maxHeartbeats 4000000
theorem bools_true : ∀ {ys : List Value}, (∀ y ∈ ys, y = .bool true) → ∃ bs, LSm.BoolsAre ys bs ∧ bs.all id = true
  | [], _ => ⟨[], .nil, rfl⟩
  | y :: ys, h => by
    obtain ⟨bs, h1, h2⟩ := bools_true (ys := ys) fun y hy => h y (.tail _ hy)
    have e : y = .bool true := h y (.head _)
    subst e
    exact ⟨true :: bs, .cons _ h1, by simpa using h2⟩
/-- one element of the last line's list -/
noncomputable def Turn4 (prog : Program) (w : World) (A : Around) (h₀ : Heap) (L : Addr) (m : Str → Option Value) (elt : Expr) (env : Env) (scope : Scope) (cl : List (Str × Addr)) (N0 : Led) (D : AL) : Prop :=
  ∀ (P E : Value → Shared → Prop) (s : Shared) (m₂ : Str → Option Value) (I C Dd : Addr) (oI oC : Obj) (ys : List Value) (tl : Led) (n : Nm) (i : _root_.Fin 8) (v u : Value) (t : Tok),
    LCg.NsObj oC m₂ → m₂ (Str.ofString "key") = some (.str n.str t) → m₂ (Str.ofString "value") = some v → Fr h₀ L s.heap m → News h₀ L s.heap ((I, oI) :: (C, oC) :: (Dd, LCg.lst ys) :: (N0 ++ tl)) → LCg.Off3 I C Dd (N0 ++ tl) → ((@Ne Nat I C) ∧ (@Ne Nat I Dd) ∧ (@Ne Nat C Dd)) →
      ExprIn w.params (At h₀ N0) v (pieceNd i) → D.get n = some u → PieceVal u i →
    (∀ h' tk' tl', Fr h₀ L h' m → News h₀ L h' ((I, oI) :: (C, oC) :: (Dd, LCg.lst ys) :: (N0 ++ tl')) → LCg.Off3 I C Dd (N0 ++ tl') → P (.bool true) { s with heap := h', toks := tk' }) →
    wpAny (model prog w) A (eval elt (compEnvC scope cl C env)) P E s
theorem comp4 {prog : Program} {w : World} {A : Around} {h₀ : Heap} {L : Addr} {m : Str → Option Value} {elt : Expr} {env : Env} {scope : Scope} {cl : List (Str × Addr)} {N0 : Led} {D : AL} {d : Addr} {od : Obj} {Fin : List Value → Led → Prop} {s : Shared} (turn : Turn4 prog w A h₀ L m elt env scope cl N0 D) (hm : (d, od) ∈ N0)
    {Dr : AL} {Sr : Sub} (hr : RowsAre (fun v i => ExprIn w.params (At h₀ N0) v (pieceNd i)) Dr Sr) : (∀ p ∈ Sr, ∃ u, D.get p.1 = some u ∧ PieceVal u p.2) → ∀ ys tl, (∀ y ∈ ys, y = .bool true) → (∀ ys' tl', (∀ y ∈ ys', y = .bool true) → Fin ys' (N0 ++ tl')) →
      KcpRest prog w A h₀ L m env elt (Str.ofString "key") (Str.ofString "value") scope cl s (KcpAt d od) Fin (Dr.kvs.map fun p => (kyVal (.str p.1), p.2)) ys (N0 ++ tl) := by
  induction hr with
  | nil => exact fun _ ys tl hy fin => KcpRest.nil (fin ys tl hy)
  | @cons n v i Dr Sr a b ih =>
    intro hS ys tl hy fin
    refine KcpRest.cons ?_
    intro t I oI C oC Dd m₂ h tk E' hC hk hv F N off ne
    obtain ⟨u, hu, hp⟩ := hS (n, i) (.head _)
    refine turn _ E' { s with heap := h, toks := tk } m₂ I C Dd oI oC ys tl n i v u t hC hk hv F N off ne a hu hp ?_
    intro h' tk' tl' F' N' off'
    refine LCg.CompEnd.intro F' N' (N0 ++ tl') (fun p hp => hp) off' (Or.inr ⟨od, List.mem_append_left _ hm, rfl, 0, rfl⟩) ?_
    exact ih (fun p hp => hS p (.tail _ hp)) (ys ++ [.bool true]) tl' (fun y hy' => (List.mem_append.mp hy').elim (hy y) fun e => List.mem_singleton.mp e) fin
end secLaw8
section secLaw9
set_option maxHeartbeats 4000000
noncomputable def lastElt : List Stmt → Expr
  | .Return (some (.Call _ [.ListComp e _ _ _] _ _)) _ :: _ => e
  | _ => .Constant .none 0 ⟨0, 0, 0, 0⟩
noncomputable def lastScope : List Stmt → Scope
  | .Return (some (.Call _ [.ListComp _ _ sc _] _ _)) _ :: _ => sc
  | _ => d904.1.2.2
theorem read_piece {prog : Program} {w : World} {loose : List Str} {mean : ExcName → Option Value} {mg mb : Str → Option Value} : ∀ i : _root_.Fin 8, ReadSpec prog w loose mean mg mb (pieceNd i)
  | 0 => read_a
  | 1 => read_b
  | 2 => read_o1 read_a
  | 3 => read_o2 read_a read_b
  | 4 => read_o2 read_b read_a
  | 5 => read_o2 read_a read_a
  | 6 => read_o1 read_a
  | 7 => read_o2 read_a read_b
theorem room_read (i : _root_.Fin 8) : callerA.depth + 1 + (pieceNd i).depth + 4 < recursionLimit := by
  have h := pieceNd_depth i
  have e : callerA.depth + 1 + 2 + 4 < recursionLimit := by decide
  omega
theorem off3_more {I C D : Addr} {oI oC oD : Obj} {N0 tl tl9 : Led} (h : LCg.Off3 I C D (N0 ++ tl)) (g : ∀ q ∈ (I, oI) :: (C, oC) :: (D, oD) :: (N0 ++ tl), ∀ p ∈ tl9, @Ne Nat p.1 q.1) : LCg.Off3 I C D (N0 ++ (tl ++ tl9)) := by
  rw [← List.append_assoc]
  exact off3_app h (LCg.Off3.of fun p hp => ⟨g _ (.head _) p hp, g _ (.tail _ (.head _)) p hp, g _ (.tail _ (.tail _ (.head _))) p hp⟩)
section law
theorem rk36 : True := by
  k_with "~k_room" => case' fr9 => (((try simp only [depth_under_make, depth_under_kw, depth_in1, depth_deeper, depth_caller]); (try dsimp only [ktrTop]); first | decide | omega))
  k_with "~k_mem" => (first | with_reducible kcf_m | exact inN hcN | exact inN hdN | exact List.mem_append_left _ (inN hcN) | exact List.mem_append_left _ (inN hdN))
  k_with "~compareOp In str ref" => ((k_here; (with_reducible show wpAny _ _ (compareOp _ (Value.str (Nm.str _) _) (Value.ref _)) _ _ _); k_dflt (refine' kda_in (knd := PySem.strKind _ _) ?N ?m ?d lo (strKind_is _ _ _ _) _ hb9 ?_; (case N => k_asm); (case m => exact inN hdN); (case d => exact hd))))
  k_with "~subscriptTail" => ((k_here; (with_reducible show wpAny _ _ (subscriptTail _ _ (Value.ref _) (Value.str _ _)) _ _ _); k_dflt (refine' kda_item (knd := PySem.strKind _ _) ?N ?m ?d (strKind_is _ _ _ _) (at_kvs hg9) ?_; (case N => k_asm); (case m => first | exact inN hdN | exact List.mem_append_left _ (inN hdN)); (case d => exact hd))))
  k_with "~call ref" => ((k_here; (with_reducible show wpAny _ _ (call (Value.ref 880) _) _ _ _); k_dflt (refine' read_use (read_piece _) (here0 ?B ?F ?X ?N ?T) ?hk ?hnd ?hd ?_; (case F => with_reducible assumption); (case N => with_reducible assumption); (case B => k_asm); (case X => k_asm); (case T => k_asm); (case hk => exact rfl); (case hnd => exact hex); (case hd => exact room_read _); k_whole); intro r9 tl9 h9 tks9 F9 N9 g9 e9; (try dsimp only); (try k_fold)))
  k_with "~compareOp Eq" => ((k_here; (with_reducible show wpAny _ _ (compareOp _ r9 u) _ _ _); k_dflt (refine' eq_nd ?a ?b ?u ?_; (case a => exact e9.mono (fun a9 o9 h9 => (N9 _ (List.mem_append_right _ h9)).1)); (case b => exact piece_in F9 X hp); (case u => k_units)); rw [decide_eq_true rfl]))
  trivial
theorem turn4 {prog : Program} {w : World} {loose : List Str} {mean : ExcName → Option Value} {mg mb : Str → Option Value} {fa : Addr} {cd : Value} {h₀ : Heap} {L : Addr} {m : Str → Option Value} {N0 : Led} {du : Addr} {od oc : Obj} {D : AL}
    (X : (MyK w.params).In h₀) (T : Top topProg loose mean mg mb h₀) (B : Below callerA h₀ [] h₀) (hcN : (L + 1, oc) ∈ N0) (hdN : (du, od) ∈ N0) (hoc : oc.data = .cell (some (.ref du))) (lo : (du == sysModules) = false) (hd : od.IsDictOf (strKind prog w) D.kvs) :
    Turn4 prog w (callerA.deeper (envOfC (Str.ofString "law") d904.1.2.2 L fa cd)) h₀ L m (lastElt (List.drop 14 d904.1.2.1)) (envOfC (Str.ofString "law") d904.1.2.2 L fa cd) (lastScope (List.drop 14 d904.1.2.1)) [(Str.ofString "due", L + 1)] N0 D := by
  intro P E s m₂ I C Dd oI oC ys tl n i v u t hC hkey hval F N off ne hex0 hg9 hp ret
  have inN : ∀ {p : Addr × Obj} {a b c : Addr × Obj}, p ∈ N0 → p ∈ a :: b :: c :: (N0 ++ tl) := fun h => .tail _ (.tail _ (.tail _ (List.mem_append_left _ h)))
  have hex : ExprIn w.params (At h₀ ((I, oI) :: (C, oC) :: (Dd, LCg.lst ys) :: (N0 ++ tl))) v (pieceNd i) := hex0.mono (AtSub fun p h => inN h)
  have hb9 := get_kvs_some hg9
  (try dsimp only [d904, List.drop, lastElt, lastScope]); (try k_fold)
  k_steps
  · refine ret _ _ (tl ++ tl9) (by with_reducible assumption) ?_ (off3_more off g9)
    rw [← List.append_assoc]
    exact by assumption
end law
end secLaw9
section secLaw10
theorem rk37 : True := by
  k_with_none
  trivial
set_option maxHeartbeats 4000000
theorem rows_in {P : Params} {R : Addr → Obj → Prop} {Dr D : AL} {S : Sub} (_x : RowsAre (fun v i => ExprIn P R v (pieceNd i)) Dr S) (y : RowsAre PieceVal D S) (u : S.Uniq) : ∀ p ∈ S, ∃ v, D.get p.1 = some v ∧ PieceVal v p.2 := by
  intro p hp
  have e := Sub.get_of_mem u (n := p.1) (i := p.2) hp
  rcases y.get p.1 with ⟨_, h⟩ | ⟨v, i, h1, h2, h3⟩
  · rw [e] at h; cases h
  · rw [e] at h2; cases h2; exact ⟨v, h1, h3⟩
theorem comp4s {prog : Program} {w : World} {A : Around} {h₀ : Heap} {L : Addr} {m : Str → Option Value} {elt : Expr} {env : Env} {scope : Scope} {cl : List (Str × Addr)} {N0 : Led} {D : AL} {d : Addr} {od : Obj} {Fin : List Value → Led → Prop} {s : Shared} (turn : Turn4 prog w A h₀ L m elt env scope cl N0 D) (hm : (d, od) ∈ N0)
    {Dr : AL} {Sr : Sub} (hr : RowsAre (fun v i => ExprIn w.params (At h₀ N0) v (pieceNd i)) Dr Sr) (hS : ∀ p ∈ Sr, ∃ u, D.get p.1 = some u ∧ PieceVal u p.2) (fin : ∀ ys' tl', (∀ y ∈ ys', y = .bool true) → Fin ys' (N0 ++ tl')) :
      KcpRest prog w A h₀ L m env elt (Str.ofString "key") (Str.ofString "value") scope cl s (KcpAt d od) Fin (Dr.kvs.map fun p => (kyVal (.str p.1), p.2)) [] N0 := by
  have h := comp4 (s := s) turn hm hr hS [] [] (fun _ h => nomatch h) fin
  rw [List.append_nil] at h
  exact h
section law
theorem rk38 : True := by
  k_with "~k_room" => case' fr9 => (((try simp only [depth_under_make, depth_under_kw, depth_in1, depth_deeper, depth_caller]); (try dsimp only [ktrTop]); first | decide | omega))
  k_with "~k_mem" => case' fr9 => (with_reducible kcf_m)
  k_with "~eval Name" => ((k_here; (with_reducible show wpAny _ _ (eval (Expr.Name (Str.ofString "found") _) _) _ _ _); k_dflt (refine' ld_any ?F ?h ?_ ?k ?l ?d; (case F => k_asm); (case h => exact mfo); (case k => exact rfl); (case l => exact rfl); (case d => decide))))
  k_with "~getMethod ref" => ((k_here; (with_reducible show wpAny _ _ (getMethod (Value.ref _) "items" _) _ _ _); k_dflt (refine' kdi_method ?N ?m ?d ?_; (case N => k_asm); (case m => with_reducible kcf_m); (case d => with_reducible assumption))))
  k_with "~call builtin:dict.items" => ((k_here; k_dflt (refine' kdi_call ?F ?N ?m ?d ?lo ?_; (case F => k_asm); (case N => k_asm); (case m => with_reducible kcf_m); (case d => with_reducible assumption); (case lo => with_reducible assumption)); intro h' o' v' hv' F' N' l1; (try k_lt l1)))
  k_with "~eval ListComp" => ((k_here; (k_dflt (refine kcp_ListComp (PySem.strKind prog w) F (by rfl) (by decide) (by rfl) (by decide) (by rfl) (by rfl) (by first | decide | decide +kernel) ?_))))
  k_with "~KcpSrc" => (refine keepMe ?_)
  k_with "~call builtin:all" => ((k_here; (with_reducible show wpAny _ _ (call (Value.builtin "all") [Value.ref _]) _ _ _); k_dflt (refine LSm.all_bools Fz Nz rfl (Nz.isList (.head _)) hbs ?_); rw [hall]; intro h' tk' F' N'))
  trivial
theorem law_last {prog : Program} {w : World} {loose : List Str} {mean : ExcName → Option Value} {mg mb : Str → Option Value} {fa : Addr} {cd : Value} {h₀ : Heap} {L : Addr} {s : Shared} {m : Str → Option Value} {R : Led} {du rd fo sd : Addr} {od oc oh : Obj} {D Dr : AL} {S' : Sub} {ts : Tok} {nsd : Nat} {ps : Array Value} {Q : Flow → Shared → Prop} {E : Value → Shared → Prop}
    (F : Fr h₀ L s.heap m) (mfo : m (Str.ofString "found") = some (.ref fo))
    (X : (MyK w.params).In h₀) (T : Top topProg loose mean mg mb h₀) (B : Below callerA h₀ [] h₀) (N : News h₀ L s.heap ((rd, oh) :: (474, tabObj ps) :: (du, od) :: (L + 1, oc) :: (fo, instObj 853 sd) :: (sd, subDict w.params ts rd nsd) :: R)) (hoc : oc.data = .cell (some (.ref du))) (hG : AllBare s.gens)
    (lod : (du == sysModules) = false) (lor : (rd == sysModules) = false) (hdD : od.IsDictOf (strKind prog w) D.kvs) (hRd : RowsAre PieceVal D S') (hDr : oh.IsDictOf (strKind prog w) Dr.kvs) (hRr : RowsIn w.params (At h₀ ((du, od) :: (L + 1, oc) :: (fo, instObj 853 sd) :: (sd, subDict w.params ts rd nsd) :: R)) Dr S') (hu' : S'.Uniq) (hz : D.length ≤ 1000)
    (fin : ∀ s', (∀ b o, h₀.get? b = some o → s'.heap.get? b = some o) → (∃ ps, s'.heap.get? 474 = some (tabObj ps)) → AllBare s'.gens → s'.os = s.os → Q (.ret (.bool true)) s') :
    wpAny (model prog w) (callerA.deeper (envOfC (Str.ofString "law") d904.1.2.2 L fa cd)) (execs (List.drop 14 d904.1.2.1) (envOfC (Str.ofString "law") d904.1.2.2 L fa cd)) Q E s := by
  have hdd := rows_in hRr hRd hu'
  have hzz : Dr.kvs.length ≤ sizeLine := by rw [kvs_length, hRr.length, ← hRd.length, sizeLine_eq]; omega
  (try dsimp only [d904, List.drop]); (try k_fold)
  repeat' ((fail_if_success (with_reducible show Marked _)); first | (k_unfold; (try dsimp only)) | (k_end; wrow_close) | walk1 | (dsimp only; walk1) | (leave1; walk_say "STEP leave1"; try dsimp only) | fail "no step")
  rename_i kF kN _ _
  refine Marked.mk ?_
  have turn := turn4 (m := m) (fa := fa) (cd := cd) X T B (N0 := (v', o') :: (rd, oh) :: (474, tabObj ps) :: (du, od) :: (L + 1, oc) :: (fo, instObj 853 sd) :: (sd, subDict w.params ts rd nsd) :: R) (.tail _ (.tail _ (.tail _ (.tail _ (.head _))))) (.tail _ (.tail _ (.tail _ (.head _)))) hoc lod hdD
  have hRr' : RowsAre (fun v i => ExprIn w.params (At h₀ ((v', o') :: (rd, oh) :: (474, tabObj ps) :: (du, od) :: (L + 1, oc) :: (fo, instObj 853 sd) :: (sd, subDict w.params ts rd nsd) :: R)) v (pieceNd i)) Dr S' := hRr.mono fun v i h => h.mono (AtSub fun p h => .tail _ (.tail _ (.tail _ h)))
  refine KcpSrc.intro (enc := PyData.str) (d := rd) (od := oh) rfl kF kN hv' (.tail _ (.head _)) hDr hzz (fun _ _ h => Value.isStrOf_shape h) rfl ?_
  intro g'
  refine comp4s turn (.tail _ (.head _)) hRr' hdd ?_
  intro ys' tl' hys
  obtain ⟨bs, hbs, hall⟩ := bools_true hys
  intro Dl hz9 tk9 Fz Nz o1
  k_steps
  · exact fin _ F'.keep ⟨ps, (N' _ (.tail _ (List.mem_append_left _ (.tail _ (.tail _ (.head _)))))).1⟩ hG rfl
end law
end secLaw10
section secLaw11
theorem rk39 : True := by
  k_with_none
  trivial
set_option maxHeartbeats 4000000
section law
theorem rk40 : True := by
  k_with "~k_room" => case' fr9 => (((try simp only [depth_under_make, depth_under_kw, depth_in1, depth_deeper, depth_caller]); (try dsimp only [ktrTop]); first | decide | omega))
  k_with "~k_mem" => case' fr9 => (with_reducible kcf_m)
  k_with "~lcg_src" => case' fr9 => (first | exact Take.head | (refine' Take.tail ?zz; (case zz => lcg_src)))
  k_with "~k_all" => case' fr9 => (first | with_reducible assumption | exact offn | exact all_lt (by with_reducible assumption) | exact ne_tl (by with_reducible assumption) (by kcf_m) | (refine offc ?_ ?_; (focus k_ne); k_all) | (refine List.forall_mem_append.mpr ⟨?_, ?_⟩ <;> k_all))
  k_with "~my_mt" => case' fr9 => (with_reducible first | assumption | (refine List.mem_cons_of_mem _ ?_; walk_at "my_mt") | (refine List.mem_append.mpr (Or.inl ?_); walk_at "my_mt") | (refine List.mem_append.mpr (Or.inr ?_); walk_at "my_mt") | fail "my_mt")
  k_with "~eval Name" => ((k_here; (with_reducible show wpAny _ _ (eval (Expr.Name _ _) _) _ _ _); k_dflt (refine' ld_any ?F ?h ?_ ?k ?l ?d; (case F => k_asm); (case h => first | exact (show _ = m (Str.ofString "fits") from rfl).trans mf | exact (show _ = m (Str.ofString "found") from rfl).trans mfo | exact (show _ = m (Str.ofString "subject") from rfl).trans ms | exact (show _ = m (Str.ofString "pattern") from rfl).trans mp); (case k => exact rfl); (case l => exact rfl); (case d => decide))))
  k_with "~call ref" => ((k_here; (with_reducible show wpAny _ _ (call (Value.ref 875) _) _ _ _); k_dflt (refine' make_use (make_all pf pt _) (here0 ?B ?F ?X ?N ?T) ?hk ?hnd ?hd ?_; (case F => k_asm); (case N => k_asm); (case B => k_asm); (case X => k_asm); (case T => k_asm); (case hk => exact rfl); (case hnd => (refine NdIn.mono (AtSub ?_) (by with_reducible assumption); intro p9 h9; walk_at "my_mt")); (case hd => exact room_nd (by with_reducible assumption)); k_whole); intro r9 tl9 h9 tks9 F9 N9 g9 e9; (try simp only [List.cons_append, List.nil_append] at N9 g9); (try dsimp only); (try k_fold)))
  k_with "~call ref" => ((k_here; (with_reducible show wpAny _ _ (call (Value.ref 836) _) _ _ _); k_dflt (refine' ext_top ⟨?B, ?F, ?X, pick2 ?N ?t ?t2, ?T, off2 ?off ?off2⟩ ?hk hC hG ?ht ?hsb ?hsd hr4 lor hDr ?hDz ?hS hF ?hx ?hr ?hd ?hu ?_; (case F => k_asm); (case B => k_asm); (case X => k_asm); (case N => k_asm); (case t => lcg_src); (case t2 => lcg_src); (case T => k_asm); (case off => k_all); (case off2 => k_all); (case hk => exact rfl); (case ht => exact triples_nil); (case hsb => exact Or.inr (by with_reducible kcf_m)); (case hsd => exact Or.inr (by with_reducible kcf_m)); (case hDz => exact hz0); (case hS => exact hRr.mono (fun _ _ h9 => h9.mono (AtSub (by intro p9 h9; walk_at "my_mt")))); (case hx => (refine ExprIn.mono ?_ (by with_reducible assumption); exact InLSub (by intro p9 h9; walk_at "my_mt"))); (case hr => (refine ExprIn.mono ?_ (by with_reducible assumption); exact InLSub (by intro p9 h9; walk_at "my_mt"))); (case hd => exact room_nd (Nat.le_trans hdT (by decide))); (case hu => exact units_nd hdT); k_whole); rw [hrun]; intro s9 oh9 D9 ps9 d9 S9 F9 N9 G9 o9; (try simp only [List.cons_append, List.nil_append] at N9); (try dsimp only); (try k_fold)))
  k_with "~execs cons" => ((k_here; (with_reducible show wpAny _ _ (execs (Stmt.Return (some (Expr.Call (Expr.Name (Str.ofString "all") _) _ _ _)) _ :: _) _) _ _ _); refine keepMe ?_))
  k_with "~call builtin:len" => ((k_here; k_dflt (first | (refine' len_rows ?N ?m d9 lor S9.length hS9 ?_; (case N => k_asm); (case m => with_reducible kcf_m)) | (refine' len_rows ?N ?m hdD lod hRd.length hS9 ?_; (case N => k_asm); (case m => with_reducible kcf_m)))))
  trivial
theorem law_tail {prog : Program} {w : World} {loose : List Str} {mean : ExcName → Option Value} {mg mb : Str → Option Value} (pf : ((prog.main.file : Str) == Str.ofString "/claim/cut.py") = true) (pt : (prog.main.scope.names.lookup (Str.ofString "super")).isSome = false) {fa : Addr} {cd : Value} {h₀ : Heap} {L : Addr} {s : Shared} {m : Str → Option Value} {vT vS : Value} {PT PS : Nd} {R : Led} {pls : List (Nm × _root_.Fin 8)} {du rd fo sd : Addr} {od oc oh : Obj} {D Dr : AL} {S0 S' : Sub} {b : Bool} {ts : Tok} {nsd : Nat} {Q : Flow → Shared → Prop} {E : Value → Shared → Prop}
    (F : Fr h₀ L s.heap m) (mf : m (Str.ofString "fits") = some (.bool b)) (mfo : m (Str.ofString "found") = some (.ref fo)) (ms : m (Str.ofString "subject") = some vS) (mp : m (Str.ofString "pattern") = some vT)
    (X : (MyK w.params).In h₀) (T : Top topProg loose mean mg mb h₀) (B : Below callerA h₀ [] h₀) (N : News h₀ L s.heap ((du, od) :: (L + 1, oc) :: (rd, oh) :: (474, tabObj #[]) :: (fo, instObj 853 sd) :: (sd, subDict w.params ts rd nsd) :: R)) (hoc : oc.data = .cell (some (.ref du))) (hC : CodeHd h₀ 478 474) (hG : AllBare s.gens)
    (d1 : @Ne Nat du (L + 1)) (d2 : @Ne Nat du rd) (d3 : @Ne Nat du 474) (d4 : @Ne Nat (L + 1) rd) (d5 : @Ne Nat (L + 1) 474) (hr4 : @Ne Nat rd 474) (f1 : @Ne Nat fo rd) (f2 : @Ne Nat fo 474) (f3 : @Ne Nat sd rd) (f4 : @Ne Nat sd 474) (r1 : ∀ p ∈ R, p.1 ≠ rd) (r2 : ∀ p ∈ R, p.1 ≠ 474)
    (lod : (du == sysModules) = false) (lor : (rd == sysModules) = false) (hdD : od.IsDictOf (strKind prog w) D.kvs) (hRd : RowsAre PieceVal D S') (hDr : oh.IsDictOf (strKind prog w) Dr.kvs) (hRr : RowsIn w.params (At h₀ R) Dr S0) (hrun : Sub.run S0 pls = (S', b)) (hu' : S'.Uniq) (hz0 : Dr.length + PT.leaves ≤ 1000) (hz : D.length ≤ 1000)
    (hT : NdIn (At h₀ R) vT PT) (hS : NdIn (At h₀ R) vS PS) (hF : Fits PT PS pls) (hdT : PT.depth ≤ 3) (hdT5 : PT.depth ≤ 5) (hdS5 : PS.depth ≤ 5) (hE : PassesOwn (model prog w) (callerA.deeper (envOfC (Str.ofString "law") d904.1.2.2 L fa cd)) (envOfC (Str.ofString "law") d904.1.2.2 L fa cd) E)
    (fin : ∀ s', (∀ b o, h₀.get? b = some o → s'.heap.get? b = some o) → (∃ ps, s'.heap.get? 474 = some (tabObj ps)) → AllBare s'.gens → s'.os = s.os → Q (.ret (.bool true)) s') :
    wpAny (model prog w) (callerA.deeper (envOfC (Str.ofString "law") d904.1.2.2 L fa cd)) (execs (List.drop 12 d904.1.2.1) (envOfC (Str.ofString "law") d904.1.2.2 L fa cd)) Q E s := by
  have hS9 : S'.length ≤ 16777216 := by rw [← hRd.length]; omega
  (try dsimp only [d904, List.drop]); (try k_fold)
  repeat' ((fail_if_success (with_reducible show Marked _)); first | (k_unfold; (try dsimp only)) | (k_end; wrow_close) | walk1 | (dsimp only; walk1) | (leave1; walk_say "STEP leave1"; try dsimp only) | fail "no step")
  · rename_i hb
    exact absurd hb (by simp)
  · rename_i hb
    exact absurd rfl hb
  · refine Marked.mk ?_
    rename_i kF kN _ _ _
    refine law_last kF ((show _ = m (Str.ofString "found") from rfl).trans mfo) X T B kN hoc G9 lod lor hdD hRd d9 S9 hu' hz ?_
    intro s' a b c d
    exact fin s' a b c (d.trans o9)
end law
end secLaw11
section secLaw12
theorem rk41 : True := by
  k_with_none
  trivial
set_option maxHeartbeats 4000000
section law
theorem rk42 : True := by
  k_with "~exec For Tuple Name cons nil" => ((k_here; (with_unfolding_all refine' For_my F ?_ (by intro _; rfl) hE; k_whole)))
  k_with "~eval Name" => ((k_here; (with_reducible show wpAny _ _ (eval (Expr.Name (Str.ofString "places") _) _) _ _ _); k_dflt (refine' ld_any ?F ?h ?_ ?k ?l ?d; (case F => k_asm); (case h => exact mpl); (case k => exact rfl); (case l => exact rfl); (case d => decide))))
  k_with "~pyIter ref" => (refine keepMe ?_)
  trivial
theorem law_places {prog : Program} {w : World} {loose : List Str} {mean : ExcName → Option Value} {mg mb : Str → Option Value} (pf : ((prog.main.file : Str) == Str.ofString "/claim/cut.py") = true) (pt : (prog.main.scope.names.lookup (Str.ofString "super")).isSome = false) {fa : Addr} {cd : Value} {h₀ : Heap} {L : Addr} {s : Shared} {m : Str → Option Value} {vT vS : Value} {PT PS : Nd} {R : Led} {us : List Value} {np : Nat} {pls : List (Nm × _root_.Fin 8)} {du rd fo sd pl : Addr} {od oc oh : Obj} {D Dr : AL} {S0 : Sub} {ts : Tok} {nsd : Nat} {Q : Flow → Shared → Prop} {E : Value → Shared → Prop}
    (F : Fr h₀ L s.heap m) (mf : m (Str.ofString "fits") = some (.bool true)) (mfo : m (Str.ofString "found") = some (.ref fo)) (mpl : m (Str.ofString "places") = some (.ref pl)) (ms : m (Str.ofString "subject") = some vS) (mp : m (Str.ofString "pattern") = some vT)
    (X : (MyK w.params).In h₀) (T : Top topProg loose mean mg mb h₀) (B : Below callerA h₀ [] h₀) (N : News h₀ L s.heap ((du, od) :: (L + 1, oc) :: (rd, oh) :: (474, tabObj #[]) :: (fo, instObj 853 sd) :: (sd, subDict w.params ts rd nsd) :: R)) (hoc : oc.data = .cell (some (.ref du))) (hC : CodeHd h₀ 478 474) (hG : AllBare s.gens)
    (d1 : @Ne Nat du (L + 1)) (d2 : @Ne Nat du rd) (d3 : @Ne Nat du 474) (d4 : @Ne Nat (L + 1) rd) (d5 : @Ne Nat (L + 1) 474) (hr4 : @Ne Nat rd 474) (f0 : @Ne Nat fo du) (f1 : @Ne Nat fo rd) (f2 : @Ne Nat fo 474) (f5 : @Ne Nat sd du) (f3 : @Ne Nat sd rd) (f4 : @Ne Nat sd 474) (r0 : ∀ p ∈ R, p.1 ≠ du) (r1 : ∀ p ∈ R, p.1 ≠ rd) (r2 : ∀ p ∈ R, p.1 ≠ 474)
    (lod : (du == sysModules) = false) (lor : (rd == sysModules) = false) (hdD : od.IsDictOf (strKind prog w) D.kvs) (hRd : RowsAre PieceVal D S0) (hDr : oh.IsDictOf (strKind prog w) Dr.kvs) (hRr : RowsIn w.params (At h₀ R) Dr S0) (hu : S0.Uniq) (hz : S0.length ≤ 1)
    (hpl : (pl, lstOf us np) ∈ R) (hps : PlacesIn (At h₀ R) us pls) (hus : us.length ≤ 8)
    (hT : NdIn (At h₀ R) vT PT) (hS : NdIn (At h₀ R) vS PS) (hF : Fits PT PS pls) (hdT : PT.depth ≤ 3) (hE : PassesOwn (model prog w) (callerA.deeper (envOfC (Str.ofString "law") d904.1.2.2 L fa cd)) (envOfC (Str.ofString "law") d904.1.2.2 L fa cd) E)
    (fin : ∀ s', (∀ b o, h₀.get? b = some o → s'.heap.get? b = some o) → (∃ ps, s'.heap.get? 474 = some (tabObj ps)) → AllBare s'.gens → s'.os = s.os → Q (.ret (.bool true)) s') :
    wpAny (model prog w) (callerA.deeper (envOfC (Str.ofString "law") d904.1.2.2 L fa cd)) (execs (List.drop 11 d904.1.2.1) (envOfC (Str.ofString "law") d904.1.2.2 L fa cd)) Q E s := by
  have turn := turn3 (prog := prog) (w := w) (E := E) (fa := fa) (cd := cd) X T (L := L) (R := (L + 1, oc) :: (rd, oh) :: (474, tabObj #[]) :: (fo, instObj 853 sd) :: (sd, subDict w.params ts rd nsd) :: R) (du := du) (.head _) hoc
    (List.forall_mem_cons.mpr ⟨Ne.symm d1, List.forall_mem_cons.mpr ⟨Ne.symm d2, List.forall_mem_cons.mpr ⟨Ne.symm d3, List.forall_mem_cons.mpr ⟨f0, List.forall_mem_cons.mpr ⟨f5, r0⟩⟩⟩⟩⟩) lod
  have hD1 : D.length ≤ 1 := hRd.length ▸ hz
  have hD2 : Dr.length ≤ 1 := hRr.length ▸ hz
  have hl8 : PT.leaves ≤ 8 := Nat.le_trans (depth_leaves PT) (Nat.pow_le_pow_right (show 0 < 2 by decide) hdT)
  have hfd := fits_depth hF
  (try dsimp only [d904, List.drop]); (try k_fold)
  repeat' ((fail_if_success (with_reducible show Marked _)); first | (k_unfold; (try dsimp only)) | (k_end; wrow_close) | walk1 | (dsimp only; walk1) | (leave1; walk_say "STEP leave1"; try dsimp only) | fail "no step")
  refine Marked.mk ?_
  refine my_list (keep := [(pl, lstOf us np)]) rfl F N (List.forall_mem_singleton.mpr (.tail _ (.tail _ (.tail _ (.tail _ (.tail _ (.tail _ hpl))))))) (.inr (.head _)) ?_
  intro I l1
  have l2 := List.forall_mem_cons.mp l1
  refine loop3 turn (List.forall_mem_singleton.mpr (.tail _ (.tail _ (.tail _ (.tail _ (.tail _ hpl)))))) l2.2 l2.1 (hps.mono (AtSub fun p h => .tail _ (.tail _ (.tail _ (.tail _ (.tail _ h)))))) true D S0 od _ m mf hdD (by omega) hRd hu ?_
  intro h' tk' m' od' D' F' hm' hs' N' hd' hl' hr'
  refine law_tail pf pt F' hm' (hs'.1.trans mfo) (hs'.2.1.trans ms) (hs'.2.2.trans mp) X T B N' hoc hC hG d1 d2 d3 d4 d5 hr4 f1 f2 f3 f4 r1 r2 lod lor hd' hr' hDr hRr (Sub.go_run pls S0).symm ?_ (by omega) (by omega) hT hS hF hdT (Nat.le_trans hdT (by decide)) (by omega) hE fin
  rw [Sub.go_run]
  exact Sub.run_uniq pls S0 hu
end law
end secLaw12
section secLaw13
theorem rk43 : True := by
  k_with_none
  trivial
set_option maxHeartbeats 4000000
theorem pick6 {g h : Heap} {L : Addr} {l r1 r2 r3 r4 r5 r6 : Led} {q1 q2 q3 q4 q5 q6 : Addr × Obj} (N : News g L h l) (t1 : Take q1 l r1) (t2 : Take q2 r1 r2) (t5 : Take q5 r2 r3) (t6 : Take q6 r3 r4) (t3 : Take q3 r4 r5) (t4 : Take q4 r5 r6) : News g L h (q1 :: q2 :: q3 :: q4 :: q5 :: q6 :: r6) := fun p hp => N p (by
  rcases List.mem_cons.mp hp with rfl | hp
  · exact t1.sub _ (.head _)
  rcases List.mem_cons.mp hp with rfl | hp
  · exact t1.sub _ (.tail _ (t2.sub _ (.head _)))
  rcases List.mem_cons.mp hp with rfl | hp
  · exact t1.sub _ (.tail _ (t2.sub _ (.tail _ (t5.sub _ (.tail _ (t6.sub _ (.tail _ (t3.sub _ (.head _)))))))))
  rcases List.mem_cons.mp hp with rfl | hp
  · exact t1.sub _ (.tail _ (t2.sub _ (.tail _ (t5.sub _ (.tail _ (t6.sub _ (.tail _ (t3.sub _ (.tail _ (t4.sub _ (.head _)))))))))))
  rcases List.mem_cons.mp hp with rfl | hp
  · exact t1.sub _ (.tail _ (t2.sub _ (.tail _ (t5.sub _ (.head _)))))
  rcases List.mem_cons.mp hp with rfl | hp
  · exact t1.sub _ (.tail _ (t2.sub _ (.tail _ (t5.sub _ (.tail _ (t6.sub _ (.head _)))))))
  · exact t1.sub _ (.tail _ (t2.sub _ (.tail _ (t5.sub _ (.tail _ (t6.sub _ (.tail _ (t3.sub _ (.tail _ (t4.sub _ (.tail _ hp))))))))))))
section law

theorem rk44 : True := by
  k_with "~k_room" => case' fr9 => (((try simp only [depth_under_make, depth_under_kw, depth_in1, depth_deeper, depth_caller]); (try dsimp only [ktrTop]); first | decide | omega))
  k_with "~k_mem" => case' fr9 => (with_reducible kcf_m)
  k_with "~lcg_src" => case' fr9 => (first | exact Take.head | (refine' Take.tail ?zz; (case zz => lcg_src)))
  k_with "~k_all" => case' fr9 => (first | with_reducible assumption | exact offn | exact all_lt (by with_reducible assumption) | exact ne_tl (by with_reducible assumption) (by kcf_m) | (refine offc ?_ ?_; (focus k_ne); k_all) | (refine List.forall_mem_append.mpr ⟨?_, ?_⟩ <;> k_all))
  k_with "~my_mt" => case' fr9 => (with_reducible first | assumption | (refine List.mem_cons_of_mem _ ?_; walk_at "my_mt") | (refine List.mem_append.mpr (Or.inl ?_); walk_at "my_mt") | (refine List.mem_append.mpr (Or.inr ?_); walk_at "my_mt") | fail "my_mt")
  k_with "~call ref" => case' fr9 => ((k_here; (with_reducible show wpAny _ _ (call (Value.ref 894) _) _ _ _); k_dflt (refine' grown_top ⟨?B, ?F, ?X, pick1 ?N ?t, ?T, off1 ?off⟩ ?hk ?hsl ?hns ?hlen ?hk0 ?hd ?_; (case F => k_asm); (case B => k_asm); (case X => k_asm); (case N => k_asm); (case t => lcg_src); (case T => k_asm); (case off => k_all); (case hk => exact rfl); (case hsl => exact Or.inr (by with_reducible kcf_m)); (case hns => assumption); (case hlen => first | assumption | exact List.length_take_le _ _); (case hk0 => omega); (case hd => k_room); k_whole); intro r9 T9 k9 tk9 n9 tl9 h9 tks9 i9 j9 F9 N9 f9 q9 o9 d9; (try simp only [List.cons_append, List.nil_append] at N9); (try dsimp only); (try k_fold)))
  k_with "~call ref" => case' fr9 => ((k_here; (with_reducible show wpAny _ _ (call (Value.ref 899) _) _ _ _); k_dflt (refine' filled_top ⟨?B, ?F, ?X, pick3 ?N ?t ?t2 ?t3, ?T, off3 ?off ?off2 ?ofc⟩ ?hk ?hsl ?hns ?hlen ?hk0 ?n1 ?n2 ?n3 ?lo ?hD ?hT ?hnd ?hd ?_; (case F => k_asm); (case B => k_asm); (case X => k_asm); (case N => k_asm); (case t => lcg_src); (case t2 => lcg_src); (case t3 => lcg_src); (case T => k_asm); (case off => k_all); (case off2 => k_all); (case ofc => k_all); (case hk => exact rfl); (case hsl => exact Or.inr (by with_reducible kcf_m)); (case hns => assumption); (case hlen => first | assumption | exact List.length_take_le _ _); (case hk0 => omega); (case n1 => k_ne); (case n2 => k_ne); (case n3 => k_ne); (case lo => k_asm); (case hD => assumption); (case hT => assumption); (case hnd => (refine NdIn.mono ?_ (by assumption); intro a9 o9 h9; exact Or.inr (by walk_at "my_mt"))); (case hd => k_room); k_whole); intro r9 S9 ps9 k9 tk9 n9 np9 oh9 us9 tl9 h9 tks9 i9 F9 N9 f9 q9 ft9 ul9 pi9 nd9; (try simp only [List.cons_append, List.nil_append] at N9); (try dsimp only); (try k_fold)))
  k_with "~eval Dict" => case' fr9 => ((k_here; (with_reducible show wpAny _ _ (eval (Expr.Dict [] [] _) _) _ _ _); k_dflt (refine' dict_new ?F ?N ?T ?_; (case F => k_asm); (case N => k_asm); (case T => k_asm)); intro d' h' o' F' N' l1 lo' hd'; (try k_lt l1)))
  k_with "~execs cons" => case' fr9 => ((k_here; (with_reducible show wpAny _ _ (execs (Stmt.Assign [Expr.Name (Str.ofString "due9") _] _ _ :: _) _) _ _ _); refine keepMe ?_))
  k_with "~execs cons" => case' fr9 => ((k_here; (with_reducible show wpAny _ _ (execs (Stmt.For (Expr.Tuple _ _ _) (Expr.Name (Str.ofString "places") _) _ _ _ :: _) _) _ _ _); refine keepMe ?_))
  k_with "~storeName" => case' fr9 => ((k_here; (with_reducible show wpAny _ _ (storeName _ (Str.ofString "due") _) _ _ _); k_dflt (refine' store_cell ?F ?N ?c ?U ?d ?hk ?hx ?_; (case hx => exact rfl); (case hk => exact rfl); (case F => k_asm); (case N => k_asm); (case c => exact rfl); (case U => k_updF); (case d => assumption)); intro h' o' F' N' d'; (try dsimp only at N')))
  k_with "~eval Name" => case' fr9 => ((k_here; (with_reducible show wpAny _ _ (eval (Expr.Name (Str.ofString "due") _) _) _ _ _); k_dflt (refine' ld_cell ?N ?hc ?hm ?hd ?_ ?hk ?hx ?hb; (case N => k_asm); (case hc => exact rfl); (case hm => with_reducible kcf_m); (case hd => assumption); (case hk => exact rfl); (case hx => exact rfl); (case hb => decide))))
  k_with "~subscriptTail" => case' fr9 => ((k_here; (with_reducible show wpAny _ _ (subscriptTail _ _ (Value.ref _) (Value.int _ _)) _ _ _); k_dflt (refine' menu_nm ?hl ?h0 ?h4 ?_ ?_; (case hl => exact News.isList (by k_asm) (by with_reducible kcf_m)); (case h0 => omega); (case h4 => omega)); rotate_left; intro v9 t9))
  k_with "~call ref" => case' fr9 => ((k_here; (with_reducible show wpAny _ _ (call (Value.ref 887) _) _ _ _); k_dflt (refine' next_walk ⟨?B, ?F, ?X, pick1 ?N ?t, ?T, off1 ?off⟩ ?hk ?hsl ?hns ?hlen ?hk0 ?hl0 ?hd ?_; (case F => k_asm); (case B => k_asm); (case X => k_asm); (case N => k_asm); (case t => lcg_src); (case T => k_asm); (case off => k_all); (case hk => exact rfl); (case hsl => exact Or.inr (by walk_at "my_mt")); (case hns => assumption); (case hlen => assumption); (case hk0 => omega); (case hl0 => decide); (case hd => k_room); k_whole); intro r9 t9 k9 tk9 n9 h9 tks9 i9 j9 l9 F9 N9; (try simp only [List.cons_append, List.nil_append] at N9); (try dsimp only); (try k_fold)))
  k_with "~subscriptTail" => case' fr9 => ((k_here; (with_reducible show wpAny _ _ (subscriptTail _ _ (Value.ref 870) (Value.int _ _)) _ _ _); k_dflt (refine pieces_item (by k_asm) (by k_asm) (by omega) (by omega) ?_); intro v9 p9 hp9))
  k_with "~exec For Name Name cons nil" => ((k_here; (with_reducible show wpAny _ _ (exec (Stmt.For (Expr.Name _ _) (Expr.Name (Str.ofString "due") _) _ _ _) _) _ _ _); (rename Fr _ _ _ _ => lF'); (with_unfolding_all refine' For_my lF' ?_ (by intro _; rfl) hE; k_whole)))
  k_with "~pyIter ref" => ((k_here; (with_reducible show wpAny _ _ (pyIter (Value.ref _)) (fun it s₂ => MyTurns _ _ _ _ _ _ _ _ it s₂) _ _); k_dflt (refine' my_keys1 ?hh ?F ?N ?hm ?lo ?hd ?_; (case hh => exact rfl); (case F => k_asm); (case N => k_asm); (case hm => with_reducible kcf_m); (case lo => with_reducible assumption); (case hd => with_reducible assumption)); intro i' l1; (try k_lt l1); (try simp only [List.map_cons, List.map_nil])))
  k_with "~MyRest" => (first
  | ((with_unfolding_all refine MyRest.tok (fun t' h' tk' F' => ?_)); ktu_objs)
  | (with_unfolding_all refine MyRest.zero (fun h' tk' F' N' => ?_)))
  k_with "~MyPost" => (first | with_reducible refine MyPost.next ?_ | with_reducible refine MyPost.cont ?_ | with_reducible refine MyPost.brk ?_ | with_reducible refine MyPost.ret ?_)
  k_with "~MyEnd" => ((k_here; k_dflt (refine' MyEnd.one ?F ?N ?d ?hI ?off ?hk ?_; (case F => k_asm); (case N => k_asm); (case d => walk_at "my_drops"); (case hI => with_reducible kcf_m); (case off => k_all); (case hk => exact List.forall_mem_singleton.mpr (by with_reducible kcf_m)))))
  k_with "~my_drops" => (((with_reducible repeat' (first | refine' DropsA.skip (by first | exact List.mem_cons_self | fail "no") ?_ | refine' DropsA.keep ?_)); all_goals (try exact DropsA.stay)))
  k_with "~subscriptTail" => ((k_here; (with_reducible show wpAny _ _ (subscriptTail _ _ (Value.ref _) (Value.str _ _)) _ _ _); k_dflt (refine' kda_item (knd := PySem.strKind _ _) ?N ?m ?d (strKind_is _ _ _ _) (value_one _ _) ?_; (case N => k_asm); (case m => with_reducible kcf_m); (case d => with_reducible assumption))))
  k_with "~setItem ref str" => ((k_here; k_dflt (refine' kda_set (knd := PySem.strKind _ _) ?F ?N ?U ?d (strKind_is _ _ _ _) ?z ?_; (case F => k_asm); (case N => k_asm); (case U => k_updF); (case d => with_reducible assumption); (case z => exact Nat.zero_le _)); intro h' o' F' N' hd'; (try replace hd' := stored_one hd'); (try dsimp only at N')))
  k_with "~call ref" => ((k_here; (with_reducible show wpAny _ _ (call (Value.ref 875) _) _ _ _); k_dflt (refine' make_use (make_all pf pt _) (here0 ?B ?F ?X ?N ?T) ?hk ?hnd ?hd ?_; (case F => k_asm); (case N => k_asm); (case B => k_asm); (case X => k_asm); (case T => k_asm); (case hk => exact rfl); (case hnd => exact (pieceIn w.params (by with_reducible assumption)).mono (fun _ _ h9 => Or.inl (X _ _ h9))); (case hd => exact room_piece _); k_whole); intro r9 tl9 h9 tks9 F9 N9 g9 e9; (try simp only [List.cons_append, List.nil_append] at N9 g9); (try dsimp only); (try k_fold)))
  k_with "~exec For Tuple Call cons nil" => ((k_here; (with_reducible show wpAny _ _ (exec (Stmt.For (Expr.Tuple [Expr.Name (Str.ofString "name") _, _] _ _) _ _ _ _) _) _ _ _); (rename Fr _ _ _ _ => lF'); (with_unfolding_all refine' For_my lF' ?_; k_whole)))
  k_with "~getMethod ref" => ((k_here; (with_reducible show wpAny _ _ (getMethod (Value.ref _) "items" _) _ _ _); k_dflt (refine' kdi_method ?N ?m ?d ?_; (case N => k_asm); (case m => with_reducible kcf_m); (case d => with_reducible assumption))))
  k_with "~call builtin:dict.items" => ((k_here; k_dflt (refine' kdi_call ?F ?N ?m ?d ?lo ?_; (case F => k_asm); (case N => k_asm); (case m => with_reducible kcf_m); (case d => with_reducible assumption); (case lo => with_reducible assumption)); intro h' o' v' hv' F' N' l1; (try k_lt l1)))
  k_with "~pyIter ref" => ((k_here; (with_reducible show wpAny _ _ (pyIter (Value.ref _)) (fun it s₂ => MyTurns _ _ _ _ (Expr.Tuple _ _ _) _ _ _ it s₂) _ _); k_dflt (refine' my_items1 ?hh ?F ?N ?v ?hm ?hd ?_; (case hh => exact rfl); (case F => k_asm); (case N => k_asm); (case v => with_reducible assumption); (case hm => with_reducible kcf_m); (case hd => with_reducible assumption)); intro i' l1; (try k_lt l1); (try simp only [List.map_cons, List.map_nil])))
  k_with "~MyRest" => (((with_unfolding_all refine MyRest.pair (fun T' t' h' tk' hT' F' => ?_)); (try dsimp only at hT'); ktu_objs))
  trivial
theorem law2 {prog : Program} {w : World} {loose : List Str} {mean : ExcName → Option Value} {mg mb : Str → Option Value} (pf : ((prog.main.file : Str) == Str.ofString "/claim/cut.py") = true) (pt : (prog.main.scope.names.lookup (Str.ofString "super")).isSome = false) {fa : Addr} {cd : Value} {h₀ : Heap} {L : Addr} {s : Shared} {sc st sl pl : Addr} {vs us : List Value} {ns : List Int} {k : Int} {tk : Tok} {n nl np : Nat} {oc : Obj} {vT vS : Value} {PT PS : Nd} {R : Led} {pls : List (Nm × Fin 8)} {Q : Flow → Shared → Prop} {E : Value → Shared → Prop}
    (F : Fr h₀ L s.heap (fun y => if y = Str.ofString "subject" then some vS else if y = Str.ofString "places" then some (.ref pl) else if y = Str.ofString "pattern" then some vT else if y = Str.ofString "state" then some (.ref st) else List.lookup y [(Str.ofString "script", Value.ref sc)]))
    (X : (MyK w.params).In h₀) (T : Top topProg loose mean mg mb h₀) (B : Below callerA h₀ [] h₀) (N : News h₀ L s.heap ((st, stOf sl k tk n) :: (L + 1, oc) :: (474, tabObj #[]) :: R)) (hoc : oc.data = .cell none) (hL4 : @LT.lt Nat _ 474 L) (hst : @LT.lt Nat _ (L + 1) st) (o1 : ∀ p ∈ R, p.1 ≠ st) (o2 : ∀ p ∈ R, p.1 ≠ L + 1) (o3 : ∀ p ∈ R, p.1 ≠ 474)
    (hsl : (sl, lstOf vs nl) ∈ R) (hns : IntsAre vs ns) (hlen : ns.length ≤ 60) (hk0 : 0 ≤ k) (hpl : (pl, lstOf us np) ∈ R) (hps : PlacesIn (At h₀ R) us pls) (hus : us.length ≤ 8) (hT : NdIn (At h₀ R) vT PT) (hS : NdIn (At h₀ R) vS PS) (hF : Fits PT PS pls) (hdT : PT.depth ≤ 3) (hE : PassesOwn (model prog w) (callerA.deeper (envOfC (Str.ofString "law") d904.1.2.2 L fa cd)) (envOfC (Str.ofString "law") d904.1.2.2 L fa cd) E)
    (hC : CodeHd h₀ 478 474) (hG : AllBare s.gens) (fin : ∀ s', (∀ b o, h₀.get? b = some o → s'.heap.get? b = some o) → (∃ ps, s'.heap.get? 474 = some (tabObj ps)) → AllBare s'.gens → s'.os = s.os → Q (.ret (.bool true)) s') :
    wpAny (model prog w) (callerA.deeper (envOfC (Str.ofString "law") d904.1.2.2 L fa cd)) (execs (List.drop 4 d904.1.2.1) (envOfC (Str.ofString "law") d904.1.2.2 L fa cd)) Q E s := by
  (try dsimp only [d904, List.drop]); (try k_fold)
  repeat' ((fail_if_success (with_reducible show Marked _)); first | (k_unfold; (try dsimp only)) | (k_end; wrow_close) | walk1 | (dsimp only; walk1) | (leave1; walk_say "STEP leave1"; try dsimp only) | fail "no step")
  · refine Marked.mk ?_
    refine' law_places pf pt (S0 := [(_, _)]) (D := [(_, _)]) (Dr := [(_, _)]) ?F ?mf ?mfo ?mpl ?ms ?mp X T B (pick6 ?N ?t1 ?t2 ?t3 ?t4 ?t5 ?t6) ?hoc hC hG ?d1 ?d2 ?d3 ?d4 ?d5 ?hr4 ?f0 ?f1 ?f2 ?f5 ?f3 ?f4 ?r0 ?r1 ?r2 ?lod ?lor ?hdD ?hRd ?hDr ?hRr ?hu ?hz ?hpl ?hps hus ?hT ?hS hF hdT hE fin
    case F => k_asm
    case mf => exact rfl
    case mfo => exact rfl
    case mpl => exact rfl
    case ms => exact rfl
    case mp => exact rfl
    case hoc => with_reducible assumption
    case N => k_asm
    case t1 => lcg_src
    case t2 => lcg_src
    case t3 => lcg_src
    case t4 => lcg_src
    case t5 => lcg_src
    case t6 => lcg_src
    case d1 => k_ne
    case d2 => k_ne
    case d3 => k_ne
    case d4 => k_ne
    case d5 => k_ne
    case hr4 => k_ne
    case f0 => k_ne
    case f1 => k_ne
    case f2 => k_ne
    case f5 => k_ne
    case f3 => k_ne
    case f4 => k_ne
    case r0 => k_all
    case r1 => k_all
    case r2 => k_all
    case lod => with_reducible assumption
    case lor => with_reducible assumption
    case hdD => assumption
    case hDr => assumption
    case hu => exact List.nodup_cons.mpr ⟨List.not_mem_nil, List.nodup_nil⟩
    case hz => first | exact Nat.le_refl _ | exact Nat.zero_le _
    case hpl => walk_at "my_mt"
    case hps => exact hps.mono (AtSub (by intro p9 h9; walk_at "my_mt"))
    case hT => exact hT.mono (AtSub (by intro p9 h9; walk_at "my_mt"))
    case hS => exact hS.mono (AtSub (by intro p9 h9; walk_at "my_mt"))
    case hRd => exact .cons (by with_reducible assumption) .nil
    case hRr => exact .cons (ExprIn.mono (InLSub (r := tl9) (by intro p9 h9; walk_at "my_mt")) e9) .nil
  · refine Marked.mk ?_
    refine' law_places pf pt (S0 := []) (D := []) (Dr := []) ?F ?mf ?mfo ?mpl ?ms ?mp X T B (pick6 ?N ?t1 ?t2 ?t3 ?t4 ?t5 ?t6) ?hoc hC hG ?d1 ?d2 ?d3 ?d4 ?d5 ?hr4 ?f0 ?f1 ?f2 ?f5 ?f3 ?f4 ?r0 ?r1 ?r2 ?lod ?lor ?hdD ?hRd ?hDr ?hRr ?hu ?hz ?hpl ?hps hus ?hT ?hS hF hdT hE fin
    case F => k_asm
    case mf => exact rfl
    case mfo => exact rfl
    case mpl => exact rfl
    case ms => exact rfl
    case mp => exact rfl
    case hoc => with_reducible assumption
    case N => k_asm
    case t1 => lcg_src
    case t2 => lcg_src
    case t3 => lcg_src
    case t4 => lcg_src
    case t5 => lcg_src
    case t6 => lcg_src
    case d1 => k_ne
    case d2 => k_ne
    case d3 => k_ne
    case d4 => k_ne
    case d5 => k_ne
    case hr4 => k_ne
    case f0 => k_ne
    case f1 => k_ne
    case f2 => k_ne
    case f5 => k_ne
    case f3 => k_ne
    case f4 => k_ne
    case r0 => k_all
    case r1 => k_all
    case r2 => k_all
    case lod => with_reducible assumption
    case lor => with_reducible assumption
    case hdD => assumption
    case hDr => assumption
    case hu => exact List.nodup_nil
    case hz => first | exact Nat.le_refl _ | exact Nat.zero_le _
    case hpl => walk_at "my_mt"
    case hps => exact hps.mono (AtSub (by intro p9 h9; walk_at "my_mt"))
    case hT => exact hT.mono (AtSub (by intro p9 h9; walk_at "my_mt"))
    case hS => exact hS.mono (AtSub (by intro p9 h9; walk_at "my_mt"))
    case hRd => exact .nil
    case hRr => exact .nil
end law
end secLaw13
section secLaw14
theorem rk45 : True := by
  k_with_none
  trivial
set_option maxHeartbeats 4000000
section law
theorem rk46 : True := by
  k_with "~k_room" => case' fr9 => (((try simp only [depth_under_make, depth_under_kw, depth_in1, depth_deeper, depth_caller]); (try dsimp only [ktrTop]); first | decide | omega))
  k_with "~k_mem" => case' fr9 => (with_reducible kcf_m)
  k_with "~lcg_src" => case' fr9 => (first | exact Take.head | (refine' Take.tail ?zz; (case zz => lcg_src)))
  k_with "~k_all" => case' fr9 => (first | with_reducible assumption | exact offn | exact all_lt (by with_reducible assumption) | exact ne_tl (by with_reducible assumption) (by kcf_m) | (refine offc ?_ ?_; (focus k_ne); k_all) | (refine List.forall_mem_append.mpr ⟨?_, ?_⟩ <;> k_all))
  k_with "~my_mt" => case' fr9 => (with_reducible first | assumption | (refine List.mem_cons_of_mem _ ?_; walk_at "my_mt") | (refine List.mem_append.mpr (Or.inl ?_); walk_at "my_mt") | (refine List.mem_append.mpr (Or.inr ?_); walk_at "my_mt") | fail "my_mt")
  k_with "~call ref" => case' fr9 => ((k_here; (with_reducible show wpAny _ _ (call (Value.ref 894) _) _ _ _); k_dflt (refine' grown_top ⟨?B, ?F, ?X, pick1 ?N ?t, ?T, off1 ?off⟩ ?hk ?hsl ?hns ?hlen ?hk0 ?hd ?_; (case F => k_asm); (case B => k_asm); (case X => k_asm); (case N => k_asm); (case t => lcg_src); (case T => k_asm); (case off => k_all); (case hk => exact rfl); (case hsl => exact Or.inr (by with_reducible kcf_m)); (case hns => assumption); (case hlen => first | assumption | exact List.length_take_le _ _); (case hk0 => omega); (case hd => k_room); k_whole); intro r9 T9 k9 tk9 n9 tl9 h9 tks9 i9 j9 F9 N9 f9 q9 o9 d9; (try simp only [List.cons_append, List.nil_append] at N9); (try dsimp only); (try k_fold)))
  k_with "~call ref" => case' fr9 => ((k_here; (with_reducible show wpAny _ _ (call (Value.ref 899) _) _ _ _); k_dflt (refine' filled_top ⟨?B, ?F, ?X, pick3 ?N ?t ?t2 ?t3, ?T, off3 ?off ?off2 ?ofc⟩ ?hk ?hsl ?hns ?hlen ?hk0 ?n1 ?n2 ?n3 ?lo ?hD ?hT ?hnd ?hd ?_; (case F => k_asm); (case B => k_asm); (case X => k_asm); (case N => k_asm); (case t => lcg_src); (case t2 => lcg_src); (case t3 => lcg_src); (case T => k_asm); (case off => k_all); (case off2 => k_all); (case ofc => k_all); (case hk => exact rfl); (case hsl => exact Or.inr (by with_reducible kcf_m)); (case hns => assumption); (case hlen => first | assumption | exact List.length_take_le _ _); (case hk0 => omega); (case n1 => k_ne); (case n2 => k_ne); (case n3 => k_ne); (case lo => k_asm); (case hD => assumption); (case hT => assumption); (case hnd => (refine NdIn.mono ?_ (by assumption); intro a9 o9 h9; exact Or.inr (by walk_at "my_mt"))); (case hd => k_room); k_whole); intro r9 S9 ps9 k9 tk9 n9 np9 oh9 us9 tl9 h9 tks9 i9 F9 N9 f9 q9 ft9 ul9 pi9 nd9; (try simp only [List.cons_append, List.nil_append] at N9); (try dsimp only); (try k_fold)))
  k_with "~eval Dict" => case' fr9 => ((k_here; (with_reducible show wpAny _ _ (eval (Expr.Dict [] [] _) _) _ _ _); k_dflt (refine' dict_new ?F ?N ?T ?_; (case F => k_asm); (case N => k_asm); (case T => k_asm)); intro d' h' o' F' N' l1 lo' hd'; (try k_lt l1)))
  k_with "~execs cons" => case' fr9 => ((k_here; (with_reducible show wpAny _ _ (execs (Stmt.Assign [Expr.Name (Str.ofString "due") _] _ _ :: _) _) _ _ _); refine keepMe ?_))
  trivial
theorem law1 {prog : Program} {w : World} {loose : List Str} {mean : ExcName → Option Value} {mg mb : Str → Option Value} (pf : ((prog.main.file : Str) == Str.ofString "/claim/cut.py") = true) (pt : (prog.main.scope.names.lookup (Str.ofString "super")).isSome = false) {fa : Addr} {cd : Value} {h₀ : Heap} {L : Addr} {s : Shared} {sc : Addr} {vs : List Value} {ns : List Int} {oc : Obj} {Q : Flow → Shared → Prop} {E : Value → Shared → Prop}
    (F : Fr h₀ L s.heap (fun y => List.lookup y [(Str.ofString "script", Value.ref sc)])) (X : (MyK w.params).In h₀) (T : Top topProg loose mean mg mb h₀) (B : Below callerA h₀ [] h₀) (N : News h₀ L s.heap [(L + 1, oc), (474, tabObj #[])]) (hoc : oc.data = .cell none) (hL4 : @LT.lt Nat _ 474 L) (hsc : h₀.IsList sc vs.toArray) (hns : IntsAre vs ns) (hlen : ns.length ≤ 63)
    (hE : PassesOwn (model prog w) (callerA.deeper (envOfC (Str.ofString "law") d904.1.2.2 L fa cd)) (envOfC (Str.ofString "law") d904.1.2.2 L fa cd) E) (hC : CodeHd h₀ 478 474) (hG : AllBare s.gens) (fin : ∀ s', (∀ b o, h₀.get? b = some o → s'.heap.get? b = some o) → (∃ ps, s'.heap.get? 474 = some (tabObj ps)) → AllBare s'.gens → s'.os = s.os → Q (.ret (.bool true)) s') :
    wpAny (model prog w) (callerA.deeper (envOfC (Str.ofString "law") d904.1.2.2 L fa cd)) (execs d904.1.2.1 (envOfC (Str.ofString "law") d904.1.2.2 L fa cd)) Q E s := by
  (try dsimp only [d904]); (try k_fold)
  repeat' ((fail_if_success (with_reducible show Marked _)); first | (k_unfold; (try dsimp only)) | (k_end; wrow_close) | walk1 | (dsimp only; walk1) | (leave1; walk_say "STEP leave1"; try dsimp only) | fail "no step")
  refine Marked.mk ?_
  refine' law2 pf pt (R := (_, _) :: (_, _) :: (_, _) :: (_ ++ _)) ?F X T B (pick3 ?N ?t1 ?t2 ?t3) hoc hL4 ?hst ?o1 ?o2 ?o3 ?hsl ?hns ?hlen ?hk0 ?hpl ?hps ?hus ?hT ?hS ?hF ?hdT hE hC hG fin
  case F => k_asm
  case N => k_asm
  case t1 => lcg_src
  case t2 => lcg_src
  case t3 => lcg_src
  case hst => omega
  case o1 => k_all
  case o2 => k_all
  case o3 => k_all
  case hsl => with_reducible kcf_m
  case hns => assumption
  case hlen => first | assumption | exact List.length_take_le _ _
  case hk0 => omega
  case hF => assumption
  case hpl => with_reducible kcf_m
  case hps => refine PlacesIn.mono ?_ (by assumption); intro a9 o9 h9; exact Or.inr (by walk_at "my_mt")
  case hus => assumption
  case hdT => assumption
  case hT => (refine NdIn.mono ?_ (by assumption); intro a9 o9 h9; exact Or.inr (by walk_at "my_mt"))
  case hS => (refine NdIn.mono ?_ (by assumption); intro a9 o9 h9; first | exact Or.inr (by walk_at "my_mt") | (rcases h9 with h9 | h9; exact Or.inr (by walk_at "my_mt"); exact Or.inl (X _ _ h9)))
end law
end secLaw14
section secLaw15
theorem rk47 : True := by
  k_with_none
  trivial
theorem bind_one {k : Str → Option NameKind} {n : Str} {v : Value} (h : k n = some .local) : bindL k [(n, v)] (fun _ => none) = fun y => List.lookup y [(n, v)] := by
  show (if k n = some .local then fun y => if y = n then some v else none else fun _ => none) = _
  rw [if_pos h]
  funext y
  by_cases hy : y = n
  · subst hy; simp [List.lookup]
  · have : (y == n) = false := by simpa using hy
    simp [List.lookup, hy, this]
theorem bindC_one {k : Str → Option NameKind} {n : Str} {v : Value} (h : k n = some .local) : bindC k [(n, v)] (fun _ => none) = fun _ => none := by
  show (if k n = some .local then fun _ => none else fun y => if y = n then some v else none) = _
  rw [if_pos h]
set_option maxHeartbeats 4000000 in
theorem zz : PySem.Challenge.rw_ak0016_01.Holds := by
  w_on
  refine hd9 ?_
  k_fill
  intro w s₀ s₁ mg mb G Y fa o pm cd doc dV kV ho hd hcd hD hmg hg args vals as hpre hlay hrd hwl hlo
  have KX := km_in_of Y
  have hT8 := km_tabs_of Y
  refine Ground.open G ?_
  intro T B D TE TW
  have hT9 : TabsAt ([(478, 474)] : List (Addr × Addr)) s₁.heap := List.forall_mem_cons.mpr ⟨⟨codeHd_of_K (c := 478) (P := 474) KX (by kernel_rfl), hT8 474 (by k_mem)⟩, fun _ h => nomatch h⟩
  clear hmg
  wrow_args hpre hlay hrd hwl hlo
  refine enter_call ?_
  w_top on
  refine law_post hT9 ?_
  w_call any ho hd hcd hD T F
  clear hd
  kn_ghosts F T
  k_drop
  rename_i ws _ _ _ _ _ _ _ sc vs _ hL _ _ _ hI _ hc1 _ h1 tk1 oc hoc _ X1 T1 K1 F1 N1 l1
  have hk : (envOfC law9.name law9.scope s₁.heap.objs.size fa cd).kindOf (Str.ofString "script") = some .local := by kernel_rfl
  have e1 : ∀ z, (List.filterMap (fun n => Option.map (fun x => (n, x)) (List.lookup n (((List.map (fun x => x.arg) (docDef law9.name law9.params law9.body law9.scope pm cd doc).params.posonlyargs ++ List.map (fun x => x.arg) (docDef law9.name law9.params law9.body law9.scope pm cd doc).params.args).zip ({ pos := [Value.ref z] } : Args).pos, ([] : List (Str × Value))).fst, ([] : List (Str × Value))).fst)) (List.map (fun x => x.arg) (docDef law9.name law9.params law9.body law9.scope pm cd doc).params.posonlyargs ++ List.map (fun x => x.arg) (docDef law9.name law9.params law9.body law9.scope pm cd doc).params.args ++ List.map (fun x => x.arg) (docDef law9.name law9.params law9.body law9.scope pm cd doc).params.kwonlyargs)) = [(Str.ofString "script", Value.ref z)] := fun z => by kernel_rfl
  rw [e1, bind_one hk] at F1
  rw [e1, bindC_one hk] at hoc
  have hG : AllBare s₁.gens := by rw [hg]; intro g hg'; exact absurd hg' (by simp)
  refine' law1 (prog := r9.prog) (w := w) (fa := fa) (cd := cd) ?pf ?pt F1 X1 T1 K1 N1 hoc l1 lifted hI ?hlen ?hE codeHd hG ?fin
  case pf => kernel_rfl
  case pt => kernel_rfl
  case hlen => omega
  case hE => (first | passes_own | with_unfolding_all passes_own)
  case fin => exact fun s' hk hp hb ho => ⟨rfl, hk, hp, hb, ho⟩
end secLaw15
end Mine
set_option maxHeartbeats 4000000 in
theorem PySem.Challenge.cw_ak0016_01_holds : PySem.Challenge.rw_ak0016_01.Holds :=
  Mine.zz
