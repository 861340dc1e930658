import PyProof.Rows.All
import Wide.All
import OpenK.AllK
import Wide.FinOn
import PySem.Challenge.RW_iu0020_01
set_option maxRecDepth 100000
set_option Elab.async false
set_option linter.unusedVariables false
set_option linter.unusedSimpArgs false
-- HeadS
namespace Mine
open PySem PySem.W PySem.Calls PyProof.Rows
noncomputable section
noncomputable abbrev pw : Program := PySem.Challenge.pw_iu0020_01
noncomputable abbrev N : Value := .none
noncomputable abbrev Bo (b : Bool) : Value := .bool b
noncomputable abbrev I (i : Int) (t : Nat) : Value := .int i t
noncomputable abbrev S (s : String) (t : Nat) : Value := .str (Str.ofString s) t
noncomputable abbrev Y (s : String) : Value := .type s
noncomputable abbrev B (s : String) : Value := .builtin s
noncomputable abbrev R (a : Nat) : Value := .ref a
noncomputable abbrev E (P : Params) (x : String) (t : Nat) (v : Value) : DictEntry := ⟨PyData.keyHash P (Str.ofString x), .str (Str.ofString x) t, v⟩
noncomputable def noSt : Stmt := .Pass ⟨0, 0, 0, 0⟩
noncomputable def stBody : Stmt → List Stmt
  | .FunctionDef _ _ b _ _ _ _ _ _ _ => b
  | .ClassDef _ _ _ b _ _ _ _ _ _ _ => b
  | _ => []
noncomputable def stScope : Stmt → Scope
  | .FunctionDef _ _ _ _ _ _ s _ _ _ => s
  | .ClassDef _ _ _ _ _ _ s _ _ _ _ => s
  | _ => pw.main.scope
noncomputable def st1 (i : Nat) : Stmt := (pw.main.body[i]?).getD noSt
noncomputable def st2 (i j : Nat) : Stmt := ((stBody (st1 i))[j]?).getD noSt
noncomputable def Fn (s : Stmt) (qual : String) (g : Nat) (pm cd : Value) : FuncData := match s with
  | .FunctionDef name args body _ _ _ scope _ _ _ => { name := name, qualname := Str.ofString qual, params := args, body := .stmts body, scope := scope, globals := g, closure := [], defaults := .none, kwdefaults := .none, pyModule := pm, code := cd }
  | _ => default
-- the run, step by step, over trees, by the library's twins
noncomputable abbrev stepF := PySem.W.Fast.tw10156331382660048174 (PySem.W.Fast.tw11892475500146522536 PySem.W.Fast.tw14364793385576792824) pw
noncomputable def goT (w : World) : Nat → SharedT → Thread → Option (SharedT × Thread)
  | 0, s, t => some (s, t)
  | n + 1, s, t => match through t with
    | true => none
    | false => match stepOk 11 (some (.ref 6)) t with
      | false => none
      | true => match stepF w s t with
        | some (s', t') => goT w n s' t'
        | none => none
noncomputable def cont (l : List Stmt) (env : Env) : Sem Fin := R.bindR (R.onRaiseR (PySem.W.Fast.tw12563942051412417395 l env) (PySem.W.Fast.tw9442747609961115081 env)) fun f => Sem.pure (Fin.done f)
noncomputable def topK : Option (SharedT × Thread) → Result → Sem Fin
  | some (_, ⟨_, _, _, .ret k _ _ _ _ _ _ :: _⟩) => k
  | _ => fun _ => .unsupported "no frame"
noncomputable def od {α : Type} : List α → List α
  | [] => []
  | [a] => [a]
  | a :: _ :: r => a :: od r
noncomputable def bld : Nat → List Obj → BT
  | 0, _ => .nil
  | _, [] => .nil
  | n + 1, o :: r => .node o (bld n (od r)) (bld n (od r.tail))
noncomputable def B0 : List Stmt := behindTheImports pw
noncomputable abbrev Ent := Array (Int × Value)

noncomputable def envT : Env := { scope := pw.main.scope, locals := mainNs, globals := mainNs, cells := [], code := (R 13), frame := (some 14) }
noncomputable def qPos : Pos := ⟨0, 0, 0, 0⟩
noncomputable def cb2 : List Stmt := stBody (st1 2)
noncomputable def cenv2 : Env := { scope := stScope (st1 2), locals := 24, globals := 3, cells := [], qual := "BaseStemmer.", func := none, code := (R 27), frame := (some 28), builtins := 0 }
noncomputable def cb6 : List Stmt := stBody (st1 6)
noncomputable def cenv6 : Env := { scope := stScope (st1 6), locals := 225, globals := 3, cells := [], qual := "SesothoStemmer.", func := none, code := (R 228), frame := (some 229), builtins := 0 }
noncomputable def o230 (es : Ent) (ep : Nat) (t : SetTable) : Obj := ⟨Y "set", none, .set es ep t, #[]⟩
noncomputable abbrev o0 := PySem.W.boot_o_0
noncomputable abbrev o1 := PySem.W.boot_o_1
noncomputable abbrev o2 := PySem.W.boot_o_2
noncomputable abbrev o3 := PySem.W.boot_o_3
noncomputable abbrev o4 := PySem.W.boot_o_4
noncomputable abbrev o5 := PySem.W.boot_o_5
noncomputable abbrev o6 := PySem.W.boot_o_6
noncomputable abbrev o7 := PySem.W.boot_o_7
noncomputable abbrev o8 := PySem.W.boot_o_8
noncomputable abbrev o9 := PySem.W.boot_o_9
noncomputable abbrev o10 := PySem.W.boot_o_10
noncomputable def o11 (P : Params) : Obj := ⟨(Y "tuple"), none, (.seq #[] 0), #[]⟩
noncomputable def o12 (P : Params) : Obj := ⟨N, none, (.fields #[]), #[]⟩
noncomputable def o13 (P : Params) : Obj := ⟨(Y "code"), none, (.fields #[(S "<module>" 182), (S "<module>" 183), (S "/claim/cut.py" 184), (I 1 0), (I 0 0), (I 0 0), (I 0 0), (I 0 0), (R 11), (Bo false), (I 181 0), (R 12), N, N, N, N, (I 185 0), (I 1 0), (S "/claim/cut.py" 186)]), #[]⟩
noncomputable def o14 (P : Params) : Obj := ⟨(Y "frame"), none, .plain, #[(some (R 13)), (some (R 3)), (some (R 3)), none, (some (S "__main__" 164)), none, (some (R 0))]⟩
noncomputable def o3v1 (P : Params) : Obj := ⟨(Y "dict"), none, (.dict #[E P "__name__" 165 (S "__main__" 164), E P "__doc__" 166 N, E P "__package__" 167 N, E P "__loader__" 168 (B "__main__.__loader__#opaque"), E P "__spec__" 169 N, E P "__annotations__" 170 (R 6), E P "__builtins__" 171 (R 4), E P "__file__" 173 (S "/claim/cut.py" 172), E P "__cached__" 174 N, E P "_wall" 193 (R 21)] 10), #[]⟩
noncomputable def o12v1 (P : Params) : Obj := ⟨N, none, (.fields #[(I 1 0), (I 0 0), (R 20)]), #[]⟩
noncomputable def o15 (P : Params) : Obj := ⟨(Y "tuple"), none, (.seq #[] 0), #[]⟩
noncomputable def o16 (P : Params) : Obj := ⟨N, none, (.fields #[]), #[]⟩
noncomputable def o17 (P : Params) : Obj := ⟨(Y "tuple"), none, (.seq #[(S "k" 190)] 0), #[]⟩
noncomputable def o18 (P : Params) : Obj := ⟨(Y "tuple"), none, (.seq #[] 0), #[]⟩
noncomputable def o19 (P : Params) : Obj := ⟨N, none, (.func (Fn (st1 0) "_wall" 0 N N)), #[]⟩
noncomputable def o20 (P : Params) : Obj := ⟨(Y "code"), none, (.fields #[(S "_wall" 187), (S "_wall" 188), (S "/claim/cut.py" 189), (I 1 0), (I 1 0), (I 0 0), (I 0 0), (I 3 0), (R 15), (Bo true), (I 181 0), (R 16), N, (R 17), (R 18), (R 19), (I 191 0), (I 1 0), (S "/claim/cut.py" 192)]), #[]⟩
noncomputable def o21 (P : Params) : Obj := ⟨(Y "function"), none, (.func (Fn (st1 0) "_wall" 3 (S "__main__" 164) (R 20))), #[]⟩
noncomputable def o3v2 (P : Params) : Obj := ⟨(Y "dict"), none, (.dict #[E P "__name__" 165 (S "snowballstemmer.basestemmer" 194), E P "__doc__" 166 N, E P "__package__" 167 N, E P "__loader__" 168 (B "__main__.__loader__#opaque"), E P "__spec__" 169 N, E P "__annotations__" 170 (R 6), E P "__builtins__" 171 (R 4), E P "__file__" 173 (S "/claim/cut.py" 172), E P "__cached__" 174 N, E P "_wall" 193 (R 21)] 10), #[]⟩
noncomputable def o12v2 (P : Params) : Obj := ⟨N, none, (.fields #[(I 1 0), (I 0 0), (R 20), (I 5 0), (I 0 0), (R 27)]), #[]⟩
noncomputable def o22 (P : Params) : Obj := ⟨(Y "tuple"), none, (.seq #[] 0), #[]⟩
noncomputable def o23 (P : Params) : Obj := ⟨(Y "builtin_function_or_method"), none, (.fields #[(B "type.__prepare__"), (Y "type")]), #[]⟩
noncomputable def o24 (P : Params) : Obj := ⟨(Y "dict"), none, (.dict #[E P "__module__" 203 (S "snowballstemmer.basestemmer" 194), E P "__qualname__" 205 (S "BaseStemmer" 204), E P "__firstlineno__" 207 (I 5 206)] 3), #[]⟩
noncomputable def o25 (P : Params) : Obj := ⟨(Y "tuple"), none, (.seq #[] 0), #[]⟩
noncomputable def o26 (P : Params) : Obj := ⟨N, none, (.fields #[]), #[]⟩
noncomputable def o27 (P : Params) : Obj := ⟨(Y "code"), none, (.fields #[(S "BaseStemmer" 198), (S "BaseStemmer" 199), (S "/claim/cut.py" 200), (I 5 0), (I 0 0), (I 0 0), (I 0 0), (I 0 0), (R 25), (Bo false), (I 181 0), (R 26), N, N, N, N, (I 201 0), (I 5 0), (S "/claim/cut.py" 202)]), #[]⟩
noncomputable def o28 (P : Params) : Obj := ⟨(Y "frame"), none, .plain, #[(some (R 27)), (some (R 3)), (some (R 24)), none, (some (S "snowballstemmer.basestemmer" 194)), none, (some (R 0))]⟩
noncomputable def o24v1 (P : Params) : Obj := ⟨(Y "dict"), none, (.dict #[E P "__module__" 203 (S "snowballstemmer.basestemmer" 194), E P "__qualname__" 205 (S "BaseStemmer" 204), E P "__firstlineno__" 207 (I 5 206), E P "__init__" 214 (R 35), E P "set_current" 222 (R 42), E P "get_current" 229 (R 49), E P "copy_from" 237 (R 56), E P "in_grouping" 245 (R 63), E P "go_in_grouping" 253 (R 70), E P "in_grouping_b" 261 (R 77)] 10), #[]⟩
noncomputable def o26v1 (P : Params) : Obj := ⟨N, none, (.fields #[(I 7 0), (I 4 0), (R 34), (I 10 0), (I 4 0), (R 41), (I 18 0), (I 4 0), (R 48), (I 21 0), (I 4 0), (R 55), (I 24 0), (I 4 0), (R 62), (I 27 0), (I 4 0), (R 69), (I 30 0), (I 4 0), (R 76)]), #[]⟩
noncomputable def o29 (P : Params) : Obj := ⟨(Y "tuple"), none, (.seq #[] 0), #[]⟩
noncomputable def o30 (P : Params) : Obj := ⟨N, none, (.fields #[]), #[]⟩
noncomputable def o31 (P : Params) : Obj := ⟨(Y "tuple"), none, (.seq #[(S "self" 211)] 0), #[]⟩
noncomputable def o32 (P : Params) : Obj := ⟨(Y "tuple"), none, (.seq #[] 0), #[]⟩
noncomputable def o33 (P : Params) : Obj := ⟨N, none, (.func (Fn (st2 2 0) "BaseStemmer.__init__" 0 N N)), #[]⟩
noncomputable def o34 (P : Params) : Obj := ⟨(Y "code"), none, (.fields #[(S "__init__" 208), (S "BaseStemmer.__init__" 209), (S "/claim/cut.py" 210), (I 7 0), (I 1 0), (I 0 0), (I 0 0), (I 3 0), (R 29), (Bo true), (I 181 0), (R 30), N, (R 31), (R 32), (R 33), (I 212 0), (I 7 0), (S "/claim/cut.py" 213)]), #[]⟩
noncomputable def o35 (P : Params) : Obj := ⟨(Y "function"), none, (.func (Fn (st2 2 0) "BaseStemmer.__init__" 3 (S "snowballstemmer.basestemmer" 194) (R 34))), #[]⟩
noncomputable def o36 (P : Params) : Obj := ⟨(Y "tuple"), none, (.seq #[] 0), #[]⟩
noncomputable def o37 (P : Params) : Obj := ⟨N, none, (.fields #[]), #[]⟩
noncomputable def o38 (P : Params) : Obj := ⟨(Y "tuple"), none, (.seq #[(S "self" 218), (S "value" 219)] 0), #[]⟩
noncomputable def o39 (P : Params) : Obj := ⟨(Y "tuple"), none, (.seq #[] 0), #[]⟩
noncomputable def o40 (P : Params) : Obj := ⟨N, none, (.func (Fn (st2 2 1) "BaseStemmer.set_current" 0 N N)), #[]⟩
noncomputable def o41 (P : Params) : Obj := ⟨(Y "code"), none, (.fields #[(S "set_current" 215), (S "BaseStemmer.set_current" 216), (S "/claim/cut.py" 217), (I 10 0), (I 2 0), (I 0 0), (I 0 0), (I 3 0), (R 36), (Bo true), (I 181 0), (R 37), N, (R 38), (R 39), (R 40), (I 220 0), (I 10 0), (S "/claim/cut.py" 221)]), #[]⟩
noncomputable def o42 (P : Params) : Obj := ⟨(Y "function"), none, (.func (Fn (st2 2 1) "BaseStemmer.set_current" 3 (S "snowballstemmer.basestemmer" 194) (R 41))), #[]⟩
noncomputable def o43 (P : Params) : Obj := ⟨(Y "tuple"), none, (.seq #[] 0), #[]⟩
noncomputable def o44 (P : Params) : Obj := ⟨N, none, (.fields #[]), #[]⟩
noncomputable def o45 (P : Params) : Obj := ⟨(Y "tuple"), none, (.seq #[(S "self" 226)] 0), #[]⟩
noncomputable def o46 (P : Params) : Obj := ⟨(Y "tuple"), none, (.seq #[] 0), #[]⟩
noncomputable def o47 (P : Params) : Obj := ⟨N, none, (.func (Fn (st2 2 2) "BaseStemmer.get_current" 0 N N)), #[]⟩
noncomputable def o48 (P : Params) : Obj := ⟨(Y "code"), none, (.fields #[(S "get_current" 223), (S "BaseStemmer.get_current" 224), (S "/claim/cut.py" 225), (I 18 0), (I 1 0), (I 0 0), (I 0 0), (I 3 0), (R 43), (Bo true), (I 181 0), (R 44), N, (R 45), (R 46), (R 47), (I 227 0), (I 18 0), (S "/claim/cut.py" 228)]), #[]⟩
noncomputable def o49 (P : Params) : Obj := ⟨(Y "function"), none, (.func (Fn (st2 2 2) "BaseStemmer.get_current" 3 (S "snowballstemmer.basestemmer" 194) (R 48))), #[]⟩
noncomputable def o50 (P : Params) : Obj := ⟨(Y "tuple"), none, (.seq #[] 0), #[]⟩
noncomputable def o51 (P : Params) : Obj := ⟨N, none, (.fields #[]), #[]⟩
noncomputable def o52 (P : Params) : Obj := ⟨(Y "tuple"), none, (.seq #[(S "self" 233), (S "other" 234)] 0), #[]⟩
noncomputable def o53 (P : Params) : Obj := ⟨(Y "tuple"), none, (.seq #[] 0), #[]⟩
noncomputable def o54 (P : Params) : Obj := ⟨N, none, (.func (Fn (st2 2 3) "BaseStemmer.copy_from" 0 N N)), #[]⟩
noncomputable def o55 (P : Params) : Obj := ⟨(Y "code"), none, (.fields #[(S "copy_from" 230), (S "BaseStemmer.copy_from" 231), (S "/claim/cut.py" 232), (I 21 0), (I 2 0), (I 0 0), (I 0 0), (I 3 0), (R 50), (Bo true), (I 181 0), (R 51), N, (R 52), (R 53), (R 54), (I 235 0), (I 21 0), (S "/claim/cut.py" 236)]), #[]⟩
noncomputable def o56 (P : Params) : Obj := ⟨(Y "function"), none, (.func (Fn (st2 2 3) "BaseStemmer.copy_from" 3 (S "snowballstemmer.basestemmer" 194) (R 55))), #[]⟩
noncomputable def o57 (P : Params) : Obj := ⟨(Y "tuple"), none, (.seq #[] 0), #[]⟩
noncomputable def o58 (P : Params) : Obj := ⟨N, none, (.fields #[]), #[]⟩
noncomputable def o59 (P : Params) : Obj := ⟨(Y "tuple"), none, (.seq #[(S "self" 241), (S "s" 242)] 0), #[]⟩
noncomputable def o60 (P : Params) : Obj := ⟨(Y "tuple"), none, (.seq #[] 0), #[]⟩
noncomputable def o61 (P : Params) : Obj := ⟨N, none, (.func (Fn (st2 2 4) "BaseStemmer.in_grouping" 0 N N)), #[]⟩
noncomputable def o62 (P : Params) : Obj := ⟨(Y "code"), none, (.fields #[(S "in_grouping" 238), (S "BaseStemmer.in_grouping" 239), (S "/claim/cut.py" 240), (I 24 0), (I 2 0), (I 0 0), (I 0 0), (I 3 0), (R 57), (Bo true), (I 181 0), (R 58), N, (R 59), (R 60), (R 61), (I 243 0), (I 24 0), (S "/claim/cut.py" 244)]), #[]⟩
noncomputable def o63 (P : Params) : Obj := ⟨(Y "function"), none, (.func (Fn (st2 2 4) "BaseStemmer.in_grouping" 3 (S "snowballstemmer.basestemmer" 194) (R 62))), #[]⟩
noncomputable def o64 (P : Params) : Obj := ⟨(Y "tuple"), none, (.seq #[] 0), #[]⟩
noncomputable def o65 (P : Params) : Obj := ⟨N, none, (.fields #[]), #[]⟩
noncomputable def o66 (P : Params) : Obj := ⟨(Y "tuple"), none, (.seq #[(S "self" 249), (S "s" 250)] 0), #[]⟩
noncomputable def o67 (P : Params) : Obj := ⟨(Y "tuple"), none, (.seq #[] 0), #[]⟩
noncomputable def o68 (P : Params) : Obj := ⟨N, none, (.func (Fn (st2 2 5) "BaseStemmer.go_in_grouping" 0 N N)), #[]⟩
noncomputable def o69 (P : Params) : Obj := ⟨(Y "code"), none, (.fields #[(S "go_in_grouping" 246), (S "BaseStemmer.go_in_grouping" 247), (S "/claim/cut.py" 248), (I 27 0), (I 2 0), (I 0 0), (I 0 0), (I 3 0), (R 64), (Bo true), (I 181 0), (R 65), N, (R 66), (R 67), (R 68), (I 251 0), (I 27 0), (S "/claim/cut.py" 252)]), #[]⟩
noncomputable def o70 (P : Params) : Obj := ⟨(Y "function"), none, (.func (Fn (st2 2 5) "BaseStemmer.go_in_grouping" 3 (S "snowballstemmer.basestemmer" 194) (R 69))), #[]⟩
noncomputable def o71 (P : Params) : Obj := ⟨(Y "tuple"), none, (.seq #[] 0), #[]⟩
noncomputable def o72 (P : Params) : Obj := ⟨N, none, (.fields #[]), #[]⟩
noncomputable def o73 (P : Params) : Obj := ⟨(Y "tuple"), none, (.seq #[(S "self" 257), (S "s" 258)] 0), #[]⟩
noncomputable def o74 (P : Params) : Obj := ⟨(Y "tuple"), none, (.seq #[] 0), #[]⟩
noncomputable def o75 (P : Params) : Obj := ⟨N, none, (.func (Fn (st2 2 6) "BaseStemmer.in_grouping_b" 0 N N)), #[]⟩
noncomputable def o76 (P : Params) : Obj := ⟨(Y "code"), none, (.fields #[(S "in_grouping_b" 254), (S "BaseStemmer.in_grouping_b" 255), (S "/claim/cut.py" 256), (I 30 0), (I 2 0), (I 0 0), (I 0 0), (I 3 0), (R 71), (Bo true), (I 181 0), (R 72), N, (R 73), (R 74), (R 75), (I 259 0), (I 30 0), (S "/claim/cut.py" 260)]), #[]⟩
noncomputable def o77 (P : Params) : Obj := ⟨(Y "function"), none, (.func (Fn (st2 2 6) "BaseStemmer.in_grouping_b" 3 (S "snowballstemmer.basestemmer" 194) (R 76))), #[]⟩
noncomputable def o24v2 (P : Params) : Obj := ⟨(Y "dict"), none, (.dict #[E P "__module__" 203 (S "snowballstemmer.basestemmer" 194), E P "__qualname__" 205 (S "BaseStemmer" 204), E P "__firstlineno__" 207 (I 5 206), E P "__init__" 214 (R 35), E P "set_current" 222 (R 42), E P "get_current" 229 (R 49), E P "copy_from" 237 (R 56), E P "in_grouping" 245 (R 63), E P "go_in_grouping" 253 (R 70), E P "in_grouping_b" 261 (R 77), E P "go_in_grouping_b" 269 (R 84), E P "out_grouping" 277 (R 91), E P "go_out_grouping" 285 (R 98), E P "out_grouping_b" 293 (R 105), E P "go_out_grouping_b" 301 (R 112), E P "eq_s" 309 (R 119), E P "eq_s_b" 317 (R 126)] 17), #[]⟩
noncomputable def o26v2 (P : Params) : Obj := ⟨N, none, (.fields #[(I 7 0), (I 4 0), (R 34), (I 10 0), (I 4 0), (R 41), (I 18 0), (I 4 0), (R 48), (I 21 0), (I 4 0), (R 55), (I 24 0), (I 4 0), (R 62), (I 27 0), (I 4 0), (R 69), (I 30 0), (I 4 0), (R 76), (I 33 0), (I 4 0), (R 83), (I 36 0), (I 4 0), (R 90), (I 39 0), (I 4 0), (R 97), (I 46 0), (I 4 0), (R 104), (I 49 0), (I 4 0), (R 111), (I 52 0), (I 4 0), (R 118), (I 55 0), (I 4 0), (R 125)]), #[]⟩
noncomputable def o78 (P : Params) : Obj := ⟨(Y "tuple"), none, (.seq #[] 0), #[]⟩
noncomputable def o79 (P : Params) : Obj := ⟨N, none, (.fields #[]), #[]⟩
noncomputable def o80 (P : Params) : Obj := ⟨(Y "tuple"), none, (.seq #[(S "self" 265), (S "s" 266)] 0), #[]⟩
noncomputable def o81 (P : Params) : Obj := ⟨(Y "tuple"), none, (.seq #[] 0), #[]⟩
noncomputable def o82 (P : Params) : Obj := ⟨N, none, (.func (Fn (st2 2 7) "BaseStemmer.go_in_grouping_b" 0 N N)), #[]⟩
noncomputable def o83 (P : Params) : Obj := ⟨(Y "code"), none, (.fields #[(S "go_in_grouping_b" 262), (S "BaseStemmer.go_in_grouping_b" 263), (S "/claim/cut.py" 264), (I 33 0), (I 2 0), (I 0 0), (I 0 0), (I 3 0), (R 78), (Bo true), (I 181 0), (R 79), N, (R 80), (R 81), (R 82), (I 267 0), (I 33 0), (S "/claim/cut.py" 268)]), #[]⟩
noncomputable def o84 (P : Params) : Obj := ⟨(Y "function"), none, (.func (Fn (st2 2 7) "BaseStemmer.go_in_grouping_b" 3 (S "snowballstemmer.basestemmer" 194) (R 83))), #[]⟩
noncomputable def o85 (P : Params) : Obj := ⟨(Y "tuple"), none, (.seq #[] 0), #[]⟩
noncomputable def o86 (P : Params) : Obj := ⟨N, none, (.fields #[]), #[]⟩
noncomputable def o87 (P : Params) : Obj := ⟨(Y "tuple"), none, (.seq #[(S "self" 273), (S "s" 274)] 0), #[]⟩
noncomputable def o88 (P : Params) : Obj := ⟨(Y "tuple"), none, (.seq #[] 0), #[]⟩
noncomputable def o89 (P : Params) : Obj := ⟨N, none, (.func (Fn (st2 2 8) "BaseStemmer.out_grouping" 0 N N)), #[]⟩
noncomputable def o90 (P : Params) : Obj := ⟨(Y "code"), none, (.fields #[(S "out_grouping" 270), (S "BaseStemmer.out_grouping" 271), (S "/claim/cut.py" 272), (I 36 0), (I 2 0), (I 0 0), (I 0 0), (I 3 0), (R 85), (Bo true), (I 181 0), (R 86), N, (R 87), (R 88), (R 89), (I 275 0), (I 36 0), (S "/claim/cut.py" 276)]), #[]⟩
noncomputable def o91 (P : Params) : Obj := ⟨(Y "function"), none, (.func (Fn (st2 2 8) "BaseStemmer.out_grouping" 3 (S "snowballstemmer.basestemmer" 194) (R 90))), #[]⟩
noncomputable def o92 (P : Params) : Obj := ⟨(Y "tuple"), none, (.seq #[] 0), #[]⟩
noncomputable def o93 (P : Params) : Obj := ⟨N, none, (.fields #[]), #[]⟩
noncomputable def o94 (P : Params) : Obj := ⟨(Y "tuple"), none, (.seq #[(S "self" 281), (S "s" 282)] 0), #[]⟩
noncomputable def o95 (P : Params) : Obj := ⟨(Y "tuple"), none, (.seq #[] 0), #[]⟩
noncomputable def o96 (P : Params) : Obj := ⟨N, none, (.func (Fn (st2 2 9) "BaseStemmer.go_out_grouping" 0 N N)), #[]⟩
noncomputable def o97 (P : Params) : Obj := ⟨(Y "code"), none, (.fields #[(S "go_out_grouping" 278), (S "BaseStemmer.go_out_grouping" 279), (S "/claim/cut.py" 280), (I 39 0), (I 2 0), (I 0 0), (I 0 0), (I 3 0), (R 92), (Bo true), (I 181 0), (R 93), N, (R 94), (R 95), (R 96), (I 283 0), (I 39 0), (S "/claim/cut.py" 284)]), #[]⟩
noncomputable def o98 (P : Params) : Obj := ⟨(Y "function"), none, (.func (Fn (st2 2 9) "BaseStemmer.go_out_grouping" 3 (S "snowballstemmer.basestemmer" 194) (R 97))), #[]⟩
noncomputable def o99 (P : Params) : Obj := ⟨(Y "tuple"), none, (.seq #[] 0), #[]⟩
noncomputable def o100 (P : Params) : Obj := ⟨N, none, (.fields #[]), #[]⟩
noncomputable def o101 (P : Params) : Obj := ⟨(Y "tuple"), none, (.seq #[(S "self" 289), (S "s" 290)] 0), #[]⟩
noncomputable def o102 (P : Params) : Obj := ⟨(Y "tuple"), none, (.seq #[] 0), #[]⟩
noncomputable def o103 (P : Params) : Obj := ⟨N, none, (.func (Fn (st2 2 10) "BaseStemmer.out_grouping_b" 0 N N)), #[]⟩
noncomputable def o104 (P : Params) : Obj := ⟨(Y "code"), none, (.fields #[(S "out_grouping_b" 286), (S "BaseStemmer.out_grouping_b" 287), (S "/claim/cut.py" 288), (I 46 0), (I 2 0), (I 0 0), (I 0 0), (I 3 0), (R 99), (Bo true), (I 181 0), (R 100), N, (R 101), (R 102), (R 103), (I 291 0), (I 46 0), (S "/claim/cut.py" 292)]), #[]⟩
noncomputable def o105 (P : Params) : Obj := ⟨(Y "function"), none, (.func (Fn (st2 2 10) "BaseStemmer.out_grouping_b" 3 (S "snowballstemmer.basestemmer" 194) (R 104))), #[]⟩
noncomputable def o106 (P : Params) : Obj := ⟨(Y "tuple"), none, (.seq #[] 0), #[]⟩
noncomputable def o107 (P : Params) : Obj := ⟨N, none, (.fields #[]), #[]⟩
noncomputable def o108 (P : Params) : Obj := ⟨(Y "tuple"), none, (.seq #[(S "self" 297), (S "s" 298)] 0), #[]⟩
noncomputable def o109 (P : Params) : Obj := ⟨(Y "tuple"), none, (.seq #[] 0), #[]⟩
noncomputable def o110 (P : Params) : Obj := ⟨N, none, (.func (Fn (st2 2 11) "BaseStemmer.go_out_grouping_b" 0 N N)), #[]⟩
noncomputable def o111 (P : Params) : Obj := ⟨(Y "code"), none, (.fields #[(S "go_out_grouping_b" 294), (S "BaseStemmer.go_out_grouping_b" 295), (S "/claim/cut.py" 296), (I 49 0), (I 2 0), (I 0 0), (I 0 0), (I 3 0), (R 106), (Bo true), (I 181 0), (R 107), N, (R 108), (R 109), (R 110), (I 299 0), (I 49 0), (S "/claim/cut.py" 300)]), #[]⟩
noncomputable def o112 (P : Params) : Obj := ⟨(Y "function"), none, (.func (Fn (st2 2 11) "BaseStemmer.go_out_grouping_b" 3 (S "snowballstemmer.basestemmer" 194) (R 111))), #[]⟩
noncomputable def o113 (P : Params) : Obj := ⟨(Y "tuple"), none, (.seq #[] 0), #[]⟩
noncomputable def o114 (P : Params) : Obj := ⟨N, none, (.fields #[]), #[]⟩
noncomputable def o115 (P : Params) : Obj := ⟨(Y "tuple"), none, (.seq #[(S "self" 305), (S "s" 306)] 0), #[]⟩
noncomputable def o116 (P : Params) : Obj := ⟨(Y "tuple"), none, (.seq #[] 0), #[]⟩
noncomputable def o117 (P : Params) : Obj := ⟨N, none, (.func (Fn (st2 2 12) "BaseStemmer.eq_s" 0 N N)), #[]⟩
noncomputable def o118 (P : Params) : Obj := ⟨(Y "code"), none, (.fields #[(S "eq_s" 302), (S "BaseStemmer.eq_s" 303), (S "/claim/cut.py" 304), (I 52 0), (I 2 0), (I 0 0), (I 0 0), (I 3 0), (R 113), (Bo true), (I 181 0), (R 114), N, (R 115), (R 116), (R 117), (I 307 0), (I 52 0), (S "/claim/cut.py" 308)]), #[]⟩
noncomputable def o119 (P : Params) : Obj := ⟨(Y "function"), none, (.func (Fn (st2 2 12) "BaseStemmer.eq_s" 3 (S "snowballstemmer.basestemmer" 194) (R 118))), #[]⟩
noncomputable def o120 (P : Params) : Obj := ⟨(Y "tuple"), none, (.seq #[] 0), #[]⟩
noncomputable def o121 (P : Params) : Obj := ⟨N, none, (.fields #[]), #[]⟩
noncomputable def o122 (P : Params) : Obj := ⟨(Y "tuple"), none, (.seq #[(S "self" 313), (S "s" 314)] 0), #[]⟩
noncomputable def o123 (P : Params) : Obj := ⟨(Y "tuple"), none, (.seq #[] 0), #[]⟩
noncomputable def o124 (P : Params) : Obj := ⟨N, none, (.func (Fn (st2 2 13) "BaseStemmer.eq_s_b" 0 N N)), #[]⟩
noncomputable def o125 (P : Params) : Obj := ⟨(Y "code"), none, (.fields #[(S "eq_s_b" 310), (S "BaseStemmer.eq_s_b" 311), (S "/claim/cut.py" 312), (I 55 0), (I 2 0), (I 0 0), (I 0 0), (I 3 0), (R 120), (Bo true), (I 181 0), (R 121), N, (R 122), (R 123), (R 124), (I 315 0), (I 55 0), (S "/claim/cut.py" 316)]), #[]⟩
noncomputable def o126 (P : Params) : Obj := ⟨(Y "function"), none, (.func (Fn (st2 2 13) "BaseStemmer.eq_s_b" 3 (S "snowballstemmer.basestemmer" 194) (R 125))), #[]⟩
noncomputable def o24v3 (P : Params) : Obj := ⟨(Y "dict"), none, (.dict #[E P "__module__" 203 (S "snowballstemmer.basestemmer" 194), E P "__qualname__" 205 (S "BaseStemmer" 204), E P "__firstlineno__" 207 (I 5 206), E P "__init__" 214 (R 35), E P "set_current" 222 (R 42), E P "get_current" 229 (R 49), E P "copy_from" 237 (R 56), E P "in_grouping" 245 (R 63), E P "go_in_grouping" 253 (R 70), E P "in_grouping_b" 261 (R 77), E P "go_in_grouping_b" 269 (R 84), E P "out_grouping" 277 (R 91), E P "go_out_grouping" 285 (R 98), E P "out_grouping_b" 293 (R 105), E P "go_out_grouping_b" 301 (R 112), E P "eq_s" 309 (R 119), E P "eq_s_b" 317 (R 126), E P "find_among" 337 (R 133), E P "find_among_b" 357 (R 140), E P "replace_s" 368 (R 147), E P "slice_from" 376 (R 154), E P "slice_del" 383 (R 161), E P "insert" 393 (R 168)] 23), #[]⟩
noncomputable def o26v3 (P : Params) : Obj := ⟨N, none, (.fields #[(I 7 0), (I 4 0), (R 34), (I 10 0), (I 4 0), (R 41), (I 18 0), (I 4 0), (R 48), (I 21 0), (I 4 0), (R 55), (I 24 0), (I 4 0), (R 62), (I 27 0), (I 4 0), (R 69), (I 30 0), (I 4 0), (R 76), (I 33 0), (I 4 0), (R 83), (I 36 0), (I 4 0), (R 90), (I 39 0), (I 4 0), (R 97), (I 46 0), (I 4 0), (R 104), (I 49 0), (I 4 0), (R 111), (I 52 0), (I 4 0), (R 118), (I 55 0), (I 4 0), (R 125), (I 58 0), (I 4 0), (R 132), (I 103 0), (I 4 0), (R 139), (I 148 0), (I 4 0), (R 146), (I 158 0), (I 4 0), (R 153), (I 166 0), (I 4 0), (R 160), (I 169 0), (I 4 0), (R 167)]), #[]⟩
noncomputable def o127 (P : Params) : Obj := ⟨(Y "tuple"), none, (.seq #[] 0), #[]⟩
noncomputable def o128 (P : Params) : Obj := ⟨N, none, (.fields #[]), #[]⟩
noncomputable def o129 (P : Params) : Obj := ⟨(Y "tuple"), none, (.seq #[(S "self" 321), (S "v" 322), (S "i" 323), (S "j" 324), (S "c" 325), (S "l" 326), (S "common_i" 327), (S "common_j" 328), (S "first_key_inspected" 329), (S "k" 330), (S "diff" 331), (S "common" 332), (S "w" 333), (S "i2" 334)] 0), #[]⟩
noncomputable def o130 (P : Params) : Obj := ⟨(Y "tuple"), none, (.seq #[] 0), #[]⟩
noncomputable def o131 (P : Params) : Obj := ⟨N, none, (.func (Fn (st2 2 14) "BaseStemmer.find_among" 0 N N)), #[]⟩
noncomputable def o132 (P : Params) : Obj := ⟨(Y "code"), none, (.fields #[(S "find_among" 318), (S "BaseStemmer.find_among" 319), (S "/claim/cut.py" 320), (I 58 0), (I 2 0), (I 0 0), (I 0 0), (I 3 0), (R 127), (Bo true), (I 181 0), (R 128), N, (R 129), (R 130), (R 131), (I 335 0), (I 58 0), (S "/claim/cut.py" 336)]), #[]⟩
noncomputable def o133 (P : Params) : Obj := ⟨(Y "function"), none, (.func (Fn (st2 2 14) "BaseStemmer.find_among" 3 (S "snowballstemmer.basestemmer" 194) (R 132))), #[]⟩
noncomputable def o134 (P : Params) : Obj := ⟨(Y "tuple"), none, (.seq #[] 0), #[]⟩
noncomputable def o135 (P : Params) : Obj := ⟨N, none, (.fields #[]), #[]⟩
noncomputable def o136 (P : Params) : Obj := ⟨(Y "tuple"), none, (.seq #[(S "self" 341), (S "v" 342), (S "i" 343), (S "j" 344), (S "c" 345), (S "lb" 346), (S "common_i" 347), (S "common_j" 348), (S "first_key_inspected" 349), (S "k" 350), (S "diff" 351), (S "common" 352), (S "w" 353), (S "i2" 354)] 0), #[]⟩
noncomputable def o137 (P : Params) : Obj := ⟨(Y "tuple"), none, (.seq #[] 0), #[]⟩
noncomputable def o138 (P : Params) : Obj := ⟨N, none, (.func (Fn (st2 2 15) "BaseStemmer.find_among_b" 0 N N)), #[]⟩
noncomputable def o139 (P : Params) : Obj := ⟨(Y "code"), none, (.fields #[(S "find_among_b" 338), (S "BaseStemmer.find_among_b" 339), (S "/claim/cut.py" 340), (I 103 0), (I 2 0), (I 0 0), (I 0 0), (I 3 0), (R 134), (Bo true), (I 181 0), (R 135), N, (R 136), (R 137), (R 138), (I 355 0), (I 103 0), (S "/claim/cut.py" 356)]), #[]⟩
noncomputable def o140 (P : Params) : Obj := ⟨(Y "function"), none, (.func (Fn (st2 2 15) "BaseStemmer.find_among_b" 3 (S "snowballstemmer.basestemmer" 194) (R 139))), #[]⟩
noncomputable def o141 (P : Params) : Obj := ⟨(Y "tuple"), none, (.seq #[] 0), #[]⟩
noncomputable def o142 (P : Params) : Obj := ⟨N, none, (.fields #[]), #[]⟩
noncomputable def o143 (P : Params) : Obj := ⟨(Y "tuple"), none, (.seq #[(S "self" 361), (S "c_bra" 362), (S "c_ket" 363), (S "s" 364), (S "adjustment" 365)] 0), #[]⟩
noncomputable def o144 (P : Params) : Obj := ⟨(Y "tuple"), none, (.seq #[] 0), #[]⟩
noncomputable def o145 (P : Params) : Obj := ⟨N, none, (.func (Fn (st2 2 16) "BaseStemmer.replace_s" 0 N N)), #[]⟩
noncomputable def o146 (P : Params) : Obj := ⟨(Y "code"), none, (.fields #[(S "replace_s" 358), (S "BaseStemmer.replace_s" 359), (S "/claim/cut.py" 360), (I 148 0), (I 4 0), (I 0 0), (I 0 0), (I 3 0), (R 141), (Bo true), (I 181 0), (R 142), N, (R 143), (R 144), (R 145), (I 366 0), (I 148 0), (S "/claim/cut.py" 367)]), #[]⟩
noncomputable def o147 (P : Params) : Obj := ⟨(Y "function"), none, (.func (Fn (st2 2 16) "BaseStemmer.replace_s" 3 (S "snowballstemmer.basestemmer" 194) (R 146))), #[]⟩
noncomputable def o148 (P : Params) : Obj := ⟨(Y "tuple"), none, (.seq #[] 0), #[]⟩
noncomputable def o149 (P : Params) : Obj := ⟨N, none, (.fields #[]), #[]⟩
noncomputable def o150 (P : Params) : Obj := ⟨(Y "tuple"), none, (.seq #[(S "self" 372), (S "s" 373)] 0), #[]⟩
noncomputable def o151 (P : Params) : Obj := ⟨(Y "tuple"), none, (.seq #[] 0), #[]⟩
noncomputable def o152 (P : Params) : Obj := ⟨N, none, (.func (Fn (st2 2 17) "BaseStemmer.slice_from" 0 N N)), #[]⟩
noncomputable def o153 (P : Params) : Obj := ⟨(Y "code"), none, (.fields #[(S "slice_from" 369), (S "BaseStemmer.slice_from" 370), (S "/claim/cut.py" 371), (I 158 0), (I 2 0), (I 0 0), (I 0 0), (I 3 0), (R 148), (Bo true), (I 181 0), (R 149), N, (R 150), (R 151), (R 152), (I 374 0), (I 158 0), (S "/claim/cut.py" 375)]), #[]⟩
noncomputable def o154 (P : Params) : Obj := ⟨(Y "function"), none, (.func (Fn (st2 2 17) "BaseStemmer.slice_from" 3 (S "snowballstemmer.basestemmer" 194) (R 153))), #[]⟩
noncomputable def o155 (P : Params) : Obj := ⟨(Y "tuple"), none, (.seq #[] 0), #[]⟩
noncomputable def o156 (P : Params) : Obj := ⟨N, none, (.fields #[]), #[]⟩
noncomputable def o157 (P : Params) : Obj := ⟨(Y "tuple"), none, (.seq #[(S "self" 380)] 0), #[]⟩
noncomputable def o158 (P : Params) : Obj := ⟨(Y "tuple"), none, (.seq #[] 0), #[]⟩
noncomputable def o159 (P : Params) : Obj := ⟨N, none, (.func (Fn (st2 2 18) "BaseStemmer.slice_del" 0 N N)), #[]⟩
noncomputable def o160 (P : Params) : Obj := ⟨(Y "code"), none, (.fields #[(S "slice_del" 377), (S "BaseStemmer.slice_del" 378), (S "/claim/cut.py" 379), (I 166 0), (I 1 0), (I 0 0), (I 0 0), (I 3 0), (R 155), (Bo true), (I 181 0), (R 156), N, (R 157), (R 158), (R 159), (I 381 0), (I 166 0), (S "/claim/cut.py" 382)]), #[]⟩
noncomputable def o161 (P : Params) : Obj := ⟨(Y "function"), none, (.func (Fn (st2 2 18) "BaseStemmer.slice_del" 3 (S "snowballstemmer.basestemmer" 194) (R 160))), #[]⟩
noncomputable def o162 (P : Params) : Obj := ⟨(Y "tuple"), none, (.seq #[] 0), #[]⟩
noncomputable def o163 (P : Params) : Obj := ⟨N, none, (.fields #[]), #[]⟩
noncomputable def o164 (P : Params) : Obj := ⟨(Y "tuple"), none, (.seq #[(S "self" 387), (S "c_bra" 388), (S "c_ket" 389), (S "s" 390)] 0), #[]⟩
noncomputable def o165 (P : Params) : Obj := ⟨(Y "tuple"), none, (.seq #[] 0), #[]⟩
noncomputable def o166 (P : Params) : Obj := ⟨N, none, (.func (Fn (st2 2 19) "BaseStemmer.insert" 0 N N)), #[]⟩
noncomputable def o167 (P : Params) : Obj := ⟨(Y "code"), none, (.fields #[(S "insert" 384), (S "BaseStemmer.insert" 385), (S "/claim/cut.py" 386), (I 169 0), (I 4 0), (I 0 0), (I 0 0), (I 3 0), (R 162), (Bo true), (I 181 0), (R 163), N, (R 164), (R 165), (R 166), (I 391 0), (I 169 0), (S "/claim/cut.py" 392)]), #[]⟩
noncomputable def o168 (P : Params) : Obj := ⟨(Y "function"), none, (.func (Fn (st2 2 19) "BaseStemmer.insert" 3 (S "snowballstemmer.basestemmer" 194) (R 167))), #[]⟩
noncomputable def o24v4 (P : Params) : Obj := ⟨(Y "dict"), none, (.dict #[E P "__module__" 203 (S "snowballstemmer.basestemmer" 194), E P "__qualname__" 205 (S "BaseStemmer" 204), E P "__firstlineno__" 207 (I 5 206), E P "__init__" 214 (R 35), E P "set_current" 222 (R 42), E P "get_current" 229 (R 49), E P "copy_from" 237 (R 56), E P "in_grouping" 245 (R 63), E P "go_in_grouping" 253 (R 70), E P "in_grouping_b" 261 (R 77), E P "go_in_grouping_b" 269 (R 84), E P "out_grouping" 277 (R 91), E P "go_out_grouping" 285 (R 98), E P "out_grouping_b" 293 (R 105), E P "go_out_grouping_b" 301 (R 112), E P "eq_s" 309 (R 119), E P "eq_s_b" 317 (R 126), E P "find_among" 337 (R 133), E P "find_among_b" 357 (R 140), E P "replace_s" 368 (R 147), E P "slice_from" 376 (R 154), E P "slice_del" 383 (R 161), E P "insert" 393 (R 168), E P "slice_to" 400 (R 175), E P "assign_to" 407 (R 182), E P "stemWord" 415 (R 189), E P "stemWords" 421 (R 194)] 27), #[]⟩
noncomputable def o26v4 (P : Params) : Obj := ⟨N, none, (.fields #[(I 7 0), (I 4 0), (R 34), (I 10 0), (I 4 0), (R 41), (I 18 0), (I 4 0), (R 48), (I 21 0), (I 4 0), (R 55), (I 24 0), (I 4 0), (R 62), (I 27 0), (I 4 0), (R 69), (I 30 0), (I 4 0), (R 76), (I 33 0), (I 4 0), (R 83), (I 36 0), (I 4 0), (R 90), (I 39 0), (I 4 0), (R 97), (I 46 0), (I 4 0), (R 104), (I 49 0), (I 4 0), (R 111), (I 52 0), (I 4 0), (R 118), (I 55 0), (I 4 0), (R 125), (I 58 0), (I 4 0), (R 132), (I 103 0), (I 4 0), (R 139), (I 148 0), (I 4 0), (R 146), (I 158 0), (I 4 0), (R 153), (I 166 0), (I 4 0), (R 160), (I 169 0), (I 4 0), (R 167), (I 172 0), (I 4 0), (R 174), (I 175 0), (I 4 0), (R 181), (I 178 0), (I 4 0), (R 188), (I 183 0), (I 4 0), (R 193)]), #[]⟩
noncomputable def o169 (P : Params) : Obj := ⟨(Y "tuple"), none, (.seq #[] 0), #[]⟩
noncomputable def o170 (P : Params) : Obj := ⟨N, none, (.fields #[]), #[]⟩
noncomputable def o171 (P : Params) : Obj := ⟨(Y "tuple"), none, (.seq #[(S "self" 397)] 0), #[]⟩
noncomputable def o172 (P : Params) : Obj := ⟨(Y "tuple"), none, (.seq #[] 0), #[]⟩
noncomputable def o173 (P : Params) : Obj := ⟨N, none, (.func (Fn (st2 2 20) "BaseStemmer.slice_to" 0 N N)), #[]⟩
noncomputable def o174 (P : Params) : Obj := ⟨(Y "code"), none, (.fields #[(S "slice_to" 394), (S "BaseStemmer.slice_to" 395), (S "/claim/cut.py" 396), (I 172 0), (I 1 0), (I 0 0), (I 0 0), (I 3 0), (R 169), (Bo true), (I 181 0), (R 170), N, (R 171), (R 172), (R 173), (I 398 0), (I 172 0), (S "/claim/cut.py" 399)]), #[]⟩
noncomputable def o175 (P : Params) : Obj := ⟨(Y "function"), none, (.func (Fn (st2 2 20) "BaseStemmer.slice_to" 3 (S "snowballstemmer.basestemmer" 194) (R 174))), #[]⟩
noncomputable def o176 (P : Params) : Obj := ⟨(Y "tuple"), none, (.seq #[] 0), #[]⟩
noncomputable def o177 (P : Params) : Obj := ⟨N, none, (.fields #[]), #[]⟩
noncomputable def o178 (P : Params) : Obj := ⟨(Y "tuple"), none, (.seq #[(S "self" 404)] 0), #[]⟩
noncomputable def o179 (P : Params) : Obj := ⟨(Y "tuple"), none, (.seq #[] 0), #[]⟩
noncomputable def o180 (P : Params) : Obj := ⟨N, none, (.func (Fn (st2 2 21) "BaseStemmer.assign_to" 0 N N)), #[]⟩
noncomputable def o181 (P : Params) : Obj := ⟨(Y "code"), none, (.fields #[(S "assign_to" 401), (S "BaseStemmer.assign_to" 402), (S "/claim/cut.py" 403), (I 175 0), (I 1 0), (I 0 0), (I 0 0), (I 3 0), (R 176), (Bo true), (I 181 0), (R 177), N, (R 178), (R 179), (R 180), (I 405 0), (I 175 0), (S "/claim/cut.py" 406)]), #[]⟩
noncomputable def o182 (P : Params) : Obj := ⟨(Y "function"), none, (.func (Fn (st2 2 21) "BaseStemmer.assign_to" 3 (S "snowballstemmer.basestemmer" 194) (R 181))), #[]⟩
noncomputable def o183 (P : Params) : Obj := ⟨(Y "tuple"), none, (.seq #[] 0), #[]⟩
noncomputable def o184 (P : Params) : Obj := ⟨N, none, (.fields #[]), #[]⟩
noncomputable def o185 (P : Params) : Obj := ⟨(Y "tuple"), none, (.seq #[(S "self" 411), (S "word" 412)] 0), #[]⟩
noncomputable def o186 (P : Params) : Obj := ⟨(Y "tuple"), none, (.seq #[] 0), #[]⟩
noncomputable def o187 (P : Params) : Obj := ⟨N, none, (.func (Fn (st2 2 22) "BaseStemmer.stemWord" 0 N N)), #[]⟩
noncomputable def o188 (P : Params) : Obj := ⟨(Y "code"), none, (.fields #[(S "stemWord" 408), (S "BaseStemmer.stemWord" 409), (S "/claim/cut.py" 410), (I 178 0), (I 2 0), (I 0 0), (I 0 0), (I 3 0), (R 183), (Bo true), (I 181 0), (R 184), N, (R 185), (R 186), (R 187), (I 413 0), (I 178 0), (S "/claim/cut.py" 414)]), #[]⟩
noncomputable def o189 (P : Params) : Obj := ⟨(Y "function"), none, (.func (Fn (st2 2 22) "BaseStemmer.stemWord" 3 (S "snowballstemmer.basestemmer" 194) (R 188))), #[]⟩
noncomputable def o190 (P : Params) : Obj := ⟨(Y "tuple"), none, (.seq #[] 0), #[]⟩
noncomputable def o191 (P : Params) : Obj := ⟨N, none, (.fields #[]), #[]⟩
noncomputable def o192 (P : Params) : Obj := ⟨N, none, (.func (Fn (st2 2 23) "BaseStemmer.stemWords" 0 N N)), #[]⟩
noncomputable def o193 (P : Params) : Obj := ⟨(Y "code"), none, (.fields #[(S "stemWords" 416), (S "BaseStemmer.stemWords" 417), (S "/claim/cut.py" 418), (I 183 0), (I 2 0), (I 0 0), (I 0 0), (I 3 0), (R 190), (Bo true), (I 181 0), (R 191), N, N, N, (R 192), (I 419 0), (I 183 0), (S "/claim/cut.py" 420)]), #[]⟩
noncomputable def o194 (P : Params) : Obj := ⟨(Y "function"), none, (.func (Fn (st2 2 23) "BaseStemmer.stemWords" 3 (S "snowballstemmer.basestemmer" 194) (R 193))), #[]⟩
noncomputable def o3v3 (P : Params) : Obj := ⟨(Y "dict"), none, (.dict #[E P "__name__" 165 (S "snowballstemmer.basestemmer" 194), E P "__doc__" 166 N, E P "__package__" 167 N, E P "__loader__" 168 (B "__main__.__loader__#opaque"), E P "__spec__" 169 N, E P "__annotations__" 170 (R 6), E P "__builtins__" 171 (R 4), E P "__file__" 173 (S "/claim/cut.py" 172), E P "__cached__" 174 N, E P "_wall" 193 (R 21), E P "BaseStemmer" 435 (R 197)] 11), #[]⟩
noncomputable def o24v5 (P : Params) : Obj := ⟨(Y "dict"), none, (.dict #[E P "__module__" 203 (S "snowballstemmer.basestemmer" 194), E P "__qualname__" 205 (S "BaseStemmer" 204), E P "__firstlineno__" 207 (I 5 206), E P "__init__" 214 (R 35), E P "set_current" 222 (R 42), E P "get_current" 229 (R 49), E P "copy_from" 237 (R 56), E P "in_grouping" 245 (R 63), E P "go_in_grouping" 253 (R 70), E P "in_grouping_b" 261 (R 77), E P "go_in_grouping_b" 269 (R 84), E P "out_grouping" 277 (R 91), E P "go_out_grouping" 285 (R 98), E P "out_grouping_b" 293 (R 105), E P "go_out_grouping_b" 301 (R 112), E P "eq_s" 309 (R 119), E P "eq_s_b" 317 (R 126), E P "find_among" 337 (R 133), E P "find_among_b" 357 (R 140), E P "replace_s" 368 (R 147), E P "slice_from" 376 (R 154), E P "slice_del" 383 (R 161), E P "insert" 393 (R 168), E P "slice_to" 400 (R 175), E P "assign_to" 407 (R 182), E P "stemWord" 415 (R 189), E P "stemWords" 421 (R 194), E P "__static_attributes__" 428 (R 195)] 28), #[]⟩
noncomputable def o195 (P : Params) : Obj := ⟨(Y "tuple"), none, (.seq #[(S "bra" 422), (S "current" 423), (S "cursor" 424), (S "ket" 425), (S "limit" 426), (S "limit_backward" 427)] 0), #[]⟩
noncomputable def o196 (P : Params) : Obj := ⟨(Y "dict"), none, (.dict #[E P "__module__" 203 (S "snowballstemmer.basestemmer" 194), E P "__firstlineno__" 207 (I 5 206), E P "__init__" 214 (R 35), E P "set_current" 222 (R 42), E P "get_current" 229 (R 49), E P "copy_from" 237 (R 56), E P "in_grouping" 245 (R 63), E P "go_in_grouping" 253 (R 70), E P "in_grouping_b" 261 (R 77), E P "go_in_grouping_b" 269 (R 84), E P "out_grouping" 277 (R 91), E P "go_out_grouping" 285 (R 98), E P "out_grouping_b" 293 (R 105), E P "go_out_grouping_b" 301 (R 112), E P "eq_s" 309 (R 119), E P "eq_s_b" 317 (R 126), E P "find_among" 337 (R 133), E P "find_among_b" 357 (R 140), E P "replace_s" 368 (R 147), E P "slice_from" 376 (R 154), E P "slice_del" 383 (R 161), E P "insert" 393 (R 168), E P "slice_to" 400 (R 175), E P "assign_to" 407 (R 182), E P "stemWord" 415 (R 189), E P "stemWords" 421 (R 194), E P "__static_attributes__" 428 (R 195), E P "__dict__" 430 (R 198), E P "__weakref__" 432 (R 199), E P "__doc__" 433 N] 4), #[]⟩
noncomputable def o197 (P : Params) : Obj := ⟨(Y "type"), none, (.cls { name := "BaseStemmer", bases := [(Y "object")], mro := [(R 197), (Y "object")], ns := 196, qualname := "BaseStemmer", subclasses := [] }), #[none, none, (some (S "BaseStemmer" 196)), (some (S "BaseStemmer" 204)), (some (B "object.__new__")), (some (Bo true))]⟩
noncomputable def o198 (P : Params) : Obj := ⟨(Y "getset_descriptor"), none, (.fields #[(S "__dict__" 429), (R 197), (B "function.__dict__"), (B "function.__dict__#set")]), #[]⟩
noncomputable def o199 (P : Params) : Obj := ⟨(Y "getset_descriptor"), none, (.fields #[(S "__weakref__" 431), (R 197), (B "ExceptionGroup.__weakref__"), N]), #[]⟩
noncomputable def o200 (P : Params) : Obj := ⟨(Y "super"), none, (.fields #[(R 197), (R 197), (R 197)]), #[]⟩
noncomputable def o201 (P : Params) : Obj := ⟨(Y "builtin_function_or_method"), none, (.fields #[(B "object.__init_subclass__"), (R 197)]), #[]⟩
noncomputable def o3v4 (P : Params) : Obj := ⟨(Y "dict"), none, (.dict #[E P "__name__" 165 (S "snowballstemmer.among" 436), E P "__doc__" 166 N, E P "__package__" 167 N, E P "__loader__" 168 (B "__main__.__loader__#opaque"), E P "__spec__" 169 N, E P "__annotations__" 170 (R 6), E P "__builtins__" 171 (R 4), E P "__file__" 173 (S "/claim/cut.py" 172), E P "__cached__" 174 N, E P "_wall" 193 (R 21), E P "BaseStemmer" 435 (R 197)] 11), #[]⟩
noncomputable def o3v5 (P : Params) : Obj := ⟨(Y "dict"), none, (.dict #[E P "__name__" 165 (S "snowballstemmer.among" 436), E P "__doc__" 166 N, E P "__package__" 167 N, E P "__loader__" 168 (B "__main__.__loader__#opaque"), E P "__spec__" 169 N, E P "__annotations__" 170 (R 6), E P "__builtins__" 171 (R 4), E P "__file__" 173 (S "/claim/cut.py" 172), E P "__cached__" 174 N, E P "_wall" 193 (R 21), E P "BaseStemmer" 435 (R 197), E P "Among" 470 (R 218)] 12), #[]⟩
noncomputable def o12v3 (P : Params) : Obj := ⟨N, none, (.fields #[(I 1 0), (I 0 0), (R 20), (I 5 0), (I 0 0), (R 27), (I 186 0), (I 0 0), (R 207)]), #[]⟩
noncomputable def o202 (P : Params) : Obj := ⟨(Y "tuple"), none, (.seq #[] 0), #[]⟩
noncomputable def o203 (P : Params) : Obj := ⟨(Y "builtin_function_or_method"), none, (.fields #[(B "type.__prepare__"), (Y "type")]), #[]⟩
noncomputable def o204 (P : Params) : Obj := ⟨(Y "dict"), none, (.dict #[E P "__module__" 445 (S "snowballstemmer.among" 436), E P "__qualname__" 447 (S "Among" 446), E P "__firstlineno__" 449 (I 186 448), E P "__init__" 459 (R 215), E P "__static_attributes__" 463 (R 216)] 5), #[]⟩
noncomputable def o205 (P : Params) : Obj := ⟨(Y "tuple"), none, (.seq #[] 0), #[]⟩
noncomputable def o206 (P : Params) : Obj := ⟨N, none, (.fields #[(I 188 0), (I 4 0), (R 214)]), #[]⟩
noncomputable def o207 (P : Params) : Obj := ⟨(Y "code"), none, (.fields #[(S "Among" 440), (S "Among" 441), (S "/claim/cut.py" 442), (I 186 0), (I 0 0), (I 0 0), (I 0 0), (I 0 0), (R 205), (Bo false), (I 181 0), (R 206), N, N, N, N, (I 443 0), (I 186 0), (S "/claim/cut.py" 444)]), #[]⟩
noncomputable def o208 (P : Params) : Obj := ⟨(Y "frame"), none, .plain, #[(some (R 207)), (some (R 3)), (some (R 204)), none, (some (S "snowballstemmer.among" 436)), none, (some (R 0))]⟩
noncomputable def o209 (P : Params) : Obj := ⟨(Y "tuple"), none, (.seq #[] 0), #[]⟩
noncomputable def o210 (P : Params) : Obj := ⟨N, none, (.fields #[]), #[]⟩
noncomputable def o211 (P : Params) : Obj := ⟨(Y "tuple"), none, (.seq #[(S "self" 453), (S "s" 454), (S "substring_i" 455), (S "result" 456)] 0), #[]⟩
noncomputable def o212 (P : Params) : Obj := ⟨(Y "tuple"), none, (.seq #[] 0), #[]⟩
noncomputable def o213 (P : Params) : Obj := ⟨N, none, (.func (Fn (st2 4 0) "Among.__init__" 0 N N)), #[]⟩
noncomputable def o214 (P : Params) : Obj := ⟨(Y "code"), none, (.fields #[(S "__init__" 450), (S "Among.__init__" 451), (S "/claim/cut.py" 452), (I 188 0), (I 4 0), (I 0 0), (I 0 0), (I 3 0), (R 209), (Bo true), (I 181 0), (R 210), N, (R 211), (R 212), (R 213), (I 457 0), (I 188 0), (S "/claim/cut.py" 458)]), #[]⟩
noncomputable def o215 (P : Params) : Obj := ⟨(Y "function"), none, (.func (Fn (st2 4 0) "Among.__init__" 3 (S "snowballstemmer.among" 436) (R 214))), #[]⟩
noncomputable def o216 (P : Params) : Obj := ⟨(Y "tuple"), none, (.seq #[(S "result" 460), (S "s" 461), (S "substring_i" 462)] 0), #[]⟩
noncomputable def o217 (P : Params) : Obj := ⟨(Y "dict"), none, (.dict #[E P "__module__" 445 (S "snowballstemmer.among" 436), E P "__firstlineno__" 449 (I 186 448), E P "__init__" 459 (R 215), E P "__static_attributes__" 463 (R 216), E P "__dict__" 465 (R 219), E P "__weakref__" 467 (R 220), E P "__doc__" 468 N] 4), #[]⟩
noncomputable def o218 (P : Params) : Obj := ⟨(Y "type"), none, (.cls { name := "Among", bases := [(Y "object")], mro := [(R 218), (Y "object")], ns := 217, qualname := "Among", subclasses := [] }), #[none, none, (some (S "Among" 438)), (some (S "Among" 446)), (some (B "object.__new__")), (some (Bo true))]⟩
noncomputable def o219 (P : Params) : Obj := ⟨(Y "getset_descriptor"), none, (.fields #[(S "__dict__" 464), (R 218), (B "function.__dict__"), (B "function.__dict__#set")]), #[]⟩
noncomputable def o220 (P : Params) : Obj := ⟨(Y "getset_descriptor"), none, (.fields #[(S "__weakref__" 466), (R 218), (B "ExceptionGroup.__weakref__"), N]), #[]⟩
noncomputable def o221 (P : Params) : Obj := ⟨(Y "super"), none, (.fields #[(R 218), (R 218), (R 218)]), #[]⟩
noncomputable def o222 (P : Params) : Obj := ⟨(Y "builtin_function_or_method"), none, (.fields #[(B "object.__init_subclass__"), (R 218)]), #[]⟩
noncomputable def o3v6 (P : Params) : Obj := ⟨(Y "dict"), none, (.dict #[E P "__name__" 165 (S "snowballstemmer.sesotho_stemmer" 471), E P "__doc__" 166 N, E P "__package__" 167 N, E P "__loader__" 168 (B "__main__.__loader__#opaque"), E P "__spec__" 169 N, E P "__annotations__" 170 (R 6), E P "__builtins__" 171 (R 4), E P "__file__" 173 (S "/claim/cut.py" 172), E P "__cached__" 174 N, E P "_wall" 193 (R 21), E P "BaseStemmer" 435 (R 197), E P "Among" 470 (R 218)] 12), #[]⟩
noncomputable def o12v4 (P : Params) : Obj := ⟨N, none, (.fields #[(I 1 0), (I 0 0), (R 20), (I 5 0), (I 0 0), (R 27), (I 186 0), (I 0 0), (R 207), (I 193 0), (I 0 0), (R 228)]), #[]⟩
noncomputable def o223 (P : Params) : Obj := ⟨(Y "tuple"), none, (.seq #[(R 197)] 0), #[]⟩
noncomputable def o224 (P : Params) : Obj := ⟨(Y "builtin_function_or_method"), none, (.fields #[(B "type.__prepare__"), (Y "type")]), #[]⟩
noncomputable def o225 (P : Params) : Obj := ⟨(Y "dict"), none, (.dict #[E P "__module__" 480 (S "snowballstemmer.sesotho_stemmer" 471), E P "__qualname__" 482 (S "SesothoStemmer" 481), E P "__firstlineno__" 484 (I 193 483)] 3), #[]⟩
noncomputable def o226 (P : Params) : Obj := ⟨(Y "tuple"), none, (.seq #[] 0), #[]⟩
noncomputable def o227 (P : Params) : Obj := ⟨N, none, (.fields #[]), #[]⟩
noncomputable def o228 (P : Params) : Obj := ⟨(Y "code"), none, (.fields #[(S "SesothoStemmer" 475), (S "SesothoStemmer" 476), (S "/claim/cut.py" 477), (I 193 0), (I 0 0), (I 0 0), (I 0 0), (I 0 0), (R 226), (Bo false), (I 181 0), (R 227), N, N, N, N, (I 478 0), (I 193 0), (S "/claim/cut.py" 479)]), #[]⟩
noncomputable def o229 (P : Params) : Obj := ⟨(Y "frame"), none, .plain, #[(some (R 228)), (some (R 3)), (some (R 225)), none, (some (S "snowballstemmer.sesotho_stemmer" 471)), none, (some (R 0))]⟩
noncomputable def o225v1 (P : Params) : Obj := ⟨(Y "dict"), none, (.dict #[E P "__module__" 480 (S "snowballstemmer.sesotho_stemmer" 471), E P "__qualname__" 482 (S "SesothoStemmer" 481), E P "__firstlineno__" 484 (I 193 483), E P "g_v" 495 (R 230)] 4), #[]⟩
noncomputable def o225v2 (P : Params) : Obj := ⟨(Y "dict"), none, (.dict #[E P "__module__" 480 (S "snowballstemmer.sesotho_stemmer" 471), E P "__qualname__" 482 (S "SesothoStemmer" 481), E P "__firstlineno__" 484 (I 193 483), E P "g_v" 495 (R 230), E P "I_pV" 497 (I 0 496), E P "r_mark_regions" 506 (R 237), E P "r_remove_noun_prefixes" 514 (R 244), E P "r_remove_verb_suffixes" 522 (R 251), E P "r_remove_nominal_suffixes" 530 (R 258), E P "_stem" 540 (R 265)] 10), #[]⟩
noncomputable def o227v1 (P : Params) : Obj := ⟨N, none, (.fields #[(I 197 0), (I 4 0), (R 236), (I 217 0), (I 4 0), (R 243), (I 235 0), (I 4 0), (R 250), (I 249 0), (I 4 0), (R 257), (I 263 0), (I 4 0), (R 264)]), #[]⟩
noncomputable def o231 (P : Params) : Obj := ⟨(Y "tuple"), none, (.seq #[] 0), #[]⟩
noncomputable def o232 (P : Params) : Obj := ⟨N, none, (.fields #[]), #[]⟩
noncomputable def o233 (P : Params) : Obj := ⟨(Y "tuple"), none, (.seq #[(S "self" 501), (S "v_1" 502), (S "v_2" 503)] 0), #[]⟩
noncomputable def o234 (P : Params) : Obj := ⟨(Y "tuple"), none, (.seq #[] 0), #[]⟩
noncomputable def o235 (P : Params) : Obj := ⟨N, none, (.func (Fn (st2 6 2) "SesothoStemmer.r_mark_regions" 0 N N)), #[]⟩
noncomputable def o236 (P : Params) : Obj := ⟨(Y "code"), none, (.fields #[(S "r_mark_regions" 498), (S "SesothoStemmer.r_mark_regions" 499), (S "/claim/cut.py" 500), (I 197 0), (I 1 0), (I 0 0), (I 0 0), (I 3 0), (R 231), (Bo true), (I 181 0), (R 232), N, (R 233), (R 234), (R 235), (I 504 0), (I 197 0), (S "/claim/cut.py" 505)]), #[]⟩
noncomputable def o237 (P : Params) : Obj := ⟨(Y "function"), none, (.func (Fn (st2 6 2) "SesothoStemmer.r_mark_regions" 3 (S "snowballstemmer.sesotho_stemmer" 471) (R 236))), #[]⟩
noncomputable def o238 (P : Params) : Obj := ⟨(Y "tuple"), none, (.seq #[] 0), #[]⟩
noncomputable def o239 (P : Params) : Obj := ⟨N, none, (.fields #[]), #[]⟩
noncomputable def o240 (P : Params) : Obj := ⟨(Y "tuple"), none, (.seq #[(S "self" 510), (S "v_1" 511)] 0), #[]⟩
noncomputable def o241 (P : Params) : Obj := ⟨(Y "tuple"), none, (.seq #[] 0), #[]⟩
noncomputable def o242 (P : Params) : Obj := ⟨N, none, (.func (Fn (st2 6 3) "SesothoStemmer.r_remove_noun_prefixes" 0 N N)), #[]⟩
noncomputable def o243 (P : Params) : Obj := ⟨(Y "code"), none, (.fields #[(S "r_remove_noun_prefixes" 507), (S "SesothoStemmer.r_remove_noun_prefixes" 508), (S "/claim/cut.py" 509), (I 217 0), (I 1 0), (I 0 0), (I 0 0), (I 3 0), (R 238), (Bo true), (I 181 0), (R 239), N, (R 240), (R 241), (R 242), (I 512 0), (I 217 0), (S "/claim/cut.py" 513)]), #[]⟩
noncomputable def o244 (P : Params) : Obj := ⟨(Y "function"), none, (.func (Fn (st2 6 3) "SesothoStemmer.r_remove_noun_prefixes" 3 (S "snowballstemmer.sesotho_stemmer" 471) (R 243))), #[]⟩
noncomputable def o245 (P : Params) : Obj := ⟨(Y "tuple"), none, (.seq #[] 0), #[]⟩
noncomputable def o246 (P : Params) : Obj := ⟨N, none, (.fields #[]), #[]⟩
noncomputable def o247 (P : Params) : Obj := ⟨(Y "tuple"), none, (.seq #[(S "self" 518), (S "v_2" 519)] 0), #[]⟩
noncomputable def o248 (P : Params) : Obj := ⟨(Y "tuple"), none, (.seq #[] 0), #[]⟩
noncomputable def o249 (P : Params) : Obj := ⟨N, none, (.func (Fn (st2 6 4) "SesothoStemmer.r_remove_verb_suffixes" 0 N N)), #[]⟩
noncomputable def o250 (P : Params) : Obj := ⟨(Y "code"), none, (.fields #[(S "r_remove_verb_suffixes" 515), (S "SesothoStemmer.r_remove_verb_suffixes" 516), (S "/claim/cut.py" 517), (I 235 0), (I 1 0), (I 0 0), (I 0 0), (I 3 0), (R 245), (Bo true), (I 181 0), (R 246), N, (R 247), (R 248), (R 249), (I 520 0), (I 235 0), (S "/claim/cut.py" 521)]), #[]⟩
noncomputable def o251 (P : Params) : Obj := ⟨(Y "function"), none, (.func (Fn (st2 6 4) "SesothoStemmer.r_remove_verb_suffixes" 3 (S "snowballstemmer.sesotho_stemmer" 471) (R 250))), #[]⟩
noncomputable def o252 (P : Params) : Obj := ⟨(Y "tuple"), none, (.seq #[] 0), #[]⟩
noncomputable def o253 (P : Params) : Obj := ⟨N, none, (.fields #[]), #[]⟩
noncomputable def o254 (P : Params) : Obj := ⟨(Y "tuple"), none, (.seq #[(S "self" 526), (S "v_2" 527)] 0), #[]⟩
noncomputable def o255 (P : Params) : Obj := ⟨(Y "tuple"), none, (.seq #[] 0), #[]⟩
noncomputable def o256 (P : Params) : Obj := ⟨N, none, (.func (Fn (st2 6 5) "SesothoStemmer.r_remove_nominal_suffixes" 0 N N)), #[]⟩
noncomputable def o257 (P : Params) : Obj := ⟨(Y "code"), none, (.fields #[(S "r_remove_nominal_suffixes" 523), (S "SesothoStemmer.r_remove_nominal_suffixes" 524), (S "/claim/cut.py" 525), (I 249 0), (I 1 0), (I 0 0), (I 0 0), (I 3 0), (R 252), (Bo true), (I 181 0), (R 253), N, (R 254), (R 255), (R 256), (I 528 0), (I 249 0), (S "/claim/cut.py" 529)]), #[]⟩
noncomputable def o258 (P : Params) : Obj := ⟨(Y "function"), none, (.func (Fn (st2 6 5) "SesothoStemmer.r_remove_nominal_suffixes" 3 (S "snowballstemmer.sesotho_stemmer" 471) (R 257))), #[]⟩
noncomputable def o259 (P : Params) : Obj := ⟨(Y "tuple"), none, (.seq #[] 0), #[]⟩
noncomputable def o260 (P : Params) : Obj := ⟨N, none, (.fields #[]), #[]⟩
noncomputable def o261 (P : Params) : Obj := ⟨(Y "tuple"), none, (.seq #[(S "self" 534), (S "v_1" 535), (S "v_2" 536), (S "v_3" 537)] 0), #[]⟩
noncomputable def o262 (P : Params) : Obj := ⟨(Y "tuple"), none, (.seq #[] 0), #[]⟩
noncomputable def o263 (P : Params) : Obj := ⟨N, none, (.func (Fn (st2 6 6) "SesothoStemmer._stem" 0 N N)), #[]⟩
noncomputable def o264 (P : Params) : Obj := ⟨(Y "code"), none, (.fields #[(S "_stem" 531), (S "SesothoStemmer._stem" 532), (S "/claim/cut.py" 533), (I 263 0), (I 1 0), (I 0 0), (I 0 0), (I 3 0), (R 259), (Bo true), (I 181 0), (R 260), N, (R 261), (R 262), (R 263), (I 538 0), (I 263 0), (S "/claim/cut.py" 539)]), #[]⟩
noncomputable def o265 (P : Params) : Obj := ⟨(Y "function"), none, (.func (Fn (st2 6 6) "SesothoStemmer._stem" 3 (S "snowballstemmer.sesotho_stemmer" 471) (R 264))), #[]⟩
noncomputable def o225v3 (P : Params) : Obj := ⟨(Y "dict"), none, (.dict #[E P "__module__" 480 (S "snowballstemmer.sesotho_stemmer" 471), E P "__qualname__" 482 (S "SesothoStemmer" 481), E P "__firstlineno__" 484 (I 193 483), E P "g_v" 495 (R 230), E P "I_pV" 497 (I 0 496), E P "r_mark_regions" 506 (R 237), E P "r_remove_noun_prefixes" 514 (R 244), E P "r_remove_verb_suffixes" 522 (R 251), E P "r_remove_nominal_suffixes" 530 (R 258), E P "_stem" 540 (R 265), E P "a_0" 661 (R 290)] 11), #[]⟩
noncomputable def o266 (P : Params) : Obj := ⟨(Y "dict"), none, (.dict #[E P "s" 551 (S "ba" 541), E P "substring_i" 553 (I (-1) 543), E P "result" 555 (I (-1) 545)] 3), #[]⟩
noncomputable def o267 (P : Params) : Obj := ⟨(R 218), (some 266), .plain, #[]⟩
noncomputable def o268 (P : Params) : Obj := ⟨(Y "frame"), none, (.dict #[E P "self" 546 (R 267), E P "s" 547 (S "ba" 541), E P "substring_i" 548 (I (-1) 543), E P "result" 549 (I (-1) 545)] 4), #[]⟩
noncomputable def o269 (P : Params) : Obj := ⟨(Y "dict"), none, (.dict #[E P "s" 566 (S "boi" 556), E P "substring_i" 568 (I (-1) 558), E P "result" 570 (I (-1) 560)] 3), #[]⟩
noncomputable def o270 (P : Params) : Obj := ⟨(R 218), (some 269), .plain, #[]⟩
noncomputable def o271 (P : Params) : Obj := ⟨(Y "frame"), none, (.dict #[E P "self" 561 (R 270), E P "s" 562 (S "boi" 556), E P "substring_i" 563 (I (-1) 558), E P "result" 564 (I (-1) 560)] 4), #[]⟩
noncomputable def o272 (P : Params) : Obj := ⟨(Y "dict"), none, (.dict #[E P "s" 581 (S "le" 571), E P "substring_i" 583 (I (-1) 573), E P "result" 585 (I (-1) 575)] 3), #[]⟩
noncomputable def o273 (P : Params) : Obj := ⟨(R 218), (some 272), .plain, #[]⟩
noncomputable def o274 (P : Params) : Obj := ⟨(Y "frame"), none, (.dict #[E P "self" 576 (R 273), E P "s" 577 (S "le" 571), E P "substring_i" 578 (I (-1) 573), E P "result" 579 (I (-1) 575)] 4), #[]⟩
noncomputable def o275 (P : Params) : Obj := ⟨(Y "dict"), none, (.dict #[E P "s" 596 (S "li" 586), E P "substring_i" 598 (I (-1) 588), E P "result" 600 (I (-1) 590)] 3), #[]⟩
noncomputable def o276 (P : Params) : Obj := ⟨(R 218), (some 275), .plain, #[]⟩
noncomputable def o277 (P : Params) : Obj := ⟨(Y "frame"), none, (.dict #[E P "self" 591 (R 276), E P "s" 592 (S "li" 586), E P "substring_i" 593 (I (-1) 588), E P "result" 594 (I (-1) 590)] 4), #[]⟩
noncomputable def o278 (P : Params) : Obj := ⟨(Y "dict"), none, (.dict #[E P "s" 611 (S "ma" 601), E P "substring_i" 613 (I (-1) 603), E P "result" 615 (I (-1) 605)] 3), #[]⟩
noncomputable def o279 (P : Params) : Obj := ⟨(R 218), (some 278), .plain, #[]⟩
noncomputable def o280 (P : Params) : Obj := ⟨(Y "frame"), none, (.dict #[E P "self" 606 (R 279), E P "s" 607 (S "ma" 601), E P "substring_i" 608 (I (-1) 603), E P "result" 609 (I (-1) 605)] 4), #[]⟩
noncomputable def o281 (P : Params) : Obj := ⟨(Y "dict"), none, (.dict #[E P "s" 626 (S "me" 616), E P "substring_i" 628 (I (-1) 618), E P "result" 630 (I (-1) 620)] 3), #[]⟩
noncomputable def o282 (P : Params) : Obj := ⟨(R 218), (some 281), .plain, #[]⟩
noncomputable def o283 (P : Params) : Obj := ⟨(Y "frame"), none, (.dict #[E P "self" 621 (R 282), E P "s" 622 (S "me" 616), E P "substring_i" 623 (I (-1) 618), E P "result" 624 (I (-1) 620)] 4), #[]⟩
noncomputable def o284 (P : Params) : Obj := ⟨(Y "dict"), none, (.dict #[E P "s" 641 (S "mo" 631), E P "substring_i" 643 (I (-1) 633), E P "result" 645 (I (-1) 635)] 3), #[]⟩
noncomputable def o285 (P : Params) : Obj := ⟨(R 218), (some 284), .plain, #[]⟩
noncomputable def o286 (P : Params) : Obj := ⟨(Y "frame"), none, (.dict #[E P "self" 636 (R 285), E P "s" 637 (S "mo" 631), E P "substring_i" 638 (I (-1) 633), E P "result" 639 (I (-1) 635)] 4), #[]⟩
noncomputable def o287 (P : Params) : Obj := ⟨(Y "dict"), none, (.dict #[E P "s" 656 (S "se" 646), E P "substring_i" 658 (I (-1) 648), E P "result" 660 (I (-1) 650)] 3), #[]⟩
noncomputable def o288 (P : Params) : Obj := ⟨(R 218), (some 287), .plain, #[]⟩
noncomputable def o289 (P : Params) : Obj := ⟨(Y "frame"), none, (.dict #[E P "self" 651 (R 288), E P "s" 652 (S "se" 646), E P "substring_i" 653 (I (-1) 648), E P "result" 654 (I (-1) 650)] 4), #[]⟩
noncomputable def o290 (P : Params) : Obj := ⟨(Y "list"), none, (.seq #[(R 267), (R 270), (R 273), (R 276), (R 279), (R 282), (R 285), (R 288)] 0), #[]⟩
noncomputable def o225v4 (P : Params) : Obj := ⟨(Y "dict"), none, (.dict #[E P "__module__" 480 (S "snowballstemmer.sesotho_stemmer" 471), E P "__qualname__" 482 (S "SesothoStemmer" 481), E P "__firstlineno__" 484 (I 193 483), E P "g_v" 495 (R 230), E P "I_pV" 497 (I 0 496), E P "r_mark_regions" 506 (R 237), E P "r_remove_noun_prefixes" 514 (R 244), E P "r_remove_verb_suffixes" 522 (R 251), E P "r_remove_nominal_suffixes" 530 (R 258), E P "_stem" 540 (R 265), E P "a_0" 661 (R 290), E P "a_1" 785 (R 318)] 12), #[]⟩
noncomputable def o291 (P : Params) : Obj := ⟨(Y "dict"), none, (.dict #[E P "s" 671 (S "a" 662), E P "substring_i" 673 (I (-1) 664), E P "result" 675 (I 1 665)] 3), #[]⟩
noncomputable def o292 (P : Params) : Obj := ⟨(R 218), (some 291), .plain, #[]⟩
noncomputable def o293 (P : Params) : Obj := ⟨(Y "frame"), none, (.dict #[E P "self" 666 (R 292), E P "s" 667 (S "a" 662), E P "substring_i" 668 (I (-1) 664), E P "result" 669 (I 1 665)] 4), #[]⟩
noncomputable def o294 (P : Params) : Obj := ⟨(Y "dict"), none, (.dict #[E P "s" 684 (S "ela" 676), E P "substring_i" 686 (I 0 677), E P "result" 688 (I 1 678)] 3), #[]⟩
noncomputable def o295 (P : Params) : Obj := ⟨(R 218), (some 294), .plain, #[]⟩
noncomputable def o296 (P : Params) : Obj := ⟨(Y "frame"), none, (.dict #[E P "self" 679 (R 295), E P "s" 680 (S "ela" 676), E P "substring_i" 681 (I 0 677), E P "result" 682 (I 1 678)] 4), #[]⟩
noncomputable def o297 (P : Params) : Obj := ⟨(Y "dict"), none, (.dict #[E P "s" 697 (S "isa" 689), E P "substring_i" 699 (I 0 690), E P "result" 701 (I 1 691)] 3), #[]⟩
noncomputable def o298 (P : Params) : Obj := ⟨(R 218), (some 297), .plain, #[]⟩
noncomputable def o299 (P : Params) : Obj := ⟨(Y "frame"), none, (.dict #[E P "self" 692 (R 298), E P "s" 693 (S "isa" 689), E P "substring_i" 694 (I 0 690), E P "result" 695 (I 1 691)] 4), #[]⟩
noncomputable def o300 (P : Params) : Obj := ⟨(Y "dict"), none, (.dict #[E P "s" 710 (S "wa" 702), E P "substring_i" 712 (I 0 703), E P "result" 714 (I 1 704)] 3), #[]⟩
noncomputable def o301 (P : Params) : Obj := ⟨(R 218), (some 300), .plain, #[]⟩
noncomputable def o302 (P : Params) : Obj := ⟨(Y "frame"), none, (.dict #[E P "self" 705 (R 301), E P "s" 706 (S "wa" 702), E P "substring_i" 707 (I 0 703), E P "result" 708 (I 1 704)] 4), #[]⟩
noncomputable def o303 (P : Params) : Obj := ⟨(Y "dict"), none, (.dict #[E P "s" 724 (S "ile" 715), E P "substring_i" 726 (I (-1) 717), E P "result" 728 (I 1 718)] 3), #[]⟩
noncomputable def o304 (P : Params) : Obj := ⟨(R 218), (some 303), .plain, #[]⟩
noncomputable def o305 (P : Params) : Obj := ⟨(Y "frame"), none, (.dict #[E P "self" 719 (R 304), E P "s" 720 (S "ile" 715), E P "substring_i" 721 (I (-1) 717), E P "result" 722 (I 1 718)] 4), #[]⟩
noncomputable def o306 (P : Params) : Obj := ⟨(Y "dict"), none, (.dict #[E P "s" 738 (S "etse" 729), E P "substring_i" 740 (I (-1) 731), E P "result" 742 (I 1 732)] 3), #[]⟩
noncomputable def o307 (P : Params) : Obj := ⟨(R 218), (some 306), .plain, #[]⟩
noncomputable def o308 (P : Params) : Obj := ⟨(Y "frame"), none, (.dict #[E P "self" 733 (R 307), E P "s" 734 (S "etse" 729), E P "substring_i" 735 (I (-1) 731), E P "result" 736 (I 1 732)] 4), #[]⟩
noncomputable def o309 (P : Params) : Obj := ⟨(Y "dict"), none, (.dict #[E P "s" 752 (S "ang" 743), E P "substring_i" 754 (I (-1) 745), E P "result" 756 (I 1 746)] 3), #[]⟩
noncomputable def o310 (P : Params) : Obj := ⟨(R 218), (some 309), .plain, #[]⟩
noncomputable def o311 (P : Params) : Obj := ⟨(Y "frame"), none, (.dict #[E P "self" 747 (R 310), E P "s" 748 (S "ang" 743), E P "substring_i" 749 (I (-1) 745), E P "result" 750 (I 1 746)] 4), #[]⟩
noncomputable def o312 (P : Params) : Obj := ⟨(Y "dict"), none, (.dict #[E P "s" 766 (S "eng" 757), E P "substring_i" 768 (I (-1) 759), E P "result" 770 (I 1 760)] 3), #[]⟩
noncomputable def o313 (P : Params) : Obj := ⟨(R 218), (some 312), .plain, #[]⟩
noncomputable def o314 (P : Params) : Obj := ⟨(Y "frame"), none, (.dict #[E P "self" 761 (R 313), E P "s" 762 (S "eng" 757), E P "substring_i" 763 (I (-1) 759), E P "result" 764 (I 1 760)] 4), #[]⟩
noncomputable def o315 (P : Params) : Obj := ⟨(Y "dict"), none, (.dict #[E P "s" 780 (S "ong" 771), E P "substring_i" 782 (I (-1) 773), E P "result" 784 (I 1 774)] 3), #[]⟩
noncomputable def o316 (P : Params) : Obj := ⟨(R 218), (some 315), .plain, #[]⟩
noncomputable def o317 (P : Params) : Obj := ⟨(Y "frame"), none, (.dict #[E P "self" 775 (R 316), E P "s" 776 (S "ong" 771), E P "substring_i" 777 (I (-1) 773), E P "result" 778 (I 1 774)] 4), #[]⟩
noncomputable def o318 (P : Params) : Obj := ⟨(Y "list"), none, (.seq #[(R 292), (R 295), (R 298), (R 301), (R 304), (R 307), (R 310), (R 313), (R 316)] 0), #[]⟩
noncomputable def o225v5 (P : Params) : Obj := ⟨(Y "dict"), none, (.dict #[E P "__module__" 480 (S "snowballstemmer.sesotho_stemmer" 471), E P "__qualname__" 482 (S "SesothoStemmer" 481), E P "__firstlineno__" 484 (I 193 483), E P "g_v" 495 (R 230), E P "I_pV" 497 (I 0 496), E P "r_mark_regions" 506 (R 237), E P "r_remove_noun_prefixes" 514 (R 244), E P "r_remove_verb_suffixes" 522 (R 251), E P "r_remove_nominal_suffixes" 530 (R 258), E P "_stem" 540 (R 265), E P "a_0" 661 (R 290), E P "a_1" 785 (R 318), E P "a_2" 855 (R 334)] 13), #[]⟩
noncomputable def o319 (P : Params) : Obj := ⟨(Y "dict"), none, (.dict #[E P "s" 795 (S "ana" 786), E P "substring_i" 797 (I (-1) 788), E P "result" 799 (I 1 789)] 3), #[]⟩
noncomputable def o320 (P : Params) : Obj := ⟨(R 218), (some 319), .plain, #[]⟩
noncomputable def o321 (P : Params) : Obj := ⟨(Y "frame"), none, (.dict #[E P "self" 790 (R 320), E P "s" 791 (S "ana" 786), E P "substring_i" 792 (I (-1) 788), E P "result" 793 (I 1 789)] 4), #[]⟩
noncomputable def o322 (P : Params) : Obj := ⟨(Y "dict"), none, (.dict #[E P "s" 808 (S "nyana" 800), E P "substring_i" 810 (I 0 801), E P "result" 812 (I 1 802)] 3), #[]⟩
noncomputable def o323 (P : Params) : Obj := ⟨(R 218), (some 322), .plain, #[]⟩
noncomputable def o324 (P : Params) : Obj := ⟨(Y "frame"), none, (.dict #[E P "self" 803 (R 323), E P "s" 804 (S "nyana" 800), E P "substring_i" 805 (I 0 801), E P "result" 806 (I 1 802)] 4), #[]⟩
noncomputable def o325 (P : Params) : Obj := ⟨(Y "dict"), none, (.dict #[E P "s" 822 (S "oa" 813), E P "substring_i" 824 (I (-1) 815), E P "result" 826 (I 1 816)] 3), #[]⟩
noncomputable def o326 (P : Params) : Obj := ⟨(R 218), (some 325), .plain, #[]⟩
noncomputable def o327 (P : Params) : Obj := ⟨(Y "frame"), none, (.dict #[E P "self" 817 (R 326), E P "s" 818 (S "oa" 813), E P "substring_i" 819 (I (-1) 815), E P "result" 820 (I 1 816)] 4), #[]⟩
noncomputable def o328 (P : Params) : Obj := ⟨(Y "dict"), none, (.dict #[E P "s" 836 (S "i" 827), E P "substring_i" 838 (I (-1) 829), E P "result" 840 (I 1 830)] 3), #[]⟩
noncomputable def o329 (P : Params) : Obj := ⟨(R 218), (some 328), .plain, #[]⟩
noncomputable def o330 (P : Params) : Obj := ⟨(Y "frame"), none, (.dict #[E P "self" 831 (R 329), E P "s" 832 (S "i" 827), E P "substring_i" 833 (I (-1) 829), E P "result" 834 (I 1 830)] 4), #[]⟩
noncomputable def o331 (P : Params) : Obj := ⟨(Y "dict"), none, (.dict #[E P "s" 850 (S "ano" 841), E P "substring_i" 852 (I (-1) 843), E P "result" 854 (I 1 844)] 3), #[]⟩
noncomputable def o332 (P : Params) : Obj := ⟨(R 218), (some 331), .plain, #[]⟩
noncomputable def o333 (P : Params) : Obj := ⟨(Y "frame"), none, (.dict #[E P "self" 845 (R 332), E P "s" 846 (S "ano" 841), E P "substring_i" 847 (I (-1) 843), E P "result" 848 (I 1 844)] 4), #[]⟩
noncomputable def o334 (P : Params) : Obj := ⟨(Y "list"), none, (.seq #[(R 320), (R 323), (R 326), (R 329), (R 332)] 0), #[]⟩
noncomputable def o3v7 (P : Params) : Obj := ⟨(Y "dict"), none, (.dict #[E P "__name__" 165 (S "snowballstemmer.sesotho_stemmer" 471), E P "__doc__" 166 N, E P "__package__" 167 N, E P "__loader__" 168 (B "__main__.__loader__#opaque"), E P "__spec__" 169 N, E P "__annotations__" 170 (R 6), E P "__builtins__" 171 (R 4), E P "__file__" 173 (S "/claim/cut.py" 172), E P "__cached__" 174 N, E P "_wall" 193 (R 21), E P "BaseStemmer" 435 (R 197), E P "Among" 470 (R 218), E P "SesothoStemmer" 864 (R 337)] 13), #[]⟩
noncomputable def o197v1 (P : Params) : Obj := ⟨(Y "type"), none, (.cls { name := "BaseStemmer", bases := [(Y "object")], mro := [(R 197), (Y "object")], ns := 196, qualname := "BaseStemmer", subclasses := [(R 337)] }), #[none, none, (some (S "BaseStemmer" 196)), (some (S "BaseStemmer" 204)), (some (B "object.__new__")), (some (Bo true))]⟩
noncomputable def o225v6 (P : Params) : Obj := ⟨(Y "dict"), none, (.dict #[E P "__module__" 480 (S "snowballstemmer.sesotho_stemmer" 471), E P "__qualname__" 482 (S "SesothoStemmer" 481), E P "__firstlineno__" 484 (I 193 483), E P "g_v" 495 (R 230), E P "I_pV" 497 (I 0 496), E P "r_mark_regions" 506 (R 237), E P "r_remove_noun_prefixes" 514 (R 244), E P "r_remove_verb_suffixes" 522 (R 251), E P "r_remove_nominal_suffixes" 530 (R 258), E P "_stem" 540 (R 265), E P "a_0" 661 (R 290), E P "a_1" 785 (R 318), E P "a_2" 855 (R 334), E P "__static_attributes__" 861 (R 335)] 14), #[]⟩
noncomputable def o335 (P : Params) : Obj := ⟨(Y "tuple"), none, (.seq #[(S "I_pV" 856), (S "bra" 857), (S "cursor" 858), (S "ket" 859), (S "limit_backward" 860)] 0), #[]⟩
noncomputable def o336 (P : Params) : Obj := ⟨(Y "dict"), none, (.dict #[E P "__module__" 480 (S "snowballstemmer.sesotho_stemmer" 471), E P "__firstlineno__" 484 (I 193 483), E P "g_v" 495 (R 230), E P "I_pV" 497 (I 0 496), E P "r_mark_regions" 506 (R 237), E P "r_remove_noun_prefixes" 514 (R 244), E P "r_remove_verb_suffixes" 522 (R 251), E P "r_remove_nominal_suffixes" 530 (R 258), E P "_stem" 540 (R 265), E P "a_0" 661 (R 290), E P "a_1" 785 (R 318), E P "a_2" 855 (R 334), E P "__static_attributes__" 861 (R 335), E P "__doc__" 862 N] 2), #[]⟩
noncomputable def o337 (P : Params) : Obj := ⟨(Y "type"), none, (.cls { name := "SesothoStemmer", bases := [(R 197)], mro := [(R 337), (R 197), (Y "object")], ns := 336, qualname := "SesothoStemmer", subclasses := [] }), #[(some (R 223)), none, (some (S "SesothoStemmer" 473)), (some (S "SesothoStemmer" 481)), (some (B "object.__new__")), (some (Bo true))]⟩
noncomputable def o338 (P : Params) : Obj := ⟨(Y "super"), none, (.fields #[(R 337), (R 337), (R 337)]), #[]⟩
noncomputable def o339 (P : Params) : Obj := ⟨(Y "builtin_function_or_method"), none, (.fields #[(B "object.__init_subclass__"), (R 337)]), #[]⟩
noncomputable def o2v1 (P : Params) : Obj := ⟨N, none, (.dict #[E P "type.__subclasses__.Exception.0" 881 (I 349 0), E P "type.__subclasses__.Exception.n" 882 (I 1 0)] 2), #[]⟩
noncomputable def o3v8 (P : Params) : Obj := ⟨(Y "dict"), none, (.dict #[E P "__name__" 165 (S "snowballstemmer.sesotho_stemmer" 471), E P "__doc__" 166 N, E P "__package__" 167 N, E P "__loader__" 168 (B "__main__.__loader__#opaque"), E P "__spec__" 169 N, E P "__annotations__" 170 (R 6), E P "__builtins__" 171 (R 4), E P "__file__" 173 (S "/claim/cut.py" 172), E P "__cached__" 174 N, E P "_wall" 193 (R 21), E P "BaseStemmer" 435 (R 197), E P "Among" 470 (R 218), E P "SesothoStemmer" 864 (R 337), E P "lab0" 884 (R 349)] 14), #[]⟩
noncomputable def o12v5 (P : Params) : Obj := ⟨N, none, (.fields #[(I 1 0), (I 0 0), (R 20), (I 5 0), (I 0 0), (R 27), (I 186 0), (I 0 0), (R 207), (I 193 0), (I 0 0), (R 228), (I 282 0), (I 0 0), (R 345)]), #[]⟩
noncomputable def o340 (P : Params) : Obj := ⟨(Y "tuple"), none, (.seq #[(Y "Exception")] 0), #[]⟩
noncomputable def o341 (P : Params) : Obj := ⟨(Y "builtin_function_or_method"), none, (.fields #[(B "type.__prepare__"), (Y "type")]), #[]⟩
noncomputable def o342 (P : Params) : Obj := ⟨(Y "dict"), none, (.dict #[E P "__module__" 872 (S "snowballstemmer.sesotho_stemmer" 471), E P "__qualname__" 874 (S "lab0" 873), E P "__firstlineno__" 876 (I 282 875), E P "__static_attributes__" 877 (R 347)] 4), #[]⟩
noncomputable def o343 (P : Params) : Obj := ⟨(Y "tuple"), none, (.seq #[] 0), #[]⟩
noncomputable def o344 (P : Params) : Obj := ⟨N, none, (.fields #[]), #[]⟩
noncomputable def o345 (P : Params) : Obj := ⟨(Y "code"), none, (.fields #[(S "lab0" 867), (S "lab0" 868), (S "/claim/cut.py" 869), (I 282 0), (I 0 0), (I 0 0), (I 0 0), (I 0 0), (R 343), (Bo false), (I 181 0), (R 344), N, N, N, N, (I 870 0), (I 282 0), (S "/claim/cut.py" 871)]), #[]⟩
noncomputable def o346 (P : Params) : Obj := ⟨(Y "frame"), none, .plain, #[(some (R 345)), (some (R 3)), (some (R 342)), none, (some (S "snowballstemmer.sesotho_stemmer" 471)), none, (some (R 0))]⟩
noncomputable def o347 (P : Params) : Obj := ⟨(Y "tuple"), none, (.seq #[] 0), #[]⟩
noncomputable def o348 (P : Params) : Obj := ⟨(Y "dict"), none, (.dict #[E P "__module__" 872 (S "snowballstemmer.sesotho_stemmer" 471), E P "__firstlineno__" 876 (I 282 875), E P "__static_attributes__" 877 (R 347), E P "__weakref__" 879 (R 350), E P "__doc__" 880 N] 3), #[]⟩
noncomputable def o349 (P : Params) : Obj := ⟨(Y "type"), none, (.cls { name := "lab0", bases := [(Y "Exception")], mro := [(R 349), (Y "Exception"), (Y "BaseException"), (Y "object")], ns := 348, qualname := "lab0", subclasses := [] }), #[(some (R 340)), none, (some (S "lab0" 865)), (some (S "lab0" 873)), (some (B "Exception.__new__")), (some (Bo true))]⟩
noncomputable def o350 (P : Params) : Obj := ⟨(Y "getset_descriptor"), none, (.fields #[(S "__weakref__" 878), (R 349), (B "ExceptionGroup.__weakref__"), N]), #[]⟩
noncomputable def o351 (P : Params) : Obj := ⟨(Y "super"), none, (.fields #[(R 349), (R 349), (R 349)]), #[]⟩
noncomputable def o352 (P : Params) : Obj := ⟨(Y "builtin_function_or_method"), none, (.fields #[(B "object.__init_subclass__"), (R 349)]), #[]⟩
noncomputable def o3v9 (P : Params) : Obj := ⟨(Y "dict"), none, (.dict #[E P "__name__" 165 (S "law_iu0020_01" 885), E P "__doc__" 166 N, E P "__package__" 167 N, E P "__loader__" 168 (B "__main__.__loader__#opaque"), E P "__spec__" 169 N, E P "__annotations__" 170 (R 6), E P "__builtins__" 171 (R 4), E P "__file__" 173 (S "/claim/cut.py" 172), E P "__cached__" 174 N, E P "_wall" 193 (R 21), E P "BaseStemmer" 435 (R 197), E P "Among" 470 (R 218), E P "SesothoStemmer" 864 (R 337), E P "lab0" 884 (R 349)] 14), #[]⟩
noncomputable def o3v10 (P : Params) : Obj := ⟨(Y "dict"), none, (.dict #[E P "__name__" 165 (S "law_iu0020_01" 885), E P "__doc__" 166 N, E P "__package__" 167 N, E P "__loader__" 168 (B "__main__.__loader__#opaque"), E P "__spec__" 169 N, E P "__annotations__" 170 (R 6), E P "__builtins__" 171 (R 4), E P "__file__" 173 (S "/claim/cut.py" 172), E P "__cached__" 174 N, E P "_wall" 193 (R 21), E P "BaseStemmer" 435 (R 197), E P "Among" 470 (R 218), E P "SesothoStemmer" 864 (R 337), E P "lab0" 884 (R 349), E P "_law_vowels" 892 (R 359)] 15), #[]⟩
noncomputable def o12v6 (P : Params) : Obj := ⟨N, none, (.fields #[(I 1 0), (I 0 0), (R 20), (I 5 0), (I 0 0), (R 27), (I 186 0), (I 0 0), (R 207), (I 193 0), (I 0 0), (R 228), (I 282 0), (I 0 0), (R 345), (I 285 0), (I 0 0), (R 358)]), #[]⟩
noncomputable def o353 (P : Params) : Obj := ⟨(Y "tuple"), none, (.seq #[] 0), #[]⟩
noncomputable def o354 (P : Params) : Obj := ⟨N, none, (.fields #[]), #[]⟩
noncomputable def o355 (P : Params) : Obj := ⟨(Y "tuple"), none, (.seq #[] 0), #[]⟩
noncomputable def o356 (P : Params) : Obj := ⟨(Y "tuple"), none, (.seq #[] 0), #[]⟩
noncomputable def o357 (P : Params) : Obj := ⟨N, none, (.func (Fn (st1 9) "_law_vowels" 0 N N)), #[]⟩
noncomputable def o358 (P : Params) : Obj := ⟨(Y "code"), none, (.fields #[(S "_law_vowels" 887), (S "_law_vowels" 888), (S "/claim/cut.py" 889), (I 285 0), (I 0 0), (I 0 0), (I 0 0), (I 3 0), (R 353), (Bo true), (I 181 0), (R 354), N, (R 355), (R 356), (R 357), (I 890 0), (I 285 0), (S "/claim/cut.py" 891)]), #[]⟩
noncomputable def o359 (P : Params) : Obj := ⟨(Y "function"), none, (.func (Fn (st1 9) "_law_vowels" 3 (S "law_iu0020_01" 885) (R 358))), #[]⟩
noncomputable def o3v11 (P : Params) : Obj := ⟨(Y "dict"), none, (.dict #[E P "__name__" 165 (S "law_iu0020_01" 885), E P "__doc__" 166 N, E P "__package__" 167 N, E P "__loader__" 168 (B "__main__.__loader__#opaque"), E P "__spec__" 169 N, E P "__annotations__" 170 (R 6), E P "__builtins__" 171 (R 4), E P "__file__" 173 (S "/claim/cut.py" 172), E P "__cached__" 174 N, E P "_wall" 193 (R 21), E P "BaseStemmer" 435 (R 197), E P "Among" 470 (R 218), E P "SesothoStemmer" 864 (R 337), E P "lab0" 884 (R 349), E P "_law_vowels" 892 (R 359), E P "_law_noun_ends" 898 (R 360)] 16), #[]⟩
noncomputable def o360 (P : Params) : Obj := ⟨(Y "list"), none, (.seq #[(S "nyana" 893), (S "ana" 894), (S "ano" 895), (S "oa" 896), (S "i" 897)] 0), #[]⟩
noncomputable def o3v12 (P : Params) : Obj := ⟨(Y "dict"), none, (.dict #[E P "__name__" 165 (S "law_iu0020_01" 885), E P "__doc__" 166 N, E P "__package__" 167 N, E P "__loader__" 168 (B "__main__.__loader__#opaque"), E P "__spec__" 169 N, E P "__annotations__" 170 (R 6), E P "__builtins__" 171 (R 4), E P "__file__" 173 (S "/claim/cut.py" 172), E P "__cached__" 174 N, E P "_wall" 193 (R 21), E P "BaseStemmer" 435 (R 197), E P "Among" 470 (R 218), E P "SesothoStemmer" 864 (R 337), E P "lab0" 884 (R 349), E P "_law_vowels" 892 (R 359), E P "_law_noun_ends" 898 (R 360), E P "_law_verb_ends" 908 (R 361)] 17), #[]⟩
noncomputable def o361 (P : Params) : Obj := ⟨(Y "list"), none, (.seq #[(S "etse" 899), (S "ela" 900), (S "isa" 901), (S "ile" 902), (S "ang" 903), (S "eng" 904), (S "ong" 905), (S "wa" 906), (S "a" 907)] 0), #[]⟩
noncomputable def o3v13 (P : Params) : Obj := ⟨(Y "dict"), none, (.dict #[E P "__name__" 165 (S "law_iu0020_01" 885), E P "__doc__" 166 N, E P "__package__" 167 N, E P "__loader__" 168 (B "__main__.__loader__#opaque"), E P "__spec__" 169 N, E P "__annotations__" 170 (R 6), E P "__builtins__" 171 (R 4), E P "__file__" 173 (S "/claim/cut.py" 172), E P "__cached__" 174 N, E P "_wall" 193 (R 21), E P "BaseStemmer" 435 (R 197), E P "Among" 470 (R 218), E P "SesothoStemmer" 864 (R 337), E P "lab0" 884 (R 349), E P "_law_vowels" 892 (R 359), E P "_law_noun_ends" 898 (R 360), E P "_law_verb_ends" 908 (R 361), E P "_law_beginnings" 917 (R 362)] 18), #[]⟩
noncomputable def o362 (P : Params) : Obj := ⟨(Y "list"), none, (.seq #[(S "boi" 909), (S "mo" 910), (S "ba" 911), (S "me" 912), (S "ma" 913), (S "le" 914), (S "li" 915), (S "se" 916)] 0), #[]⟩
noncomputable def o3v14 (P : Params) : Obj := ⟨(Y "dict"), none, (.dict #[E P "__name__" 165 (S "law_iu0020_01" 885), E P "__doc__" 166 N, E P "__package__" 167 N, E P "__loader__" 168 (B "__main__.__loader__#opaque"), E P "__spec__" 169 N, E P "__annotations__" 170 (R 6), E P "__builtins__" 171 (R 4), E P "__file__" 173 (S "/claim/cut.py" 172), E P "__cached__" 174 N, E P "_wall" 193 (R 21), E P "BaseStemmer" 435 (R 197), E P "Among" 470 (R 218), E P "SesothoStemmer" 864 (R 337), E P "lab0" 884 (R 349), E P "_law_vowels" 892 (R 359), E P "_law_noun_ends" 898 (R 360), E P "_law_verb_ends" 908 (R 361), E P "_law_beginnings" 917 (R 362), E P "_law_letters" 919 (S "abcdefghijklmnopqrstuvwxyzšòè'A" 918)] 19), #[]⟩
noncomputable def o3v15 (P : Params) : Obj := ⟨(Y "dict"), none, (.dict #[E P "__name__" 165 (S "law_iu0020_01" 885), E P "__doc__" 166 N, E P "__package__" 167 N, E P "__loader__" 168 (B "__main__.__loader__#opaque"), E P "__spec__" 169 N, E P "__annotations__" 170 (R 6), E P "__builtins__" 171 (R 4), E P "__file__" 173 (S "/claim/cut.py" 172), E P "__cached__" 174 N, E P "_wall" 193 (R 21), E P "BaseStemmer" 435 (R 197), E P "Among" 470 (R 218), E P "SesothoStemmer" 864 (R 337), E P "lab0" 884 (R 349), E P "_law_vowels" 892 (R 359), E P "_law_noun_ends" 898 (R 360), E P "_law_verb_ends" 908 (R 361), E P "_law_beginnings" 917 (R 362), E P "_law_letters" 919 (S "abcdefghijklmnopqrstuvwxyzšòè'A" 918), E P "_law_full" 925 (R 367)] 20), #[]⟩
noncomputable def o12v7 (P : Params) : Obj := ⟨N, none, (.fields #[(I 1 0), (I 0 0), (R 20), (I 5 0), (I 0 0), (R 27), (I 186 0), (I 0 0), (R 207), (I 193 0), (I 0 0), (R 228), (I 282 0), (I 0 0), (R 345), (I 285 0), (I 0 0), (R 358), (I 291 0), (I 0 0), (R 366)]), #[]⟩
noncomputable def o363 (P : Params) : Obj := ⟨(Y "tuple"), none, (.seq #[] 0), #[]⟩
noncomputable def o364 (P : Params) : Obj := ⟨N, none, (.fields #[]), #[]⟩
noncomputable def o365 (P : Params) : Obj := ⟨N, none, (.func (Fn (st1 14) "_law_full" 0 N N)), #[]⟩
noncomputable def o366 (P : Params) : Obj := ⟨(Y "code"), none, (.fields #[(S "_law_full" 920), (S "_law_full" 921), (S "/claim/cut.py" 922), (I 291 0), (I 1 0), (I 0 0), (I 0 0), (I 3 0), (R 363), (Bo true), (I 181 0), (R 364), N, N, N, (R 365), (I 923 0), (I 291 0), (S "/claim/cut.py" 924)]), #[]⟩
noncomputable def o367 (P : Params) : Obj := ⟨(Y "function"), none, (.func (Fn (st1 14) "_law_full" 3 (S "law_iu0020_01" 885) (R 366))), #[]⟩
noncomputable def o3v16 (P : Params) : Obj := ⟨(Y "dict"), none, (.dict #[E P "__name__" 165 (S "law_iu0020_01" 885), E P "__doc__" 166 N, E P "__package__" 167 N, E P "__loader__" 168 (B "__main__.__loader__#opaque"), E P "__spec__" 169 N, E P "__annotations__" 170 (R 6), E P "__builtins__" 171 (R 4), E P "__file__" 173 (S "/claim/cut.py" 172), E P "__cached__" 174 N, E P "_wall" 193 (R 21), E P "BaseStemmer" 435 (R 197), E P "Among" 470 (R 218), E P "SesothoStemmer" 864 (R 337), E P "lab0" 884 (R 349), E P "_law_vowels" 892 (R 359), E P "_law_noun_ends" 898 (R 360), E P "_law_verb_ends" 908 (R 361), E P "_law_beginnings" 917 (R 362), E P "_law_letters" 919 (S "abcdefghijklmnopqrstuvwxyzšòè'A" 918), E P "_law_full" 925 (R 367), E P "_law_head" 933 (R 374)] 21), #[]⟩
noncomputable def o12v8 (P : Params) : Obj := ⟨N, none, (.fields #[(I 1 0), (I 0 0), (R 20), (I 5 0), (I 0 0), (R 27), (I 186 0), (I 0 0), (R 207), (I 193 0), (I 0 0), (R 228), (I 282 0), (I 0 0), (R 345), (I 285 0), (I 0 0), (R 358), (I 291 0), (I 0 0), (R 366), (I 293 0), (I 0 0), (R 373)]), #[]⟩
noncomputable def o368 (P : Params) : Obj := ⟨(Y "tuple"), none, (.seq #[] 0), #[]⟩
noncomputable def o369 (P : Params) : Obj := ⟨N, none, (.fields #[]), #[]⟩
noncomputable def o370 (P : Params) : Obj := ⟨(Y "tuple"), none, (.seq #[(S "word" 929), (S "size" 930)] 0), #[]⟩
noncomputable def o371 (P : Params) : Obj := ⟨(Y "tuple"), none, (.seq #[] 0), #[]⟩
noncomputable def o372 (P : Params) : Obj := ⟨N, none, (.func (Fn (st1 15) "_law_head" 0 N N)), #[]⟩
noncomputable def o373 (P : Params) : Obj := ⟨(Y "code"), none, (.fields #[(S "_law_head" 926), (S "_law_head" 927), (S "/claim/cut.py" 928), (I 293 0), (I 1 0), (I 0 0), (I 0 0), (I 3 0), (R 368), (Bo true), (I 181 0), (R 369), N, (R 370), (R 371), (R 372), (I 931 0), (I 293 0), (S "/claim/cut.py" 932)]), #[]⟩
noncomputable def o374 (P : Params) : Obj := ⟨(Y "function"), none, (.func (Fn (st1 15) "_law_head" 3 (S "law_iu0020_01" 885) (R 373))), #[]⟩
noncomputable def o3v17 (P : Params) : Obj := ⟨(Y "dict"), none, (.dict #[E P "__name__" 165 (S "law_iu0020_01" 885), E P "__doc__" 166 N, E P "__package__" 167 N, E P "__loader__" 168 (B "__main__.__loader__#opaque"), E P "__spec__" 169 N, E P "__annotations__" 170 (R 6), E P "__builtins__" 171 (R 4), E P "__file__" 173 (S "/claim/cut.py" 172), E P "__cached__" 174 N, E P "_wall" 193 (R 21), E P "BaseStemmer" 435 (R 197), E P "Among" 470 (R 218), E P "SesothoStemmer" 864 (R 337), E P "lab0" 884 (R 349), E P "_law_vowels" 892 (R 359), E P "_law_noun_ends" 898 (R 360), E P "_law_verb_ends" 908 (R 361), E P "_law_beginnings" 917 (R 362), E P "_law_letters" 919 (S "abcdefghijklmnopqrstuvwxyzšòè'A" 918), E P "_law_full" 925 (R 367), E P "_law_head" 933 (R 374), E P "_law_shed" 943 (R 381)] 22), #[]⟩
noncomputable def o12v9 (P : Params) : Obj := ⟨N, none, (.fields #[(I 1 0), (I 0 0), (R 20), (I 5 0), (I 0 0), (R 27), (I 186 0), (I 0 0), (R 207), (I 193 0), (I 0 0), (R 228), (I 282 0), (I 0 0), (R 345), (I 285 0), (I 0 0), (R 358), (I 291 0), (I 0 0), (R 366), (I 293 0), (I 0 0), (R 373), (I 298 0), (I 0 0), (R 380)]), #[]⟩
noncomputable def o375 (P : Params) : Obj := ⟨(Y "tuple"), none, (.seq #[] 0), #[]⟩
noncomputable def o376 (P : Params) : Obj := ⟨N, none, (.fields #[]), #[]⟩
noncomputable def o377 (P : Params) : Obj := ⟨(Y "tuple"), none, (.seq #[(S "body" 937), (S "ends" 938), (S "longest" 939), (S "end" 940)] 0), #[]⟩
noncomputable def o378 (P : Params) : Obj := ⟨(Y "tuple"), none, (.seq #[] 0), #[]⟩
noncomputable def o379 (P : Params) : Obj := ⟨N, none, (.func (Fn (st1 16) "_law_shed" 0 N N)), #[]⟩
noncomputable def o380 (P : Params) : Obj := ⟨(Y "code"), none, (.fields #[(S "_law_shed" 934), (S "_law_shed" 935), (S "/claim/cut.py" 936), (I 298 0), (I 2 0), (I 0 0), (I 0 0), (I 3 0), (R 375), (Bo true), (I 181 0), (R 376), N, (R 377), (R 378), (R 379), (I 941 0), (I 298 0), (S "/claim/cut.py" 942)]), #[]⟩
noncomputable def o381 (P : Params) : Obj := ⟨(Y "function"), none, (.func (Fn (st1 16) "_law_shed" 3 (S "law_iu0020_01" 885) (R 380))), #[]⟩
noncomputable def o3v18 (P : Params) : Obj := ⟨(Y "dict"), none, (.dict #[E P "__name__" 165 (S "law_iu0020_01" 885), E P "__doc__" 166 N, E P "__package__" 167 N, E P "__loader__" 168 (B "__main__.__loader__#opaque"), E P "__spec__" 169 N, E P "__annotations__" 170 (R 6), E P "__builtins__" 171 (R 4), E P "__file__" 173 (S "/claim/cut.py" 172), E P "__cached__" 174 N, E P "_wall" 193 (R 21), E P "BaseStemmer" 435 (R 197), E P "Among" 470 (R 218), E P "SesothoStemmer" 864 (R 337), E P "lab0" 884 (R 349), E P "_law_vowels" 892 (R 359), E P "_law_noun_ends" 898 (R 360), E P "_law_verb_ends" 908 (R 361), E P "_law_beginnings" 917 (R 362), E P "_law_letters" 919 (S "abcdefghijklmnopqrstuvwxyzšòè'A" 918), E P "_law_full" 925 (R 367), E P "_law_head" 933 (R 374), E P "_law_shed" 943 (R 381), E P "_law_stem" 953 (R 388)] 23), #[]⟩
noncomputable def o12v10 (P : Params) : Obj := ⟨N, none, (.fields #[(I 1 0), (I 0 0), (R 20), (I 5 0), (I 0 0), (R 27), (I 186 0), (I 0 0), (R 207), (I 193 0), (I 0 0), (R 228), (I 282 0), (I 0 0), (R 345), (I 285 0), (I 0 0), (R 358), (I 291 0), (I 0 0), (R 366), (I 293 0), (I 0 0), (R 373), (I 298 0), (I 0 0), (R 380), (I 304 0), (I 0 0), (R 387)]), #[]⟩
noncomputable def o382 (P : Params) : Obj := ⟨(Y "tuple"), none, (.seq #[] 0), #[]⟩
noncomputable def o383 (P : Params) : Obj := ⟨N, none, (.fields #[]), #[]⟩
noncomputable def o384 (P : Params) : Obj := ⟨(Y "tuple"), none, (.seq #[(S "word" 947), (S "head" 948), (S "body" 949), (S "start" 950)] 0), #[]⟩
noncomputable def o385 (P : Params) : Obj := ⟨(Y "tuple"), none, (.seq #[] 0), #[]⟩
noncomputable def o386 (P : Params) : Obj := ⟨N, none, (.func (Fn (st1 17) "_law_stem" 0 N N)), #[]⟩
noncomputable def o387 (P : Params) : Obj := ⟨(Y "code"), none, (.fields #[(S "_law_stem" 944), (S "_law_stem" 945), (S "/claim/cut.py" 946), (I 304 0), (I 1 0), (I 0 0), (I 0 0), (I 3 0), (R 382), (Bo true), (I 181 0), (R 383), N, (R 384), (R 385), (R 386), (I 951 0), (I 304 0), (S "/claim/cut.py" 952)]), #[]⟩
noncomputable def o388 (P : Params) : Obj := ⟨(Y "function"), none, (.func (Fn (st1 17) "_law_stem" 3 (S "law_iu0020_01" 885) (R 387))), #[]⟩
noncomputable def o3v19 (P : Params) : Obj := ⟨(Y "dict"), none, (.dict #[E P "__name__" 165 (S "law_iu0020_01" 885), E P "__doc__" 166 N, E P "__package__" 167 N, E P "__loader__" 168 (B "__main__.__loader__#opaque"), E P "__spec__" 169 N, E P "__annotations__" 170 (R 6), E P "__builtins__" 171 (R 4), E P "__file__" 173 (S "/claim/cut.py" 172), E P "__cached__" 174 N, E P "_wall" 193 (R 21), E P "BaseStemmer" 435 (R 197), E P "Among" 470 (R 218), E P "SesothoStemmer" 864 (R 337), E P "lab0" 884 (R 349), E P "_law_vowels" 892 (R 359), E P "_law_noun_ends" 898 (R 360), E P "_law_verb_ends" 908 (R 361), E P "_law_beginnings" 917 (R 362), E P "_law_letters" 919 (S "abcdefghijklmnopqrstuvwxyzšòè'A" 918), E P "_law_full" 925 (R 367), E P "_law_head" 933 (R 374), E P "_law_shed" 943 (R 381), E P "_law_stem" 953 (R 388), E P "law" 959 (R 393)] 24), #[]⟩
noncomputable def o12v11 (P : Params) : Obj := ⟨N, none, (.fields #[(I 1 0), (I 0 0), (R 20), (I 5 0), (I 0 0), (R 27), (I 186 0), (I 0 0), (R 207), (I 193 0), (I 0 0), (R 228), (I 282 0), (I 0 0), (R 345), (I 285 0), (I 0 0), (R 358), (I 291 0), (I 0 0), (R 366), (I 293 0), (I 0 0), (R 373), (I 298 0), (I 0 0), (R 380), (I 304 0), (I 0 0), (R 387), (I 313 0), (I 0 0), (R 392)]), #[]⟩
noncomputable def o389 (P : Params) : Obj := ⟨(Y "tuple"), none, (.seq #[] 0), #[]⟩
noncomputable def o390 (P : Params) : Obj := ⟨N, none, (.fields #[]), #[]⟩
noncomputable def o391 (P : Params) : Obj := ⟨N, none, (.func (Fn (st1 18) "law" 0 N N)), #[]⟩
noncomputable def o392 (P : Params) : Obj := ⟨(Y "code"), none, (.fields #[(S "law" 954), (S "law" 955), (S "/claim/cut.py" 956), (I 313 0), (I 1 0), (I 0 0), (I 0 0), (I 3 0), (R 389), (Bo true), (I 181 0), (R 390), N, N, N, (R 391), (I 957 0), (I 313 0), (S "/claim/cut.py" 958)]), #[]⟩
noncomputable def o393 (P : Params) : Obj := ⟨(Y "function"), none, (.func (Fn (st1 18) "law" 3 (S "law_iu0020_01" 885) (R 392))), #[]⟩
noncomputable def L0 (P : Params) : List Obj := [o0 P, o1 P, o2 P, o3 P, o4 P, o5 P, o6 P, o7 P, o8 P, o9 P, o10 P]
noncomputable def Z0 (w : World) (os : OsState) : SharedT := ⟨bld 12 (L0 w.params), 11, {}, Array.mk [], {}, 181, os⟩
noncomputable def th0 (w : World) (os : OsState) : Thread := topStub pw
noncomputable def L1 (P : Params) : List Obj := [o0 P, o1 P, o2 P, o3 P, o4 P, o5 P, o6 P, o7 P, o8 P, o9 P, o10 P, o11 P, o12 P, o13 P, o14 P]
noncomputable def Z1 (w : World) (os : OsState) : SharedT := ⟨bld 12 (L1 w.params), 15, {}, Array.mk [], {}, 187, os⟩
noncomputable def th1 (w : World) (os : OsState) : Thread := ⟨cont (B0.drop 0) envT, .body B0 envT, ⟨0, 0, 0, 0⟩, [topFrame qPos]⟩
noncomputable def L2 (P : Params) : List Obj := [o0 P, o1 P, o2 P, o3v1 P, o4 P, o5 P, o6 P, o7 P, o8 P, o9 P, o10 P, o11 P, o12v1 P, o13 P, o14 P, o15 P, o16 P, o17 P, o18 P, o19 P]
noncomputable def L3 (P : Params) : List Obj := [o20 P, o21 P]
noncomputable def Z2 (w : World) (os : OsState) : SharedT := ⟨bld 12 (L2 w.params ++ (L3 w.params)), 22, {}, Array.mk [], {}, 194, os⟩
noncomputable def th2 (w : World) (os : OsState) : Thread := ⟨cont (B0.drop 1) envT, .body B0 envT, ⟨1, 0, 3, 12⟩, [topFrame qPos]⟩
noncomputable def L4 (P : Params) : List Obj := [o0 P, o1 P, o2 P, o3v2 P, o4 P, o5 P, o6 P, o7 P, o8 P, o9 P, o10 P, o11 P, o12v1 P, o13 P, o14 P, o15 P, o16 P, o17 P, o18 P, o19 P]
noncomputable def Z3 (w : World) (os : OsState) : SharedT := ⟨bld 12 (L4 w.params ++ (L3 w.params)), 22, {}, Array.mk [], {}, 196, os⟩
noncomputable def th3 (w : World) (os : OsState) : Thread := ⟨cont (B0.drop 2) envT, .body B0 envT, ⟨4, 0, 4, 8⟩, [topFrame qPos]⟩
noncomputable def L5 (P : Params) : List Obj := [o0 P, o1 P, o2 P, o3v2 P, o4 P, o5 P, o6 P, o7 P, o8 P, o9 P, o10 P, o11 P, o12v2 P, o13 P, o14 P, o15 P, o16 P, o17 P, o18 P, o19 P]
noncomputable def L6 (P : Params) : List Obj := [o20 P, o21 P, o22 P, o23 P, o24 P, o25 P, o26 P, o27 P, o28 P]
noncomputable def Z4 (w : World) (os : OsState) : SharedT := ⟨bld 12 (L5 w.params ++ (L6 w.params)), 29, {}, Array.mk [], {}, 208, os⟩
noncomputable def kk2 (w : World) (os : OsState) : Result → Sem Fin := topK (goT w 59 (Z3 w os) (th3 w os))
noncomputable def fr2 (w : World) (os : OsState) : Frame := (.ret (kk2 w os) none false [(R 22), (R 22), (R 24), (R 28)] (.body B0 envT) ⟨5, 0, 184, 54⟩ [])
noncomputable def th4 (w : World) (os : OsState) : Thread := ⟨cont (cb2.drop 0) cenv2, .body cb2 cenv2, ⟨5, 0, 184, 54⟩, [fr2 w os, topFrame qPos]⟩
noncomputable def L7 (P : Params) : List Obj := [o20 P, o21 P, o22 P, o23 P, o24v1 P, o25 P, o26v1 P, o27 P, o28 P, o29 P, o30 P, o31 P, o32 P, o33 P, o34 P, o35 P, o36 P, o37 P, o38 P, o39 P]
noncomputable def L8 (P : Params) : List Obj := [o40 P, o41 P, o42 P, o43 P, o44 P, o45 P, o46 P, o47 P, o48 P, o49 P, o50 P, o51 P, o52 P, o53 P, o54 P, o55 P, o56 P, o57 P, o58 P, o59 P]
noncomputable def L9 (P : Params) : List Obj := [o60 P, o61 P, o62 P, o63 P, o64 P, o65 P, o66 P, o67 P, o68 P, o69 P, o70 P, o71 P, o72 P, o73 P, o74 P, o75 P, o76 P, o77 P]
noncomputable def Z5 (w : World) (os : OsState) : SharedT := ⟨bld 12 (L5 w.params ++ (L7 w.params ++ (L8 w.params ++ (L9 w.params)))), 78, {}, Array.mk [], {}, 262, os⟩
noncomputable def th5 (w : World) (os : OsState) : Thread := ⟨cont (cb2.drop 7) cenv2, .body cb2 cenv2, ⟨30, 4, 31, 16⟩, [fr2 w os, topFrame qPos]⟩
noncomputable def L10 (P : Params) : List Obj := [o20 P, o21 P, o22 P, o23 P, o24v2 P, o25 P, o26v2 P, o27 P, o28 P, o29 P, o30 P, o31 P, o32 P, o33 P, o34 P, o35 P, o36 P, o37 P, o38 P, o39 P]
noncomputable def L11 (P : Params) : List Obj := [o60 P, o61 P, o62 P, o63 P, o64 P, o65 P, o66 P, o67 P, o68 P, o69 P, o70 P, o71 P, o72 P, o73 P, o74 P, o75 P, o76 P, o77 P, o78 P, o79 P]
noncomputable def L12 (P : Params) : List Obj := [o80 P, o81 P, o82 P, o83 P, o84 P, o85 P, o86 P, o87 P, o88 P, o89 P, o90 P, o91 P, o92 P, o93 P, o94 P, o95 P, o96 P, o97 P, o98 P, o99 P]
noncomputable def L13 (P : Params) : List Obj := [o100 P, o101 P, o102 P, o103 P, o104 P, o105 P, o106 P, o107 P, o108 P, o109 P, o110 P, o111 P, o112 P, o113 P, o114 P, o115 P, o116 P, o117 P, o118 P, o119 P]
noncomputable def L14 (P : Params) : List Obj := [o120 P, o121 P, o122 P, o123 P, o124 P, o125 P, o126 P]
noncomputable def Z6 (w : World) (os : OsState) : SharedT := ⟨bld 12 (L5 w.params ++ (L10 w.params ++ (L8 w.params ++ (L11 w.params ++ (L12 w.params ++ (L13 w.params ++ (L14 w.params))))))), 127, {}, Array.mk [], {}, 318, os⟩
noncomputable def th6 (w : World) (os : OsState) : Thread := ⟨cont (cb2.drop 14) cenv2, .body cb2 cenv2, ⟨55, 4, 56, 16⟩, [fr2 w os, topFrame qPos]⟩
noncomputable def L15 (P : Params) : List Obj := [o20 P, o21 P, o22 P, o23 P, o24v3 P, o25 P, o26v3 P, o27 P, o28 P, o29 P, o30 P, o31 P, o32 P, o33 P, o34 P, o35 P, o36 P, o37 P, o38 P, o39 P]
noncomputable def L16 (P : Params) : List Obj := [o120 P, o121 P, o122 P, o123 P, o124 P, o125 P, o126 P, o127 P, o128 P, o129 P, o130 P, o131 P, o132 P, o133 P, o134 P, o135 P, o136 P, o137 P, o138 P, o139 P]
noncomputable def L17 (P : Params) : List Obj := [o140 P, o141 P, o142 P, o143 P, o144 P, o145 P, o146 P, o147 P, o148 P, o149 P, o150 P, o151 P, o152 P, o153 P, o154 P, o155 P, o156 P, o157 P, o158 P, o159 P]
noncomputable def L18 (P : Params) : List Obj := [o160 P, o161 P, o162 P, o163 P, o164 P, o165 P, o166 P, o167 P, o168 P]
noncomputable def Z7 (w : World) (os : OsState) : SharedT := ⟨bld 12 (L5 w.params ++ (L15 w.params ++ (L8 w.params ++ (L11 w.params ++ (L12 w.params ++ (L13 w.params ++ (L16 w.params ++ (L17 w.params ++ (L18 w.params))))))))), 169, {}, Array.mk [], {}, 394, os⟩
noncomputable def th7 (w : World) (os : OsState) : Thread := ⟨cont (cb2.drop 20) cenv2, .body cb2 cenv2, ⟨169, 4, 170, 17⟩, [fr2 w os, topFrame qPos]⟩
noncomputable def L19 (P : Params) : List Obj := [o20 P, o21 P, o22 P, o23 P, o24v4 P, o25 P, o26v4 P, o27 P, o28 P, o29 P, o30 P, o31 P, o32 P, o33 P, o34 P, o35 P, o36 P, o37 P, o38 P, o39 P]
noncomputable def L20 (P : Params) : List Obj := [o160 P, o161 P, o162 P, o163 P, o164 P, o165 P, o166 P, o167 P, o168 P, o169 P, o170 P, o171 P, o172 P, o173 P, o174 P, o175 P, o176 P, o177 P, o178 P, o179 P]
noncomputable def L21 (P : Params) : List Obj := [o180 P, o181 P, o182 P, o183 P, o184 P, o185 P, o186 P, o187 P, o188 P, o189 P, o190 P, o191 P, o192 P, o193 P, o194 P]
noncomputable def Z8 (w : World) (os : OsState) : SharedT := ⟨bld 12 (L5 w.params ++ (L19 w.params ++ (L8 w.params ++ (L11 w.params ++ (L12 w.params ++ (L13 w.params ++ (L16 w.params ++ (L17 w.params ++ (L20 w.params ++ (L21 w.params)))))))))), 195, {}, Array.mk [], {}, 422, os⟩
noncomputable def th8 (w : World) (os : OsState) : Thread := ⟨cont (cb2.drop 24) cenv2, .body cb2 cenv2, ⟨183, 4, 184, 54⟩, [fr2 w os, topFrame qPos]⟩
noncomputable def L22 (P : Params) : List Obj := [o0 P, o1 P, o2 P, o3v3 P, o4 P, o5 P, o6 P, o7 P, o8 P, o9 P, o10 P, o11 P, o12v2 P, o13 P, o14 P, o15 P, o16 P, o17 P, o18 P, o19 P]
noncomputable def L23 (P : Params) : List Obj := [o20 P, o21 P, o22 P, o23 P, o24v5 P, o25 P, o26v4 P, o27 P, o28 P, o29 P, o30 P, o31 P, o32 P, o33 P, o34 P, o35 P, o36 P, o37 P, o38 P, o39 P]
noncomputable def L24 (P : Params) : List Obj := [o180 P, o181 P, o182 P, o183 P, o184 P, o185 P, o186 P, o187 P, o188 P, o189 P, o190 P, o191 P, o192 P, o193 P, o194 P, o195 P, o196 P, o197 P, o198 P, o199 P]
noncomputable def L25 (P : Params) : List Obj := [o200 P, o201 P]
noncomputable def Z9 (w : World) (os : OsState) : SharedT := ⟨bld 12 (L22 w.params ++ (L23 w.params ++ (L8 w.params ++ (L11 w.params ++ (L12 w.params ++ (L13 w.params ++ (L16 w.params ++ (L17 w.params ++ (L20 w.params ++ (L24 w.params ++ (L25 w.params))))))))))), 202, {}, Array.mk [], {}, 436, os⟩
noncomputable def th9 (w : World) (os : OsState) : Thread := ⟨cont (B0.drop 3) envT, .body B0 envT, ⟨5, 0, 184, 54⟩, [topFrame qPos]⟩
noncomputable def L26 (P : Params) : List Obj := [o0 P, o1 P, o2 P, o3v4 P, o4 P, o5 P, o6 P, o7 P, o8 P, o9 P, o10 P, o11 P, o12v2 P, o13 P, o14 P, o15 P, o16 P, o17 P, o18 P, o19 P]
noncomputable def Z10 (w : World) (os : OsState) : SharedT := ⟨bld 12 (L26 w.params ++ (L23 w.params ++ (L8 w.params ++ (L11 w.params ++ (L12 w.params ++ (L13 w.params ++ (L16 w.params ++ (L17 w.params ++ (L20 w.params ++ (L24 w.params ++ (L25 w.params))))))))))), 202, {}, Array.mk [], {}, 438, os⟩
noncomputable def th10 (w : World) (os : OsState) : Thread := ⟨cont (B0.drop 4) envT, .body B0 envT, ⟨185, 0, 185, 8⟩, [topFrame qPos]⟩
noncomputable def L27 (P : Params) : List Obj := [o0 P, o1 P, o2 P, o3v5 P, o4 P, o5 P, o6 P, o7 P, o8 P, o9 P, o10 P, o11 P, o12v3 P, o13 P, o14 P, o15 P, o16 P, o17 P, o18 P, o19 P]
noncomputable def L28 (P : Params) : List Obj := [o200 P, o201 P, o202 P, o203 P, o204 P, o205 P, o206 P, o207 P, o208 P, o209 P, o210 P, o211 P, o212 P, o213 P, o214 P, o215 P, o216 P, o217 P, o218 P, o219 P]
noncomputable def L29 (P : Params) : List Obj := [o220 P, o221 P, o222 P]
noncomputable def Z11 (w : World) (os : OsState) : SharedT := ⟨bld 12 (L27 w.params ++ (L23 w.params ++ (L8 w.params ++ (L11 w.params ++ (L12 w.params ++ (L13 w.params ++ (L16 w.params ++ (L17 w.params ++ (L20 w.params ++ (L24 w.params ++ (L28 w.params ++ (L29 w.params)))))))))))), 223, {}, Array.mk [], {}, 471, os⟩
noncomputable def th11 (w : World) (os : OsState) : Thread := ⟨cont (B0.drop 5) envT, .body B0 envT, ⟨186, 0, 191, 28⟩, [topFrame qPos]⟩
noncomputable def L30 (P : Params) : List Obj := [o0 P, o1 P, o2 P, o3v6 P, o4 P, o5 P, o6 P, o7 P, o8 P, o9 P, o10 P, o11 P, o12v3 P, o13 P, o14 P, o15 P, o16 P, o17 P, o18 P, o19 P]
noncomputable def Z12 (w : World) (os : OsState) : SharedT := ⟨bld 12 (L30 w.params ++ (L23 w.params ++ (L8 w.params ++ (L11 w.params ++ (L12 w.params ++ (L13 w.params ++ (L16 w.params ++ (L17 w.params ++ (L20 w.params ++ (L24 w.params ++ (L28 w.params ++ (L29 w.params)))))))))))), 223, {}, Array.mk [], {}, 473, os⟩
noncomputable def th12 (w : World) (os : OsState) : Thread := ⟨cont (B0.drop 6) envT, .body B0 envT, ⟨192, 0, 192, 8⟩, [topFrame qPos]⟩
noncomputable def L31 (P : Params) : List Obj := [o0 P, o1 P, o2 P, o3v6 P, o4 P, o5 P, o6 P, o7 P, o8 P, o9 P, o10 P, o11 P, o12v4 P, o13 P, o14 P, o15 P, o16 P, o17 P, o18 P, o19 P]
noncomputable def L32 (P : Params) : List Obj := [o220 P, o221 P, o222 P, o223 P, o224 P, o225 P, o226 P, o227 P, o228 P, o229 P]
noncomputable def Z13 (w : World) (os : OsState) : SharedT := ⟨bld 12 (L31 w.params ++ (L23 w.params ++ (L8 w.params ++ (L11 w.params ++ (L12 w.params ++ (L13 w.params ++ (L16 w.params ++ (L17 w.params ++ (L20 w.params ++ (L24 w.params ++ (L28 w.params ++ (L32 w.params)))))))))))), 230, {}, Array.mk [], {}, 485, os⟩
noncomputable def kk6 (w : World) (os : OsState) : Result → Sem Fin := topK (goT w 64 (Z12 w os) (th12 w os))
noncomputable def fr6 (w : World) (os : OsState) : Frame := (.ret (kk6 w os) none false [(R 197), (R 223), (R 223), (R 225), (R 229)] (.body B0 envT) ⟨193, 0, 281, 113⟩ [])
noncomputable def th13 (w : World) (os : OsState) : Thread := ⟨cont (cb6.drop 0) cenv6, .body cb6 cenv6, ⟨193, 0, 281, 113⟩, [fr6 w os, topFrame qPos]⟩
noncomputable def L33 (P : Params) (es : Ent) (ep : Nat) (t : SetTable) : List Obj := [o220 P, o221 P, o222 P, o223 P, o224 P, o225v1 P, o226 P, o227 P, o228 P, o229 P, o230 es ep t]
noncomputable def Z14 (w : World) (es : Ent) (ep : Nat) (t : SetTable) (os : OsState) : SharedT := ⟨bld 12 (L31 w.params ++ (L23 w.params ++ (L8 w.params ++ (L11 w.params ++ (L12 w.params ++ (L13 w.params ++ (L16 w.params ++ (L17 w.params ++ (L20 w.params ++ (L24 w.params ++ (L28 w.params ++ (L33 w.params es ep t)))))))))))), 231, {}, Array.mk [], {}, 496, os⟩
noncomputable def th14 (w : World) (os : OsState) : Thread := ⟨cont (cb6.drop 1) cenv6, .body cb6 cenv6, ⟨194, 4, 194, 7⟩, [fr6 w os, topFrame qPos]⟩
noncomputable def L34 (P : Params) (es : Ent) (ep : Nat) (t : SetTable) : List Obj := [o220 P, o221 P, o222 P, o223 P, o224 P, o225v2 P, o226 P, o227v1 P, o228 P, o229 P, o230 es ep t, o231 P, o232 P, o233 P, o234 P, o235 P, o236 P, o237 P, o238 P, o239 P]
noncomputable def L35 (P : Params) : List Obj := [o240 P, o241 P, o242 P, o243 P, o244 P, o245 P, o246 P, o247 P, o248 P, o249 P, o250 P, o251 P, o252 P, o253 P, o254 P, o255 P, o256 P, o257 P, o258 P, o259 P]
noncomputable def L36 (P : Params) : List Obj := [o260 P, o261 P, o262 P, o263 P, o264 P, o265 P]
noncomputable def Z15 (w : World) (es : Ent) (ep : Nat) (t : SetTable) (os : OsState) : SharedT := ⟨bld 12 (L31 w.params ++ (L23 w.params ++ (L8 w.params ++ (L11 w.params ++ (L12 w.params ++ (L13 w.params ++ (L16 w.params ++ (L17 w.params ++ (L20 w.params ++ (L24 w.params ++ (L28 w.params ++ (L34 w.params es ep t ++ (L35 w.params ++ (L36 w.params)))))))))))))), 266, {}, Array.mk [], {}, 541, os⟩
noncomputable def th15 (w : World) (os : OsState) : Thread := ⟨cont (cb6.drop 7) cenv6, .body cb6 cenv6, ⟨263, 4, 278, 19⟩, [fr6 w os, topFrame qPos]⟩
noncomputable def L37 (P : Params) (es : Ent) (ep : Nat) (t : SetTable) : List Obj := [o220 P, o221 P, o222 P, o223 P, o224 P, o225v3 P, o226 P, o227v1 P, o228 P, o229 P, o230 es ep t, o231 P, o232 P, o233 P, o234 P, o235 P, o236 P, o237 P, o238 P, o239 P]
noncomputable def L38 (P : Params) : List Obj := [o260 P, o261 P, o262 P, o263 P, o264 P, o265 P, o266 P, o267 P, o268 P, o269 P, o270 P, o271 P, o272 P, o273 P, o274 P, o275 P, o276 P, o277 P, o278 P, o279 P]
noncomputable def L39 (P : Params) : List Obj := [o280 P, o281 P, o282 P, o283 P, o284 P, o285 P, o286 P, o287 P, o288 P, o289 P, o290 P]
noncomputable def Z16 (w : World) (es : Ent) (ep : Nat) (t : SetTable) (os : OsState) : SharedT := ⟨bld 12 (L31 w.params ++ (L23 w.params ++ (L8 w.params ++ (L11 w.params ++ (L12 w.params ++ (L13 w.params ++ (L16 w.params ++ (L17 w.params ++ (L20 w.params ++ (L24 w.params ++ (L28 w.params ++ (L37 w.params es ep t ++ (L35 w.params ++ (L38 w.params ++ (L39 w.params))))))))))))))), 291, {}, Array.mk [], {}, 662, os⟩
noncomputable def th16 (w : World) (os : OsState) : Thread := ⟨cont (cb6.drop 8) cenv6, .body cb6 cenv6, ⟨279, 4, 279, 7⟩, [fr6 w os, topFrame qPos]⟩
noncomputable def L40 (P : Params) (es : Ent) (ep : Nat) (t : SetTable) : List Obj := [o220 P, o221 P, o222 P, o223 P, o224 P, o225v4 P, o226 P, o227v1 P, o228 P, o229 P, o230 es ep t, o231 P, o232 P, o233 P, o234 P, o235 P, o236 P, o237 P, o238 P, o239 P]
noncomputable def L41 (P : Params) : List Obj := [o280 P, o281 P, o282 P, o283 P, o284 P, o285 P, o286 P, o287 P, o288 P, o289 P, o290 P, o291 P, o292 P, o293 P, o294 P, o295 P, o296 P, o297 P, o298 P, o299 P]
noncomputable def L42 (P : Params) : List Obj := [o300 P, o301 P, o302 P, o303 P, o304 P, o305 P, o306 P, o307 P, o308 P, o309 P, o310 P, o311 P, o312 P, o313 P, o314 P, o315 P, o316 P, o317 P, o318 P]
noncomputable def Z17 (w : World) (es : Ent) (ep : Nat) (t : SetTable) (os : OsState) : SharedT := ⟨bld 12 (L31 w.params ++ (L23 w.params ++ (L8 w.params ++ (L11 w.params ++ (L12 w.params ++ (L13 w.params ++ (L16 w.params ++ (L17 w.params ++ (L20 w.params ++ (L24 w.params ++ (L28 w.params ++ (L40 w.params es ep t ++ (L35 w.params ++ (L38 w.params ++ (L41 w.params ++ (L42 w.params)))))))))))))))), 319, {}, Array.mk [], {}, 786, os⟩
noncomputable def th17 (w : World) (os : OsState) : Thread := ⟨cont (cb6.drop 9) cenv6, .body cb6 cenv6, ⟨280, 4, 280, 7⟩, [fr6 w os, topFrame qPos]⟩
noncomputable def L43 (P : Params) (es : Ent) (ep : Nat) (t : SetTable) : List Obj := [o220 P, o221 P, o222 P, o223 P, o224 P, o225v5 P, o226 P, o227v1 P, o228 P, o229 P, o230 es ep t, o231 P, o232 P, o233 P, o234 P, o235 P, o236 P, o237 P, o238 P, o239 P]
noncomputable def L44 (P : Params) : List Obj := [o300 P, o301 P, o302 P, o303 P, o304 P, o305 P, o306 P, o307 P, o308 P, o309 P, o310 P, o311 P, o312 P, o313 P, o314 P, o315 P, o316 P, o317 P, o318 P, o319 P]
noncomputable def L45 (P : Params) : List Obj := [o320 P, o321 P, o322 P, o323 P, o324 P, o325 P, o326 P, o327 P, o328 P, o329 P, o330 P, o331 P, o332 P, o333 P, o334 P]
noncomputable def Z18 (w : World) (es : Ent) (ep : Nat) (t : SetTable) (os : OsState) : SharedT := ⟨bld 12 (L31 w.params ++ (L23 w.params ++ (L8 w.params ++ (L11 w.params ++ (L12 w.params ++ (L13 w.params ++ (L16 w.params ++ (L17 w.params ++ (L20 w.params ++ (L24 w.params ++ (L28 w.params ++ (L43 w.params es ep t ++ (L35 w.params ++ (L38 w.params ++ (L41 w.params ++ (L44 w.params ++ (L45 w.params))))))))))))))))), 335, {}, Array.mk [], {}, 856, os⟩
noncomputable def th18 (w : World) (os : OsState) : Thread := ⟨cont (cb6.drop 10) cenv6, .body cb6 cenv6, ⟨281, 4, 281, 7⟩, [fr6 w os, topFrame qPos]⟩
noncomputable def L46 (P : Params) : List Obj := [o0 P, o1 P, o2 P, o3v7 P, o4 P, o5 P, o6 P, o7 P, o8 P, o9 P, o10 P, o11 P, o12v4 P, o13 P, o14 P, o15 P, o16 P, o17 P, o18 P, o19 P]
noncomputable def L47 (P : Params) : List Obj := [o180 P, o181 P, o182 P, o183 P, o184 P, o185 P, o186 P, o187 P, o188 P, o189 P, o190 P, o191 P, o192 P, o193 P, o194 P, o195 P, o196 P, o197v1 P, o198 P, o199 P]
noncomputable def L48 (P : Params) (es : Ent) (ep : Nat) (t : SetTable) : List Obj := [o220 P, o221 P, o222 P, o223 P, o224 P, o225v6 P, o226 P, o227v1 P, o228 P, o229 P, o230 es ep t, o231 P, o232 P, o233 P, o234 P, o235 P, o236 P, o237 P, o238 P, o239 P]
noncomputable def L49 (P : Params) : List Obj := [o320 P, o321 P, o322 P, o323 P, o324 P, o325 P, o326 P, o327 P, o328 P, o329 P, o330 P, o331 P, o332 P, o333 P, o334 P, o335 P, o336 P, o337 P, o338 P, o339 P]
noncomputable def Z19 (w : World) (es : Ent) (ep : Nat) (t : SetTable) (os : OsState) : SharedT := ⟨bld 12 (L46 w.params ++ (L23 w.params ++ (L8 w.params ++ (L11 w.params ++ (L12 w.params ++ (L13 w.params ++ (L16 w.params ++ (L17 w.params ++ (L20 w.params ++ (L47 w.params ++ (L28 w.params ++ (L48 w.params es ep t ++ (L35 w.params ++ (L38 w.params ++ (L41 w.params ++ (L44 w.params ++ (L49 w.params))))))))))))))))), 340, {}, Array.mk [], {}, 865, os⟩
noncomputable def th19 (w : World) (os : OsState) : Thread := ⟨cont (B0.drop 7) envT, .body B0 envT, ⟨193, 0, 281, 113⟩, [topFrame qPos]⟩
noncomputable def L50 (P : Params) : List Obj := [o0 P, o1 P, o2v1 P, o3v8 P, o4 P, o5 P, o6 P, o7 P, o8 P, o9 P, o10 P, o11 P, o12v5 P, o13 P, o14 P, o15 P, o16 P, o17 P, o18 P, o19 P]
noncomputable def L51 (P : Params) : List Obj := [o340 P, o341 P, o342 P, o343 P, o344 P, o345 P, o346 P, o347 P, o348 P, o349 P, o350 P, o351 P, o352 P]
noncomputable def Z20 (w : World) (es : Ent) (ep : Nat) (t : SetTable) (os : OsState) : SharedT := ⟨bld 12 (L50 w.params ++ (L23 w.params ++ (L8 w.params ++ (L11 w.params ++ (L12 w.params ++ (L13 w.params ++ (L16 w.params ++ (L17 w.params ++ (L20 w.params ++ (L47 w.params ++ (L28 w.params ++ (L48 w.params es ep t ++ (L35 w.params ++ (L38 w.params ++ (L41 w.params ++ (L44 w.params ++ (L49 w.params ++ (L51 w.params)))))))))))))))))), 353, {}, Array.mk [], {}, 885, os⟩
noncomputable def th20 (w : World) (os : OsState) : Thread := ⟨cont (B0.drop 8) envT, .body B0 envT, ⟨282, 0, 283, 8⟩, [topFrame qPos]⟩
noncomputable def L52 (P : Params) : List Obj := [o0 P, o1 P, o2v1 P, o3v9 P, o4 P, o5 P, o6 P, o7 P, o8 P, o9 P, o10 P, o11 P, o12v5 P, o13 P, o14 P, o15 P, o16 P, o17 P, o18 P, o19 P]
noncomputable def Z21 (w : World) (es : Ent) (ep : Nat) (t : SetTable) (os : OsState) : SharedT := ⟨bld 12 (L52 w.params ++ (L23 w.params ++ (L8 w.params ++ (L11 w.params ++ (L12 w.params ++ (L13 w.params ++ (L16 w.params ++ (L17 w.params ++ (L20 w.params ++ (L47 w.params ++ (L28 w.params ++ (L48 w.params es ep t ++ (L35 w.params ++ (L38 w.params ++ (L41 w.params ++ (L44 w.params ++ (L49 w.params ++ (L51 w.params)))))))))))))))))), 353, {}, Array.mk [], {}, 887, os⟩
noncomputable def th21 (w : World) (os : OsState) : Thread := ⟨cont (B0.drop 9) envT, .body B0 envT, ⟨284, 0, 284, 8⟩, [topFrame qPos]⟩
noncomputable def L53 (P : Params) : List Obj := [o0 P, o1 P, o2v1 P, o3v10 P, o4 P, o5 P, o6 P, o7 P, o8 P, o9 P, o10 P, o11 P, o12v6 P, o13 P, o14 P, o15 P, o16 P, o17 P, o18 P, o19 P]
noncomputable def L54 (P : Params) : List Obj := [o340 P, o341 P, o342 P, o343 P, o344 P, o345 P, o346 P, o347 P, o348 P, o349 P, o350 P, o351 P, o352 P, o353 P, o354 P, o355 P, o356 P, o357 P, o358 P, o359 P]
noncomputable def Z22 (w : World) (es : Ent) (ep : Nat) (t : SetTable) (os : OsState) : SharedT := ⟨bld 12 (L53 w.params ++ (L23 w.params ++ (L8 w.params ++ (L11 w.params ++ (L12 w.params ++ (L13 w.params ++ (L16 w.params ++ (L17 w.params ++ (L20 w.params ++ (L47 w.params ++ (L28 w.params ++ (L48 w.params es ep t ++ (L35 w.params ++ (L38 w.params ++ (L41 w.params ++ (L44 w.params ++ (L49 w.params ++ (L54 w.params)))))))))))))))))), 360, {}, Array.mk [], {}, 893, os⟩
noncomputable def th22 (w : World) (os : OsState) : Thread := ⟨cont (B0.drop 10) envT, .body B0 envT, ⟨285, 0, 286, 36⟩, [topFrame qPos]⟩
noncomputable def L55 (P : Params) : List Obj := [o0 P, o1 P, o2v1 P, o3v11 P, o4 P, o5 P, o6 P, o7 P, o8 P, o9 P, o10 P, o11 P, o12v6 P, o13 P, o14 P, o15 P, o16 P, o17 P, o18 P, o19 P]
noncomputable def L56 (P : Params) : List Obj := [o360 P]
noncomputable def Z23 (w : World) (es : Ent) (ep : Nat) (t : SetTable) (os : OsState) : SharedT := ⟨bld 12 (L55 w.params ++ (L23 w.params ++ (L8 w.params ++ (L11 w.params ++ (L12 w.params ++ (L13 w.params ++ (L16 w.params ++ (L17 w.params ++ (L20 w.params ++ (L47 w.params ++ (L28 w.params ++ (L48 w.params es ep t ++ (L35 w.params ++ (L38 w.params ++ (L41 w.params ++ (L44 w.params ++ (L49 w.params ++ (L54 w.params ++ (L56 w.params))))))))))))))))))), 361, {}, Array.mk [], {}, 899, os⟩
noncomputable def th23 (w : World) (os : OsState) : Thread := ⟨cont (B0.drop 11) envT, .body B0 envT, ⟨287, 0, 287, 14⟩, [topFrame qPos]⟩
noncomputable def L57 (P : Params) : List Obj := [o0 P, o1 P, o2v1 P, o3v12 P, o4 P, o5 P, o6 P, o7 P, o8 P, o9 P, o10 P, o11 P, o12v6 P, o13 P, o14 P, o15 P, o16 P, o17 P, o18 P, o19 P]
noncomputable def L58 (P : Params) : List Obj := [o360 P, o361 P]
noncomputable def Z24 (w : World) (es : Ent) (ep : Nat) (t : SetTable) (os : OsState) : SharedT := ⟨bld 12 (L57 w.params ++ (L23 w.params ++ (L8 w.params ++ (L11 w.params ++ (L12 w.params ++ (L13 w.params ++ (L16 w.params ++ (L17 w.params ++ (L20 w.params ++ (L47 w.params ++ (L28 w.params ++ (L48 w.params es ep t ++ (L35 w.params ++ (L38 w.params ++ (L41 w.params ++ (L44 w.params ++ (L49 w.params ++ (L54 w.params ++ (L58 w.params))))))))))))))))))), 362, {}, Array.mk [], {}, 909, os⟩
noncomputable def th24 (w : World) (os : OsState) : Thread := ⟨cont (B0.drop 12) envT, .body B0 envT, ⟨288, 0, 288, 14⟩, [topFrame qPos]⟩
noncomputable def L59 (P : Params) : List Obj := [o0 P, o1 P, o2v1 P, o3v13 P, o4 P, o5 P, o6 P, o7 P, o8 P, o9 P, o10 P, o11 P, o12v6 P, o13 P, o14 P, o15 P, o16 P, o17 P, o18 P, o19 P]
noncomputable def L60 (P : Params) : List Obj := [o360 P, o361 P, o362 P]
noncomputable def Z25 (w : World) (es : Ent) (ep : Nat) (t : SetTable) (os : OsState) : SharedT := ⟨bld 12 (L59 w.params ++ (L23 w.params ++ (L8 w.params ++ (L11 w.params ++ (L12 w.params ++ (L13 w.params ++ (L16 w.params ++ (L17 w.params ++ (L20 w.params ++ (L47 w.params ++ (L28 w.params ++ (L48 w.params es ep t ++ (L35 w.params ++ (L38 w.params ++ (L41 w.params ++ (L44 w.params ++ (L49 w.params ++ (L54 w.params ++ (L60 w.params))))))))))))))))))), 363, {}, Array.mk [], {}, 918, os⟩
noncomputable def th25 (w : World) (os : OsState) : Thread := ⟨cont (B0.drop 13) envT, .body B0 envT, ⟨289, 0, 289, 15⟩, [topFrame qPos]⟩
noncomputable def L61 (P : Params) : List Obj := [o0 P, o1 P, o2v1 P, o3v14 P, o4 P, o5 P, o6 P, o7 P, o8 P, o9 P, o10 P, o11 P, o12v6 P, o13 P, o14 P, o15 P, o16 P, o17 P, o18 P, o19 P]
noncomputable def Z26 (w : World) (es : Ent) (ep : Nat) (t : SetTable) (os : OsState) : SharedT := ⟨bld 12 (L61 w.params ++ (L23 w.params ++ (L8 w.params ++ (L11 w.params ++ (L12 w.params ++ (L13 w.params ++ (L16 w.params ++ (L17 w.params ++ (L20 w.params ++ (L47 w.params ++ (L28 w.params ++ (L48 w.params es ep t ++ (L35 w.params ++ (L38 w.params ++ (L41 w.params ++ (L44 w.params ++ (L49 w.params ++ (L54 w.params ++ (L60 w.params))))))))))))))))))), 363, {}, Array.mk [], {}, 920, os⟩
noncomputable def th26 (w : World) (os : OsState) : Thread := ⟨cont (B0.drop 14) envT, .body B0 envT, ⟨290, 0, 290, 12⟩, [topFrame qPos]⟩
noncomputable def L62 (P : Params) : List Obj := [o0 P, o1 P, o2v1 P, o3v15 P, o4 P, o5 P, o6 P, o7 P, o8 P, o9 P, o10 P, o11 P, o12v7 P, o13 P, o14 P, o15 P, o16 P, o17 P, o18 P, o19 P]
noncomputable def L63 (P : Params) : List Obj := [o360 P, o361 P, o362 P, o363 P, o364 P, o365 P, o366 P, o367 P]
noncomputable def Z27 (w : World) (es : Ent) (ep : Nat) (t : SetTable) (os : OsState) : SharedT := ⟨bld 12 (L62 w.params ++ (L23 w.params ++ (L8 w.params ++ (L11 w.params ++ (L12 w.params ++ (L13 w.params ++ (L16 w.params ++ (L17 w.params ++ (L20 w.params ++ (L47 w.params ++ (L28 w.params ++ (L48 w.params es ep t ++ (L35 w.params ++ (L38 w.params ++ (L41 w.params ++ (L44 w.params ++ (L49 w.params ++ (L54 w.params ++ (L63 w.params))))))))))))))))))), 368, {}, Array.mk [], {}, 926, os⟩
noncomputable def th27 (w : World) (os : OsState) : Thread := ⟨cont (B0.drop 15) envT, .body B0 envT, ⟨291, 0, 292, 83⟩, [topFrame qPos]⟩
noncomputable def L64 (P : Params) : List Obj := [o0 P, o1 P, o2v1 P, o3v16 P, o4 P, o5 P, o6 P, o7 P, o8 P, o9 P, o10 P, o11 P, o12v8 P, o13 P, o14 P, o15 P, o16 P, o17 P, o18 P, o19 P]
noncomputable def L65 (P : Params) : List Obj := [o360 P, o361 P, o362 P, o363 P, o364 P, o365 P, o366 P, o367 P, o368 P, o369 P, o370 P, o371 P, o372 P, o373 P, o374 P]
noncomputable def Z28 (w : World) (es : Ent) (ep : Nat) (t : SetTable) (os : OsState) : SharedT := ⟨bld 12 (L64 w.params ++ (L23 w.params ++ (L8 w.params ++ (L11 w.params ++ (L12 w.params ++ (L13 w.params ++ (L16 w.params ++ (L17 w.params ++ (L20 w.params ++ (L47 w.params ++ (L28 w.params ++ (L48 w.params es ep t ++ (L35 w.params ++ (L38 w.params ++ (L41 w.params ++ (L44 w.params ++ (L49 w.params ++ (L54 w.params ++ (L65 w.params))))))))))))))))))), 375, {}, Array.mk [], {}, 934, os⟩
noncomputable def th28 (w : World) (os : OsState) : Thread := ⟨cont (B0.drop 16) envT, .body B0 envT, ⟨293, 0, 297, 15⟩, [topFrame qPos]⟩
noncomputable def L66 (P : Params) : List Obj := [o0 P, o1 P, o2v1 P, o3v17 P, o4 P, o5 P, o6 P, o7 P, o8 P, o9 P, o10 P, o11 P, o12v9 P, o13 P, o14 P, o15 P, o16 P, o17 P, o18 P, o19 P]
noncomputable def L67 (P : Params) : List Obj := [o360 P, o361 P, o362 P, o363 P, o364 P, o365 P, o366 P, o367 P, o368 P, o369 P, o370 P, o371 P, o372 P, o373 P, o374 P, o375 P, o376 P, o377 P, o378 P, o379 P]
noncomputable def L68 (P : Params) : List Obj := [o380 P, o381 P]
noncomputable def Z29 (w : World) (es : Ent) (ep : Nat) (t : SetTable) (os : OsState) : SharedT := ⟨bld 12 (L66 w.params ++ (L23 w.params ++ (L8 w.params ++ (L11 w.params ++ (L12 w.params ++ (L13 w.params ++ (L16 w.params ++ (L17 w.params ++ (L20 w.params ++ (L47 w.params ++ (L28 w.params ++ (L48 w.params es ep t ++ (L35 w.params ++ (L38 w.params ++ (L41 w.params ++ (L44 w.params ++ (L49 w.params ++ (L54 w.params ++ (L67 w.params ++ (L68 w.params)))))))))))))))))))), 382, {}, Array.mk [], {}, 944, os⟩
noncomputable def th29 (w : World) (os : OsState) : Thread := ⟨cont (B0.drop 17) envT, .body B0 envT, ⟨298, 0, 303, 42⟩, [topFrame qPos]⟩
noncomputable def L69 (P : Params) : List Obj := [o0 P, o1 P, o2v1 P, o3v18 P, o4 P, o5 P, o6 P, o7 P, o8 P, o9 P, o10 P, o11 P, o12v10 P, o13 P, o14 P, o15 P, o16 P, o17 P, o18 P, o19 P]
noncomputable def L70 (P : Params) : List Obj := [o380 P, o381 P, o382 P, o383 P, o384 P, o385 P, o386 P, o387 P, o388 P]
noncomputable def Z30 (w : World) (es : Ent) (ep : Nat) (t : SetTable) (os : OsState) : SharedT := ⟨bld 12 (L69 w.params ++ (L23 w.params ++ (L8 w.params ++ (L11 w.params ++ (L12 w.params ++ (L13 w.params ++ (L16 w.params ++ (L17 w.params ++ (L20 w.params ++ (L47 w.params ++ (L28 w.params ++ (L48 w.params es ep t ++ (L35 w.params ++ (L38 w.params ++ (L41 w.params ++ (L44 w.params ++ (L49 w.params ++ (L54 w.params ++ (L67 w.params ++ (L70 w.params)))))))))))))))))))), 389, {}, Array.mk [], {}, 954, os⟩
noncomputable def th30 (w : World) (os : OsState) : Thread := ⟨cont (B0.drop 18) envT, .body B0 envT, ⟨304, 0, 312, 15⟩, [topFrame qPos]⟩
noncomputable def L71 (P : Params) : List Obj := [o0 P, o1 P, o2v1 P, o3v19 P, o4 P, o5 P, o6 P, o7 P, o8 P, o9 P, o10 P, o11 P, o12v11 P, o13 P, o14 P, o15 P, o16 P, o17 P, o18 P, o19 P]
noncomputable def L72 (P : Params) : List Obj := [o380 P, o381 P, o382 P, o383 P, o384 P, o385 P, o386 P, o387 P, o388 P, o389 P, o390 P, o391 P, o392 P, o393 P]
noncomputable def Z31 (w : World) (es : Ent) (ep : Nat) (t : SetTable) (os : OsState) : SharedT := ⟨bld 12 (L71 w.params ++ (L23 w.params ++ (L8 w.params ++ (L11 w.params ++ (L12 w.params ++ (L13 w.params ++ (L16 w.params ++ (L17 w.params ++ (L20 w.params ++ (L47 w.params ++ (L28 w.params ++ (L48 w.params es ep t ++ (L35 w.params ++ (L38 w.params ++ (L41 w.params ++ (L44 w.params ++ (L49 w.params ++ (L54 w.params ++ (L67 w.params ++ (L72 w.params)))))))))))))))))))), 394, {}, Array.mk [], {}, 960, os⟩
noncomputable def th31 (w : World) (os : OsState) : Thread := ⟨cont (B0.drop 19) envT, .body B0 envT, ⟨313, 0, 326, 74⟩, [topFrame qPos]⟩
noncomputable def Z32 (w : World) (es : Ent) (ep : Nat) (t : SetTable) (os : OsState) : SharedT := ⟨bld 12 (L71 w.params ++ (L23 w.params ++ (L8 w.params ++ (L11 w.params ++ (L12 w.params ++ (L13 w.params ++ (L16 w.params ++ (L17 w.params ++ (L20 w.params ++ (L47 w.params ++ (L28 w.params ++ (L48 w.params es ep t ++ (L35 w.params ++ (L38 w.params ++ (L41 w.params ++ (L44 w.params ++ (L49 w.params ++ (L54 w.params ++ (L67 w.params ++ (L72 w.params)))))))))))))))))))), 394, {}, Array.mk [], {}, 960, os⟩
end
end Mine
-- SetA
namespace Mine
open PySem PySem.W PySem.Calls PyProof.Rows
noncomputable abbrev so (es : Ent) (ep : Nat) (t : SetTable) : Obj := ⟨.type "set", none, .set es ep t, #[]⟩
noncomputable abbrev cd6 : Code := .body cb6 cenv6
noncomputable abbrev B6 (w : World) (os : OsState) : List Frame := [fr6 w os, topFrame qPos]
noncomputable def ZS (w : World) (os : OsState) (o : Obj) (tk : Nat) : SharedT := ⟨(Z13 w os).tree.ins 230 o, 231, {}, Array.mk [], {}, tk, os⟩

noncomputable def RunsTo {α : Type} (w : World) (os : OsState) (x : Sem α) (s : SharedT) (p : Pos) (n : Nat) (Q : α → SharedT → Pos → Prop) : Prop :=
  ∀ (K : α → Sem PySem.Fin) (H : Value → Sem PySem.Fin) (gd : Bool → Bool) (lv : List Value → List Value),
    ∃ m a s' p', m ≤ n ∧ goT w m s ⟨x.wrap K H gd lv, cd6, p, B6 w os⟩ = some (s', ⟨K a, cd6, p', B6 w os⟩) ∧ Q a s' p'

theorem goT_add {w : World} : ∀ {m k : Nat} {s s' : SharedT} {t t' : Thread} {r}, goT w m s t = some (s', t') → goT w k s' t' = r → goT w (m + k) s t = r
  | 0, k, s, s', t, t', r, h, h2 => by
    obtain ⟨rfl, rfl⟩ : s = s' ∧ t = t' := by simpa [goT] using h
    rw [Nat.zero_add]; exact h2
  | m + 1, k, s, s', t, t', r, h, h2 => by
    rw [show m + 1 + k = m + k + 1 by omega]
    unfold goT at h ⊢
    cases ht : through t with
    | true => rw [ht] at h; cases h
    | false =>
      rw [ht] at h
      cases hk : stepOk 11 (some (.ref 6)) t with
      | false => rw [hk] at h; cases h
      | true =>
        rw [hk] at h
        cases hs : stepF w s t with
        | none => rw [hs] at h; cases h
        | some x => obtain ⟨s2, t2⟩ := x; rw [hs] at h; exact goT_add h h2

section
variable {α β : Type} {w : World} {os : OsState} {s s' : SharedT} {p p' : Pos} {n k : Nat}
theorem runs_pure {a : α} {Q : α → SharedT → Pos → Prop} (h : Q a s p) : RunsTo w os (pure a) s p n Q := fun K H gd lv => ⟨0, a, s, p, Nat.zero_le _, rfl, h⟩
theorem runs_go {x : Sem α} {a : α} {Q : α → SharedT → Pos → Prop} (h : ∀ K H gd lv, goT w n s ⟨x.wrap K H gd lv, cd6, p, B6 w os⟩ = some (s', ⟨K a, cd6, p', B6 w os⟩)) (hq : Q a s' p') : RunsTo w os x s p n Q :=
  fun K H gd lv => ⟨n, a, s', p', Nat.le_refl _, h K H gd lv, hq⟩
theorem runs_mono {x : Sem α} {Q Q' : α → SharedT → Pos → Prop} (h : RunsTo w os x s p n Q) (hn : n ≤ k) (hq : ∀ a s p, Q a s p → Q' a s p) : RunsTo w os x s p k Q' := fun K H gd lv => by
  obtain ⟨m, a, s', p', h1, h2, h3⟩ := h K H gd lv
  exact ⟨m, a, s', p', Nat.le_trans h1 hn, h2, hq _ _ _ h3⟩
theorem runs_bind {x : Sem α} {f : α → Sem β} {Q1 : α → SharedT → Pos → Prop} {Q : β → SharedT → Pos → Prop} (h1 : RunsTo w os x s p n Q1) (h2 : ∀ a s' p', Q1 a s' p' → RunsTo w os (f a) s' p' k Q) :
    RunsTo w os (x >>= f) s p (n + k) Q := fun K H gd lv => by
  obtain ⟨m, a, s', p', hm, hg, hq⟩ := h1 (fun a => (f a).wrap K H gd lv) H gd lv
  obtain ⟨m2, b, s2, p2, hm2, hg2, hq2⟩ := h2 a s' p' hq K H gd lv
  refine ⟨m + m2, b, s2, p2, Nat.add_le_add hm hm2, ?_, hq2⟩
  rw [Sem.bind_eq_wrap', Sem.wrap_wrap]
  exact goT_add hg hg2
theorem runs_keep {x : Sem α} {vs : List Value} {Q : α → SharedT → Pos → Prop} (h : RunsTo w os x s p n Q) : RunsTo w os (x.keep vs) s p n Q := fun K H gd lv => by
  rw [Sem.keep_eq_wrap, Sem.wrap_wrap]
  exact h K H gd (fun l => lv (vs ++ l))
theorem runs_holding {x : Sem α} {vs : List Value} {Q : α → SharedT → Pos → Prop} (h : RunsTo w os x s p n Q) : RunsTo w os (holding vs x) s p n Q := by
  unfold holding
  split
  · exact h
  · exact runs_keep h
theorem runs_rule {tag : String} {Q : Unit → SharedT → Pos → Prop} (h : Q () s p) : RunsTo w os (rule tag) s p 1 Q := runs_go (s' := s) (p' := p) (fun K H gd lv => by obtain ⟨T, n, life, gens, drawn, toks, os'⟩ := s; rfl) h
theorem runs_at {q : Pos} {Q : Unit → SharedT → Pos → Prop} (h : Q () s q) : RunsTo w os (standAt q) s p 1 Q := runs_go (s' := s) (p' := q) (fun K H gd lv => by obtain ⟨T, n, life, gens, drawn, toks, os'⟩ := s; rfl) h
end
section
variable {w : World} {os : OsState} {es es' : Ent} {ep tk : Nat} {t t' : SetTable} {p : Pos}
theorem runs_load {Q : Obj → SharedT → Pos → Prop} (h : Q (so es ep t) (ZS w os (so es ep t) tk) p) : RunsTo w os (load 230) (ZS w os (so es ep t) tk) p 1 Q :=
  runs_go (s' := ZS w os (so es ep t) tk) (p' := p) (fun K H gd lv => by kernel_rfl) h
theorem runs_put {Q : Unit → SharedT → Pos → Prop} (h : Q () (ZS w os (so es' (ep + 1) t') tk) p) : RunsTo w os (update 230 (Obj.putSet es' t')) (ZS w os (so es ep t) tk) p 1 Q :=
  runs_go (s' := ZS w os (so es' (ep + 1) t') tk) (p' := p) (fun K H gd lv => by kernel_rfl) h
end
end Mine
-- SetB
namespace Mine
open PySem PySem.W PySem.Calls PyProof.Rows
section
variable {w : World} {os : OsState} {es es' : Ent} {ep tk : Nat} {t t' : SetTable} {p : Pos}
theorem runs_setState {Q : (Ent × Nat × SetTable) → SharedT → Pos → Prop} (hf : t.fits es.size = true) (h : Q (es, ep, t) (ZS w os (so es ep t) tk) p) : RunsTo w os (setState 230) (ZS w os (so es ep t) tk) p 1 Q := by
  unfold setState
  refine runs_mono (runs_bind (k := 0) (runs_load (Q := fun o s' p' => o = so es ep t ∧ s' = ZS w os (so es ep t) tk ∧ p' = p) ⟨rfl, rfl, rfl⟩) fun o s' p' hh => ?_) (Nat.le_refl _) fun _ _ _ x => x
  obtain ⟨rfl, rfl, rfl⟩ := hh
  have hc : (t.place.size != es.size || decide (t.fill > t.mask)) = false := by
    simp only [SetTable.fits, Bool.and_eq_true, beq_iff_eq, decide_eq_true_eq] at hf
    simp [hf.1, Nat.not_lt.mpr hf.2]
  dsimp only
  rw [hc]
  exact runs_pure h
theorem runs_storeSet {Q : Unit → SharedT → Pos → Prop} (hz : es'.size ≤ sizeLine) (h : Q () (ZS w os (so es' (ep + 1) t') tk) p) : RunsTo w os (storeSet 230 es' t') (ZS w os (so es ep t) tk) p 2 Q := by
  unfold storeSet
  refine runs_mono (runs_bind (n := 1) (k := 1) (runs_load (Q := fun o s' p' => o = so es ep t ∧ s' = ZS w os (so es ep t) tk ∧ p' = p) ⟨rfl, rfl, rfl⟩) fun o s' p' hh => ?_) (Nat.le_refl _) fun _ _ _ x => x
  obtain ⟨rfl, rfl, rfl⟩ := hh
  dsimp only
  rw [if_neg (Nat.not_lt.mpr hz)]
  first | exact runs_put h | exact runs_mono (runs_bind (n := 0) (k := 1) (runs_pure (Q := fun _ s' p'' => s' = ZS w os (so es ep t) tk ∧ p'' = p') ⟨rfl, rfl⟩) (fun _ _ _ hh => by obtain ⟨rfl, rfl⟩ := hh; exact runs_put h)) (Nat.le_refl _) fun _ _ _ x => x
noncomputable def GoodS (w : World) (xs : List Str) (es : Ent) (t : SetTable) : Prop :=
  ElemsOf (strKind pw w) es.toList ∧ (∀ k, k ∈ xs ↔ ∃ e ∈ es.toList, (strKind pw w).is k e.2 = true) ∧ es.size = xs.length ∧ t.fits es.size = true
theorem isStrOf_shape' {k : Str} {v : Value} (h : Value.isStrOf k v = true) : ∃ t, v = .str k t := Value.isStrOf_shape h
theorem good_exact {xs : List Str} (g : GoodS w xs es t) : es.all (fun e => isExactStrKey e.2) = true := by
  rw [← Array.all_toList, List.all_eq_true]
  intro e he
  obtain ⟨⟨k, hk, _⟩, _⟩ := g.1 e he
  obtain ⟨tt, q⟩ := isStrOf_shape' hk
  rw [q]; rfl
theorem good_find {xs : List Str} (g : GoodS w xs es t) {k : Str} (hk : k ∉ xs) : es.findIdx? (fun e => e.2.isStr k) = none := by
  have : es.findIdx? (fun e => e.2.isStr k) = es.toList.findIdx? (fun e => e.2.isStr k) := by cases es; simp
  rw [this, List.findIdx?_eq_none_iff]
  intro e he
  cases q : e.2.isStr k with
  | false => rfl
  | true =>
    exfalso
    refine hk ((g.2.1 k).mpr ⟨e, he, ?_⟩)
    obtain ⟨⟨k', hk', _⟩, _⟩ := g.1 e he
    obtain ⟨tt, q2⟩ := isStrOf_shape' hk'
    rw [q2] at q ⊢
    have : k' = k := by simpa [Value.isStr] using q
    subst this
    exact strKind_is _ _ _ _
end
end Mine
-- SetC
namespace Mine
open PySem PySem.W PySem.Calls PyProof.Rows
section
variable {w : World} {os : OsState} {es es' : Ent} {ep tk : Nat} {t t' : SetTable} {p : Pos}
theorem good_perm {xs : List Str} {k : Str} {v : Nat} (g : GoodS w xs es t) (hp : List.Perm es'.toList (es.toList ++ [((strKind pw w).hash k, .str k v)])) (hf : t'.fits es'.size = true) : GoodS w (k :: xs) es' t' := by
  refine ⟨(g.1.push (strKind_is _ _ _ _) rfl).perm hp, fun k' => ?_, ?_, hf⟩
  · rw [List.mem_cons, g.2.1 k']
    constructor
    · rintro (rfl | ⟨e, he, hq⟩)
      · exact ⟨_, hp.mem_iff.mpr (List.mem_append_right _ (List.mem_singleton.mpr rfl)), strKind_is _ _ _ _⟩
      · exact ⟨e, hp.mem_iff.mpr (List.mem_append_left _ he), hq⟩
    · rintro ⟨e, he, hq⟩
      rcases List.mem_append.mp (hp.mem_iff.mp he) with he | he
      · exact .inr ⟨e, he, hq⟩
      · rw [List.mem_singleton] at he; subst he
        exact .inl ((strKind pw w).inj _ k' k hq (strKind_is _ _ _ _))
  · rw [← Array.length_toList, hp.length_eq, List.length_append, Array.length_toList, g.2.2.1]; rfl
theorem good_perm0 {xs : List Str} (g : GoodS w xs es t) (hp : List.Perm es'.toList es.toList) (hf : t'.fits es'.size = true) : GoodS w xs es' t' :=
  ⟨g.1.perm hp, fun k' => (g.2.1 k').trans ⟨fun ⟨e, he, q⟩ => ⟨e, hp.mem_iff.mpr he, q⟩, fun ⟨e, he, q⟩ => ⟨e, hp.mem_iff.mp he, q⟩⟩, by rw [← Array.length_toList, hp.length_eq, Array.length_toList]; exact g.2.2.1, hf⟩
theorem small {xs : List Str} (g : GoodS w xs es t) (hx : xs.length < 10) : es.size ≤ sizeLine := by rw [g.2.2.1, sizeLine_eq]; omega

theorem runs_tail {gw : Bool → Sem Unit} (hg : ∀ (b : Bool) (s : SharedT) (Q' : Unit → SharedT → Pos → Prop), Q' () s p → RunsTo w os (gw b) s p 1 Q')
    {xs : List Str} (g : GoodS w xs es' t') (hx : xs.length < 10) {wasDummy : Bool} {Q : Option Bool → SharedT → Pos → Prop}
    (h : ∀ es2 ep2 t2, GoodS w xs es2 t2 → Q (some true) (ZS w os (so es2 ep2 t2) tk) p) :
    RunsTo w os (do
        storeSet 230 es' t'
        if (!wasDummy && t'.tooFull) = true then do
            gw (relayAll t' es' (SetTable.grown es'.size)).2.2
            storeSet 230 (relayAll t' es' (SetTable.grown es'.size)).1 (relayAll t' es' (SetTable.grown es'.size)).2.1
            pure (some true)
          else pure (some true)) (ZS w os (so es ep t) tk) p 5 Q := by
  refine runs_mono (runs_bind (n := 2) (k := 3) (runs_storeSet (Q := fun _ s' p' => s' = ZS w os (so es' (ep + 1) t') tk ∧ p' = p) (small g hx) ⟨rfl, rfl⟩) fun _ s' p' hh => ?_) (Nat.le_refl _) fun _ _ _ x => x
  obtain ⟨rfl, rfl⟩ := hh
  split
  · have hp := relayAll_perm t' es' (SetTable.grown es'.size)
    have hfr := relayAll_fits t' es' (SetTable.grown es'.size)
    generalize hRl : relayAll t' es' (SetTable.grown es'.size) = Rl at hp hfr ⊢
    obtain ⟨es2, t3, gave2⟩ := Rl
    dsimp only at hp hfr ⊢
    have g2 := good_perm0 g hp hfr
    refine runs_mono (runs_bind (n := 1) (k := 2) (hg gave2 _ (fun _ s' p2 => s' = ZS w os (so es' (ep + 1) t') tk ∧ p2 = p') ⟨rfl, rfl⟩) fun _ s' p' hh => ?_) (Nat.le_refl _) fun _ _ _ x => x
    obtain ⟨rfl, rfl⟩ := hh
    refine runs_mono (runs_bind (n := 2) (k := 0) (runs_storeSet (Q := fun _ s' p2 => s' = ZS w os (so es2 (ep + 1 + 1) t3) tk ∧ p2 = p') (small g2 hx) ⟨rfl, rfl⟩) fun _ s' p' hh => ?_) (Nat.le_refl _) fun _ _ _ x => x
    obtain ⟨rfl, rfl⟩ := hh
    exact runs_pure (h _ _ _ g2)
  · exact runs_pure (h _ _ _ g)
theorem pyHash_go0 (w : World) : ∀ (os : OsState) (K : Int → Sem PySem.Fin) (H : Value → Sem PySem.Fin) (gd : Bool → Bool) (lv : List Value → List Value) (T : BT) (n : Nat) (life : Life) (gens : Array GenState) (drawn : Drawn) (tk : Nat) (os' : OsState) (p : Pos) (k : Str) (u : Nat),
    goT w 7 ⟨T, n, life, gens, drawn, tk, os'⟩ ⟨(pyHash (.str k u)).wrap K H gd lv, cd6, p, B6 w os⟩ = some (⟨T, n, life, gens, drawn, tk + 1, os'⟩, ⟨K (hashStr w k), cd6, p, B6 w os⟩) := by
  refine byRow2 "special-get-raises" (P := fun w => ∀ (os : OsState) (K : Int → Sem PySem.Fin) (H : Value → Sem PySem.Fin) (gd : Bool → Bool) (lv : List Value → List Value) (T : BT) (n : Nat) (life : Life) (gens : Array GenState) (drawn : Drawn) (tk : Nat) (os' : OsState) (p : Pos) (k : Str) (u : Nat),
    goT w 7 ⟨T, n, life, gens, drawn, tk, os'⟩ ⟨(pyHash (.str k u)).wrap K H gd lv, cd6, p, B6 w os⟩ = some (⟨T, n, life, gens, drawn, tk + 1, os'⟩, ⟨K (hashStr w k), cd6, p, B6 w os⟩)) ?_ ?_ w
  · intro w os K H gd lv T n life gens drawn tk os' p k u
    kernel_rfl
  · intro w os K H gd lv T n life gens drawn tk os' p k u
    kernel_rfl
end
end Mine
-- SetD
namespace Mine
open PySem PySem.W PySem.Calls PyProof.Rows
section
variable {w : World} {os : OsState} {es es' : Ent} {ep tk : Nat} {t t' : SetTable} {p : Pos}
theorem runs_hash {k : Str} {u : Nat} {Q : Int → SharedT → Pos → Prop} {o : Obj} (h : Q (hashStr w k) (ZS w os o (tk + 1)) p) : RunsTo w os (pyHash (.str k u)) (ZS w os o tk) p 7 Q :=
  runs_go (s' := ZS w os o (tk + 1)) (p' := p) (fun K H gd lv => pyHash_go0 w os K H gd lv _ _ _ _ _ _ _ _ _ _) h
theorem runs_addScan {xs : List Str} (g : GoodS w xs es t) {k : Str} {u : Nat} (hk : k ∉ xs) (hx : xs.length < 9) {Q : Option Bool → SharedT → Pos → Prop}
    (h : ∀ es2 ep2 t2, GoodS w (k :: xs) es2 t2 → Q (some true) (ZS w os (so es2 ep2 t2) tk) p) :
    RunsTo w os (setAddByScan 230 (.str k u) (hashStr w k) es t) (ZS w os (so es ep t) tk) p 7 Q := by
  unfold setAddByScan
  refine runs_mono (runs_bind (n := 1) (k := 6) (runs_rule (Q := fun _ s' p' => s' = ZS w os (so es ep t) tk ∧ p' = p) ⟨rfl, rfl⟩) fun _ s' p' hh => ?_) (Nat.le_refl _) fun _ _ _ x => x
  obtain ⟨rfl, rfl⟩ := hh
  have hscan : setScan 230 (.str k u) (hashStr w k) true es = pure .absent := by
    unfold setScan
    dsimp only
    rw [if_pos (good_exact g)]
    unfold setScanStrs
    rw [good_find g hk]
  rw [hscan]
  refine runs_mono (runs_bind (n := 0) (k := 6) (runs_pure (Q := fun a s' p2 => a = .absent ∧ s' = ZS w os (so es ep t) tk ∧ p2 = p') ⟨rfl, rfl, rfl⟩) fun a s' p' hh => ?_) (Nat.le_refl _) fun _ _ _ x => x
  obtain ⟨rfl, rfl, rfl⟩ := hh
  dsimp only
  have hgw : ∀ (b : Bool) (s : SharedT) (p : Pos) (Q' : Unit → SharedT → Pos → Prop), Q' () s p → RunsTo w os (match b with | true => rule "set.scan.the-table-gave-way" | false => pure ()) s p 1 Q' :=
    fun b s p Q' hq => by cases b <;> first | exact runs_mono (runs_pure (n := 1) hq) (Nat.le_refl _) (fun _ _ _ x => x) | exact runs_rule hq
  have hperm := layNew_perm t es (hashStr w k) (.str k u)
  have hfits := layNew_fits t es (hashStr w k) (.str k u)
  generalize hL : layNew t es (hashStr w k) (.str k u) = L at hperm hfits ⊢
  obtain ⟨es1, t1, wasDummy, gave⟩ := L
  dsimp only at hperm hfits ⊢
  rw [Array.toList_push] at hperm
  have g1 : GoodS w (k :: xs) es1 t1 := good_perm g hperm hfits
  have hx1 : (k :: xs).length < 10 := by rw [List.length_cons]; omega
  refine runs_mono (runs_bind (n := 1) (k := 5) (hgw gave _ _ (fun _ s' p2 => s' = ZS w os (so es ep t) tk ∧ p2 = p') ⟨rfl, rfl⟩) fun a s' p' hh => ?_) (Nat.le_refl _) fun _ _ _ x => x
  obtain ⟨rfl, rfl⟩ := hh
  have goff : GoodS w (k :: xs) es1 { t1 with plain := false } := ⟨g1.1, g1.2.1, g1.2.2.1, SetTable.fits_plain_off g1.2.2.2⟩
  split
  · rw [hashByValue_scannable 8 (x := .str k u) rfl]
    refine runs_mono (runs_bind (n := 0) (k := 5) (runs_pure (Q := fun a s' p2 => a = plainKind (.str k u) ∧ s' = ZS w os (so es ep t) tk ∧ p2 = p') ⟨rfl, rfl, rfl⟩) fun a s' p' hh => ?_) (Nat.le_refl _) fun _ _ _ x => x
    obtain ⟨rfl, rfl, rfl⟩ := hh
    refine runs_tail (gw := fun b => match b with | true => rule "set.scan.the-table-gave-way" | false => pure ()) (fun b s Q' hq => hgw b s _ Q' hq) ?_ hx1 (fun es2 ep2 t2 g2 => h es2 ep2 t2 g2)
    exact goff
  · refine runs_mono (runs_bind (n := 0) (k := 5) (runs_pure (Q := fun a s' p2 => a = true ∧ s' = ZS w os (so es ep t) tk ∧ p2 = p') ⟨rfl, rfl, rfl⟩) fun a s' p' hh => ?_) (Nat.le_refl _) fun _ _ _ x => x
    obtain ⟨rfl, rfl, rfl⟩ := hh
    exact runs_tail (gw := fun b => match b with | true => rule "set.scan.the-table-gave-way" | false => pure ()) (fun b s Q' hq => hgw b s _ Q' hq) (by first | exact g1 | simpa using g1) hx1 (fun es2 ep2 t2 g2 => h es2 ep2 t2 g2)
theorem runs_add {xs : List Str} (g : GoodS w xs es t) {k : Str} {u : Nat} (hk : k ∉ xs) (hx : xs.length < 9) {Q : Bool → SharedT → Pos → Prop}
    (h : ∀ es2 ep2 t2, GoodS w (k :: xs) es2 t2 → Q true (ZS w os (so es2 ep2 t2) (tk + 1)) p) :
    RunsTo w os (setAdd 230 (.str k u)) (ZS w os (so es ep t) tk) p 15 Q := by
  unfold setAdd
  refine runs_holding (runs_mono (runs_bind (n := 7) (k := 8) (runs_hash (Q := fun a s' p2 => a = hashStr w k ∧ s' = ZS w os (so es ep t) (tk + 1) ∧ p2 = p) ⟨rfl, rfl, rfl⟩) fun a s' p' hh => ?_) (Nat.le_refl _) fun _ _ _ x => x)
  obtain ⟨rfl, rfl, rfl⟩ := hh
  unfold setAddHashed setAddHashedIn
  refine runs_holding (runs_mono (runs_bind (n := 1) (k := 7) (runs_setState (Q := fun a s' p2 => a = (es, ep, t) ∧ s' = ZS w os (so es ep t) (tk + 1) ∧ p2 = p') g.2.2.2 ⟨rfl, rfl, rfl⟩) fun a s' p' hh => ?_) (Nat.le_refl _) fun _ _ _ x => x)
  obtain ⟨rfl, rfl, rfl⟩ := hh
  dsimp only
  have hb : es.size < scanBound := by have : scanBound = 4096 := rfl; rw [g.2.2.1, this]; omega
  rw [byScan_of (x := .str k u) rfl hb g.1]
  simp only [↓reduceIte]
  refine runs_mono (runs_bind (n := 7) (k := 0) (runs_addScan g hk hx (Q := fun a s' p2 => a = some true ∧ p2 = p' ∧ ∃ es2 ep2 t2, GoodS w (k :: xs) es2 t2 ∧ s' = ZS w os (so es2 ep2 t2) (tk + 1)) fun es2 ep2 t2 g2 => ⟨rfl, rfl, es2, ep2, t2, g2, rfl⟩) fun a s' p' hh => ?_) (Nat.le_refl _) fun _ _ _ x => x
  obtain ⟨rfl, rfl, es2, ep2, t2, g2, rfl⟩ := hh
  exact runs_pure (h es2 ep2 t2 g2)
theorem runs_unled {xs : List Str} (g : GoodS w xs es t) (hx : xs.length < 10) {Q : Unit → SharedT → Pos → Prop}
    (h : ∀ ep2 t2, GoodS w xs es t2 → Q () (ZS w os (so es ep2 t2) tk) p) : RunsTo w os (setUnled 230) (ZS w os (so es ep t) tk) p 3 Q := by
  unfold setUnled
  refine runs_mono (runs_bind (n := 1) (k := 2) (runs_setState (Q := fun a s' p2 => a = (es, ep, t) ∧ s' = ZS w os (so es ep t) tk ∧ p2 = p) g.2.2.2 ⟨rfl, rfl, rfl⟩) fun a s' p' hh => ?_) (Nat.le_refl _) fun _ _ _ x => x
  obtain ⟨rfl, rfl, rfl⟩ := hh
  dsimp only
  exact runs_storeSet (small g hx) (h _ _ ⟨g.1, g.2.1, g.2.2.1, by have := g.2.2.2; cases t; exact this⟩)
end
end Mine
-- SetE
namespace Mine
open PySem PySem.W PySem.Calls PyProof.Rows
noncomputable def gvS : Stmt := (cb6[0]?).getD noSt
noncomputable def gvT : Stmt → List PySem.Expr
  | .Assign ts _ _ => ts
  | _ => []
noncomputable def gvV : Stmt → List PySem.Expr
  | .Assign _ (.Set es _ _) _ => es
  | _ => []
noncomputable def elts6 : List PySem.Expr := gvV gvS
noncomputable def setPos : Pos := ⟨194, 10, 194, 35⟩
noncomputable def restSet (v : Value) : Sem Flow := assignAll v ((assignEach (gvT gvS) cenv6).map (·.2)) >>= fun _ => pure .next
theorem exec_gv : exec gvS cenv6 = (standAt ⟨194, 4, 194, 35⟩ >>= fun _ => eval (.Set elts6 0 setPos) cenv6 >>= restSet) := by kernel_rfl
section
variable {w : World} {os : OsState} {es es' : Ent} {ep tk : Nat} {t t' : SetTable} {p : Pos}
theorem runs_for {f : Value → PUnit → Sem (ForInStep PUnit)} (hf : ∀ (x : Value) (P : SharedT → Pos → Prop) (s : SharedT) (p : Pos), RunsTo w os (setAdd 230 x) s p 15 (fun _ s' p' => P s' p') → RunsTo w os (f x PUnit.unit) s p 15 (fun st s' p' => st = .yield PUnit.unit ∧ P s' p')) :
    ∀ (l : List (Str × Nat)) (xs : List Str) (es : Ent) (ep : Nat) (t : SetTable) (tk : Nat) (p : Pos), GoodS w xs es t → (l.map (·.1) ++ xs).Nodup → xs.length + l.length < 10 →
      RunsTo w os (forIn (l.map fun x => Value.str x.1 x.2) PUnit.unit f) (ZS w os (so es ep t) tk) p (15 * l.length) (fun _ s' p' => p' = p ∧ ∃ es2 ep2 t2, GoodS w (l.reverse.map (·.1) ++ xs) es2 t2 ∧ s' = ZS w os (so es2 ep2 t2) (tk + l.length)) := by
  intro l
  induction l with
  | nil =>
    intro xs es ep t tk p g _ _
    rw [List.map_nil, List.forIn_nil]
    exact runs_pure ⟨rfl, es, ep, t, g, rfl⟩
  | cons x l ih =>
    intro xs es ep t tk p g hn hx
    obtain ⟨k, u⟩ := x
    rw [List.map_cons, List.forIn_cons]
    rw [List.map_cons, List.cons_append, List.nodup_cons] at hn
    rw [List.length_cons] at hx
    have hk : k ∉ xs := fun h => hn.1 (List.mem_append_right _ h)
    refine runs_mono (runs_bind (n := 15) (k := 15 * l.length) (hf (.str k u) (fun s' p' => p' = p ∧ ∃ es2 ep2 t2, GoodS w (k :: xs) es2 t2 ∧ s' = ZS w os (so es2 ep2 t2) (tk + 1)) _ p
      (runs_add g hk (by omega) fun es2 ep2 t2 g2 => ⟨rfl, es2, ep2, t2, g2, rfl⟩)) fun st s' p' hh => ?_) (by rw [List.length_cons]; omega) fun _ _ _ x => x
    obtain ⟨rfl, rfl, es2, ep2, t2, g2, rfl⟩ := hh
    have ih := ih (k :: xs) es2 ep2 t2 (tk + 1) p' g2 (by
      have h1 := hn.2
      have h2 := hn.1
      refine (List.perm_middle (l₁ := l.map (·.1)) (l₂ := xs) (a := k)).nodup_iff.mpr ?_
      exact List.nodup_cons.mpr ⟨h2, h1⟩) (by rw [List.length_cons]; omega)
    refine runs_mono ih (Nat.le_refl _) fun _ s' p' hh => ?_
    obtain ⟨rfl, es3, ep3, t3, g3, rfl⟩ := hh
    refine ⟨rfl, es3, ep3, t3, ?_, ?_⟩
    · rw [List.reverse_cons, List.map_append, List.append_assoc]; exact g3
    · rw [List.length_cons]; congr 1; omega
theorem main_go (K : Bool → Sem PySem.Fin) (H : Value → Sem PySem.Fin) (gd : Bool → Bool) (lv : List Value → List Value) : goT w 2 (Z13 w os) ⟨(inMainModule cenv6).wrap K H gd lv, cd6, p, B6 w os⟩ = some (Z13 w os, ⟨K true, cd6, p, B6 w os⟩) := by kernel_rfl
theorem new_go (K : Value → Sem PySem.Fin) (H : Value → Sem PySem.Fin) (gd : Bool → Bool) (lv : List Value → List Value) :
    goT w 2 (Z13 w os) ⟨(newSet (.type "set")).wrap K H gd lv, cd6, p, B6 w os⟩ = some (ZS w os (so #[] 0 (.fresh 0 0 (!w.params.followText "set-order"))) 485, ⟨K (.ref 230), cd6, p, B6 w os⟩) := by kernel_rfl
noncomputable def vals6 : List (Str × Nat) := [(Str.ofString "a", 485), (Str.ofString "e", 486), (Str.ofString "i", 487), (Str.ofString "o", 488), (Str.ofString "u", 489)]
theorem elts_go (K : List Value → Sem PySem.Fin) (H : Value → Sem PySem.Fin) (gd : Bool → Bool) (lv : List Value → List Value) :
    goT w 10 (ZS w os (so es ep t) 485) ⟨(evalAll ((evalEach elts6 cenv6).map fun t => do let v ← t; standAt setPos; pure v)).wrap K H gd lv, cd6, p, B6 w os⟩ = some (ZS w os (so es ep t) 490, ⟨K (vals6.map fun x => Value.str x.1 x.2), cd6, setPos, B6 w os⟩) := by kernel_rfl
end
end Mine
-- SetF
namespace Mine
open PySem PySem.W PySem.Calls PyProof.Rows
section
variable {w : World} {os : OsState} {p : Pos}
theorem star_elts : starEach elts6 cenv6 = (evalEach elts6 cenv6).map fun t => (false, t) := by rfl
noncomputable def vowels : List Str := [Str.ofString "u", Str.ofString "o", Str.ofString "i", Str.ofString "e", Str.ofString "a"]
theorem runs_display {Q : Value → SharedT → Pos → Prop} (h : ∀ es ep t, GoodS w vowels es t → Q (.ref 230) (ZS w os (so es ep t) 495) setPos) :
    RunsTo w os (eval (.Set elts6 0 setPos) cenv6) (Z13 w os) p 94 Q := by
  rw [arm_eval_Set]
  refine runs_mono (runs_bind (n := 1) (k := 93) (runs_at (Q := fun _ s' p' => s' = Z13 w os ∧ p' = setPos) ⟨rfl, rfl⟩) fun _ s' p' hh => ?_) (Nat.le_refl _) fun _ _ _ x => x
  obtain ⟨rfl, rfl⟩ := hh
  refine runs_mono (runs_bind (n := 2) (k := 91) (runs_go (p' := setPos) (s' := Z13 w os) (fun K H gd lv => main_go K H gd lv) (Q := fun b s' p' => b = true ∧ s' = Z13 w os ∧ p' = setPos) ⟨rfl, rfl, rfl⟩) fun b s' p' hh => ?_) (Nat.le_refl _) fun _ _ _ x => x
  obtain ⟨rfl, rfl, rfl⟩ := hh
  rw [star_elts, List.map_map]
  unfold setDisplay
  have hroad : displayRoad 0 elts6 = .unsure := by rfl
  rw [hroad]
  have hr1 : (DisplayRoad.unsure == DisplayRoad.constants) = false := by rfl
  have hr2 : (DisplayRoad.unsure == DisplayRoad.unsure) = true := by rfl
  dsimp only
  rw [hr1, if_neg Bool.false_ne_true]
  refine runs_mono (runs_bind (n := 2) (k := 89) (runs_go (p' := setPos) (fun K H gd lv => new_go K H gd lv) (Q := fun v s' p' => v = .ref 230 ∧ s' = ZS w os (so #[] 0 (.fresh 0 0 (!w.params.followText "set-order"))) 485 ∧ p' = setPos) ⟨rfl, rfl, rfl⟩) fun v s' p' hh => ?_) (Nat.le_refl _) fun _ _ _ x => x
  obtain ⟨rfl, rfl, rfl⟩ := hh
  dsimp only
  have hgoal : RunsTo w os (holding [Value.ref 230] (evalAll ((evalEach elts6 cenv6).map fun t => (do let v ← t; standAt setPos; pure v)) >>= fun first => holding first (
      (forIn first PUnit.unit fun x (__s : PUnit) => (do let _ ← setAdd 230 x; pure (ForInStep.yield PUnit.unit))) >>= fun (_ : PUnit) => (if (DisplayRoad.unsure == DisplayRoad.unsure) = true then (do rule "set.display.perhaps-of-constants"; setUnled 230) else pure ())) >>= fun (_ : Unit) =>
      (forIn ([] : List (Bool × Sem Value)) PUnit.unit fun x (__s : PUnit) => (do
              let v ← x.snd
              if x.fst = true then do
                  holding [v] (setDisplayStar 230 v)
                  pure (ForInStep.yield PUnit.unit)
                else do
                  let _ ← holding [v] (setAdd 230 v)
                  pure (ForInStep.yield PUnit.unit))) >>= fun (_ : PUnit) => pure ()) >>= fun (_ : Unit) => pure (Value.ref 230))
    (ZS w os (so #[] 0 (SetTable.fresh 0 0 !w.params.followText "set-order")) 485) setPos 89 Q := by
    refine runs_mono (runs_bind (n := 89) (k := 0) (runs_holding (Q := fun _ s' p' => p' = setPos ∧ ∃ es ep t, GoodS w vowels es t ∧ s' = ZS w os (so es ep t) 495) ?_) fun v s' p' hh => ?_) (Nat.le_refl _) fun _ _ _ x => x
    · refine runs_mono (runs_bind (n := 10) (k := 79) (runs_go (p' := setPos) (fun K H gd lv => elts_go K H gd lv) (Q := fun v s' p' => v = (vals6.map fun x => Value.str x.1 x.2) ∧ s' = ZS w os (so #[] 0 (.fresh 0 0 (!w.params.followText "set-order"))) 490 ∧ p' = setPos) ⟨rfl, rfl, rfl⟩) fun v s' p' hh => ?_) (Nat.le_refl _) fun _ _ _ x => x
      obtain ⟨rfl, rfl, rfl⟩ := hh
      refine runs_mono (runs_bind (n := 79) (k := 0) (runs_holding (Q := fun _ s' p' => p' = setPos ∧ ∃ es ep t, GoodS w vowels es t ∧ s' = ZS w os (so es ep t) 495) ?_) fun v s' p' hh => ?_) (Nat.le_refl _) fun _ _ _ x => x
      · have g0 : GoodS w [] #[] (SetTable.fresh 0 0 !w.params.followText "set-order") := ⟨fun e he => by simp at he, fun k => by simp, rfl, by rfl⟩
        refine runs_mono (runs_bind (n := 75) (k := 3 + 1) (runs_for (fun x P s p hx => ?_) vals6 [] _ 0 _ 490 setPos g0 ?_ ?_) fun v s' p' hh => ?_) (by decide) fun _ _ _ x => x
        · refine runs_mono (runs_bind (n := 15) (k := 0) hx fun _ s' p' hh => ?_) (Nat.le_refl _) fun _ _ _ x => x
          exact runs_pure ⟨rfl, hh⟩
        · decide +kernel
        · decide
        · obtain ⟨rfl, es, ep, t, g, rfl⟩ := hh
          rw [hr2, if_pos rfl]
          refine runs_mono (runs_bind (n := 1) (k := 3) (runs_rule (Q := fun _ s' p' => s' = ZS w os (so es ep t) 495 ∧ p' = setPos) ⟨rfl, rfl⟩) fun _ s' p' hh => ?_) (Nat.le_refl _) fun _ _ _ x => x
          obtain ⟨rfl, rfl⟩ := hh
          have g' : GoodS w vowels es t := by simpa [vals6, vowels] using g
          exact runs_unled g' (by decide) fun ep2 t2 g2 => ⟨rfl, _, _, _, g2, rfl⟩
      · rw [List.forIn_nil]
        refine runs_mono (runs_bind (n := 0) (k := 0) (runs_pure (Q := fun _ s2 p2 => s2 = s' ∧ p2 = p') ⟨rfl, rfl⟩) fun _ s2 p2 h2 => ?_) (Nat.le_refl _) fun _ _ _ x => x
        obtain ⟨rfl, rfl⟩ := h2
        exact runs_pure hh
    · obtain ⟨rfl, es, ep, t, g, rfl⟩ := hh
      exact runs_pure (h es ep t g)
  exact hgoal
end
end Mine
-- SetG
namespace Mine
open PySem PySem.W PySem.Calls PyProof.Rows
noncomputable def KD (a : Flow) : Sem PySem.Fin := .pure (.done a)
noncomputable def HD (env : Env) (e : Value) : Sem PySem.Fin := ((leaving env e).bind fun _ => (Sem.raise e : Sem Flow)).wrap (fun f => Sem.pure (Fin.done f)) .raise id id
theorem cont_eq (l : List Stmt) (env : Env) : cont l env = (execs l env).wrap KD (HD env) id id := by
  unfold cont
  rw [← PySem.W.Fast.te12563942051412417395, ← PySem.W.Fast.te9442747609961115081, ← R.bindR_eq, ← R.onRaiseR_eq, Sem.bind_eq_wrap, Sem.onRaise_eq_wrap, Sem.wrap_wrap]
  rfl
noncomputable def K1 (f : Flow) : Sem PySem.Fin := match f with
  | .next => (execs (cb6.drop 1) cenv6).wrap KD (HD cenv6) id id
  | f => KD f
theorem cb6_cons : cb6.drop 0 = gvS :: cb6.drop 1 := by kernel_rfl
theorem cont13 : cont (cb6.drop 0) cenv6 = ((standAt ⟨194, 4, 194, 35⟩ >>= fun _ => eval (.Set elts6 0 setPos) cenv6) : Sem Value).wrap (fun v => (restSet v).wrap K1 (HD cenv6) id id) (HD cenv6) id id := by
  rw [cont_eq, cb6_cons, execs_cons_wrap, exec_gv]
  have : (standAt ⟨194, 4, 194, 35⟩ >>= fun _ => eval (.Set elts6 0 setPos) cenv6 >>= restSet) = ((standAt ⟨194, 4, 194, 35⟩ >>= fun _ => eval (.Set elts6 0 setPos) cenv6) >>= restSet) := by rfl
  rw [this, Sem.bind_eq_wrap' _ restSet, Sem.wrap_wrap]
  rfl
section
variable {w : World} {os : OsState} {es : Ent} {ep : Nat} {t : SetTable}
theorem last_go : goT w 8 (ZS w os (so es ep t) 495) ⟨(restSet (.ref 230)).wrap K1 (HD cenv6) id id, cd6, setPos, B6 w os⟩ = some (Z14 w es ep t os, ⟨(execs (cb6.drop 1) cenv6).wrap KD (HD cenv6) id id, cd6, ⟨194, 4, 194, 7⟩, B6 w os⟩) := by kernel_rfl
end
theorem seg14 (w : World) (os : OsState) : ∃ m es ep t, m ≤ 103 ∧ GoodS w vowels es t ∧ goT w m (Z13 w os) (th13 w os) = some (Z14 w es ep t os, th14 w os) := by
  have hx : RunsTo w os ((standAt ⟨194, 4, 194, 35⟩ >>= fun _ => eval (.Set elts6 0 setPos) cenv6) : Sem Value) (Z13 w os) ⟨193, 0, 281, 113⟩ 95 (fun v s' p' => v = .ref 230 ∧ p' = setPos ∧ ∃ es ep t, GoodS w vowels es t ∧ s' = ZS w os (so es ep t) 495) := by
    refine runs_mono (runs_bind (n := 1) (k := 94) (runs_at (Q := fun _ s' p' => s' = Z13 w os) rfl) fun _ s' p' hh => ?_) (Nat.le_refl _) fun _ _ _ x => x
    obtain rfl := hh
    exact runs_display fun es ep t g => ⟨rfl, rfl, es, ep, t, g, rfl⟩
  obtain ⟨m, a, s', p', hm, hg, rfl, rfl, es, ep, t, g, rfl⟩ := hx (fun v => (restSet v).wrap K1 (HD cenv6) id id) (HD cenv6) id id
  refine ⟨m + 8, es, ep, t, by omega, g, ?_⟩
  unfold th13 th14
  rw [cont13, cont_eq]
  exact goT_add hg last_go
end Mine
-- Segs
namespace Mine
open PySem PySem.W
theorem seg1 (w : World) (os : OsState) : goT w 12 (Z0 w os) (th0 w os) = some (Z1 w os, th1 w os) := by kernel_rfl
theorem seg2 (w : World) (os : OsState) : goT w 29 (Z1 w os) (th1 w os) = some (Z2 w os, th2 w os) := by kernel_rfl
theorem seg3 (w : World) (os : OsState) : goT w 9 (Z2 w os) (th2 w os) = some (Z3 w os, th3 w os) := by kernel_rfl
theorem seg4 (w : World) (os : OsState) : goT w 59 (Z3 w os) (th3 w os) = some (Z4 w os, th4 w os) := by kernel_rfl
theorem seg5 (w : World) (os : OsState) : goT w 215 (Z4 w os) (th4 w os) = some (Z5 w os, th5 w os) := by kernel_rfl
theorem seg6 (w : World) (os : OsState) : goT w 217 (Z5 w os) (th5 w os) = some (Z6 w os, th6 w os) := by kernel_rfl
theorem seg7 (w : World) (os : OsState) : goT w 214 (Z6 w os) (th6 w os) = some (Z7 w os, th7 w os) := by kernel_rfl
theorem seg8 (w : World) (os : OsState) : goT w 118 (Z7 w os) (th7 w os) = some (Z8 w os, th8 w os) := by kernel_rfl
theorem seg9 (w : World) (os : OsState) : goT w 160 (Z8 w os) (th8 w os) = some (Z9 w os, th9 w os) := by kernel_rfl
theorem seg10 (w : World) (os : OsState) : goT w 9 (Z9 w os) (th9 w os) = some (Z10 w os, th10 w os) := by kernel_rfl
theorem seg11 (w : World) (os : OsState) : goT w 226 (Z10 w os) (th10 w os) = some (Z11 w os, th11 w os) := by kernel_rfl
theorem seg12 (w : World) (os : OsState) : goT w 9 (Z11 w os) (th11 w os) = some (Z12 w os, th12 w os) := by kernel_rfl
theorem seg13 (w : World) (os : OsState) : goT w 64 (Z12 w os) (th12 w os) = some (Z13 w os, th13 w os) := by kernel_rfl
theorem seg15 (w : World) (es : Ent) (ep : Nat) (t : SetTable) (os : OsState) : goT w 168 (Z14 w es ep t os) (th14 w os) = some (Z15 w es ep t os, th15 w os) := by kernel_rfl
theorem seg16 (w : World) (es : Ent) (ep : Nat) (t : SetTable) (os : OsState) : goT w 1411 (Z15 w es ep t os) (th15 w os) = some (Z16 w es ep t os, th16 w os) := by kernel_rfl
theorem seg17 (w : World) (es : Ent) (ep : Nat) (t : SetTable) (os : OsState) : goT w 1526 (Z16 w es ep t os) (th16 w os) = some (Z17 w es ep t os, th17 w os) := by kernel_rfl
theorem seg18 (w : World) (es : Ent) (ep : Nat) (t : SetTable) (os : OsState) : goT w 856 (Z17 w es ep t os) (th17 w os) = some (Z18 w es ep t os, th18 w os) := by kernel_rfl
theorem seg19 (w : World) (es : Ent) (ep : Nat) (t : SetTable) (os : OsState) : goT w 162 (Z18 w es ep t os) (th18 w os) = some (Z19 w es ep t os, th19 w os) := by kernel_rfl
theorem seg20 (w : World) (es : Ent) (ep : Nat) (t : SetTable) (os : OsState) : goT w 196 (Z19 w es ep t os) (th19 w os) = some (Z20 w es ep t os, th20 w os) := by kernel_rfl
theorem seg21 (w : World) (es : Ent) (ep : Nat) (t : SetTable) (os : OsState) : goT w 9 (Z20 w es ep t os) (th20 w os) = some (Z21 w es ep t os, th21 w os) := by kernel_rfl
theorem seg22 (w : World) (es : Ent) (ep : Nat) (t : SetTable) (os : OsState) : goT w 28 (Z21 w es ep t os) (th21 w os) = some (Z22 w es ep t os, th22 w os) := by kernel_rfl
theorem seg23 (w : World) (es : Ent) (ep : Nat) (t : SetTable) (os : OsState) : goT w 15 (Z22 w es ep t os) (th22 w os) = some (Z23 w es ep t os, th23 w os) := by kernel_rfl
theorem seg24 (w : World) (es : Ent) (ep : Nat) (t : SetTable) (os : OsState) : goT w 19 (Z23 w es ep t os) (th23 w os) = some (Z24 w es ep t os, th24 w os) := by kernel_rfl
theorem seg25 (w : World) (es : Ent) (ep : Nat) (t : SetTable) (os : OsState) : goT w 18 (Z24 w es ep t os) (th24 w os) = some (Z25 w es ep t os, th25 w os) := by kernel_rfl
theorem seg26 (w : World) (es : Ent) (ep : Nat) (t : SetTable) (os : OsState) : goT w 9 (Z25 w es ep t os) (th25 w os) = some (Z26 w es ep t os, th26 w os) := by kernel_rfl
theorem seg27 (w : World) (es : Ent) (ep : Nat) (t : SetTable) (os : OsState) : goT w 26 (Z26 w es ep t os) (th26 w os) = some (Z27 w es ep t os, th27 w os) := by kernel_rfl
theorem seg28 (w : World) (es : Ent) (ep : Nat) (t : SetTable) (os : OsState) : goT w 30 (Z27 w es ep t os) (th27 w os) = some (Z28 w es ep t os, th28 w os) := by kernel_rfl
theorem seg29 (w : World) (es : Ent) (ep : Nat) (t : SetTable) (os : OsState) : goT w 32 (Z28 w es ep t os) (th28 w os) = some (Z29 w es ep t os, th29 w os) := by kernel_rfl
theorem seg30 (w : World) (es : Ent) (ep : Nat) (t : SetTable) (os : OsState) : goT w 32 (Z29 w es ep t os) (th29 w os) = some (Z30 w es ep t os, th30 w os) := by kernel_rfl
theorem seg31 (w : World) (es : Ent) (ep : Nat) (t : SetTable) (os : OsState) : goT w 26 (Z30 w es ep t os) (th30 w os) = some (Z31 w es ep t os, th31 w os) := by kernel_rfl
end Mine
-- HeadJ
namespace Mine
open PySem PySem.W PySem.Calls PyProof.Rows
theorem stepF_eq : stepF = stepT (denote treeTable) pw := by
  show PySem.W.Fast.tw10156331382660048174 (PySem.W.Fast.tw11892475500146522536 PySem.W.Fast.tw14364793385576792824) pw = _
  rw [← PySem.W.Fast.te10156331382660048174, ← PySem.W.Fast.te11892475500146522536, ← PySem.W.Fast.te14364793385576792824]
theorem goT_spec {w : World} : ∀ {n : Nat} {s s' : SharedT} {t t' : Thread}, goT w n s t = some (s', t') → topGo treeTable pw w 11 (some (.ref 6)) n s.abs t = some (s'.abs, t')
  | 0, s, s', t, t', h => by cases h; rfl
  | n + 1, s, s', t, t', h => by
    unfold goT at h
    unfold topGo
    cases ht : through t with
    | true => rw [ht] at h; cases h
    | false =>
      rw [ht] at h
      cases hk : stepOk 11 (some (.ref 6)) t with
      | false => rw [hk] at h; cases h
      | true =>
        rw [hk] at h
        rw [stepF_eq] at h
        cases hs : stepT (denote treeTable) pw w s t with
        | none => rw [hs] at h; cases h
        | some x =>
          obtain ⟨s2, t2⟩ := x
          rw [hs] at h
          dsimp only
          rw [stepT_spec hs]
          exact goT_spec h
-- a part of the run, some steps or fewer
noncomputable def Part (w : World) (n : Nat) (s : SharedT) (t : Thread) (s' : SharedT) (t' : Thread) : Prop := ∃ m, m ≤ n ∧ goT w m s t = some (s', t')
theorem part_of {w : World} {n : Nat} {s s' : SharedT} {t t' : Thread} (h : goT w n s t = some (s', t')) : Part w n s t s' t' := ⟨n, Nat.le_refl _, h⟩
theorem part_add {w : World} {n k : Nat} {s s' s2 : SharedT} {t t' t2 : Thread} (h : Part w n s t s' t') (h2 : Part w k s' t' s2 t2) : Part w (n + k) s t s2 t2 := by
  obtain ⟨m, hm, h⟩ := h
  obtain ⟨m2, hm2, h2⟩ := h2
  exact ⟨m + m2, Nat.add_le_add hm hm2, goT_add h h2⟩
theorem last (w : World) (es : Ent) (ep : Nat) (t : SetTable) (os : OsState) : topRun treeTable pw w 11 (some (.ref 6)) 3 (Z31 w es ep t os).abs (th31 w os) = some (Z31 w es ep t os).abs := by
  rw [PySem.W.Fast.te14082659384304107361]
  kernel_rfl
theorem whole (w : World) (os : OsState) : ∃ es ep t, GoodS w vowels es t ∧ Part w 6007 (Z0 w os) (topStub pw) (Z31 w es ep t os) (th31 w os) := by
  obtain ⟨m, es, ep, t, hm, g, hg⟩ := seg14 w os
  exact ⟨es, ep, t, g, part_add (part_of (seg1 w os)) (part_add (part_of (seg2 w os)) (part_add (part_of (seg3 w os)) (part_add (part_of (seg4 w os)) (part_add (part_of (seg5 w os)) (part_add (part_of (seg6 w os)) (part_add (part_of (seg7 w os)) (part_add (part_of (seg8 w os)) (part_add (part_of (seg9 w os)) (part_add (part_of (seg10 w os)) (part_add (part_of (seg11 w os)) (part_add (part_of (seg12 w os)) (part_add (part_of (seg13 w os)) (part_add ⟨m, hm, hg⟩ (part_add (part_of (seg15 w es ep t os)) (part_add (part_of (seg16 w es ep t os)) (part_add (part_of (seg17 w es ep t os)) (part_add (part_of (seg18 w es ep t os)) (part_add (part_of (seg19 w es ep t os)) (part_add (part_of (seg20 w es ep t os)) (part_add (part_of (seg21 w es ep t os)) (part_add (part_of (seg22 w es ep t os)) (part_add (part_of (seg23 w es ep t os)) (part_add (part_of (seg24 w es ep t os)) (part_add (part_of (seg25 w es ep t os)) (part_add (part_of (seg26 w es ep t os)) (part_add (part_of (seg27 w es ep t os)) (part_add (part_of (seg28 w es ep t os)) (part_add (part_of (seg29 w es ep t os)) (part_add (part_of (seg30 w es ep t os)) (part_of (seg31 w es ep t os)))))))))))))))))))))))))))))))⟩
theorem start_abs (w : World) (os : OsState) : (Z0 w os).abs = ⟨boot_heap w.params, Array.mk [], boot_drawn, boot_toks, os⟩ := by kernel_rfl
theorem runs (w : World) (os : OsState) : ∃ es ep t, GoodS w vowels es t ∧ topRun treeTable pw w 11 (some (.ref 6)) 6010 ⟨boot_heap w.params, Array.mk [], boot_drawn, boot_toks, os⟩ (topStub pw) = some (Z31 w es ep t os).abs := by
  obtain ⟨es, ep, t, g, m, hm, h⟩ := whole w os
  refine ⟨es, ep, t, g, ?_⟩
  have h1 := go_top (goT_spec h) (last w es ep t os)
  have h2 := topRun_mono (6007 - m) _ _ _ _ h1
  rw [show m + 3 + (6007 - m) = 6010 by omega] at h2
  rw [← start_abs]
  exact h2
end Mine
-- HeadK
namespace Mine
open PySem PySem.W PySem.Calls PyProof.Rows
noncomputable section
noncomputable def HF (P : Params) (es : Ent) (ep : Nat) (t : SetTable) : Heap := ⟨Array.mk (L71 P ++ (L23 P ++ (L8 P ++ (L11 P ++ (L12 P ++ (L13 P ++ (L16 P ++ (L17 P ++ (L20 P ++ (L47 P ++ (L28 P ++ (L48 P es ep t ++ (L35 P ++ (L38 P ++ (L41 P ++ (L44 P ++ (L49 P ++ (L54 P ++ (L67 P ++ (L72 P)))))))))))))))))))), {}⟩
theorem end_abs (w : World) (es : Ent) (ep : Nat) (t : SetTable) (os : OsState) : (Z31 w es ep t os).abs = ⟨HF w.params es ep t, Array.mk [], {}, 960, os⟩ := by kernel_rfl
noncomputable def vw : Program := { pw with main := { pw.main with body := [st1 0, st1 2, st1 4, st1 6, st1 7, st1 9, st1 10, st1 11, st1 12, st1 13, st1 14, st1 15, st1 16, st1 17, st1 18] } }
noncomputable def lo : List Str := [Str.ofString "SesothoStemmer", Str.ofString "_law_noun_ends", Str.ofString "_law_verb_ends", Str.ofString "_law_beginnings"]
noncomputable abbrev rw0 : RowW := (OpenLaw.row PySem.Challenge.rw_iu0020_01).toRowW
noncomputable abbrev Xt0 : Shared → Bool := fun s => xlAt vw [] s && recOk rw0.records s
theorem look1 (P : Params) (es : Ent) (ep : Nat) (t : SetTable) (os : OsState) : (staticsOk (importedModules pw.main.body) (boot_heap P) (HF P es ep t) && namesBound pw (HF P es ep t) && gensDone ⟨HF P es ep t, Array.mk [], {}, 960, os⟩ && laidKept (boot_heap P) (HF P es ep t)) = true := by kernel_rfl
theorem look2 (P : Params) (es : Ent) (ep : Nat) (t : SetTable) (os : OsState) : openSeen vw lo (importedModules pw.main.body) Xt0 true ⟨HF P es ep t, Array.mk [], {}, 960, os⟩ = openGood vw lo := by
  rw [PySem.W.Fast.te4187177175401517315]
  kernel_rfl
theorem size0 (P : Params) : ((boot_heap P).isNs mainGlobals && (Array.mk [] : Array GenState).size == 0, (boot_heap P).objs.size, (boot_heap P).nsMap mainGlobals "__annotations__") = (true, 11, some (.ref 6)) := by kernel_rfl
end
end Mine
-- HeadL
namespace Mine
open PySem PySem.W PySem.Calls PyProof.Rows
theorem plain_open : opening pw = plainProg pw.main.scope.names := by kernel_rfl
theorem fence_id (s : Shared) : fenceModules? pw s = some s := by rfl
theorem openEnds_of {tb : String → Option Builtin} {p : Program} {w : World} {n : Nat} {s s' : Shared} (e : fencedOpening tb p w n = some s) (tp : topFrom tb p w n s = some s') : openEnds tb p w n = some s' := by
  unfold openEnds
  rw [e]
  exact tp
theorem leftO {α : Type} {Yf : Shared → α} {Ya : World → α} (hy : ∀ (w : World) (es : Ent) (ep : Nat) (t : SetTable) (os : OsState), GoodS w vowels es t → Yf ⟨HF w.params es ep t, Array.mk [], {}, 960, os⟩ = Ya w) : LeftO pw vw lo Xt0 Yf Ya 12080 := fun w => by
  obtain ⟨⟨h, gs, d, k, os⟩, e, e'⟩ := Option.map_eq_some_iff.mp (boot_open (p := pw) (N := 12080) plain_open (by rfl) fence_id w)
  obtain ⟨rfl, rfl, rfl, rfl⟩ : h = boot_heap w.params ∧ gs = Array.mk [] ∧ d = boot_drawn ∧ k = boot_toks := by simpa using e'
  obtain ⟨es, ep, t, g, hr⟩ := runs w os
  rw [end_abs] at hr
  have r := topRun_mono (12080 - 6010) _ _ _ _ hr
  rw [show 6010 + (12080 - 6010) = 12080 by omega] at r
  obtain ⟨z1, z2, z3⟩ : _ ∧ _ ∧ _ := by simpa only [Prod.mk.injEq] using size0 w.params
  have tp : topFrom treeTable pw w 12080 ⟨boot_heap w.params, Array.mk [], boot_drawn, boot_toks, os⟩ = some ⟨HF w.params es ep t, Array.mk [], {}, 960, os⟩ := by
    unfold topFrom
    dsimp only
    rw [z1, z2, z3]
    dsimp only
    rw [r]
    show (match staticsOk (importedModules pw.main.body) (boot_heap w.params) (HF w.params es ep t) && namesBound pw (HF w.params es ep t) && gensDone ⟨HF w.params es ep t, Array.mk [], {}, 960, os⟩ && laidKept (boot_heap w.params) (HF w.params es ep t) with | true => _ | false => _) = _
    rw [look1]
  rw [openEnds_of e tp]
  exact congrArg some (Prod.ext (look2 w.params es ep t os) (hy w es ep t os g))
end Mine
-- KFrag
namespace Mine
open PySem PySem.W PySem.Calls PyProof.Rows
noncomputable section
noncomputable def KF : Params → Frag := fun P => (nat_lit 2, o2v1 P) :: (nat_lit 3, o3v19 P) :: (nat_lit 15, o15 P) :: (nat_lit 17, o17 P) :: (nat_lit 18, o18 P) :: (nat_lit 20, o20 P) :: (nat_lit 21, o21 P) :: (nat_lit 29, o29 P) :: (nat_lit 31, o31 P) :: (nat_lit 32, o32 P) :: (nat_lit 34, o34 P) :: (nat_lit 35, o35 P) :: (nat_lit 36, o36 P) :: (nat_lit 38, o38 P) :: (nat_lit 39, o39 P) :: (nat_lit 41, o41 P) :: (nat_lit 42, o42 P) :: (nat_lit 43, o43 P) :: (nat_lit 45, o45 P) :: (nat_lit 46, o46 P) :: (nat_lit 48, o48 P) :: (nat_lit 49, o49 P) :: (nat_lit 50, o50 P) :: (nat_lit 52, o52 P) :: (nat_lit 53, o53 P) :: (nat_lit 55, o55 P) :: (nat_lit 56, o56 P) :: (nat_lit 57, o57 P) :: (nat_lit 59, o59 P) :: (nat_lit 60, o60 P) :: (nat_lit 62, o62 P) :: (nat_lit 63, o63 P) :: (nat_lit 64, o64 P) :: (nat_lit 66, o66 P) :: (nat_lit 67, o67 P) :: (nat_lit 69, o69 P) :: (nat_lit 70, o70 P) :: (nat_lit 71, o71 P) :: (nat_lit 73, o73 P) :: (nat_lit 74, o74 P) :: (nat_lit 76, o76 P) :: (nat_lit 77, o77 P) :: (nat_lit 78, o78 P) :: (nat_lit 80, o80 P) :: (nat_lit 81, o81 P) :: (nat_lit 83, o83 P) :: (nat_lit 84, o84 P) :: (nat_lit 85, o85 P) :: (nat_lit 87, o87 P) :: (nat_lit 88, o88 P) :: (nat_lit 90, o90 P) :: (nat_lit 91, o91 P) :: (nat_lit 92, o92 P) :: (nat_lit 94, o94 P) :: (nat_lit 95, o95 P) :: (nat_lit 97, o97 P) :: (nat_lit 98, o98 P) :: (nat_lit 99, o99 P) :: (nat_lit 101, o101 P) :: (nat_lit 102, o102 P) :: (nat_lit 104, o104 P) :: (nat_lit 105, o105 P) :: (nat_lit 106, o106 P) :: (nat_lit 108, o108 P) :: (nat_lit 109, o109 P) :: (nat_lit 111, o111 P) :: (nat_lit 112, o112 P) :: (nat_lit 113, o113 P) :: (nat_lit 115, o115 P) :: (nat_lit 116, o116 P) :: (nat_lit 118, o118 P) :: (nat_lit 119, o119 P) :: (nat_lit 120, o120 P) :: (nat_lit 122, o122 P) :: (nat_lit 123, o123 P) :: (nat_lit 125, o125 P) :: (nat_lit 126, o126 P) :: (nat_lit 127, o127 P) :: (nat_lit 129, o129 P) :: (nat_lit 130, o130 P) :: (nat_lit 132, o132 P) :: (nat_lit 133, o133 P) :: (nat_lit 134, o134 P) :: (nat_lit 136, o136 P) :: (nat_lit 137, o137 P) :: (nat_lit 139, o139 P) :: (nat_lit 140, o140 P) :: (nat_lit 141, o141 P) :: (nat_lit 143, o143 P) :: (nat_lit 144, o144 P) :: (nat_lit 146, o146 P) :: (nat_lit 147, o147 P) :: (nat_lit 148, o148 P) :: (nat_lit 150, o150 P) :: (nat_lit 151, o151 P) :: (nat_lit 153, o153 P) :: (nat_lit 154, o154 P) :: (nat_lit 155, o155 P) :: (nat_lit 157, o157 P) :: (nat_lit 158, o158 P) :: (nat_lit 160, o160 P) :: (nat_lit 161, o161 P) :: (nat_lit 162, o162 P) :: (nat_lit 164, o164 P) :: (nat_lit 165, o165 P) :: (nat_lit 167, o167 P) :: (nat_lit 168, o168 P) :: (nat_lit 169, o169 P) :: (nat_lit 171, o171 P) :: (nat_lit 172, o172 P) :: (nat_lit 174, o174 P) :: (nat_lit 175, o175 P) :: (nat_lit 176, o176 P) :: (nat_lit 178, o178 P) :: (nat_lit 179, o179 P) :: (nat_lit 181, o181 P) :: (nat_lit 182, o182 P) :: (nat_lit 183, o183 P) :: (nat_lit 185, o185 P) :: (nat_lit 186, o186 P) :: (nat_lit 188, o188 P) :: (nat_lit 189, o189 P) :: (nat_lit 190, o190 P) :: (nat_lit 193, o193 P) :: (nat_lit 194, o194 P) :: (nat_lit 195, o195 P) :: (nat_lit 196, o196 P) :: (nat_lit 197, o197v1 P) :: (nat_lit 198, o198 P) :: (nat_lit 199, o199 P) :: (nat_lit 209, o209 P) :: (nat_lit 211, o211 P) :: (nat_lit 212, o212 P) :: (nat_lit 214, o214 P) :: (nat_lit 215, o215 P) :: (nat_lit 216, o216 P) :: (nat_lit 217, o217 P) :: (nat_lit 218, o218 P) :: (nat_lit 219, o219 P) :: (nat_lit 220, o220 P) :: (nat_lit 223, o223 P) :: (nat_lit 231, o231 P) :: (nat_lit 233, o233 P) :: (nat_lit 234, o234 P) :: (nat_lit 236, o236 P) :: (nat_lit 237, o237 P) :: (nat_lit 238, o238 P) :: (nat_lit 240, o240 P) :: (nat_lit 241, o241 P) :: (nat_lit 243, o243 P) :: (nat_lit 244, o244 P) :: (nat_lit 245, o245 P) :: (nat_lit 247, o247 P) :: (nat_lit 248, o248 P) :: (nat_lit 250, o250 P) :: (nat_lit 251, o251 P) :: (nat_lit 252, o252 P) :: (nat_lit 254, o254 P) :: (nat_lit 255, o255 P) :: (nat_lit 257, o257 P) :: (nat_lit 258, o258 P) :: (nat_lit 259, o259 P) :: (nat_lit 261, o261 P) :: (nat_lit 262, o262 P) :: (nat_lit 264, o264 P) :: (nat_lit 265, o265 P) :: (nat_lit 266, o266 P) :: (nat_lit 267, o267 P) :: (nat_lit 269, o269 P) :: (nat_lit 270, o270 P) :: (nat_lit 272, o272 P) :: (nat_lit 273, o273 P) :: (nat_lit 275, o275 P) :: (nat_lit 276, o276 P) :: (nat_lit 278, o278 P) :: (nat_lit 279, o279 P) :: (nat_lit 281, o281 P) :: (nat_lit 282, o282 P) :: (nat_lit 284, o284 P) :: (nat_lit 285, o285 P) :: (nat_lit 287, o287 P) :: (nat_lit 288, o288 P) :: (nat_lit 290, o290 P) :: (nat_lit 291, o291 P) :: (nat_lit 292, o292 P) :: (nat_lit 294, o294 P) :: (nat_lit 295, o295 P) :: (nat_lit 297, o297 P) :: (nat_lit 298, o298 P) :: (nat_lit 300, o300 P) :: (nat_lit 301, o301 P) :: (nat_lit 303, o303 P) :: (nat_lit 304, o304 P) :: (nat_lit 306, o306 P) :: (nat_lit 307, o307 P) :: (nat_lit 309, o309 P) :: (nat_lit 310, o310 P) :: (nat_lit 312, o312 P) :: (nat_lit 313, o313 P) :: (nat_lit 315, o315 P) :: (nat_lit 316, o316 P) :: (nat_lit 318, o318 P) :: (nat_lit 319, o319 P) :: (nat_lit 320, o320 P) :: (nat_lit 322, o322 P) :: (nat_lit 323, o323 P) :: (nat_lit 325, o325 P) :: (nat_lit 326, o326 P) :: (nat_lit 328, o328 P) :: (nat_lit 329, o329 P) :: (nat_lit 331, o331 P) :: (nat_lit 332, o332 P) :: (nat_lit 334, o334 P) :: (nat_lit 335, o335 P) :: (nat_lit 336, o336 P) :: (nat_lit 337, o337 P) :: (nat_lit 340, o340 P) :: (nat_lit 347, o347 P) :: (nat_lit 348, o348 P) :: (nat_lit 349, o349 P) :: (nat_lit 350, o350 P) :: (nat_lit 353, o353 P) :: (nat_lit 355, o355 P) :: (nat_lit 356, o356 P) :: (nat_lit 358, o358 P) :: (nat_lit 359, o359 P) :: (nat_lit 360, o360 P) :: (nat_lit 361, o361 P) :: (nat_lit 362, o362 P) :: (nat_lit 363, o363 P) :: (nat_lit 366, o366 P) :: (nat_lit 367, o367 P) :: (nat_lit 368, o368 P) :: (nat_lit 370, o370 P) :: (nat_lit 371, o371 P) :: (nat_lit 373, o373 P) :: (nat_lit 374, o374 P) :: (nat_lit 375, o375 P) :: (nat_lit 377, o377 P) :: (nat_lit 378, o378 P) :: (nat_lit 380, o380 P) :: (nat_lit 381, o381 P) :: (nat_lit 382, o382 P) :: (nat_lit 384, o384 P) :: (nat_lit 385, o385 P) :: (nat_lit 387, o387 P) :: (nat_lit 388, o388 P) :: (nat_lit 389, o389 P) :: (nat_lit 392, o392 P) :: (nat_lit 393, o393 P) :: []
noncomputable def KA : List Nat := [nat_lit 2, nat_lit 3, nat_lit 15, nat_lit 17, nat_lit 18, nat_lit 20, nat_lit 21, nat_lit 29, nat_lit 31, nat_lit 32, nat_lit 34, nat_lit 35, nat_lit 36, nat_lit 38, nat_lit 39, nat_lit 41, nat_lit 42, nat_lit 43, nat_lit 45, nat_lit 46, nat_lit 48, nat_lit 49, nat_lit 50, nat_lit 52, nat_lit 53, nat_lit 55, nat_lit 56, nat_lit 57, nat_lit 59, nat_lit 60, nat_lit 62, nat_lit 63, nat_lit 64, nat_lit 66, nat_lit 67, nat_lit 69, nat_lit 70, nat_lit 71, nat_lit 73, nat_lit 74, nat_lit 76, nat_lit 77, nat_lit 78, nat_lit 80, nat_lit 81, nat_lit 83, nat_lit 84, nat_lit 85, nat_lit 87, nat_lit 88, nat_lit 90, nat_lit 91, nat_lit 92, nat_lit 94, nat_lit 95, nat_lit 97, nat_lit 98, nat_lit 99, nat_lit 101, nat_lit 102, nat_lit 104, nat_lit 105, nat_lit 106, nat_lit 108, nat_lit 109, nat_lit 111, nat_lit 112, nat_lit 113, nat_lit 115, nat_lit 116, nat_lit 118, nat_lit 119, nat_lit 120, nat_lit 122, nat_lit 123, nat_lit 125, nat_lit 126, nat_lit 127, nat_lit 129, nat_lit 130, nat_lit 132, nat_lit 133, nat_lit 134, nat_lit 136, nat_lit 137, nat_lit 139, nat_lit 140, nat_lit 141, nat_lit 143, nat_lit 144, nat_lit 146, nat_lit 147, nat_lit 148, nat_lit 150, nat_lit 151, nat_lit 153, nat_lit 154, nat_lit 155, nat_lit 157, nat_lit 158, nat_lit 160, nat_lit 161, nat_lit 162, nat_lit 164, nat_lit 165, nat_lit 167, nat_lit 168, nat_lit 169, nat_lit 171, nat_lit 172, nat_lit 174, nat_lit 175, nat_lit 176, nat_lit 178, nat_lit 179, nat_lit 181, nat_lit 182, nat_lit 183, nat_lit 185, nat_lit 186, nat_lit 188, nat_lit 189, nat_lit 190, nat_lit 193, nat_lit 194, nat_lit 195, nat_lit 196, nat_lit 197, nat_lit 198, nat_lit 199, nat_lit 209, nat_lit 211, nat_lit 212, nat_lit 214, nat_lit 215, nat_lit 216, nat_lit 217, nat_lit 218, nat_lit 219, nat_lit 220, nat_lit 223, nat_lit 231, nat_lit 233, nat_lit 234, nat_lit 236, nat_lit 237, nat_lit 238, nat_lit 240, nat_lit 241, nat_lit 243, nat_lit 244, nat_lit 245, nat_lit 247, nat_lit 248, nat_lit 250, nat_lit 251, nat_lit 252, nat_lit 254, nat_lit 255, nat_lit 257, nat_lit 258, nat_lit 259, nat_lit 261, nat_lit 262, nat_lit 264, nat_lit 265, nat_lit 266, nat_lit 267, nat_lit 269, nat_lit 270, nat_lit 272, nat_lit 273, nat_lit 275, nat_lit 276, nat_lit 278, nat_lit 279, nat_lit 281, nat_lit 282, nat_lit 284, nat_lit 285, nat_lit 287, nat_lit 288, nat_lit 290, nat_lit 291, nat_lit 292, nat_lit 294, nat_lit 295, nat_lit 297, nat_lit 298, nat_lit 300, nat_lit 301, nat_lit 303, nat_lit 304, nat_lit 306, nat_lit 307, nat_lit 309, nat_lit 310, nat_lit 312, nat_lit 313, nat_lit 315, nat_lit 316, nat_lit 318, nat_lit 319, nat_lit 320, nat_lit 322, nat_lit 323, nat_lit 325, nat_lit 326, nat_lit 328, nat_lit 329, nat_lit 331, nat_lit 332, nat_lit 334, nat_lit 335, nat_lit 336, nat_lit 337, nat_lit 340, nat_lit 347, nat_lit 348, nat_lit 349, nat_lit 350, nat_lit 353, nat_lit 355, nat_lit 356, nat_lit 358, nat_lit 359, nat_lit 360, nat_lit 361, nat_lit 362, nat_lit 363, nat_lit 366, nat_lit 367, nat_lit 368, nat_lit 370, nat_lit 371, nat_lit 373, nat_lit 374, nat_lit 375, nat_lit 377, nat_lit 378, nat_lit 380, nat_lit 381, nat_lit 382, nat_lit 384, nat_lit 385, nat_lit 387, nat_lit 388, nat_lit 389, nat_lit 392, nat_lit 393]
noncomputable def StrSet (es : Ent) (t : SetTable) : Prop := (∀ e ∈ es.toList, ∃ k u, e.2 = .str k u) ∧ (∀ k, k ∈ vowels ↔ ∃ e ∈ es.toList, ∃ u, e.2 = .str k u) ∧ es.size = 5 ∧ t.fits es.size = true
noncomputable def SetHere (h : Heap) : Prop := ∃ es ep t, h.get? 230 = some (so es ep t) ∧ StrSet es t
noncomputable def hk : Hook :=
  ⟨List (Option Obj) × Prop, fun s => (KA.map s.heap.get?, SetHere s.heap), fun w => ((KF w.params).map fun p => some p.2, True), fun w h => InK KF w h ∧ SetHere h,
    fun w s e => ⟨InK.of (as := KA) (fun P => by kernel_rfl) w s (congrArg Prod.fst e), of_eq_true (congrArg Prod.snd e)⟩,
    fun w h h' x k => ⟨InK.keeps w h h' x.1 k, let ⟨es, ep, t, a, b⟩ := x.2; ⟨es, ep, t, k _ _ a, b⟩⟩⟩
theorem strSet_of {w : World} {es : Ent} {t : SetTable} (g : GoodS w vowels es t) : StrSet es t := by
  refine ⟨fun e he => ?_, fun k => ?_, g.2.2.1, g.2.2.2⟩
  · obtain ⟨⟨k, hk, _⟩, _⟩ := g.1 e he
    obtain ⟨u, q⟩ := isStrOf_shape' hk
    exact ⟨k, u, q⟩
  · rw [g.2.1 k]
    constructor
    · rintro ⟨e, he, hq⟩
      obtain ⟨u, q⟩ := isStrOf_shape' hq
      exact ⟨e, he, u, q⟩
    · rintro ⟨e, he, u, q⟩
      exact ⟨e, he, by rw [q]; exact strKind_is _ _ _ _⟩
theorem see_K (P : Params) (es : Ent) (ep : Nat) (t : SetTable) : KA.map (HF P es ep t).get? = (KF P).map fun p => some p.2 := by kernel_rfl
theorem see_set (P : Params) (es : Ent) (ep : Nat) (t : SetTable) : (HF P es ep t).get? 230 = some (so es ep t) := by kernel_rfl
theorem leftK : LeftO pw vw lo Xt0 hk.obs hk.val 12080 := leftO fun w es ep t os g =>
  Prod.ext (see_K w.params es ep t) (eq_true ⟨es, ep, t, see_set w.params es ep t, strSet_of g⟩)
end
end Mine
-- Ctr
namespace Mine
open PySem PySem.W PySem.Calls PyProof.Rows
-- the stemmer's state
structure St where
  cur : Str
  c : Int
  l : Int
  lb : Int
  bra : Int
  ket : Int
  ip : Option Int
noncomputable def stKeys : List Str := [Str.ofString "current", Str.ofString "cursor", Str.ofString "limit", Str.ofString "limit_backward", Str.ofString "bra", Str.ofString "ket", Str.ofString "I_pV"]
structure StE (es : List DictEntry) (st : St) : Prop where
  keys : ∀ e ∈ es, ∃ k t, e.key = .str k t ∧ k ∈ stKeys
  len : es.length = 6 + (if st.ip.isSome then 1 else 0)
  cur : ∃ u, getL (Str.ofString "current") es = some (some (.str st.cur u))
  c : ∃ u, getL (Str.ofString "cursor") es = some (some (.int st.c u))
  l : ∃ u, getL (Str.ofString "limit") es = some (some (.int st.l u))
  lb : ∃ u, getL (Str.ofString "limit_backward") es = some (some (.int st.lb u))
  bra : ∃ u, getL (Str.ofString "bra") es = some (some (.int st.bra u))
  ket : ∃ u, getL (Str.ofString "ket") es = some (some (.int st.ket u))
  ip : match st.ip with
    | none => getL (Str.ofString "I_pV") es = some none
    | some v => ∃ u, getL (Str.ofString "I_pV") es = some (some (.int v u))
theorem isStr_lit (k : Str) (t : Nat) (x : Str) : (Value.str k t).isStr x = (k == x) := rfl
theorem getL_cons (x : Str) (e : DictEntry) (es : List DictEntry) (he : ∃ k t, e.key = .str k t) : getL x (e :: es) = if e.key.isStr x then some (some e.val) else getL x es := by
  obtain ⟨k, t, hk⟩ := he
  unfold getL
  rw [List.find?_cons]
  cases h : e.key.isStr x with
  | true => simp
  | false =>
    have : e.refKey = false := by obtain ⟨a, b, c⟩ := e; dsimp only at hk; subst hk; rfl
    simp [this]
theorem getL_putL (x y : Str) (h : Int) (t : Nat) (v : Value) : ∀ es : List DictEntry, (∀ e ∈ es, ∃ k t, e.key = .str k t) → getL x (putL y h (.str y t) v es) = if x = y then some (some v) else getL x es
  | [], _ => by
    show getL x [⟨h, .str y t, v⟩] = _
    rw [getL_cons _ _ _ ⟨y, t, rfl⟩]
    by_cases q : x = y
    · subst q; simp [isStr_lit]
    · have : ¬ y = x := fun e => q e.symm
      simp [isStr_lit, q, this]
  | e :: r, hk => by
    have ih := getL_putL x y h t v r fun e he => hk e (.tail _ he)
    obtain ⟨k, u, hku⟩ := hk e (.head _)
    unfold putL
    cases hy : e.key.isStr y with
    | true =>
      rw [if_pos rfl, getL_cons x ⟨e.hash, e.key, v⟩ r ⟨k, u, hku⟩, getL_cons x e r ⟨k, u, hku⟩]
      rw [hku, isStr_lit] at hy
      have : k = y := by simpa using hy
      subst this
      dsimp only
      rw [hku, isStr_lit]
      by_cases q : x = k
      · subst q; simp
      · have : ¬ k = x := fun e => q e.symm
        simp [q, this]
    | false =>
      rw [if_neg Bool.false_ne_true, getL_cons _ _ _ ⟨k, u, hku⟩, getL_cons _ _ _ ⟨k, u, hku⟩, ih]
      rw [hku, isStr_lit] at hy ⊢
      have hy : ¬ k = y := by simpa using hy
      by_cases q : k = x
      · subst q; simp [hy]
      · simp [q]
theorem putL_len (y : Str) (h : Int) (t : Nat) (v : Value) : ∀ es : List DictEntry, (∀ e ∈ es, ∃ k t, e.key = .str k t) → (putL y h (.str y t) v es).length = if getL y es = some none then es.length + 1 else es.length
  | [], _ => by rfl
  | e :: r, hk => by
    have ih := putL_len y h t v r fun e he => hk e (.tail _ he)
    obtain ⟨k, u, hku⟩ := hk e (.head _)
    unfold putL
    rw [getL_cons _ _ _ ⟨k, u, hku⟩]
    cases hy : e.key.isStr y with
    | true => simp
    | false => simp only [Bool.false_eq_true, if_false, List.length_cons, ih]; split <;> rfl
theorem putL_keys (y : Str) (h : Int) (t : Nat) (v : Value) (P : Str → Prop) (hy : P y) : ∀ es : List DictEntry, (∀ e ∈ es, ∃ k t, e.key = .str k t ∧ P k) → ∀ e ∈ putL y h (.str y t) v es, ∃ k t, e.key = .str k t ∧ P k
  | [], _, e, he => by
    have : e = ⟨h, .str y t, v⟩ := by simpa [putL] using he
    subst this; exact ⟨y, t, rfl, hy⟩
  | e0 :: r, hk, e, he => by
    obtain ⟨k, u, hku, hp⟩ := hk e0 (.head _)
    unfold putL at he
    split at he
    · rcases List.mem_cons.mp he with rfl | he
      · exact ⟨k, u, hku, hp⟩
      · exact hk e (.tail _ he)
    · rcases List.mem_cons.mp he with rfl | he
      · exact ⟨k, u, hku, hp⟩
      · exact putL_keys y h t v P hy r (fun e he => hk e (.tail _ he)) e he
theorem StE.strs {es : List DictEntry} {st : St} (H : StE es st) : ∀ e ∈ es, ∃ k t, e.key = .str k t := fun e he => let ⟨k, t, a, _⟩ := H.keys e he; ⟨k, t, a⟩
theorem StE.none {es : List DictEntry} {st : St} (H : StE es st) {x : Str} (hx : stKeys.contains x = false) : getL x es = some none := by
  have hx : x ∉ stKeys := by simpa using hx
  have : ∀ l : List DictEntry, (∀ e ∈ l, ∃ k t, e.key = .str k t ∧ k ∈ stKeys) → getL x l = some Option.none := by
    intro l
    induction l with
    | nil => intro _; rfl
    | cons e r ih =>
      intro hk
      obtain ⟨k, t, a, b⟩ := hk e (.head _)
      rw [getL_cons _ _ _ ⟨k, t, a⟩, ih fun e he => hk e (.tail _ he), a, isStr_lit]
      have : k ≠ x := fun e => hx (e ▸ b)
      simp [this]
  exact this es H.keys
-- the stores
section
variable {es : List DictEntry} {st : St} {h : Int} {t u : Nat}
theorem StE.setCur (H : StE es st) (v : Str) : StE (putL (Str.ofString "current") h (.str (Str.ofString "current") t) (.str v u) es) { st with cur := v } := by
  have g := fun x => getL_putL x (Str.ofString "current") h t (.str v u) es H.strs
  obtain ⟨hk, hl, h1, h2, h3, h4, h5, h6, h7⟩ := H
  refine ⟨putL_keys _ _ _ _ (· ∈ stKeys) (by decide) es hk, ?_, ?_, ?_, ?_, ?_, ?_, ?_, ?_⟩
  · rw [putL_len _ _ _ _ _ fun e he => let ⟨k, t, a, _⟩ := hk e he; ⟨k, t, a⟩]; obtain ⟨_, h1⟩ := h1; rw [h1]; simpa using hl
  · exact ⟨u, by rw [g]; rfl⟩
  all_goals (rw [g]; assumption)
theorem StE.setC (H : StE es st) (v : Int) : StE (putL (Str.ofString "cursor") h (.str (Str.ofString "cursor") t) (.int v u) es) { st with c := v } := by
  have g := fun x => getL_putL x (Str.ofString "cursor") h t (.int v u) es H.strs
  obtain ⟨hk, hl, h1, h2, h3, h4, h5, h6, h7⟩ := H
  refine ⟨putL_keys _ _ _ _ (· ∈ stKeys) (by decide) es hk, ?_, ?_, ?_, ?_, ?_, ?_, ?_, ?_⟩
  · rw [putL_len _ _ _ _ _ fun e he => let ⟨k, t, a, _⟩ := hk e he; ⟨k, t, a⟩]; obtain ⟨_, h2⟩ := h2; rw [h2]; simpa using hl
  rotate_left
  · exact ⟨u, by rw [g]; rfl⟩
  all_goals (rw [g]; assumption)
theorem StE.setL (H : StE es st) (v : Int) : StE (putL (Str.ofString "limit") h (.str (Str.ofString "limit") t) (.int v u) es) { st with l := v } := by
  have g := fun x => getL_putL x (Str.ofString "limit") h t (.int v u) es H.strs
  obtain ⟨hk, hl, h1, h2, h3, h4, h5, h6, h7⟩ := H
  refine ⟨putL_keys _ _ _ _ (· ∈ stKeys) (by decide) es hk, ?_, ?_, ?_, ?_, ?_, ?_, ?_, ?_⟩
  · rw [putL_len _ _ _ _ _ fun e he => let ⟨k, t, a, _⟩ := hk e he; ⟨k, t, a⟩]; obtain ⟨_, h3⟩ := h3; rw [h3]; simpa using hl
  rotate_left 2
  · exact ⟨u, by rw [g]; rfl⟩
  all_goals (rw [g]; assumption)
theorem StE.setLb (H : StE es st) (v : Int) : StE (putL (Str.ofString "limit_backward") h (.str (Str.ofString "limit_backward") t) (.int v u) es) { st with lb := v } := by
  have g := fun x => getL_putL x (Str.ofString "limit_backward") h t (.int v u) es H.strs
  obtain ⟨hk, hl, h1, h2, h3, h4, h5, h6, h7⟩ := H
  refine ⟨putL_keys _ _ _ _ (· ∈ stKeys) (by decide) es hk, ?_, ?_, ?_, ?_, ?_, ?_, ?_, ?_⟩
  · rw [putL_len _ _ _ _ _ fun e he => let ⟨k, t, a, _⟩ := hk e he; ⟨k, t, a⟩]; obtain ⟨_, h4⟩ := h4; rw [h4]; simpa using hl
  rotate_left 3
  · exact ⟨u, by rw [g]; rfl⟩
  all_goals (rw [g]; assumption)
theorem StE.setBra (H : StE es st) (v : Int) : StE (putL (Str.ofString "bra") h (.str (Str.ofString "bra") t) (.int v u) es) { st with bra := v } := by
  have g := fun x => getL_putL x (Str.ofString "bra") h t (.int v u) es H.strs
  obtain ⟨hk, hl, h1, h2, h3, h4, h5, h6, h7⟩ := H
  refine ⟨putL_keys _ _ _ _ (· ∈ stKeys) (by decide) es hk, ?_, ?_, ?_, ?_, ?_, ?_, ?_, ?_⟩
  · rw [putL_len _ _ _ _ _ fun e he => let ⟨k, t, a, _⟩ := hk e he; ⟨k, t, a⟩]; obtain ⟨_, h5⟩ := h5; rw [h5]; simpa using hl
  rotate_left 4
  · exact ⟨u, by rw [g]; rfl⟩
  all_goals (rw [g]; assumption)
theorem StE.setKet (H : StE es st) (v : Int) : StE (putL (Str.ofString "ket") h (.str (Str.ofString "ket") t) (.int v u) es) { st with ket := v } := by
  have g := fun x => getL_putL x (Str.ofString "ket") h t (.int v u) es H.strs
  obtain ⟨hk, hl, h1, h2, h3, h4, h5, h6, h7⟩ := H
  refine ⟨putL_keys _ _ _ _ (· ∈ stKeys) (by decide) es hk, ?_, ?_, ?_, ?_, ?_, ?_, ?_, ?_⟩
  · rw [putL_len _ _ _ _ _ fun e he => let ⟨k, t, a, _⟩ := hk e he; ⟨k, t, a⟩]; obtain ⟨_, h6⟩ := h6; rw [h6]; simpa using hl
  rotate_left 5
  · exact ⟨u, by rw [g]; rfl⟩
  all_goals (rw [g]; assumption)
theorem StE.setIp (H : StE es st) (v : Int) : StE (putL (Str.ofString "I_pV") h (.str (Str.ofString "I_pV") t) (.int v u) es) { st with ip := some v } := by
  have g := fun x => getL_putL x (Str.ofString "I_pV") h t (.int v u) es H.strs
  obtain ⟨hk, hl, h1, h2, h3, h4, h5, h6, h7⟩ := H
  refine ⟨putL_keys _ _ _ _ (· ∈ stKeys) (by decide) es hk, ?_, ?_, ?_, ?_, ?_, ?_, ?_, ?_⟩
  · rw [putL_len _ _ _ _ _ fun e he => let ⟨k, t, a, _⟩ := hk e he; ⟨k, t, a⟩]
    rw [hl]
    cases hip : st.ip with
    | none => rw [hip] at h7; rw [h7]; simp
    | some w => rw [hip] at h7; obtain ⟨_, h7⟩ := h7; rw [h7]; simp
  rotate_left 6
  · exact ⟨u, by rw [g]; rfl⟩
  all_goals (rw [g]; assumption)
theorem StE.get (H : StE es st) {x : Str} (hx : x ∈ [Str.ofString "current", Str.ofString "cursor", Str.ofString "limit", Str.ofString "limit_backward", Str.ofString "bra", Str.ofString "ket"]) : (getL x es).isSome = true := by
  obtain ⟨hk, hl, ⟨_, h1⟩, ⟨_, h2⟩, ⟨_, h3⟩, ⟨_, h4⟩, ⟨_, h5⟩, ⟨_, h6⟩, h7⟩ := H
  simp only [List.mem_cons, List.not_mem_nil, or_false] at hx
  rcases hx with rfl | rfl | rfl | rfl | rfl | rfl <;> simp_all
theorem StE.getIp (H : StE es st) : (getL (Str.ofString "I_pV") es).isSome = true := by
  have h7 := H.ip
  cases hip : st.ip with
  | none => rw [hip] at h7; rw [h7]; rfl
  | some w => rw [hip] at h7; obtain ⟨_, h7⟩ := h7; rw [h7]; rfl
end
end Mine
-- Ctr2
namespace Mine
open PySem PySem.W PySem.Calls PyProof.Rows
noncomputable def stParams : Stmt → Arguments
  | .FunctionDef _ a _ _ _ _ _ _ _ _ => a
  | _ => ⟨[], [], none, [], [], none, []⟩
noncomputable abbrev Ar (dp un : Nat) (gd : Option (List Code)) (outer : List Env) : Around := { handled := none, depth := dp, frames := some outer, guards := gd, units := un }
noncomputable abbrev Tp (mean : ExcName → Option Value) (mg mb : Str → Option Value) (h : Heap) : Prop := Top vw (looseW vw lo) mean mg mb h
noncomputable def Ends (s : Shared) (P : Value → Heap → Prop) (r : Result) (s' : Shared) : Prop := ∃ v h' tk, r = .ok (.ret v) ∧ s' = { s with heap := h', toks := tk } ∧ P v h'
section
variable {w : World} {base : Heap} {mean : ExcName → Option Value} {mg mb : Str → Option Value} {dp un : Nat} {gd : Option (List Code)} {outer : List Env} {s : Shared} {f : Addr} {R : Result → Shared → Prop}
  {name qual : Str} {params : Arguments} {body : List Stmt} {scope : Scope} {dV kV doc pm cdv ct oc : Value} {an od : Option Addr} {osl : Array (Option Value)} {args : Args} {binds : List (Str × Value)}
theorem enter (hid : List (Addr × Obj)) (X : (KF w.params).In base) (T : Tp mean mg mb base) (B : Below (Ar dp un gd outer) base outer s.heap)
    (hh : ∀ p ∈ hid, s.heap.get? p.1 = some p.2 ∧ base.get? p.1 = none ∧ ∀ env ∈ outer, env.frame ≠ some p.1)
    (ho : (KF w.params).lookup f = some ⟨oc, od, .func (fnOf name qual params body scope dV kV doc pm an cdv ct), osl⟩) (hcd : codeIn (KF w.params) cdv qual = true) (hroom : dp < recursionLimit)
    (hbind : BindsTo s (fnOf name qual params body scope dV kV doc pm an cdv ct) args binds) (hloc : ∀ y ∈ binds, scope.names.lookup y.1 = some .local)
    (h : ∀ g L' h₁, (∀ b o, s.heap.get? b = some o → b ∉ hid.map (·.1) → g.get? b = some o) → (∀ b o, g.get? b = some o → s.heap.get? b = some o) → L' = s.heap.objs.size → Fr g L' h₁ (fun y => binds.reverse.lookup y) → News g L' h₁ hid → Below (Ar dp un gd outer) base outer g → (KF w.params).In g → Tp mean mg mb g → base.StaysIn g →
      wpAny (model pw w) ((Ar dp un gd outer).deeper (envOf qual scope L' f cdv)) (execs body (envOf qual scope L' f cdv))
        (fun fl s' => R (.ok (.ret (match fl with | .ret v => v | _ => .none))) s')
        (fun e s' => wpAny (model pw w) ((Ar dp un gd outer).deeper (envOf qual scope L' f cdv)) (leaving (envOf qual scope L' f cdv) e) (fun _ s'' => R (.error e) s'') (fun e' s'' => R (.error e') s'') s')
        { s with heap := h₁, toks := s.toks + binds.length })
    (hcell : ∀ x ∈ scope.names, x.2 ≠ .cell) (hco : scope.isCoroutine = false) (hgen : scope.isGenerator = false) (hk : scope.kind = .function) :
    codeAny (model pw w) (Ar dp un gd outer) (.call (.ref f) args) R s := by
  have hin : ∀ b o, base.get? b = some o → s.heap.get? b = some o := B.stays
  have nb : ∀ b o, base.get? b = some o → b ∉ hid.map (·.1) := fun b o e q => by
    obtain ⟨p, hp, rfl⟩ := List.mem_map.mp q
    rw [(hh p hp).2.1] at e; cases e
  have st : base.StaysIn (hideAll s.heap (hid.map (·.1))) := fun b o e => hideAll_get _ (hin b o e) (nb b o e)
  refine codeAny_call_def (fd := fnOf name qual params body scope dV kV doc pm an cdv ct) (body := body) (binds := binds) hroom (hin _ _ (X _ _ ho)) rfl (T.nolimit.keeps hin) (codeRec_of (X.keeps hin) hcd) rfl hbind hcell hloc (fun h₁ hns hk₁ => ?_) hco hgen hk
  refine h (hideAll s.heap (hid.map (·.1))) s.heap.objs.size h₁ (fun b o e n => hideAll_get _ e n) (fun b o e => of_hideAll _ e) rfl ⟨hns, fun b o e => hk₁ b o (of_hideAll _ e), Nat.le_of_eq (hideAll_size _ _)⟩ (fun p hp => ?_)
    ⟨B.stack, st, funFrames_hideAll B.frames fun env he a ha hf => ?_⟩ (X.keeps fun b o e => st b o e) (T.keeps fun b o e => st b o e) st
  · exact ⟨hk₁ _ _ (hh p hp).1, Nat.ne_of_lt (Heap.lt_size (hh p hp).1), hideAll_none _ (List.mem_map_of_mem hp)⟩
  · obtain ⟨p, hp, rfl⟩ := List.mem_map.mp ha
    exact (hh p hp).2.2 env he hf
end
-- the caller's side
theorem fr_after {h₀ h h' : Heap} {L dx : Addr} {m : Str → Option Value} (F : Fr h₀ L h m) (hk : ∀ b o, b ≠ dx → h.get? b = some o → h'.get? b = some o) (h0 : h₀.get? dx = none) (hL : dx ≠ L) : Fr h₀ L h' m := by
  obtain ⟨⟨o, es, ep, a, r⟩, k, ab⟩ := F
  exact ⟨⟨o, es, ep, hk _ _ (Ne.symm hL) a, r⟩, fun b o e => hk b o (fun q => by rw [q, h0] at e; cases e) (k b o e), ab⟩
theorem news_after {h₀ h h' : Heap} {L dx : Addr} {D D' : Obj} {news news' : List (Addr × Obj)} (N : News h₀ L h news) (U : Upd dx D D' news news') (hk : ∀ b o, b ≠ dx → h.get? b = some o → h'.get? b = some o) (hd : h'.get? dx = some D') : News h₀ L h' news' := by
  obtain ⟨pre, post, rfl, rfl, a, b⟩ := U.split
  have hm := N (dx, D) (List.mem_append_right _ (.head _))
  intro p hp
  rcases List.mem_append.mp hp with hp | hp
  · have := N p (List.mem_append_left _ hp)
    exact ⟨hk _ _ (a p hp) this.1, this.2⟩
  · rcases List.mem_cons.mp hp with rfl | hp
    · exact ⟨hd, hm.2⟩
    · have := N p (List.mem_append_right _ (.tail _ hp))
      exact ⟨hk _ _ (b p hp) this.1, this.2⟩
theorem fr_stays {h₀ h h' : Heap} {L : Addr} {m : Str → Option Value} (F : Fr h₀ L h m) (hk : ∀ b o, h.get? b = some o → h'.get? b = some o) : Fr h₀ L h' m := by
  obtain ⟨⟨o, es, ep, a, r⟩, k, ab⟩ := F
  exact ⟨⟨o, es, ep, hk _ _ a, r⟩, fun b o e => hk b o (k b o e), ab⟩
theorem news_stays {h₀ h h' : Heap} {L : Addr} {news : List (Addr × Obj)} (N : News h₀ L h news) (hk : ∀ b o, h.get? b = some o → h'.get? b = some o) : News h₀ L h' news := fun p hp => ⟨hk _ _ (N p hp).1, (N p hp).2⟩
-- the callee's end
theorem keep_end {h g h' : Heap} {L' x dx : Addr} {ox D : Obj} {m' : Str → Option Value} {news : List (Addr × Obj)} (hg : ∀ b o, h.get? b = some o → b ∉ [(x, ox), (dx, D)].map (·.1) → g.get? b = some o) (hx : h.get? x = some ox)
    (F' : Fr g L' h' m') (N' : News g L' h' news) (mx : (x, ox) ∈ news) : ∀ b o, b ≠ dx → h.get? b = some o → h'.get? b = some o := by
  intro b o hb e
  by_cases q : b = x
  · subst q; rw [hx] at e; cases e; exact (N' _ mx).1
  · refine F'.keep b o (hg b o e ?_)
    simp only [List.map_cons, List.map_nil, List.mem_cons, List.not_mem_nil, or_false, not_or]
    exact ⟨q, hb⟩
theorem keep_all {h g h' : Heap} {L' : Addr} {m' : Str → Option Value} (hg : ∀ b o, h.get? b = some o → b ∉ ([] : List (Addr × Obj)).map (·.1) → g.get? b = some o) (F' : Fr g L' h' m') : ∀ b o, h.get? b = some o → h'.get? b = some o :=
  fun b o e => F'.keep b o (hg b o e (by simp))
-- the class' words
section
variable (P : Params)
theorem kh : hasDictIn (KF P) 337 = true := by kernel_rfl
theorem kp : plainOver (KF P) 337 = true := by kernel_rfl
theorem ksa : findIn (KF P) (.ref 337) (Str.ofString "__setattr__") = some (some (.builtin "object.__setattr__")) := by kernel_rfl
theorem kg0 : plainGet (KF P) 337 (Str.ofString "current") = true := by kernel_rfl
theorem kg1 : plainGet (KF P) 337 (Str.ofString "cursor") = true := by kernel_rfl
theorem kg2 : plainGet (KF P) 337 (Str.ofString "limit") = true := by kernel_rfl
theorem kg3 : plainGet (KF P) 337 (Str.ofString "limit_backward") = true := by kernel_rfl
theorem kg4 : plainGet (KF P) 337 (Str.ofString "bra") = true := by kernel_rfl
theorem kg5 : plainGet (KF P) 337 (Str.ofString "ket") = true := by kernel_rfl
theorem kg6 : plainGet (KF P) 337 (Str.ofString "I_pV") = true := by kernel_rfl
theorem kf0 : findIn (KF P) (.ref 337) (Str.ofString "current") = some none := by kernel_rfl
theorem kf1 : findIn (KF P) (.ref 337) (Str.ofString "cursor") = some none := by kernel_rfl
theorem kf2 : findIn (KF P) (.ref 337) (Str.ofString "limit") = some none := by kernel_rfl
theorem kf3 : findIn (KF P) (.ref 337) (Str.ofString "limit_backward") = some none := by kernel_rfl
theorem kf4 : findIn (KF P) (.ref 337) (Str.ofString "bra") = some none := by kernel_rfl
theorem kf5 : findIn (KF P) (.ref 337) (Str.ofString "ket") = some none := by kernel_rfl
theorem kf6 : findIn (KF P) (.ref 337) (Str.ofString "I_pV") = some (some (.int 0 496)) := by kernel_rfl
theorem kn6 : noGet (KF P) (some (.int 0 496)) = true := by kernel_rfl
theorem kn0 : noGet (KF P) none = true := by kernel_rfl
theorem kt0 : takerIn (KF P) 337 (Str.ofString "current") = some none := by kernel_rfl
theorem kt1 : takerIn (KF P) 337 (Str.ofString "cursor") = some none := by kernel_rfl
theorem kt2 : takerIn (KF P) 337 (Str.ofString "limit") = some none := by kernel_rfl
theorem kt3 : takerIn (KF P) 337 (Str.ofString "limit_backward") = some none := by kernel_rfl
theorem kt4 : takerIn (KF P) 337 (Str.ofString "bra") = some none := by kernel_rfl
theorem kt5 : takerIn (KF P) 337 (Str.ofString "ket") = some none := by kernel_rfl
theorem kt6 : takerIn (KF P) 337 (Str.ofString "I_pV") = some none := by kernel_rfl
end
section
variable {w : World} {A : Around} {E : Value → Shared → Prop} {s : Shared} {h₀ : Heap} {L x dx : Addr} {m : Str → Option Value} {news news' : List (Addr × Obj)} {es : List DictEntry} {n : Nat} {st : St} {expr : Bool} {Q : Value → Shared → Prop} {Q1 : Unit → Shared → Prop}
  (F : Fr h₀ L s.heap m) (X : (KF w.params).In h₀) (N : News h₀ L s.heap news) (hx : (x, instObj 337 dx) ∈ news) (hd : (dx, dictOf es n) ∈ news) (H : StE es st)
include F X N hx hd H
theorem ga_cur (h : ∀ u, Q (.str st.cur u) { s with toks := s.toks + 1 }) : wpAny (model pw w) A (getAttr (.ref x) (Str.ofString "current") expr) Q E s :=
  let ⟨u, hu⟩ := H.cur; get_own F X (InstAt.of_news N hx hd) (kg0 _) (kh _) (kf0 _) (kn0 _) hu rfl (h u)
theorem ga_c (h : ∀ u, Q (.int st.c u) { s with toks := s.toks + 1 }) : wpAny (model pw w) A (getAttr (.ref x) (Str.ofString "cursor") expr) Q E s :=
  let ⟨u, hu⟩ := H.c; get_own F X (InstAt.of_news N hx hd) (kg1 _) (kh _) (kf1 _) (kn0 _) hu rfl (h u)
theorem ga_l (h : ∀ u, Q (.int st.l u) { s with toks := s.toks + 1 }) : wpAny (model pw w) A (getAttr (.ref x) (Str.ofString "limit") expr) Q E s :=
  let ⟨u, hu⟩ := H.l; get_own F X (InstAt.of_news N hx hd) (kg2 _) (kh _) (kf2 _) (kn0 _) hu rfl (h u)
theorem ga_lb (h : ∀ u, Q (.int st.lb u) { s with toks := s.toks + 1 }) : wpAny (model pw w) A (getAttr (.ref x) (Str.ofString "limit_backward") expr) Q E s :=
  let ⟨u, hu⟩ := H.lb; get_own F X (InstAt.of_news N hx hd) (kg3 _) (kh _) (kf3 _) (kn0 _) hu rfl (h u)
theorem ga_bra (h : ∀ u, Q (.int st.bra u) { s with toks := s.toks + 1 }) : wpAny (model pw w) A (getAttr (.ref x) (Str.ofString "bra") expr) Q E s :=
  let ⟨u, hu⟩ := H.bra; get_own F X (InstAt.of_news N hx hd) (kg4 _) (kh _) (kf4 _) (kn0 _) hu rfl (h u)
theorem ga_ket (h : ∀ u, Q (.int st.ket u) { s with toks := s.toks + 1 }) : wpAny (model pw w) A (getAttr (.ref x) (Str.ofString "ket") expr) Q E s :=
  let ⟨u, hu⟩ := H.ket; get_own F X (InstAt.of_news N hx hd) (kg5 _) (kh _) (kf5 _) (kn0 _) hu rfl (h u)
theorem ga_ip {v : Int} (hv : st.ip = some v) (h : ∀ u, Q (.int v u) { s with toks := s.toks + 1 }) : wpAny (model pw w) A (getAttr (.ref x) (Str.ofString "I_pV") expr) Q E s := by
  have h7 := H.ip
  rw [hv] at h7
  obtain ⟨u, hu⟩ := h7
  exact get_own F X (InstAt.of_news N hx hd) (kg6 _) (kh _) (kf6 _) (kn6 _) hu rfl (h u)
end
theorem updF_upd {d : Addr} {o : Obj} {l : List (Addr × Obj)} {g : Obj → List (Addr × Obj)} (U : UpdF d o l g) (o' : Obj) : Upd d o o' l (g o') := by
  induction U with
  | head h => exact .head h
  | tail h _ ih => exact .tail h ih
section
variable {w : World} {A : Around} {E : Value → Shared → Prop} {s : Shared} {h₀ : Heap} {L x dx : Addr} {m : Str → Option Value} {news : List (Addr × Obj)} {up : Obj → List (Addr × Obj)} {es : List DictEntry} {n : Nat} {st : St} {Q : Unit → Shared → Prop}
  (F : Fr h₀ L s.heap m) (X : (KF w.params).In h₀) (N : News h₀ L s.heap news) (hx : (x, instObj 337 dx) ∈ news) (hd : (dx, dictOf es n) ∈ news) (H : StE es st) (U : UpdF dx (dictOf es n) news up)
include F X N hx hd H U
theorem sa_cur {v : Str} {u : Nat} (h : ∀ h' es' n', StE es' { st with cur := v } → Fr h₀ L h' m → News h₀ L h' (up (dictOf es' n')) → Q () { s with heap := h', toks := s.toks + 2 }) : wpAny (model pw w) A (setAttr (.ref x) (Str.ofString "current") (.str v u)) Q E s := by
  have H' := H.setCur (h := PyData.keyHash w.params (Str.ofString "current")) (t := s.toks + 1) (u := u) v
  refine set_dict F X N (InstAt.of_news N hx hd) rfl (ksa _) (kp _) (kt0 _) (kh _) (H.get (by decide)) rfl (updF_upd U _) ?_ fun h' F' N' => h h' _ _ H' F' N'
  rw [H'.len]; split <;> decide
theorem sa_c {v : Int} {u : Nat} (h : ∀ h' es' n', StE es' { st with c := v } → Fr h₀ L h' m → News h₀ L h' (up (dictOf es' n')) → Q () { s with heap := h', toks := s.toks + 2 }) : wpAny (model pw w) A (setAttr (.ref x) (Str.ofString "cursor") (.int v u)) Q E s := by
  have H' := H.setC (h := PyData.keyHash w.params (Str.ofString "cursor")) (t := s.toks + 1) (u := u) v
  refine set_dict F X N (InstAt.of_news N hx hd) rfl (ksa _) (kp _) (kt1 _) (kh _) (H.get (by decide)) rfl (updF_upd U _) ?_ fun h' F' N' => h h' _ _ H' F' N'
  rw [H'.len]; split <;> decide
theorem sa_l {v : Int} {u : Nat} (h : ∀ h' es' n', StE es' { st with l := v } → Fr h₀ L h' m → News h₀ L h' (up (dictOf es' n')) → Q () { s with heap := h', toks := s.toks + 2 }) : wpAny (model pw w) A (setAttr (.ref x) (Str.ofString "limit") (.int v u)) Q E s := by
  have H' := H.setL (h := PyData.keyHash w.params (Str.ofString "limit")) (t := s.toks + 1) (u := u) v
  refine set_dict F X N (InstAt.of_news N hx hd) rfl (ksa _) (kp _) (kt2 _) (kh _) (H.get (by decide)) rfl (updF_upd U _) ?_ fun h' F' N' => h h' _ _ H' F' N'
  rw [H'.len]; split <;> decide
theorem sa_lb {v : Int} {u : Nat} (h : ∀ h' es' n', StE es' { st with lb := v } → Fr h₀ L h' m → News h₀ L h' (up (dictOf es' n')) → Q () { s with heap := h', toks := s.toks + 2 }) : wpAny (model pw w) A (setAttr (.ref x) (Str.ofString "limit_backward") (.int v u)) Q E s := by
  have H' := H.setLb (h := PyData.keyHash w.params (Str.ofString "limit_backward")) (t := s.toks + 1) (u := u) v
  refine set_dict F X N (InstAt.of_news N hx hd) rfl (ksa _) (kp _) (kt3 _) (kh _) (H.get (by decide)) rfl (updF_upd U _) ?_ fun h' F' N' => h h' _ _ H' F' N'
  rw [H'.len]; split <;> decide
theorem sa_bra {v : Int} {u : Nat} (h : ∀ h' es' n', StE es' { st with bra := v } → Fr h₀ L h' m → News h₀ L h' (up (dictOf es' n')) → Q () { s with heap := h', toks := s.toks + 2 }) : wpAny (model pw w) A (setAttr (.ref x) (Str.ofString "bra") (.int v u)) Q E s := by
  have H' := H.setBra (h := PyData.keyHash w.params (Str.ofString "bra")) (t := s.toks + 1) (u := u) v
  refine set_dict F X N (InstAt.of_news N hx hd) rfl (ksa _) (kp _) (kt4 _) (kh _) (H.get (by decide)) rfl (updF_upd U _) ?_ fun h' F' N' => h h' _ _ H' F' N'
  rw [H'.len]; split <;> decide
theorem sa_ket {v : Int} {u : Nat} (h : ∀ h' es' n', StE es' { st with ket := v } → Fr h₀ L h' m → News h₀ L h' (up (dictOf es' n')) → Q () { s with heap := h', toks := s.toks + 2 }) : wpAny (model pw w) A (setAttr (.ref x) (Str.ofString "ket") (.int v u)) Q E s := by
  have H' := H.setKet (h := PyData.keyHash w.params (Str.ofString "ket")) (t := s.toks + 1) (u := u) v
  refine set_dict F X N (InstAt.of_news N hx hd) rfl (ksa _) (kp _) (kt5 _) (kh _) (H.get (by decide)) rfl (updF_upd U _) ?_ fun h' F' N' => h h' _ _ H' F' N'
  rw [H'.len]; split <;> decide
theorem sa_ip {v : Int} {u : Nat} (h : ∀ h' es' n', StE es' { st with ip := some v } → Fr h₀ L h' m → News h₀ L h' (up (dictOf es' n')) → Q () { s with heap := h', toks := s.toks + 2 }) : wpAny (model pw w) A (setAttr (.ref x) (Str.ofString "I_pV") (.int v u)) Q E s := by
  have H' := H.setIp (h := PyData.keyHash w.params (Str.ofString "I_pV")) (t := s.toks + 1) (u := u) v
  refine set_dict F X N (InstAt.of_news N hx hd) rfl (ksa _) (kp _) (kt6 _) (kh _) (H.getIp) rfl (updF_upd U _) ?_ fun h' F' N' => h h' _ _ H' F' N'
  rw [H'.len]; split <;> decide
end
end Mine
-- Lp
namespace Mine
open PySem PySem.W PySem.Calls PyProof.Rows
section
variable {prog : Program} {w : World} {A : Around} {E : Value → Shared → Prop} {env : Env} {test : PySem.Expr} {body orelse : List Stmt} {Q : Flow → Shared → Prop}
noncomputable def Turned {σ : Type} (I : σ → Nat → Shared → Prop) (j : Nat) (Q : Flow → Shared → Prop) (f : Flow) (s : Shared) : Prop := match f with
  | .next => ∃ a' j', j' < j ∧ I a' j' s
  | .cont => ∃ a' j', j' < j ∧ I a' j' s
  | .brk => Q .next s
  | .ret v => Q (.ret v) s
theorem whl_ind {σ : Type} (I : σ → Nat → Shared → Prop) (hE : PassesOwn (model prog w) A env E)
    (step : ∀ a j s, I a j s → wpAny (model prog w) A (isTrue test env (eval test env)) (fun b s₂ => WhlIf b (wpAny (model prog w) A (execs body env) (Turned I j Q) E s₂) (wpAny (model prog w) A (execs orelse env) Q E s₂)) E s) :
    ∀ j a s, I a j s → ∀ k, WhlRest prog w A E env test body orelse Q k s := by
  intro j
  induction j using Nat.strongRecOn with
  | _ j ih =>
    intro a s hI k
    show WhlRest prog w A E env test body orelse Q (0 + 1) s
    refine whl_turn hE (wpAny_mono (step a j s hI) (fun b s₂ hb => ?_) fun _ _ x => x)
    · cases b with
      | true =>
        have hb : wpAny (model prog w) A (execs body env) (Turned I j Q) E s₂ := hb
        refine WhlIf.yes rfl (wpAny_mono hb (fun f s3 hf => ?_) fun _ _ x => x)
        cases f with
        | next => obtain ⟨a', j', hj, hI'⟩ := hf; exact ih j' hj a' s3 hI' 0
        | cont => obtain ⟨a', j', hj, hI'⟩ := hf; exact ih j' hj a' s3 hI' 0
        | brk => exact hf
        | ret v => exact hf
      | false => exact WhlIf.no rfl hb
end
-- bundles
structure Cx (w : World) (base : Heap) (mean : ExcName → Option Value) (mg mb : Str → Option Value) (dp un : Nat) (gd : Option (List Code)) (outer : List Env) (h : Heap) : Prop where
  X : (KF w.params).In base
  V : SetHere base
  T : Tp mean mg mb base
  B : Below (Ar dp un gd outer) base outer h
structure Sx (base : Heap) (outer : List Env) (h : Heap) (x dx : Addr) (st : St) : Prop where
  hx : h.get? x = some (instObj 337 dx)
  hd : ∃ es n, h.get? dx = some (dictOf es n) ∧ StE es st
  bx : base.get? x = none
  bd : base.get? dx = none
  nx : ∀ env ∈ outer, env.frame ≠ some x
  nd : ∀ env ∈ outer, env.frame ≠ some dx
  hxd : x ≠ dx
noncomputable def After (s : Shared) (dx : Addr) (P : Value → St → Prop) : Result → Shared → Prop :=
  Ends s fun r h' => (∀ b o, b ≠ dx → s.heap.get? b = some o → h'.get? b = some o) ∧ ∃ es n st, h'.get? dx = some (dictOf es n) ∧ StE es st ∧ P r st
theorem hid_ok {base h : Heap} {outer : List Env} {x dx : Addr} {es : List DictEntry} {n : Nat} (hx : h.get? x = some (instObj 337 dx)) (hd : h.get? dx = some (dictOf es n)) (bx : base.get? x = none) (bd : base.get? dx = none)
    (nx : ∀ env ∈ outer, env.frame ≠ some x) (nd : ∀ env ∈ outer, env.frame ≠ some dx) : ∀ p ∈ [(x, instObj 337 dx), (dx, dictOf es n)], h.get? p.1 = some p.2 ∧ base.get? p.1 = none ∧ ∀ env ∈ outer, env.frame ≠ some p.1 := by
  intro p hp
  simp only [List.mem_cons, List.not_mem_nil, or_false] at hp
  rcases hp with rfl | rfl
  · exact ⟨hx, bx, nx⟩
  · exact ⟨hd, bd, nd⟩
theorem after_end {s s' : Shared} {g h' : Heap} {L' x dx : Addr} {m' : Str → Option Value} {es es' : List DictEntry} {n n' tk : Nat} {st' : St} {P : Value → St → Prop} {v : Value}
    (hg : ∀ b o, s.heap.get? b = some o → b ∉ [(x, instObj 337 dx), (dx, dictOf es n)].map (·.1) → g.get? b = some o) (hx : s.heap.get? x = some (instObj 337 dx))
    (F' : Fr g L' h' m') (N' : News g L' h' [(x, instObj 337 dx), (dx, dictOf es' n')]) (H' : StE es' st') (hs : s' = { s with heap := h', toks := tk }) (hp : P v st') : After s dx P (.ok (.ret v)) s' :=
  ⟨v, h', tk, rfl, hs, keep_end hg hx F' N' (.head _), es', n', st', N'.get (.tail _ (.head _)), H', hp⟩
-- a text's sign
noncomputable def chAt (x : Str) (i : Int) : Nat := x.cps.toList.getD i.toNat 0
noncomputable def isV (c : Nat) : Bool := [97, 101, 105, 111, 117].contains c
end Mine
-- Looks
namespace Mine
open PySem PySem.W PySem.Calls PyProof.Rows
section
variable (P : Params)
theorem look35 : (KF P).lookup 35 = some ⟨.type "function", none, .func (fnOf (Str.ofString "__init__") (Str.ofString "BaseStemmer.__init__") (stParams (st2 2 0)) (stBody (st2 2 0)) (stScope (st2 2 0)) .none .none .none (.str (Str.ofString "snowballstemmer.basestemmer") 194) none (.ref 34) .none), #[]⟩ := by kernel_rfl
theorem code35 : codeIn (KF P) (.ref 34) (Str.ofString "BaseStemmer.__init__") = true := by kernel_rfl
theorem look42 : (KF P).lookup 42 = some ⟨.type "function", none, .func (fnOf (Str.ofString "set_current") (Str.ofString "BaseStemmer.set_current") (stParams (st2 2 1)) (stBody (st2 2 1)) (stScope (st2 2 1)) .none .none .none (.str (Str.ofString "snowballstemmer.basestemmer") 194) none (.ref 41) .none), #[]⟩ := by kernel_rfl
theorem code42 : codeIn (KF P) (.ref 41) (Str.ofString "BaseStemmer.set_current") = true := by kernel_rfl
theorem look49 : (KF P).lookup 49 = some ⟨.type "function", none, .func (fnOf (Str.ofString "get_current") (Str.ofString "BaseStemmer.get_current") (stParams (st2 2 2)) (stBody (st2 2 2)) (stScope (st2 2 2)) .none .none .none (.str (Str.ofString "snowballstemmer.basestemmer") 194) none (.ref 48) .none), #[]⟩ := by kernel_rfl
theorem code49 : codeIn (KF P) (.ref 48) (Str.ofString "BaseStemmer.get_current") = true := by kernel_rfl
theorem look98 : (KF P).lookup 98 = some ⟨.type "function", none, .func (fnOf (Str.ofString "go_out_grouping") (Str.ofString "BaseStemmer.go_out_grouping") (stParams (st2 2 9)) (stBody (st2 2 9)) (stScope (st2 2 9)) .none .none .none (.str (Str.ofString "snowballstemmer.basestemmer") 194) none (.ref 97) .none), #[]⟩ := by kernel_rfl
theorem code98 : codeIn (KF P) (.ref 97) (Str.ofString "BaseStemmer.go_out_grouping") = true := by kernel_rfl
theorem look133 : (KF P).lookup 133 = some ⟨.type "function", none, .func (fnOf (Str.ofString "find_among") (Str.ofString "BaseStemmer.find_among") (stParams (st2 2 14)) (stBody (st2 2 14)) (stScope (st2 2 14)) .none .none .none (.str (Str.ofString "snowballstemmer.basestemmer") 194) none (.ref 132) .none), #[]⟩ := by kernel_rfl
theorem code133 : codeIn (KF P) (.ref 132) (Str.ofString "BaseStemmer.find_among") = true := by kernel_rfl
theorem look140 : (KF P).lookup 140 = some ⟨.type "function", none, .func (fnOf (Str.ofString "find_among_b") (Str.ofString "BaseStemmer.find_among_b") (stParams (st2 2 15)) (stBody (st2 2 15)) (stScope (st2 2 15)) .none .none .none (.str (Str.ofString "snowballstemmer.basestemmer") 194) none (.ref 139) .none), #[]⟩ := by kernel_rfl
theorem code140 : codeIn (KF P) (.ref 139) (Str.ofString "BaseStemmer.find_among_b") = true := by kernel_rfl
theorem look147 : (KF P).lookup 147 = some ⟨.type "function", none, .func (fnOf (Str.ofString "replace_s") (Str.ofString "BaseStemmer.replace_s") (stParams (st2 2 16)) (stBody (st2 2 16)) (stScope (st2 2 16)) .none .none .none (.str (Str.ofString "snowballstemmer.basestemmer") 194) none (.ref 146) .none), #[]⟩ := by kernel_rfl
theorem code147 : codeIn (KF P) (.ref 146) (Str.ofString "BaseStemmer.replace_s") = true := by kernel_rfl
theorem look154 : (KF P).lookup 154 = some ⟨.type "function", none, .func (fnOf (Str.ofString "slice_from") (Str.ofString "BaseStemmer.slice_from") (stParams (st2 2 17)) (stBody (st2 2 17)) (stScope (st2 2 17)) .none .none .none (.str (Str.ofString "snowballstemmer.basestemmer") 194) none (.ref 153) .none), #[]⟩ := by kernel_rfl
theorem code154 : codeIn (KF P) (.ref 153) (Str.ofString "BaseStemmer.slice_from") = true := by kernel_rfl
theorem look161 : (KF P).lookup 161 = some ⟨.type "function", none, .func (fnOf (Str.ofString "slice_del") (Str.ofString "BaseStemmer.slice_del") (stParams (st2 2 18)) (stBody (st2 2 18)) (stScope (st2 2 18)) .none .none .none (.str (Str.ofString "snowballstemmer.basestemmer") 194) none (.ref 160) .none), #[]⟩ := by kernel_rfl
theorem code161 : codeIn (KF P) (.ref 160) (Str.ofString "BaseStemmer.slice_del") = true := by kernel_rfl
theorem look189 : (KF P).lookup 189 = some ⟨.type "function", none, .func (fnOf (Str.ofString "stemWord") (Str.ofString "BaseStemmer.stemWord") (stParams (st2 2 22)) (stBody (st2 2 22)) (stScope (st2 2 22)) .none .none .none (.str (Str.ofString "snowballstemmer.basestemmer") 194) none (.ref 188) .none), #[]⟩ := by kernel_rfl
theorem code189 : codeIn (KF P) (.ref 188) (Str.ofString "BaseStemmer.stemWord") = true := by kernel_rfl
theorem look194 : (KF P).lookup 194 = some ⟨.type "function", none, .func (fnOf (Str.ofString "stemWords") (Str.ofString "BaseStemmer.stemWords") (stParams (st2 2 23)) (stBody (st2 2 23)) (stScope (st2 2 23)) .none .none .none (.str (Str.ofString "snowballstemmer.basestemmer") 194) none (.ref 193) .none), #[]⟩ := by kernel_rfl
theorem code194 : codeIn (KF P) (.ref 193) (Str.ofString "BaseStemmer.stemWords") = true := by kernel_rfl
theorem look237 : (KF P).lookup 237 = some ⟨.type "function", none, .func (fnOf (Str.ofString "r_mark_regions") (Str.ofString "SesothoStemmer.r_mark_regions") (stParams (st2 6 2)) (stBody (st2 6 2)) (stScope (st2 6 2)) .none .none .none (.str (Str.ofString "snowballstemmer.sesotho_stemmer") 471) none (.ref 236) .none), #[]⟩ := by kernel_rfl
theorem code237 : codeIn (KF P) (.ref 236) (Str.ofString "SesothoStemmer.r_mark_regions") = true := by kernel_rfl
theorem look244 : (KF P).lookup 244 = some ⟨.type "function", none, .func (fnOf (Str.ofString "r_remove_noun_prefixes") (Str.ofString "SesothoStemmer.r_remove_noun_prefixes") (stParams (st2 6 3)) (stBody (st2 6 3)) (stScope (st2 6 3)) .none .none .none (.str (Str.ofString "snowballstemmer.sesotho_stemmer") 471) none (.ref 243) .none), #[]⟩ := by kernel_rfl
theorem code244 : codeIn (KF P) (.ref 243) (Str.ofString "SesothoStemmer.r_remove_noun_prefixes") = true := by kernel_rfl
theorem look251 : (KF P).lookup 251 = some ⟨.type "function", none, .func (fnOf (Str.ofString "r_remove_verb_suffixes") (Str.ofString "SesothoStemmer.r_remove_verb_suffixes") (stParams (st2 6 4)) (stBody (st2 6 4)) (stScope (st2 6 4)) .none .none .none (.str (Str.ofString "snowballstemmer.sesotho_stemmer") 471) none (.ref 250) .none), #[]⟩ := by kernel_rfl
theorem code251 : codeIn (KF P) (.ref 250) (Str.ofString "SesothoStemmer.r_remove_verb_suffixes") = true := by kernel_rfl
theorem look258 : (KF P).lookup 258 = some ⟨.type "function", none, .func (fnOf (Str.ofString "r_remove_nominal_suffixes") (Str.ofString "SesothoStemmer.r_remove_nominal_suffixes") (stParams (st2 6 5)) (stBody (st2 6 5)) (stScope (st2 6 5)) .none .none .none (.str (Str.ofString "snowballstemmer.sesotho_stemmer") 471) none (.ref 257) .none), #[]⟩ := by kernel_rfl
theorem code258 : codeIn (KF P) (.ref 257) (Str.ofString "SesothoStemmer.r_remove_nominal_suffixes") = true := by kernel_rfl
theorem look265 : (KF P).lookup 265 = some ⟨.type "function", none, .func (fnOf (Str.ofString "_stem") (Str.ofString "SesothoStemmer._stem") (stParams (st2 6 6)) (stBody (st2 6 6)) (stScope (st2 6 6)) .none .none .none (.str (Str.ofString "snowballstemmer.sesotho_stemmer") 471) none (.ref 264) .none), #[]⟩ := by kernel_rfl
theorem code265 : codeIn (KF P) (.ref 264) (Str.ofString "SesothoStemmer._stem") = true := by kernel_rfl
theorem look359 : (KF P).lookup 359 = some ⟨.type "function", none, .func (fnOf (Str.ofString "_law_vowels") (Str.ofString "_law_vowels") (stParams (st1 9)) (stBody (st1 9)) (stScope (st1 9)) .none .none .none (.str (Str.ofString "law_iu0020_01") 885) none (.ref 358) .none), #[]⟩ := by kernel_rfl
theorem code359 : codeIn (KF P) (.ref 358) (Str.ofString "_law_vowels") = true := by kernel_rfl
theorem look367 : (KF P).lookup 367 = some ⟨.type "function", none, .func (fnOf (Str.ofString "_law_full") (Str.ofString "_law_full") (stParams (st1 14)) (stBody (st1 14)) (stScope (st1 14)) .none .none .none (.str (Str.ofString "law_iu0020_01") 885) none (.ref 366) .none), #[]⟩ := by kernel_rfl
theorem code367 : codeIn (KF P) (.ref 366) (Str.ofString "_law_full") = true := by kernel_rfl
theorem look374 : (KF P).lookup 374 = some ⟨.type "function", none, .func (fnOf (Str.ofString "_law_head") (Str.ofString "_law_head") (stParams (st1 15)) (stBody (st1 15)) (stScope (st1 15)) .none .none .none (.str (Str.ofString "law_iu0020_01") 885) none (.ref 373) .none), #[]⟩ := by kernel_rfl
theorem code374 : codeIn (KF P) (.ref 373) (Str.ofString "_law_head") = true := by kernel_rfl
theorem look381 : (KF P).lookup 381 = some ⟨.type "function", none, .func (fnOf (Str.ofString "_law_shed") (Str.ofString "_law_shed") (stParams (st1 16)) (stBody (st1 16)) (stScope (st1 16)) .none .none .none (.str (Str.ofString "law_iu0020_01") 885) none (.ref 380) .none), #[]⟩ := by kernel_rfl
theorem code381 : codeIn (KF P) (.ref 380) (Str.ofString "_law_shed") = true := by kernel_rfl
theorem look388 : (KF P).lookup 388 = some ⟨.type "function", none, .func (fnOf (Str.ofString "_law_stem") (Str.ofString "_law_stem") (stParams (st1 17)) (stBody (st1 17)) (stScope (st1 17)) .none .none .none (.str (Str.ofString "law_iu0020_01") 885) none (.ref 387) .none), #[]⟩ := by kernel_rfl
theorem code388 : codeIn (KF P) (.ref 387) (Str.ofString "_law_stem") = true := by kernel_rfl
end
end Mine
-- Lp2
namespace Mine
open PySem PySem.W PySem.Calls PyProof.Rows
section
variable {w : World} {A : Around} {E : Value → Shared → Prop} {s : Shared}
theorem set_typeIs (V : SetHere s.heap) : s.TypeIs (.ref 230) "set" := let ⟨es, ep, t, a, _⟩ := V; ⟨_, a, rfl⟩
theorem vow_find {v : Str} {t : Nat} {Q : Option Nat → Shared → Prop} (V : SetHere s.heap) (hash : Int) (h : ∀ r : Option Nat, r.isSome = vowels.contains v → Q r s) :
    wpAny (model pw w) A (setFind 230 (.str v t) hash) Q E s := by
  obtain ⟨es, ep, tb, ho, hel, hmem, hn, hf⟩ := V
  have hall : es.all (fun e => isExactStrKey e.2) = true := by
    rw [← Array.all_toList, List.all_eq_true]
    intro e he
    obtain ⟨k, u, q⟩ := hel e he
    rw [q]; rfl
  have hscan : byScan (.str v t) es = true := by
    unfold byScan
    have h1 : es.all (fun e => e.2.scannable) = true := by
      rw [← Array.all_toList, List.all_eq_true]
      intro e he
      obtain ⟨k, u, q⟩ := hel e he
      rw [q]; rfl
    have h2 : es.size < scanBound := by rw [hn]; decide
    rw [h1, show (Value.str v t).scannable = true from rfl, decide_eq_true h2]; rfl
  unfold setFind setFindIn
  refine wpAny_bind (wpAny_setState_of ho rfl hf ?_)
  dsimp only
  rw [hscan]
  simp only [↓reduceIte]
  refine wpAny_bind (wpAny_rule ?_)
  unfold setScan
  dsimp only
  rw [if_pos hall]
  unfold setScanStrs
  have hidx : es.findIdx? (fun e => e.2.isStr v) = es.toList.findIdx? (fun e => e.2.isStr v) := by cases es; simp
  rw [hidx]
  cases hr : es.toList.findIdx? (fun e => e.2.isStr v) with
  | none =>
    dsimp only
    refine wpAny_bind (wpAny_pure (wpAny_pure (h none ?_)))
    rw [Option.isSome_none, eq_comm, Bool.eq_false_iff]
    intro q
    obtain ⟨e, he, u, hu⟩ := (hmem v).mp (List.contains_iff_mem.mp q)
    have := List.findIdx?_eq_none_iff.mp hr e he
    rw [hu] at this
    simp [Value.isStr] at this
  | some j =>
    dsimp only
    obtain ⟨hj, hpj, _⟩ := List.findIdx?_eq_some_iff_getElem.mp hr
    have he : es[j]? = some (es.toList[j].1, es.toList[j].2) := by rw [← Array.getElem?_toList]; exact List.getElem?_eq_getElem hj
    rw [he]
    dsimp only
    obtain ⟨k, u, hu⟩ := hel _ (List.getElem_mem hj)
    rw [hu] at hpj
    have hk : k = v := by simpa [Value.isStr] using hpj
    subst hk
    refine wpAny_bind ?_
    refine wpAny_bind (wpAny_setEpoch_of ho rfl hf ?_)
    rw [hu]
    refine wpAny_bind (wpAny_eqBool_str ?_)
    simp only [decide_true, Bool.false_and, Bool.false_eq_true, ↓reduceIte]
    refine wpAny_bind (wpAny_setEpoch_of ho rfl hf ?_)
    simp only [bne_self_eq_false, Bool.false_eq_true, ↓reduceIte]
    refine wpAny_pure (wpAny_pure (h (some j) ?_))
    rw [Option.isSome_some, eq_comm, List.contains_iff_mem]
    exact (hmem k).mpr ⟨_, List.getElem_mem hj, u, hu⟩
theorem in_vow {v : Str} {t : Nat} {Q : Value → Shared → Prop} (V : SetHere s.heap) (h : Q (.bool (vowels.contains v)) { s with toks := s.toks + 1 }) : wpAny (model pw w) A (compareOp .In (.str v t) (.ref 230)) Q E s := by
  show wpAny _ _ (do return .bool (← contains (.ref 230) (.str v t))) Q E s
  refine wpAny_bind ?_
  unfold contains
  try with_reducible refine wpAny_holding ?_
  refine wpAny_bind (wpAny_specialOf (set_typeIs V) F.slot_set_contains.lookup ?_)
  show wpAny _ _ (if (some (Value.builtin "set.__contains__") == some Value.none) = true then _ else _) _ E s
  rw [if_neg (by rw [beq_builtin_none]; exact Bool.false_ne_true)]
  refine wpAny_bind (wpAny_callSpecialUnlessNone?_slot (name := Str.ofString "__contains__") (set_typeIs V) F.slot_set_contains
    (wpAny_call_entry F.slot_set_contains (set_typeIs V) entry_set_contains ?_ (F.args_set_contains_2 _ _)))
  unfold Builtin.«frozenset.__contains__» Builtin.Frozenset.oneOther
  simp only [List.isEmpty_nil, bind_assoc]
  unfold Builtin.Frozenset.addrOf Builtin.Frozenset.withSetAsKey setContains
  refine wpAny_bind (wpAny_pure ?_)
  try dsimp only
  refine wpAny_bind (wpAny_pure ?_)
  try dsimp only
  refine wpAny_bind (wpAny_tryCatch ?_)
  refine wpAny_holding ?_
  refine wpAny_bind ((strKind pw w).pyHash (strKind_is _ _ _ _) ?_)
  refine wpAny_bind (vow_find (s := { s with toks := s.toks + 1 }) V _ fun r hr => ?_)
  refine wpAny_pure ?_
  show wpAny _ _ (ret (Value.bool r.isSome)) _ _ _
  rw [hr]
  exact wpAny_pure ⟨_, rfl, wpAny_truthy_bool (wpAny_pure h)⟩
theorem in_vowF {h₀ : Heap} {L : Addr} {m : Str → Option Value} {v : Str} {t : Nat} {Q : Value → Shared → Prop} (F : Fr h₀ L s.heap m) (V : SetHere h₀) (h : Q (.bool (vowels.contains v)) { s with toks := s.toks + 1 }) : wpAny (model pw w) A (compareOp .In (.str v t) (.ref 230)) Q E s :=
  in_vow (let ⟨es, ep, tb, a, b⟩ := V; ⟨es, ep, tb, F.keep _ _ a, b⟩) h
end
-- loops stop the walk here
noncomputable def WhStop (prog : Program) (w : World) (A : Around) (E : Value → Shared → Prop) (env : Env) (test : PySem.Expr) (body orelse : List Stmt) (Q : Flow → Shared → Prop) (s : Shared) : Prop := WhlRest prog w A E env test body orelse Q 0 s
theorem wh_stop {prog : Program} {w : World} {A : Around} {E : Value → Shared → Prop} {s : Shared} {env : Env} {test : PySem.Expr} {body orelse : List Stmt} {Q : Flow → Shared → Prop} {pos : Pos} (h : WhStop prog w A E env test body orelse Q s) : wpAny (model prog w) A (exec (.While test body orelse pos) env) Q E s := whl_start 0 h
theorem wh_go {prog : Program} {w : World} {A : Around} {E : Value → Shared → Prop} {s : Shared} {env : Env} {test : PySem.Expr} {body orelse : List Stmt} {Q : Flow → Shared → Prop} {σ : Type} (I : σ → Nat → Shared → Prop) (hE : PassesOwn (model prog w) A env E)
    (j : Nat) (a : σ) (h0 : I a j s)
    (step : ∀ a j s, I a j s → wpAny (model prog w) A (isTrue test env (eval test env)) (fun b s₂ => WhlIf b (wpAny (model prog w) A (execs body env) (Turned I j Q) E s₂) (wpAny (model prog w) A (execs orelse env) Q E s₂)) E s) : WhStop prog w A E env test body orelse Q s := whl_ind I hE step j a s h0 0
theorem whlif_dec {c : Prop} [Decidable c] {T F : Prop} (h1 : c → T) (h2 : ¬ c → F) : WhlIf (decide c) T F := by
  by_cases h : c
  · exact WhlIf.yes (decide_eq_true h) (h1 h)
  · exact WhlIf.no (decide_eq_false h) (h2 h)
end Mine
-- Lp3
namespace Mine
open PySem PySem.W PySem.Calls PyProof.Rows
noncomputable def one (c : Nat) : Str := ⟨#[c]⟩
theorem vow_one (c : Nat) : vowels.contains (one c) = isV c := by
  have h : vowels = [one 117, one 111, one 105, one 101, one 97] := by decide +kernel
  rw [h]
  have e : ∀ a b : Nat, (one a == one b) = (a == b) := fun a b => by
    rw [Bool.eq_iff_iff, beq_iff_eq, beq_iff_eq]
    constructor
    · intro q; simpa [one] using q
    · rintro rfl; rfl
  simp only [List.contains_cons, List.contains_nil, Bool.or_false, e, isV]
  cases (c == 97) <;> cases (c == 101) <;> cases (c == 105) <;> cases (c == 111) <;> cases (c == 117) <;> rfl
theorem item_one (x : Str) (i : Int) (h0 : 0 ≤ i) (h1 : i < x.length) : Txt.item x i = one (chAt x i) := by
  have hl : i.toNat < x.cps.size := by have : x.length = x.cps.size := rfl; omega
  have hs : seqIndex? i x.length = some i.toNat := by
    unfold seqIndex?
    have : x.length = x.cps.size := rfl
    have h2 : ¬ i < 0 := by omega
    simp [h2, h0, this, hl]
    try omega
  unfold Txt.item Txt.charAt one chAt
  rw [hs, Option.bind_some]
  rw [List.getD_eq_getElem?_getD, Array.getElem?_toList]
section
variable {w : World} {A : Around} {E : Value → Shared → Prop} {s : Shared} {Q : Value → Shared → Prop} {x : Str} {t u : Nat} {i : Int} {value slice : PySem.Expr}
theorem item_at (h0 : 0 ≤ i) (h1 : i < x.length) (hz : x.length ≤ 1000) (h : Q (.str (one (chAt x i)) s.toks) { s with toks := s.toks + 1 })
    (hs : subscripted slice false (.str x t) (.int i u) = operate [.str x t, .int i u] (getItem (.str x t) (.int i u)) := by with_unfolding_all rfl)
    (ht : ∀ r, letTemporaryGo value (.str x t) r = pure () := by intro _; with_unfolding_all rfl) :
    wpAny (model pw w) A (subscriptTail value slice (.str x t) (.int i u)) Q E s :=
  item_str (fitsSsize_of (N := 9223372036854775808) (by omega) (by omega) (Int.le_refl _)) (by omega) h1 (fun _ => by rw [item_one x i h0 h1]; exact h) hs ht
theorem in_one {h₀ : Heap} {L : Addr} {m : Str → Option Value} {c : Nat} (F : Fr h₀ L s.heap m) (V : SetHere h₀) (h : Q (.bool (isV c)) { s with toks := s.toks + 1 }) : wpAny (model pw w) A (compareOp .In (.str (one c) t) (.ref 230)) Q E s :=
  in_vowF F V (by rw [vow_one]; exact h)
end
end Mine
-- Tx
namespace Mine
open PySem PySem.W PySem.Calls PyProof.Rows
noncomputable def tx (l : List Nat) : Str := ⟨l.toArray⟩
noncomputable def cp (x : Str) : List Nat := x.cps.toList
theorem tx_cp (x : Str) : tx (cp x) = x := by obtain ⟨⟨l⟩⟩ := x; rfl
theorem cp_tx (l : List Nat) : cp (tx l) = l := rfl
theorem len_cp (x : Str) : x.length = (cp x).length := rfl
theorem tx_inj {a b : List Nat} (h : tx a = tx b) : a = b := by rw [← cp_tx a, h, cp_tx]
theorem tx_app (a b : List Nat) : tx a ++ tx b = tx (a ++ b) := by
  apply Str.ext'
  rw [Str.cps_append]
  simp [tx]
theorem empty_tx : Str.ofString "" = tx [] := by decide +kernel
theorem slice_ab {x : Str} {i j : Int} (h0 : 0 ≤ i) (h1 : i ≤ j) (h2 : j ≤ x.length) : Txt.slice x (some i) (some j) = tx (((cp x).drop i.toNat).take (j - i).toNat) := by
  have := slice_closes (x := x) (i := i) (j := j) ⟨h0, h1, h2⟩
  exact eq_of_beq this
theorem slice_0b {x : Str} {j : Int} (h1 : 0 ≤ j) (h2 : j ≤ x.length) : Txt.slice x (some 0) (some j) = tx ((cp x).take j.toNat) := by
  rw [slice_ab (Int.le_refl 0) h1 h2]
  simp
theorem slice_b {x : Str} {j : Int} (h1 : 0 ≤ j) (h2 : j ≤ x.length) : Txt.slice x none (some j) = tx ((cp x).take j.toNat) := by
  have := slice_closes_to (x := x) (j := j) ⟨h1, h2⟩
  rw [eq_of_beq this]
  simp [tx, cp]
theorem slice_a {x : Str} {i : Int} (h0 : 0 ≤ i) (h2 : i ≤ x.length) : Txt.slice x (some i) none = tx ((cp x).drop i.toNat) := by
  rw [slice_from_eq h0 h2 rfl]
  show tx _ = tx _
  congr 1
  have hl : x.length = (cp x).length := rfl
  have : ((x.length : Int) - i).toNat = ((cp x).drop i.toNat).length := by rw [List.length_drop]; omega
  rw [this]
  exact List.take_length
theorem chAt_cp (x : Str) (i : Int) : chAt x i = (cp x).getD i.toNat 0 := rfl
end Mine
-- Cl
namespace Mine
open PySem PySem.W PySem.Calls PyProof.Rows
structure Zx (w : World) (base : Heap) (mean : ExcName → Option Value) (mg mb : Str → Option Value) (dp un : Nat) (gd : Option (List Code)) (outer : List Env) (g : Heap) (x dx : Addr) : Prop where
  B : Below (Ar dp un gd outer) base outer g
  X : (KF w.params).In base
  V : SetHere base
  T : Tp mean mg mb base
  bx : base.get? x = none
  bd : base.get? dx = none
  nx : ∀ env ∈ outer, env.frame ≠ some x
  nd : ∀ env ∈ outer, env.frame ≠ some dx
  hxd : x ≠ dx
section
variable {w : World} {base g h : Heap} {mean : ExcName → Option Value} {mg mb : Str → Option Value} {dp un : Nat} {gd : Option (List Code)} {outer : List Env} {x dx L : Addr} {m : Str → Option Value} {env : Env} {news : List (Addr × Obj)} {es : List DictEntry} {n : Nat} {st : St}
theorem Zx.cx (F : Fr g L h m) (Z : Zx w base mean mg mb dp un gd outer g x dx) (hf : env.frame = some L) (hk : env.scope.kind = .function) : Cx w base mean mg mb (dp + 1) (un + 3) gd (env :: outer) h :=
  ⟨Z.X, Z.V, Z.T, pushX Z.B F hf hk⟩
theorem Zx.sx (N : News g L h news) (Z : Zx w base mean mg mb dp un gd outer g x dx) (mx : (x, instObj 337 dx) ∈ news) (md : (dx, dictOf es n) ∈ news) (H : StE es st) (hf : env.frame = some L) : Sx base (env :: outer) h x dx st := by
  refine ⟨(N _ mx).1, ⟨es, n, (N _ md).1, H⟩, Z.bx, Z.bd, fun e he => ?_, fun e he => ?_, Z.hxd⟩
  · rcases List.mem_cons.mp he with rfl | he
    · rw [hf]; intro q; exact (N _ mx).2.1 (Option.some.inj q).symm
    · exact Z.nx e he
  · rcases List.mem_cons.mp he with rfl | he
    · rw [hf]; intro q; exact (N _ md).2.1 (Option.some.inj q).symm
    · exact Z.nd e he
theorem call_after {A : Around} {s : Shared} {f : Addr} {vs : List Value} {P : Value → St → Prop} {Q E : Value → Shared → Prop} {up : Obj → List (Addr × Obj)} (hs : codeAny (model pw w) A (.call (.ref f) ⟨vs, []⟩) (After s dx P) s)
    (F : Fr g L s.heap m) (N : News g L s.heap news) (md : (dx, dictOf es n) ∈ news) (U : UpdF dx (dictOf es n) news up)
    (h : ∀ v h' tk es' n' st', P v st' → Fr g L h' m → News g L h' (up (dictOf es' n')) → StE es' st' → Q v { s with heap := h', toks := tk }) : wpAny (model pw w) A (call (.ref f) vs) Q E s := by
  refine wpAny_call (codeAny_mono hs fun r s' hr => ?_)
  obtain ⟨v, h', tk, rfl, rfl, hk, es', n', st', hd, H', hp⟩ := hr
  exact h v h' tk es' n' st' hp (fr_after F hk (N _ md).2.2 (N _ md).2.1) (news_after N (updF_upd U _) hk hd) H'
end
end Mine
-- Tb
namespace Mine
open PySem PySem.W PySem.Calls PyProof.Rows
structure Tab where
  v : Addr
  a0 : Addr
  keys : List (List Nat)
  sub : List Int
  res : Int
noncomputable def Tab.items (T : Tab) : List Value := (List.range T.keys.length).map fun k => .ref (T.a0 + 3 * k)
noncomputable def Tab.key (T : Tab) (k : Nat) : List Nat := T.keys.getD k []
noncomputable def AmAt (h : Heap) (a : Addr) (K : List Nat) (sb rs : Int) : Prop := ∃ es n, h.get? a = some (instObj 218 (a - 1)) ∧ h.get? (a - 1) = some (dictOf es n) ∧
  (∃ u, getL (Str.ofString "s") es = some (some (.str (tx K) u))) ∧ (∃ u, getL (Str.ofString "substring_i") es = some (some (.int sb u))) ∧ ∃ u, getL (Str.ofString "result") es = some (some (.int rs u))
structure TabAt (h : Heap) (T : Tab) : Prop where
  l : h.IsList T.v T.items.toArray
  a : ∀ k, k < T.keys.length → AmAt h (T.a0 + 3 * k) (T.key k) (T.sub.getD k 0) T.res
theorem AmAt.keeps {h h' : Heap} {a : Addr} {K : List Nat} {sb rs : Int} (A : AmAt h a K sb rs) (k : ∀ b o, h.get? b = some o → h'.get? b = some o) : AmAt h' a K sb rs := by
  obtain ⟨es, n, h1, h2, r⟩ := A
  exact ⟨es, n, k _ _ h1, k _ _ h2, r⟩
theorem TabAt.keeps {h h' : Heap} {T : Tab} (A : TabAt h T) (k : ∀ b o, h.get? b = some o → h'.get? b = some o) : TabAt h' T := by
  obtain ⟨⟨o, a, r⟩, q⟩ := A
  exact ⟨⟨o, k _ _ a, r⟩, fun i hi => (q i hi).keeps k⟩
noncomputable def tab0 : Tab := ⟨290, 267, [[98, 97], [98, 111, 105], [108, 101], [108, 105], [109, 97], [109, 101], [109, 111], [115, 101]], [-1, -1, -1, -1, -1, -1, -1, -1], -1⟩
noncomputable def tab1 : Tab := ⟨318, 292, [[97], [101, 108, 97], [105, 115, 97], [119, 97], [105, 108, 101], [101, 116, 115, 101], [97, 110, 103], [101, 110, 103], [111, 110, 103]], [-1, 0, 0, 0, -1, -1, -1, -1, -1], 1⟩
noncomputable def tab2 : Tab := ⟨334, 320, [[97, 110, 97], [110, 121, 97, 110, 97], [111, 97], [105], [97, 110, 111]], [-1, 0, -1, -1, -1], 1⟩
section
variable (P : Params)
noncomputable def esAm (P : Params) (K : Str) (sb rs : Int) (a b c d e f : Nat) : List DictEntry :=
  [⟨PyData.keyHash P (Str.ofString "s"), .str (Str.ofString "s") a, .str K b⟩, ⟨PyData.keyHash P (Str.ofString "substring_i"), .str (Str.ofString "substring_i") c, .int sb d⟩, ⟨PyData.keyHash P (Str.ofString "result"), .str (Str.ofString "result") e, .int rs f⟩]
end
theorem amAt_of {w : World} {h : Heap} {a : Addr} {K : List Nat} {sb rs : Int} (X : (KF w.params).In h) (es : List DictEntry) (n : Nat) (h1 : (KF w.params).lookup a = some (instObj 218 (a - 1))) (h2 : (KF w.params).lookup (a - 1) = some (dictOf es n))
  (h3 : ∃ u, getL (Str.ofString "s") es = some (some (.str (tx K) u))) (h4 : ∃ u, getL (Str.ofString "substring_i") es = some (some (.int sb u))) (h5 : ∃ u, getL (Str.ofString "result") es = some (some (.int rs u))) : AmAt h a K sb rs :=
  ⟨es, n, X _ _ h1, X _ _ h2, h3, h4, h5⟩
section
variable (P : Params)
theorem kam1 : hasDictIn (KF P) 218 = true := by kernel_rfl
theorem kam2 : plainGet (KF P) 218 (Str.ofString "s") = true := by kernel_rfl
theorem kam3 : plainGet (KF P) 218 (Str.ofString "substring_i") = true := by kernel_rfl
theorem kam4 : plainGet (KF P) 218 (Str.ofString "result") = true := by kernel_rfl
theorem kam5 : findIn (KF P) (.ref 218) (Str.ofString "s") = some none := by kernel_rfl
theorem kam6 : findIn (KF P) (.ref 218) (Str.ofString "substring_i") = some none := by kernel_rfl
theorem kam7 : findIn (KF P) (.ref 218) (Str.ofString "result") = some none := by kernel_rfl
end
section
variable {w : World} {A : Around} {E : Value → Shared → Prop} {s : Shared} {h₀ : Heap} {L : Addr} {m : Str → Option Value} {expr : Bool} {Q : Value → Shared → Prop} {a : Addr} {K : List Nat} {sb rs : Int}
  (F : Fr h₀ L s.heap m) (X : (KF w.params).In h₀) (H : AmAt h₀ a K sb rs)
include F X H
theorem ga_s (h : ∀ u, Q (.str (tx K) u) { s with toks := s.toks + 1 }) : wpAny (model pw w) A (getAttr (.ref a) (Str.ofString "s") expr) Q E s :=
  let ⟨_, _, h1, h2, ⟨u, hu⟩, _⟩ := H; get_own F X ⟨F.keep _ _ h1, rfl, rfl, F.keep _ _ h2⟩ (kam2 _) (kam1 _) (kam5 _) (kn0 _) hu rfl (h u)
theorem ga_sub (h : ∀ u, Q (.int sb u) { s with toks := s.toks + 1 }) : wpAny (model pw w) A (getAttr (.ref a) (Str.ofString "substring_i") expr) Q E s :=
  let ⟨_, _, h1, h2, _, ⟨u, hu⟩, _⟩ := H; get_own F X ⟨F.keep _ _ h1, rfl, rfl, F.keep _ _ h2⟩ (kam3 _) (kam1 _) (kam6 _) (kn0 _) hu rfl (h u)
theorem ga_res (h : ∀ u, Q (.int rs u) { s with toks := s.toks + 1 }) : wpAny (model pw w) A (getAttr (.ref a) (Str.ofString "result") expr) Q E s :=
  let ⟨_, _, h1, h2, _, _, ⟨u, hu⟩⟩ := H; get_own F X ⟨F.keep _ _ h1, rfl, rfl, F.keep _ _ h2⟩ (kam4 _) (kam1 _) (kam7 _) (kn0 _) hu rfl (h u)
end
section
variable {w : World} {A : Around} {E : Value → Shared → Prop} {s : Shared} {h₀ : Heap} {L : Addr} {m : Str → Option Value} {Q : Value → Shared → Prop} {T : Tab} {i : Int} {u : Nat} {value slice : PySem.Expr}
  (F : Fr h₀ L s.heap m) (H : TabAt h₀ T)
include F H
theorem tab_item (h0 : 0 ≤ i) (h1 : i < T.keys.length) (hz : i < 1000) (h : Q (.ref (T.a0 + 3 * i.toNat)) s)
    (hs : subscripted slice false (.ref T.v) (.int i u) = operate [.ref T.v, .int i u] (getItem (.ref T.v) (.int i u)) := by with_unfolding_all rfl) :
    wpAny (model pw w) A (subscriptTail value slice (.ref T.v) (.int i u)) Q E s := by
  have hl : s.heap.IsList T.v T.items.toArray := let ⟨o, a, r⟩ := H.l; ⟨o, F.keep _ _ a, r⟩
  refine tail_any hl.typeIs slot_list_getitem.lookup (wpAny_getItem_list hl h0 (by omega) ?_ h) hs
  have hk : i.toNat < T.keys.length := by omega
  simp [Tab.items, hk]
theorem tab_len (hz : T.keys.length < 1000) (h : ∀ u tk, Q (.int T.keys.length u) { s with toks := tk }) : wpAny (model pw w) A (call (.builtin "len") [.ref T.v]) Q E s := by
  have hl : s.heap.IsList T.v T.items.toArray := let ⟨o, a, r⟩ := H.l; ⟨o, F.keep _ _ a, r⟩
  have e : T.items.toArray.size = T.keys.length := by simp [Tab.items]
  exact call_len_list hl (by omega) (by rw [e]; exact h _ _)
end
theorem es_s {P : Params} {K : Str} {l : List Nat} {sb rs : Int} {a b c d e f : Nat} (h : K = tx l) : ∃ u, getL (Str.ofString "s") (esAm P K sb rs a b c d e f) = some (some (.str (tx l) u)) := ⟨b, by subst h; rfl⟩
theorem es_sub' (P : Params) (K : Str) (sb rs : Int) (a b c d e f : Nat) : ∃ u, getL (Str.ofString "substring_i") (esAm P K sb rs a b c d e f) = some (some (.int sb u)) := ⟨d, rfl⟩
theorem es_res' (P : Params) (K : Str) (sb rs : Int) (a b c d e f : Nat) : ∃ u, getL (Str.ofString "result") (esAm P K sb rs a b c d e f) = some (some (.int rs u)) := ⟨f, rfl⟩
theorem listLook0 (P : Params) : (KF P).lookup 290 = some ⟨.type "list", none, .seq tab0.items.toArray 0, #[]⟩ := by kernel_rfl
theorem listLook1 (P : Params) : (KF P).lookup 318 = some ⟨.type "list", none, .seq tab1.items.toArray 0, #[]⟩ := by kernel_rfl
theorem listLook2 (P : Params) : (KF P).lookup 334 = some ⟨.type "list", none, .seq tab2.items.toArray 0, #[]⟩ := by kernel_rfl
section
variable {w : World} {h : Heap}
theorem am00 (X : (KF w.params).In h) : AmAt h 267 [98, 97] (-1) (-1) := amAt_of X (esAm w.params (Str.ofString "ba") (-1) (-1) 551 541 553 543 555 545) 3 (by kernel_rfl) (by kernel_rfl) (es_s (by decide +kernel)) (es_sub' ..) (es_res' ..)
theorem am01 (X : (KF w.params).In h) : AmAt h 270 [98, 111, 105] (-1) (-1) := amAt_of X (esAm w.params (Str.ofString "boi") (-1) (-1) 566 556 568 558 570 560) 3 (by kernel_rfl) (by kernel_rfl) (es_s (by decide +kernel)) (es_sub' ..) (es_res' ..)
theorem am02 (X : (KF w.params).In h) : AmAt h 273 [108, 101] (-1) (-1) := amAt_of X (esAm w.params (Str.ofString "le") (-1) (-1) 581 571 583 573 585 575) 3 (by kernel_rfl) (by kernel_rfl) (es_s (by decide +kernel)) (es_sub' ..) (es_res' ..)
theorem am03 (X : (KF w.params).In h) : AmAt h 276 [108, 105] (-1) (-1) := amAt_of X (esAm w.params (Str.ofString "li") (-1) (-1) 596 586 598 588 600 590) 3 (by kernel_rfl) (by kernel_rfl) (es_s (by decide +kernel)) (es_sub' ..) (es_res' ..)
theorem am04 (X : (KF w.params).In h) : AmAt h 279 [109, 97] (-1) (-1) := amAt_of X (esAm w.params (Str.ofString "ma") (-1) (-1) 611 601 613 603 615 605) 3 (by kernel_rfl) (by kernel_rfl) (es_s (by decide +kernel)) (es_sub' ..) (es_res' ..)
theorem am05 (X : (KF w.params).In h) : AmAt h 282 [109, 101] (-1) (-1) := amAt_of X (esAm w.params (Str.ofString "me") (-1) (-1) 626 616 628 618 630 620) 3 (by kernel_rfl) (by kernel_rfl) (es_s (by decide +kernel)) (es_sub' ..) (es_res' ..)
theorem am06 (X : (KF w.params).In h) : AmAt h 285 [109, 111] (-1) (-1) := amAt_of X (esAm w.params (Str.ofString "mo") (-1) (-1) 641 631 643 633 645 635) 3 (by kernel_rfl) (by kernel_rfl) (es_s (by decide +kernel)) (es_sub' ..) (es_res' ..)
theorem am07 (X : (KF w.params).In h) : AmAt h 288 [115, 101] (-1) (-1) := amAt_of X (esAm w.params (Str.ofString "se") (-1) (-1) 656 646 658 648 660 650) 3 (by kernel_rfl) (by kernel_rfl) (es_s (by decide +kernel)) (es_sub' ..) (es_res' ..)
theorem at0 (X : (KF w.params).In h) : TabAt h tab0 := by
  refine ⟨⟨_, X 290 _ (listLook0 _), rfl, _, rfl⟩, fun k hk => ?_⟩
  have hk : k < 8 := hk
  match k, hk with
  | 0, _ => exact am00 X
  | 1, _ => exact am01 X
  | 2, _ => exact am02 X
  | 3, _ => exact am03 X
  | 4, _ => exact am04 X
  | 5, _ => exact am05 X
  | 6, _ => exact am06 X
  | 7, _ => exact am07 X
  | k + 8, h => exact absurd h (by omega)
theorem am10 (X : (KF w.params).In h) : AmAt h 292 [97] (-1) 1 := amAt_of X (esAm w.params (Str.ofString "a") (-1) 1 671 662 673 664 675 665) 3 (by kernel_rfl) (by kernel_rfl) (es_s (by decide +kernel)) (es_sub' ..) (es_res' ..)
theorem am11 (X : (KF w.params).In h) : AmAt h 295 [101, 108, 97] 0 1 := amAt_of X (esAm w.params (Str.ofString "ela") 0 1 684 676 686 677 688 678) 3 (by kernel_rfl) (by kernel_rfl) (es_s (by decide +kernel)) (es_sub' ..) (es_res' ..)
theorem am12 (X : (KF w.params).In h) : AmAt h 298 [105, 115, 97] 0 1 := amAt_of X (esAm w.params (Str.ofString "isa") 0 1 697 689 699 690 701 691) 3 (by kernel_rfl) (by kernel_rfl) (es_s (by decide +kernel)) (es_sub' ..) (es_res' ..)
theorem am13 (X : (KF w.params).In h) : AmAt h 301 [119, 97] 0 1 := amAt_of X (esAm w.params (Str.ofString "wa") 0 1 710 702 712 703 714 704) 3 (by kernel_rfl) (by kernel_rfl) (es_s (by decide +kernel)) (es_sub' ..) (es_res' ..)
theorem am14 (X : (KF w.params).In h) : AmAt h 304 [105, 108, 101] (-1) 1 := amAt_of X (esAm w.params (Str.ofString "ile") (-1) 1 724 715 726 717 728 718) 3 (by kernel_rfl) (by kernel_rfl) (es_s (by decide +kernel)) (es_sub' ..) (es_res' ..)
theorem am15 (X : (KF w.params).In h) : AmAt h 307 [101, 116, 115, 101] (-1) 1 := amAt_of X (esAm w.params (Str.ofString "etse") (-1) 1 738 729 740 731 742 732) 3 (by kernel_rfl) (by kernel_rfl) (es_s (by decide +kernel)) (es_sub' ..) (es_res' ..)
theorem am16 (X : (KF w.params).In h) : AmAt h 310 [97, 110, 103] (-1) 1 := amAt_of X (esAm w.params (Str.ofString "ang") (-1) 1 752 743 754 745 756 746) 3 (by kernel_rfl) (by kernel_rfl) (es_s (by decide +kernel)) (es_sub' ..) (es_res' ..)
theorem am17 (X : (KF w.params).In h) : AmAt h 313 [101, 110, 103] (-1) 1 := amAt_of X (esAm w.params (Str.ofString "eng") (-1) 1 766 757 768 759 770 760) 3 (by kernel_rfl) (by kernel_rfl) (es_s (by decide +kernel)) (es_sub' ..) (es_res' ..)
theorem am18 (X : (KF w.params).In h) : AmAt h 316 [111, 110, 103] (-1) 1 := amAt_of X (esAm w.params (Str.ofString "ong") (-1) 1 780 771 782 773 784 774) 3 (by kernel_rfl) (by kernel_rfl) (es_s (by decide +kernel)) (es_sub' ..) (es_res' ..)
theorem at1 (X : (KF w.params).In h) : TabAt h tab1 := by
  refine ⟨⟨_, X 318 _ (listLook1 _), rfl, _, rfl⟩, fun k hk => ?_⟩
  have hk : k < 9 := hk
  match k, hk with
  | 0, _ => exact am10 X
  | 1, _ => exact am11 X
  | 2, _ => exact am12 X
  | 3, _ => exact am13 X
  | 4, _ => exact am14 X
  | 5, _ => exact am15 X
  | 6, _ => exact am16 X
  | 7, _ => exact am17 X
  | 8, _ => exact am18 X
  | k + 9, h => exact absurd h (by omega)
theorem am20 (X : (KF w.params).In h) : AmAt h 320 [97, 110, 97] (-1) 1 := amAt_of X (esAm w.params (Str.ofString "ana") (-1) 1 795 786 797 788 799 789) 3 (by kernel_rfl) (by kernel_rfl) (es_s (by decide +kernel)) (es_sub' ..) (es_res' ..)
theorem am21 (X : (KF w.params).In h) : AmAt h 323 [110, 121, 97, 110, 97] 0 1 := amAt_of X (esAm w.params (Str.ofString "nyana") 0 1 808 800 810 801 812 802) 3 (by kernel_rfl) (by kernel_rfl) (es_s (by decide +kernel)) (es_sub' ..) (es_res' ..)
theorem am22 (X : (KF w.params).In h) : AmAt h 326 [111, 97] (-1) 1 := amAt_of X (esAm w.params (Str.ofString "oa") (-1) 1 822 813 824 815 826 816) 3 (by kernel_rfl) (by kernel_rfl) (es_s (by decide +kernel)) (es_sub' ..) (es_res' ..)
theorem am23 (X : (KF w.params).In h) : AmAt h 329 [105] (-1) 1 := amAt_of X (esAm w.params (Str.ofString "i") (-1) 1 836 827 838 829 840 830) 3 (by kernel_rfl) (by kernel_rfl) (es_s (by decide +kernel)) (es_sub' ..) (es_res' ..)
theorem am24 (X : (KF w.params).In h) : AmAt h 332 [97, 110, 111] (-1) 1 := amAt_of X (esAm w.params (Str.ofString "ano") (-1) 1 850 841 852 843 854 844) 3 (by kernel_rfl) (by kernel_rfl) (es_s (by decide +kernel)) (es_sub' ..) (es_res' ..)
theorem at2 (X : (KF w.params).In h) : TabAt h tab2 := by
  refine ⟨⟨_, X 334 _ (listLook2 _), rfl, _, rfl⟩, fun k hk => ?_⟩
  have hk : k < 5 := hk
  match k, hk with
  | 0, _ => exact am20 X
  | 1, _ => exact am21 X
  | 2, _ => exact am22 X
  | 3, _ => exact am23 X
  | 4, _ => exact am24 X
  | k + 5, h => exact absurd h (by omega)
end
end Mine
-- Pt
namespace Mine
-- a sorted table of keys, searched
noncomputable def Ag (K T : List Nat) (m : Nat) : Prop := m ≤ K.length ∧ m ≤ T.length ∧ K.take m = T.take m
theorem Ag.zero (K T : List Nat) : Ag K T 0 := ⟨Nat.zero_le _, Nat.zero_le _, by simp⟩
theorem Ag.le {K T : List Nat} {m k : Nat} (h : Ag K T m) (hk : k ≤ m) : Ag K T k := by
  obtain ⟨a, b, c⟩ := h
  refine ⟨by omega, by omega, ?_⟩
  have := congrArg (List.take k) c
  rwa [List.take_take, List.take_take, Nat.min_eq_left hk] at this
theorem Ag.succ {K T : List Nat} {m : Nat} (h : Ag K T m) (h1 : m < K.length) (h2 : m < T.length) (e : T.getD m 0 = K.getD m 0) : Ag K T (m + 1) := by
  obtain ⟨a, b, c⟩ := h
  refine ⟨h1, h2, ?_⟩
  rw [List.getD_eq_getElem?_getD, List.getD_eq_getElem?_getD, List.getElem?_eq_getElem h1, List.getElem?_eq_getElem h2, Option.getD_some, Option.getD_some] at e
  have e1 : K.take (m + 1) = K.take m ++ [K[m]] := by simp
  have e2 : T.take (m + 1) = T.take m ++ [T[m]] := by simp
  rw [e1, e2, c, e]
theorem Ag.pre {K T : List Nat} (h : Ag K T K.length) : K <+: T := by
  obtain ⟨a, b, c⟩ := h
  rw [List.take_length] at c
  rw [c]
  exact List.take_prefix _ _
theorem pre_take {K T : List Nat} (h : K <+: T) {m : Nat} (hm : m ≤ K.length) : K.take m = T.take m := by
  obtain ⟨r, rfl⟩ := h
  rw [List.take_append_of_le_length hm]
theorem pre_get {K T : List Nat} (h : K <+: T) {m : Nat} (hm : m < K.length) : K.getD m 0 = T.getD m 0 := by
  obtain ⟨r, rfl⟩ := h
  simp [List.getD_eq_getElem?_getD, List.getElem?_append_left hm]
structure TabOk (ks : List (List Nat)) (sub : List Int) : Prop where
  c1 : ∀ d, d < ks.length → ∀ b, b < d + 1 → ∀ a, a < b + 1 → ∀ m, m < 6 → m ≤ (ks.getD a []).length → m ≤ (ks.getD d []).length → (ks.getD a []).take m = (ks.getD d []).take m → m ≤ (ks.getD b []).length ∧ (ks.getD b []).take m = (ks.getD a []).take m
  c2 : ∀ p, p < ks.length → ∀ k, k < p + 1 → ∀ c, c < 5 → c < (ks.getD k []).length → c < (ks.getD p []).length → (ks.getD k []).take c = (ks.getD p []).take c → (ks.getD k []).getD c 0 ≤ (ks.getD p []).getD c 0
  c3 : ∀ p, p < ks.length → ∀ k, k < p → ¬ ((ks.getD p []).isPrefixOf (ks.getD k []) = true)
  c4 : ∀ i, i < ks.length → ∀ p, p < i → (ks.getD p []).isPrefixOf (ks.getD i []) = true → 0 ≤ sub.getD i 0 ∧ (p : Int) ≤ sub.getD i 0
  c5 : ∀ i, i < ks.length → 0 ≤ sub.getD i 0 → sub.getD i 0 < i ∧ (ks.getD (sub.getD i 0).toNat []).isPrefixOf (ks.getD i []) = true
  c6 : ∀ i, i < ks.length → 0 < (ks.getD i []).length ∧ (ks.getD i []).length ≤ 5
theorem isP {a b : List Nat} : a.isPrefixOf b = true ↔ a <+: b := List.isPrefixOf_iff_prefix

noncomputable def bks (ks : List (List Nat)) : List (List Nat) := ks.map List.reverse
set_option synthInstance.maxHeartbeats 2000000 in
set_option synthInstance.maxSize 4096 in
theorem ok0 : TabOk tab0.keys tab0.sub := ⟨by decide +kernel, by decide +kernel, by decide +kernel, by decide +kernel, by decide +kernel, by decide +kernel⟩
set_option synthInstance.maxHeartbeats 2000000 in
set_option synthInstance.maxSize 4096 in
theorem ok1 : TabOk (bks tab1.keys) tab1.sub := ⟨by decide +kernel, by decide +kernel, by decide +kernel, by decide +kernel, by decide +kernel, by decide +kernel⟩
set_option synthInstance.maxHeartbeats 2000000 in
set_option synthInstance.maxSize 4096 in
theorem ok2 : TabOk (bks tab2.keys) tab2.sub := ⟨by decide +kernel, by decide +kernel, by decide +kernel, by decide +kernel, by decide +kernel, by decide +kernel⟩
-- the search's state
structure BInv (ks : List (List Nat)) (T : List Nat) (i j ci cj : Nat) : Prop where
  ij : i ≤ j
  jn : j ≤ ks.length
  inn : i < ks.length
  ai : Ag (ks.getD i []) T ci
  aj : (j < ks.length ∧ Ag (ks.getD j []) T cj) ∨ cj = 0
  hi : ∀ p, j ≤ p → p < ks.length → ¬ ks.getD p [] <+: T
  lo : ∀ p, p < i → ks.getD p [] <+: T → (ks.getD p []).length ≤ ci
  at_ : 0 < i → ks.getD i [] <+: T → (ks.getD i []).length ≤ ci
section
variable {ks : List (List Nat)} {sub : List Int} {T : List Nat} {i j ci cj k c : Nat} (O : TabOk ks sub)
theorem BInv.init (h : 0 < ks.length) : BInv ks T 0 ks.length 0 0 := ⟨Nat.zero_le _, Nat.le_refl _, h, Ag.zero _ _, .inr rfl, fun p h1 h2 => by omega, fun p h => by omega, fun h => by omega⟩
include O
theorem BInv.mid (B : BInv ks T i j ci cj) (h1 : i ≤ k) (h2 : k < j) : Ag (ks.getD k []) T (min ci cj) := by
  rcases B.aj with ⟨hj, aj⟩ | h0
  · have a1 := B.ai.le (Nat.min_le_left ci cj)
    have a2 := aj.le (Nat.min_le_right ci cj)
    have l5 := (O.c6 i B.inn).2
    have := O.c1 j hj k (by omega) i (by omega) (min ci cj) (by have := a1.1; omega) a1.1 a2.1 (a1.2.2.trans a2.2.2.symm)
    exact ⟨this.1, a1.2.1, this.2.trans a1.2.2⟩
  · rw [h0, Nat.min_zero]; exact Ag.zero _ _
theorem BInv.left (B : BInv ks T i j ci cj) (h1 : i ≤ k) (h2 : k < j) (a : Ag (ks.getD k []) T c) (hc : c < (ks.getD k []).length) (hl : c = T.length ∨ T.getD c 0 < (ks.getD k []).getD c 0) : BInv ks T i k ci c := by
  have hj := B.jn
  refine ⟨h1, by omega, B.inn, B.ai, .inl ⟨by omega, a⟩, fun p hp hn q => ?_, B.lo, B.at_⟩
  by_cases hpc : c < (ks.getD p []).length
  · have hlT : (ks.getD p []).length ≤ T.length := q.length_le
    rcases hl with hl | hl
    · omega
    · have := O.c2 p hn k (by omega) c (by have := (O.c6 k (by omega)).2; omega) hc hpc (a.2.2.trans (pre_take q (by omega)).symm)
      have e := pre_get q hpc
      omega
  · have e : ks.getD p [] = T.take (ks.getD p []).length := by have := pre_take q (Nat.le_refl _); rwa [List.take_length] at this
    have e2 : (ks.getD k []).take (ks.getD p []).length = T.take (ks.getD p []).length := (a.le (by omega)).2.2
    have hpk : ks.getD p [] <+: ks.getD k [] := by rw [e, ← e2]; exact List.take_prefix _ _
    by_cases e3 : k = p
    · subst e3; exact hpc hc
    · exact O.c3 p hn k (by omega) (isP.mpr hpk)
theorem BInv.right (B : BInv ks T i j ci cj) (h1 : i ≤ k) (h2 : k < j) (a : Ag (ks.getD k []) T c) (hc : c = (ks.getD k []).length ∨ (c < (ks.getD k []).length ∧ c < T.length ∧ (ks.getD k []).getD c 0 < T.getD c 0)) :
    BInv ks T k j c cj ∧ (ks.getD k [] <+: T → (ks.getD k []).length ≤ c) := by
  have hj := B.jn
  have hat : ks.getD k [] <+: T → (ks.getD k []).length ≤ c := fun q => by
    rcases hc with hc | ⟨x, y, z⟩
    · omega
    · have := pre_get q x; omega
  refine ⟨⟨by omega, hj, by omega, a, B.aj, B.hi, fun p hp q => ?_, fun _ => hat⟩, hat⟩
  apply Nat.le_of_not_lt
  intro hlt
  rcases hc with hc | ⟨x, y, z⟩
  · have : ks.getD k [] <+: ks.getD p [] := by
      have e1 : ks.getD k [] = T.take c := by have := a.2.2; rwa [hc, List.take_length, ← hc] at this
      rw [e1, ← pre_take q (by omega)]
      exact List.take_prefix _ _
    -- K_k a proper prefix of K_p with p < k
    exact O.c3 k (by omega) p hp (isP.mpr this)
  · have := O.c2 k (by omega) p (by omega) c (by have := (O.c6 k (by omega)).2; omega) hlt x ((pre_take q (by omega)).trans a.2.2.symm)
    have e := pre_get q hlt
    omega
end
-- the chase
structure CInv (ks : List (List Nat)) (T : List Nat) (i ci : Nat) : Prop where
  inn : i < ks.length
  ai : (ks.getD i []).take ci <+: T
  all : ∀ p, p < ks.length → ks.getD p [] <+: T → p ≤ i ∧ (ks.getD p []).length ≤ ci
noncomputable def IsL (ks : List (List Nat)) (T : List Nat) (n : Nat) : Prop := (∀ K ∈ ks, K <+: T → K.length ≤ n) ∧ (n = 0 ∨ ∃ K ∈ ks, K <+: T ∧ K.length = n)
theorem CInv.of {ks : List (List Nat)} {T : List Nat} {i j ci cj : Nat} (B : BInv ks T i j ci cj) (h : (j = 0 ∧ i = 0) ∨ (j ≤ i + 1 ∧ (i = 0 → ks.getD i [] <+: T → (ks.getD i []).length ≤ ci))) : CInv ks T i ci := by
  refine ⟨B.inn, ?_, fun p hp q => ?_⟩
  · rw [B.ai.2.2]; exact List.take_prefix _ _
  · have hpj : ¬ j ≤ p := fun x => B.hi p x hp q
    rcases h with ⟨rfl, rfl⟩ | ⟨h1, h2⟩
    · omega
    · have hpi : p ≤ i := by omega
      refine ⟨hpi, ?_⟩
      by_cases e : p = i
      · subst e
        by_cases e0 : p = 0
        · exact h2 e0 q
        · exact B.at_ (by omega) q
      · exact B.lo p (by omega) q
section
variable {ks : List (List Nat)} {sub : List Int} {T : List Nat} {i ci : Nat} (O : TabOk ks sub) (C : CInv ks T i ci)
include O C
theorem CInv.found (h : (ks.getD i []).length ≤ ci) : IsL ks T (ks.getD i []).length ∧ 0 < (ks.getD i []).length ∧ (ks.getD i []).length ≤ T.length := by
  have hp : ks.getD i [] <+: T := by have := C.ai; rwa [List.take_of_length_le h] at this
  refine ⟨⟨fun K hK q => ?_, .inr ⟨_, ?_, hp, rfl⟩⟩, (O.c6 i C.inn).1, hp.length_le⟩
  · obtain ⟨p, hpn, rfl⟩ := List.mem_iff_getElem.mp hK
    have e : ks[p] = ks.getD p [] := by simp [List.getD_eq_getElem?_getD, hpn]
    rw [e] at q ⊢
    have := (C.all p hpn q).1
    apply Nat.le_of_not_lt
    intro hlt
    have h3 : ks.getD i [] <+: ks.getD p [] := List.prefix_of_prefix_length_le hp q (by omega)
    by_cases e : p = i
    · subst e; omega
    · exact O.c3 i C.inn p (by omega) (isP.mpr h3)
  · rw [List.getD_eq_getElem?_getD, List.getElem?_eq_getElem C.inn]; exact List.getElem_mem _
theorem CInv.below (h : ¬ (ks.getD i []).length ≤ ci) {p : Nat} (hp : p < ks.length) (q : ks.getD p [] <+: T) : 0 ≤ sub.getD i 0 ∧ (p : Int) ≤ sub.getD i 0 := by
  obtain ⟨h1, h2⟩ := C.all p hp q
  have hpi : p < i := by
    by_cases e : p = i
    · subst e; omega
    · omega
  refine O.c4 i C.inn p hpi (isP.mpr ?_)
  have h3 : ks.getD p [] <+: (ks.getD i []).take ci := List.prefix_of_prefix_length_le q C.ai (by rw [List.length_take]; omega)
  exact h3.trans (List.take_prefix _ _)
theorem CInv.none (h : ¬ (ks.getD i []).length ≤ ci) (hs : sub.getD i 0 < 0) : IsL ks T 0 := by
  refine ⟨fun K hK q => ?_, .inl rfl⟩
  obtain ⟨p, hpn, rfl⟩ := List.mem_iff_getElem.mp hK
  have e : ks[p] = ks.getD p [] := by simp [List.getD_eq_getElem?_getD, hpn]
  rw [e] at q
  have := C.below O h hpn q
  omega
theorem CInv.next (h : ¬ (ks.getD i []).length ≤ ci) (hs : ¬ sub.getD i 0 < 0) : CInv ks T (sub.getD i 0).toNat ci ∧ (sub.getD i 0).toNat < i := by
  obtain ⟨h1, h2⟩ := O.c5 i C.inn (by omega)
  refine ⟨⟨by have := C.inn; omega, ?_, fun p hp q => ?_⟩, by omega⟩
  · have h3 : (ks.getD (sub.getD i 0).toNat []).take ci <+: (ks.getD i []).take ci := by
      obtain ⟨r, hr⟩ := isP.mp h2
      rw [← hr, List.take_append]
      exact List.prefix_append _ _
    exact h3.trans C.ai
  · have := C.below O h hp q
    exact ⟨by omega, (C.all p hp q).2⟩
end
end Mine
-- Rg
namespace Mine
open PySem PySem.W PySem.Calls PyProof.Rows
section
variable {prog : Program} {w : World} {A : Around} {E : Value → Shared → Prop} {s : Shared} {env : Env} {h₀ : Heap} {x : Str} {body : List Stmt} {Q : Flow → Shared → Prop}
theorem rng_loop {r : Addr} {a₀ b₀ c : Int} {t₀ u₀ v₀ : Tok} {m₀ : Str → Option Value} {news : List (Addr × Obj)} (n : Nat) (J : Nat → (Str → Option Value) → Prop) (Post : Shared → Prop)
    (hh : A.handled = none) (hr : IsRange s.heap r a₀ b₀ c t₀ u₀ v₀) (hsmall : Builtin.Range.small a₀ b₀ c = true) (hn : Builtin.Range.rangeSize a₀ b₀ c = (n : Int)) (F : Fr h₀ env.locals s.heap m₀) (N : News h₀ env.locals s.heap news) (hj : J 0 m₀)
    (hq : ∀ s', Post s' → Q .next s')
    (turn : ∀ i t m₁ h tk own, i < n → OwnOff own (news.map (·.1)) → J i m₁ → Fr h₀ env.locals h (fun y => if y = x then some (.int (a₀ + (i : Int) * c) t) else m₁ y) → News h₀ env.locals h (news ++ own) →
      wpAny (model prog w) A (execs body env) (InvPostN h₀ env.locals (fun m nx => nx = news ∧ J (i + 1) m) own (news.map (·.1)) { s with heap := h, toks := tk } (fun f s' => match f with | .next => Post s' | _ => False)) E { s with heap := h, toks := tk })
    (done : ∀ m₁ h tk, J n m₁ → Fr h₀ env.locals h m₁ → News h₀ env.locals h news → Post { s with heap := h, toks := tk }) :
    wpAny (model prog w) A (pyIter (.ref r)) (fun it s₂ => LoopAtV prog w A h₀ env x body Q E it s₂) E s := by
  refine wpAny_pyIter_range hr hsmall ?_
  have W : Walks prog w A s.heap.objs.size [s.heap.objs.size] [s.heap.objs.size] n (fun i v => i < n ∧ ∃ t, v = .int (a₀ + i * c) t)
      (fun i h => IsRangeIter h s.heap.objs.size (a₀ + (i : Nat) * c) ((n : Int) - (i : Nat)) c) := (Walks.range hh _ a₀ c n).bound
  refine loop_invN (fun i m nx => nx = news ∧ J i m) W ?_ ?_ ?_ ?_ (by show IsRangeIter _ _ _ _ _; rw [hn]; simpa using Heap.get?_push_size _ rfl) (F.push _) (fun p hp => ⟨Heap.get?_push_of_some _ (N p hp).1, (N p hp).2⟩) ⟨rfl, hj⟩ ?_ ?_
  · intro hm
    exact absurd F.ns.lt ((List.mem_singleton.mp hm) ▸ Nat.lt_irrefl _)
  · intro b hb
    rw [List.mem_singleton.mp hb]
    exact next_is_new F
  · intro p hp hI
    exact absurd (Heap.lt_size (N p hp).1) ((List.mem_singleton.mp hI) ▸ Nat.lt_irrefl _)
  · intro p hp hI
    exact absurd (Heap.lt_size (N p hp).1) ((List.mem_singleton.mp hI) ▸ Nat.lt_irrefl _)
  · rintro i v m₁ nx h tk own hi ⟨_, t, rfl⟩ _ hoff ⟨rfl, hJ⟩ F₁ N₁
    refine wpAny_mono (turn i t m₁ h tk own hi hoff hJ F₁ N₁) (fun f s₂ p => ?_) fun _ _ e => e
    cases f with
    | ret v => exact False.elim p
    | brk => exact hq _ p
    | next => exact p
    | cont => exact p
  · rintro m₁ nx h tk ⟨rfl, hJ⟩ F₁ N₁
    exact hq _ (done m₁ h tk hJ F₁ N₁)
end
noncomputable def Hid (p : Prop) : Prop := p
noncomputable def QP (Post : Shared → Prop) (Q : Flow → Shared → Prop) (f : Flow) (s : Shared) : Prop := match f with
  | .next => Post s
  | .brk => Q .brk s
  | .cont => Q .cont s
  | .ret v => Q (.ret v) s
theorem wh_cut {prog : Program} {w : World} {A : Around} {E : Value → Shared → Prop} {s : Shared} {env : Env} {test : PySem.Expr} {body orelse : List Stmt} {Q : Flow → Shared → Prop} {σ : Type} (I : σ → Nat → Shared → Prop) (Post : Shared → Prop) (hE : PassesOwn (model prog w) A env E)
    (j : Nat) (a : σ) (h0 : I a j s) (hq : ∀ s', Post s' → Q .next s')
    (step : ∀ a j s, I a j s → wpAny (model prog w) A (isTrue test env (eval test env)) (fun b s₂ => WhlIf b (wpAny (model prog w) A (execs body env) (Turned I j (QP Post Q)) E s₂) (wpAny (model prog w) A (execs orelse env) (QP Post Q) E s₂)) E s) : WhStop prog w A E env test body orelse Q s := by
  have hQ : ∀ f s', QP Post Q f s' → Q f s' := fun f s' p => by cases f <;> first | exact hq _ p | exact p
  refine wh_go I hE j a h0 fun a j s h => wpAny_mono (step a j s h) (fun b s₂ hb => ?_) fun _ _ e => e
  cases b with
  | true =>
    have hb : wpAny (model prog w) A (execs body env) (Turned I j (QP Post Q)) E s₂ := hb
    refine WhlIf.yes rfl (wpAny_mono hb (fun f s3 hf => ?_) fun _ _ x => x)
    cases f with
    | next => exact hf
    | cont => exact hf
    | brk => exact hq _ hf
    | ret v => exact hf
  | false =>
    have hb : wpAny (model prog w) A (execs orelse env) (QP Post Q) E s₂ := hb
    exact WhlIf.no rfl (wpAny_mono hb (fun f s3 hf => hQ f s3 hf) fun _ _ x => x)
-- the frame's map
structure MR (m : Str → Option Value) (x v : Addr) (i j : Nat) (c lb : Int) (lbn : Str) (ci cj : Nat) (fk : Bool) (k : Nat) (wa : Addr) (d : Int) (cm : Nat) : Prop where
  self : m (Str.ofString "self") = some (.ref x)
  v : m (Str.ofString "v") = some (.ref v)
  i : ∃ t, m (Str.ofString "i") = some (.int i t)
  j : ∃ t, m (Str.ofString "j") = some (.int j t)
  c : ∃ t, m (Str.ofString "c") = some (.int c t)
  lb : ∃ t, m lbn = some (.int lb t)
  ci : ∃ t, m (Str.ofString "common_i") = some (.int ci t)
  cj : ∃ t, m (Str.ofString "common_j") = some (.int cj t)
  fk : m (Str.ofString "first_key_inspected") = some (.bool fk)
  k : ∃ t, m (Str.ofString "k") = some (.int k t)
  w : m (Str.ofString "w") = some (.ref wa)
  d : ∃ t, m (Str.ofString "diff") = some (.int d t)
  cm : ∃ t, m (Str.ofString "common") = some (.int cm t)
theorem fr_kst {g h : Heap} {L : Addr} {m : Str → Option Value} (ps : List (Str × Value)) (F : Fr g L h m) (hp : ∀ p ∈ ps, m p.1 = some p.2) : Fr g L h (kstB m ps) := by
  have : kstB m ps = m := by
    funext z
    exact kstB_eq hp fun _ => rfl
  rw [this]; exact F
structure ML (m : Str → Option Value) (x v : Addr) (i j : Nat) (c lb : Int) (lbn : Str) (ci cj : Nat) (fk : Bool) : Prop where
  self : m (Str.ofString "self") = some (.ref x)
  v : m (Str.ofString "v") = some (.ref v)
  i : ∃ t, m (Str.ofString "i") = some (.int i t)
  j : ∃ t, m (Str.ofString "j") = some (.int j t)
  c : ∃ t, m (Str.ofString "c") = some (.int c t)
  lb : ∃ t, m lbn = some (.int lb t)
  ci : ∃ t, m (Str.ofString "common_i") = some (.int ci t)
  cj : ∃ t, m (Str.ofString "common_j") = some (.int cj t)
  fk : m (Str.ofString "first_key_inspected") = some (.bool fk)
section
variable {g h : Heap} {L : Addr} {m : Str → Option Value} {x v : Addr} {i j : Nat} {c lb : Int} {lbn : Str} {ci cj : Nat} {fk : Bool}
theorem ML.fr (M : ML m x v i j c lb lbn ci cj fk) (F : Fr g L h m) : ∃ t1 t2 t3 t4 t5 t6, Fr g L h (kstB m [(Str.ofString "self", .ref x), (Str.ofString "v", .ref v), (Str.ofString "i", .int i t1), (Str.ofString "j", .int j t2), (Str.ofString "c", .int c t3), (lbn, .int lb t4), (Str.ofString "common_i", .int ci t5), (Str.ofString "common_j", .int cj t6), (Str.ofString "first_key_inspected", .bool fk)]) := by
  obtain ⟨a, b, ⟨t1, e1⟩, ⟨t2, e2⟩, ⟨t3, e3⟩, ⟨t4, e4⟩, ⟨t5, e5⟩, ⟨t6, e6⟩, e7⟩ := M
  refine ⟨t1, t2, t3, t4, t5, t6, fr_kst _ F fun p hp => ?_⟩
  simp only [List.mem_cons, List.not_mem_nil, or_false] at hp
  rcases hp with rfl | rfl | rfl | rfl | rfl | rfl | rfl | rfl | rfl <;> assumption
variable {k : Nat} {wa : Addr} {d : Int} {cm : Nat}
theorem MR.fr (M : MR m x v i j c lb lbn ci cj fk k wa d cm) (F : Fr g L h m) : ∃ t1 t2 t3 t4 t5 t6 t7 t8 t9, Fr g L h (kstB m [(Str.ofString "self", .ref x), (Str.ofString "v", .ref v), (Str.ofString "i", .int i t1), (Str.ofString "j", .int j t2), (Str.ofString "c", .int c t3), (lbn, .int lb t4), (Str.ofString "common_i", .int ci t5), (Str.ofString "common_j", .int cj t6), (Str.ofString "first_key_inspected", .bool fk), (Str.ofString "k", .int k t7), (Str.ofString "w", .ref wa), (Str.ofString "diff", .int d t8), (Str.ofString "common", .int cm t9)]) := by
  obtain ⟨a, b, ⟨t1, e1⟩, ⟨t2, e2⟩, ⟨t3, e3⟩, ⟨t4, e4⟩, ⟨t5, e5⟩, ⟨t6, e6⟩, e7, ⟨t7, e8⟩, e9, ⟨t8, e10⟩, ⟨t9, e11⟩⟩ := M
  refine ⟨t1, t2, t3, t4, t5, t6, t7, t8, t9, fr_kst _ F fun p hp => ?_⟩
  simp only [List.mem_cons, List.not_mem_nil, or_false] at hp
  rcases hp with rfl | rfl | rfl | rfl | rfl | rfl | rfl | rfl | rfl | rfl | rfl | rfl | rfl <;> assumption
theorem MR.fr2 {t : Tok} {q : Int} (M : MR m x v i j c lb lbn ci cj fk k wa d cm) (hl : lbn ≠ Str.ofString "i2") (F : Fr g L h (fun y => if y = Str.ofString "i2" then some (.int q t) else m y)) : ∃ t1 t2 t3 t4 t5 t6 t7 t8 t9, Fr g L h (kstB m [(Str.ofString "i2", .int q t), (Str.ofString "self", .ref x), (Str.ofString "v", .ref v), (Str.ofString "i", .int i t1), (Str.ofString "j", .int j t2), (Str.ofString "c", .int c t3), (lbn, .int lb t4), (Str.ofString "common_i", .int ci t5), (Str.ofString "common_j", .int cj t6), (Str.ofString "first_key_inspected", .bool fk), (Str.ofString "k", .int k t7), (Str.ofString "w", .ref wa), (Str.ofString "diff", .int d t8), (Str.ofString "common", .int cm t9)]) := by
  obtain ⟨a, b, ⟨t1, e1⟩, ⟨t2, e2⟩, ⟨t3, e3⟩, ⟨t4, e4⟩, ⟨t5, e5⟩, ⟨t6, e6⟩, e7, ⟨t7, e8⟩, e9, ⟨t8, e10⟩, ⟨t9, e11⟩⟩ := M
  refine ⟨t1, t2, t3, t4, t5, t6, t7, t8, t9, ?_⟩
  have : kstB m [(Str.ofString "i2", .int q t), (Str.ofString "self", .ref x), (Str.ofString "v", .ref v), (Str.ofString "i", .int i t1), (Str.ofString "j", .int j t2), (Str.ofString "c", .int c t3), (lbn, .int lb t4), (Str.ofString "common_i", .int ci t5), (Str.ofString "common_j", .int cj t6), (Str.ofString "first_key_inspected", .bool fk), (Str.ofString "k", .int k t7), (Str.ofString "w", .ref wa), (Str.ofString "diff", .int d t8), (Str.ofString "common", .int cm t9)] = fun y => if y = Str.ofString "i2" then some (.int q t) else m y := by
    funext z
    show (if z = Str.ofString "i2" then _ else kstB _ _ z) = _
    by_cases e : z = Str.ofString "i2"
    · rw [if_pos e, if_pos e]
    · rw [if_neg e, if_neg e]
      refine kstB_eq (fun p hp => ?_) fun _ => rfl
      simp only [List.mem_cons, List.not_mem_nil, or_false] at hp
      rcases hp with rfl | rfl | rfl | rfl | rfl | rfl | rfl | rfl | rfl | rfl | rfl | rfl | rfl <;> assumption
  rw [this]; exact F
end
structure MC (m : Str → Option Value) (x v : Addr) (i : Nat) (c : Int) (ci : Nat) : Prop where
  self : m (Str.ofString "self") = some (.ref x)
  v : m (Str.ofString "v") = some (.ref v)
  i : ∃ t, m (Str.ofString "i") = some (.int i t)
  c : ∃ t, m (Str.ofString "c") = some (.int c t)
  ci : ∃ t, m (Str.ofString "common_i") = some (.int ci t)
theorem MC.fr {g h : Heap} {L : Addr} {m : Str → Option Value} {x v : Addr} {i : Nat} {c : Int} {ci : Nat} (M : MC m x v i c ci) (F : Fr g L h m) : ∃ t1 t2 t3, Fr g L h (kstB m [(Str.ofString "self", .ref x), (Str.ofString "v", .ref v), (Str.ofString "i", .int i t1), (Str.ofString "c", .int c t2), (Str.ofString "common_i", .int ci t3)]) := by
  obtain ⟨a, b, ⟨t1, e1⟩, ⟨t2, e2⟩, ⟨t3, e3⟩⟩ := M
  refine ⟨t1, t2, t3, fr_kst _ F fun p hp => ?_⟩
  simp only [List.mem_cons, List.not_mem_nil, or_false] at hp
  rcases hp with rfl | rfl | rfl | rfl | rfl <;> assumption
-- what one comparison of a key tells
noncomputable def Cmp (K T : List Nat) (d : Int) (cm : Nat) : Prop := Ag K T cm ∧ ((d < 0 ∧ cm < K.length ∧ (cm = T.length ∨ T.getD cm 0 < K.getD cm 0)) ∨ (0 ≤ d ∧ (cm = K.length ∨ (cm < K.length ∧ cm < T.length ∧ K.getD cm 0 < T.getD cm 0))))
theorem rev_get {l : List Nat} {q : Nat} (h : q < l.length) : l.reverse.getD q 0 = l.getD (l.length - 1 - q) 0 := by
  rw [List.getD_eq_getElem?_getD, List.getD_eq_getElem?_getD, List.getElem?_reverse h]
theorem cut_get {l : List Nat} {a b q : Nat} (h : q < b) : ((l.drop a).take b).getD q 0 = l.getD (a + q) 0 := by
  rw [List.getD_eq_getElem?_getD, List.getD_eq_getElem?_getD, List.getElem?_take, if_pos h, List.getElem?_drop]
theorem tb_get {x : Str} {lb c : Int} {q : Nat} (h0 : 0 ≤ lb) (h1 : lb ≤ c) (h2 : c ≤ x.length) (hq : q < (c - lb).toNat) : ((((cp x).drop lb.toNat).take (c - lb).toNat).reverse).getD q 0 = chAt x (c - 1 - q) := by
  have hx : x.length = (cp x).length := rfl
  have hl : (((cp x).drop lb.toNat).take (c - lb).toNat).length = (c - lb).toNat := by rw [List.length_take, List.length_drop]; omega
  rw [rev_get (by rw [hl]; exact hq), hl, cut_get (by omega), chAt_cp]
  congr 1
  omega
theorem kb_get {K : List Nat} {q : Nat} {i : Int} (hq : q < K.length) (hi : i = (K.length : Int) - 1 - q) : K.reverse.getD q 0 = chAt (tx K) i := by
  rw [rev_get hq, chAt_cp, cp_tx]
  congr 1
  omega
theorem tf_get {x : Str} {c l : Int} {q : Nat} (h0 : 0 ≤ c) (hq : q < (l - c).toNat) : (((cp x).drop c.toNat).take (l - c).toNat).getD q 0 = chAt x (c + q) := by
  rw [cut_get hq, chAt_cp]
  congr 1
  omega
theorem kf_get {K : List Nat} {q : Nat} {i : Int} (hi : i = (q : Int)) : K.getD q 0 = chAt (tx K) i := by
  rw [chAt_cp, cp_tx]
  congr 1
  omega
theorem ord_one {prog : Program} {w : World} {A : Around} {E : Value → Shared → Prop} {s : Shared} {c : Nat} {t : Tok} {Q : Value → Shared → Prop} (h : ∀ u, Q (.int c u) { s with toks := s.toks + 1 }) : wpAny (model prog w) A (call (.builtin "ord") [.str (one c) t]) Q E s := PySem.P.ord_of_char (h _)
theorem size_up (a b : Int) : Builtin.Range.rangeSize a b 1 = ((b - a).toNat : Int) := by
  unfold Builtin.Range.rangeSize
  simp only [Int.ediv_one, show ((1 : Int) > 0) from by decide, if_true]
  split <;> omega
theorem small_up {a b : Int} (ha : -(2 ^ 62) ≤ a) (ha' : a < 2 ^ 62) (hb : -(2 ^ 62) ≤ b) (hb' : b < 2 ^ 62) : Builtin.Range.small a b 1 = true := by
  unfold Builtin.Range.small
  rw [size_up]
  simp only [Builtin.Range.rangeFitsLong, Bool.and_eq_true, Bool.or_eq_true, decide_eq_true_eq, beq_iff_eq, show ((1 : Int) > 0) from by decide, if_true]
  omega
end Mine
-- Gv
namespace Mine
open PySem PySem.W PySem.Calls PyProof.Rows
noncomputable def KS (P : Params) (es : Ent) (ep : Nat) (t : SetTable) : Frag := (nat_lit 230, so es ep t) :: KF P
theorem ks_in {P : Params} {h : Heap} {es : Ent} {ep : Nat} {t : SetTable} (X : (KF P).In h) (ho : h.get? 230 = some (so es ep t)) : (KS P es ep t).In h := by
  intro a o e
  unfold KS at e
  rw [List.lookup_cons] at e
  by_cases q : a = 230
  · subst q
    have : some (so es ep t) = some o := e
    rw [← this]; exact ho
  · have : (a == 230) = false := by simpa using q
    rw [this] at e
    exact X a o e
section
variable (P : Params) (es : Ent) (ep : Nat) (t : SetTable)
theorem kgv1 : typeIn (KS P es ep t) (.ref 337) = some (.type "type") := by kernel_rfl
theorem kgv2 : readsIn (KS P es ep t) 337 (.type "type") = true := by kernel_rfl
theorem kgv3 : findCls (KS P es ep t) (.ref 337) (.type "type") (Str.ofString "g_v") = some (.val (.ref 230)) := by kernel_rfl
end
theorem ga_gv {w : World} {A : Around} {E : Value → Shared → Prop} {s : Shared} {h₀ : Heap} {L : Addr} {m : Str → Option Value} {expr : Bool} {Q : Value → Shared → Prop} (F : Fr h₀ L s.heap m) (X : (KF w.params).In h₀) (V : SetHere h₀)
    (h : Q (.ref 230) { s with toks := s.toks + 1 }) : wpAny (model pw w) A (getAttr (.ref 337) (Str.ofString "g_v") expr) Q E s := by
  obtain ⟨es, ep, t, ho, _⟩ := V
  exact cls_val F (ks_in X ho) (kgv1 ..) (kgv2 ..) (kgv3 ..) rfl h
end Mine
-- Ex
namespace Mine
open PySem PySem.W PySem.Calls PyProof.Rows
-- a heap's first objects
noncomputable def cutH (h : Heap) (n : Nat) : Heap := ⟨(h.objs.toList.take n).toArray, h.life⟩
theorem cutH_get {h : Heap} {n : Nat} {b : Addr} (hb : b < n) : (cutH h n).get? b = h.get? b := by
  unfold cutH Heap.get?
  have : (h.objs.toList.take n).toArray[b]? = h.objs[b]? := by
    rw [List.getElem?_toArray, List.getElem?_take, if_pos hb, Array.getElem?_toList]
  rw [this]
theorem cutH_size (h : Heap) (n : Nat) : (cutH h n).objs.size ≤ n := by
  unfold cutH
  simp
  omega
theorem cutH_of {h : Heap} {n : Nat} {b : Addr} {o : Obj} (e : (cutH h n).get? b = some o) : h.get? b = some o := by
  have : b < n := Nat.lt_of_lt_of_le (Heap.lt_size e) (cutH_size h n)
  rwa [cutH_get this] at e
noncomputable def reG (h : Heap) (L : Addr) (hid : List Addr) : Heap := hideAll (cutH h L) hid
theorem reG_of {h : Heap} {L : Addr} {hid : List Addr} {b : Addr} {o : Obj} (e : (reG h L hid).get? b = some o) : h.get? b = some o := cutH_of (of_hideAll _ e)
theorem reG_get {h : Heap} {L : Addr} {hid : List Addr} {b : Addr} {o : Obj} (e : h.get? b = some o) (hb : b < L) (hn : b ∉ hid) : (reG h L hid).get? b = some o := hideAll_get _ (by rw [cutH_get hb]; exact e) hn
theorem reG_none {h : Heap} {L : Addr} {hid : List Addr} {b : Addr} (hn : b ∈ hid) : (reG h L hid).get? b = none := hideAll_none _ hn
theorem reG_size (h : Heap) (L : Addr) (hid : List Addr) : (reG h L hid).objs.size ≤ L := by
  unfold reG; rw [hideAll_size]; exact cutH_size _ _
noncomputable def isF (l : List Env) (b : Addr) : Prop := ∃ env ∈ l, env.frame = some b
theorem isF_iff {l : List Env} {b : Addr} : b ∈ l.filterMap (·.frame) ↔ isF l b := by
  simp [isF, List.mem_filterMap]
-- the first note of a made exception
theorem note_made {M : Model} {A : Around} {E : Value → Shared → Prop} {s : Shared} {base h : Heap} {env : Env} {outer : List Env} {L e : Addr} {cls : Value} {args : List Value} {Q : Unit → Shared → Prop}
    (hfr : A.frames = some (env :: outer)) (hf : env.frame = some L) (hkb : base.StaysIn h) (hl : h.FunFrames base (env :: outer)) (hx : Heap.MadeExcOf h s.heap e cls args)
    (hQ : ∀ h' t, Heap.HeldW base (env :: outer) e cls (.ref t) L h' → s.heap.UpToSlots h' → Q () { s with heap := h' }) : wpAny M A (noteFrame (.ref e) env) Q E s := by
  obtain ⟨t, he, htn, ht⟩ := hx.there
  have fresh : base.get? e = none := fresh_of_stays hkb hx.new
  unfold noteFrame
  simp only [hf]
  refine wpAny_bind (wpAny_field he rfl (x := .none) rfl ?_)
  rw [if_neg (show ¬ ((Value.none != Value.none) = true) from by decide)]
  exact wpAny_entryW (a0 := .ref t) hfr (hl.of_keeps fun b o hb _ => ⟨o, hx.keeps b o hb, rfl⟩) hf he (fun b o hb => hx.keeps b o (hkb b o hb)) fresh rfl (by decide : 1 < 6) rfl
    fun h' ⟨k1, k2, k3, k4⟩ => hQ h' t ⟨k1, fresh, k2, k3⟩ k4
section
variable {prog : Program} {w : World} {A₀ : Around} {E : Value → Shared → Prop} {s' : Shared} {base g h : Heap} {outer : List Env} {L a e : Addr} {m : Str → Option Value} {name : Str} {scope : Scope} {cd : Value}
  {vs : List Value} {b₀ : Stmt} {suite : List Stmt} {pos np : Pos} {rest : List ExceptHandler} {Q : Flow → Shared → Prop} {KK : Frag} {C : Addr} {bmB : List Value} {newId : String}
  {p : Program} {loose : List Str} {mg mb : Str → Option Value} {x : Str}
theorem caught_made (K : Below A₀ base outer g) (F : Fr g L h m) (hx : Heap.MadeExcOf h s'.heap e (.ref C) vs)
    (X : KK.In base) (T : TopRead p loose mg mb base) (ex : nsIn KK mainGlobals x = some (some (.ref C))) (q : excIn KK C bmB newId = true) (hbase : bmB.contains (.type "BaseException") = true)
    (k : ∀ h', (hideAll h ((envOf name scope L a cd :: outer).filterMap (·.frame))).StaysIn h' → h.UpToSlots h' →
      wpAny (model prog w) ((A₀.deeper (envOf name scope L a cd)).mark (some (.ref e))) (execs (b₀ :: suite) (envOf name scope L a cd)) Q E { s' with heap := h' })
    (hk : scope.kind = .function := by rfl) (hxx : (envOf name scope L a cd).kindOf x = some .globalImplicit := by rfl) (hd : (x == ("__debug__" : Str)) = false := by decide)
    (hE : PassesOwnAt (model prog w) ((A₀.deeper (envOf name scope L a cd)).mark (some (.ref e))) (A₀.deeper (envOf name scope L a cd)) (envOf name scope L a cd) E := by passes_own) :
    wpAny (model prog w) (A₀.deeper (envOf name scope L a cd)) (noteFrame (.ref e) (envOf name scope L a cd))
      (fun _ s₂ => wpAny (model prog w) (A₀.deeper (envOf name scope L a cd)) (setFlight (.ref e) none) (fun _ s₃ =>
        wpAny (model prog w) (A₀.deeper (envOf name scope L a cd)) (handleBy (.ref e) (envOf name scope L a cd) (.ExceptHandler (some (.Name x np)) none (b₀ :: suite) pos :: rest)) Q E s₃) E s₂) E s' := by
  have K' := K.push (name := name) (a := a) (cd := cd) F hk
  have hin : ∀ env ∈ (envOf name scope L a cd :: outer), ∀ b, env.frame = some b → b ∈ (envOf name scope L a cd :: outer).filterMap (·.frame) := fun env he b hb => List.mem_filterMap.mpr ⟨env, he, hb⟩
  have hB : (hideAll h ((envOf name scope L a cd :: outer).filterMap (·.frame))).StaysIn h := fun b o q => of_hideAll _ q
  refine note_made K'.stack rfl hB (funFrames_hide K'.frames hin) hx fun h₄ t hheld₄ hsm₄ => ?_
  refine wpAny_landsW hheld₄ fun h₅ hheld hsm₅' => ?_
  have hsm₅ := (Heap.UpToSlots.of_keeps hx.keeps).trans (hsm₄.trans hsm₅')
  -- the ground without the outer frames
  have kG : (hideAll g (outer.filterMap (·.frame))).StaysIn (hideAll h ((envOf name scope L a cd :: outer).filterMap (·.frame))) := fun b o q => by
    have qg := of_hideAll _ q
    refine hideAll_get _ (F.keep _ _ qg) fun hm => ?_
    obtain ⟨env, he, hf⟩ := isF_iff.mp hm
    rcases List.mem_cons.mp he with rfl | he
    · have e1 : b = L := (Option.some.inj hf).symm
      exact absurd (Heap.lt_size qg) (by rw [e1]; exact Nat.not_lt.mpr F.above)
    · rw [hideAll_none _ (isF_iff.mpr ⟨env, he, hf⟩)] at q; cases q
  have bG : base.StaysIn (hideAll g (outer.filterMap (·.frame))) := fun b o q => hideAll_get _ (K.stays _ _ q) fun hm => by
    rw [(K.frames.mem hm).1] at q; cases q
  have F₅ : Fr (hideAll g (outer.filterMap (·.frame))) L h₅ m := ⟨hsm₅.ns F.ns, fun b o q => hheld.1 _ _ (kG _ _ q), by rw [hideAll_size]; exact F.above⟩
  obtain ⟨ob, hob, hobc⟩ := hheld.there
  have XG : KK.In (hideAll g (outer.filterMap (·.frame))) := X.keeps bG
  have TG := T.keeps bG
  refine wpAny_handleBy_cons (codeAny_handlers_test (name_K F₅ XG TG ex ?_ hk hxx hd)) (by intro q; cases q)
  obtain ⟨bm, N, nm, qn, bs, hdct, sn, sub, ab, col, dd, k0, k1, k2, k3, k5, mN, hC, hN, hni, TL⟩ := ((own_of_in XG TG ex q).keeps F₅.keep).obj
  refine wpAny_excMatches_sub_self hC hob hobc (TL.hasType hbase) (codeAny_handlers_suite ?_)
  refine lands_againW hheld fun h₆ hfl₆ hsm₆ => ?_
  exact wpAny_passesOwnAt hE (k h₆ hfl₆.1 (hsm₅.trans hsm₆))
end
end Mine
-- Ex2
namespace Mine
open PySem PySem.W PySem.Calls PyProof.Rows
-- a frame's ground, taken anew after outer frames were noted
structure Gr (h₀ : Heap) (outer : List Env) (x dx : Addr) (g : Heap) : Prop where
  keep : ∀ b o, h₀.get? b = some o → b ≠ x → b ≠ dx → ¬ isF outer b → g.get? b = some o
  slot : ∀ b o, h₀.get? b = some o → isF outer b → ∃ sl, g.get? b = some { o with slots := sl }
theorem Gr.of {h₀ g : Heap} {outer : List Env} {x dx : Addr} {ox D : Obj} (hg : ∀ b o, h₀.get? b = some o → b ∉ [(x, ox), (dx, D)].map (·.1) → g.get? b = some o) (nx : ∀ env ∈ outer, env.frame ≠ some x) (nd : ∀ env ∈ outer, env.frame ≠ some dx) : Gr h₀ outer x dx g := by
  refine ⟨fun b o e h1 h2 _ => hg b o e ?_, fun b o e ⟨env, he, hf⟩ => ⟨o.slots, hg b o e ?_⟩⟩
  · simp only [List.map_cons, List.map_nil, List.mem_cons, List.not_mem_nil, or_false, not_or]; exact ⟨h1, h2⟩
  · simp only [List.map_cons, List.map_nil, List.mem_cons, List.not_mem_nil, or_false, not_or]
    exact ⟨fun q => nx env he (q ▸ hf), fun q => nd env he (q ▸ hf)⟩
-- what became of a heap under frames
structure Sl (h : Heap) (fr : List Env) (h' : Heap) : Prop where
  keep : ∀ b o, ¬ isF fr b → h.get? b = some o → h'.get? b = some o
  slot : ∀ b o, isF fr b → h.get? b = some o → ∃ sl, h'.get? b = some { o with slots := sl }
theorem Sl.refl (h : Heap) (fr : List Env) : Sl h fr h := ⟨fun _ _ _ e => e, fun _ o _ e => ⟨o.slots, e⟩⟩
theorem Sl.of {h h' : Heap} {fr : List Env} (hst : (hideAll h (fr.filterMap (·.frame))).StaysIn h') (hsm : h.UpToSlots h') {base : Heap} (hf : h.FunFrames base fr) : Sl h fr h' := by
  refine ⟨fun b o hb e => hst b o (hideAll_get _ e fun hm => hb (isF_iff.mp hm)), fun b o hb e => ?_⟩
  obtain ⟨_, o', ho', hd⟩ := hf.mem (isF_iff.mpr hb)
  rw [e] at ho'
  injection ho' with ho'
  subst ho'
  exact hsm b o e hd
section
variable {A₀ : Around} {base g h h' : Heap} {outer : List Env} {L a : Addr} {m : Str → Option Value} {name : Str} {scope : Scope} {cd : Value} {news : List (Addr × Obj)}
theorem sl_ns {h h' : Heap} {fr : List Env} {L : Addr} {m : Str → Option Value} (S : Sl h fr h') (n : h.Ns L m) : h'.Ns L m := by
  refine Heap.UpToSlots.ns (fun b o e _ => ?_) n
  by_cases q : isF fr b
  · exact S.slot b o q e
  · exact ⟨o.slots, S.keep b o q e⟩
-- news : but for dx, kept; the ground anew
theorem reground (K : Below A₀ base outer g) (F : Fr g L h m) (N : News g L h news) {env : Env} (hf : env.frame = some L) (S : Sl h (env :: outer) h') (hL : L = L) :
    Fr (reG h' L (news.map (·.1))) L h' m ∧ News (reG h' L (news.map (·.1))) L h' news ∧ Below A₀ base outer (reG h' L (news.map (·.1))) ∧ base.StaysIn (reG h' L (news.map (·.1))) ∧
      (∀ b o, g.get? b = some o → ¬ isF outer b → (reG h' L (news.map (·.1))).get? b = some o) ∧ (∀ b o, g.get? b = some o → isF outer b → ∃ sl, (reG h' L (news.map (·.1))).get? b = some { o with slots := sl }) := by
  have lt : ∀ b o, g.get? b = some o → b < L := fun b o e => Nat.lt_of_lt_of_le (Heap.lt_size e) F.above
  have nn : ∀ b o, g.get? b = some o → b ∉ news.map (·.1) := fun b o e hm => by
    obtain ⟨p, hp, rfl⟩ := List.mem_map.mp hm
    rw [(N p hp).2.2] at e; cases e
  have nF : ∀ b, isF (env :: outer) b → b ≠ L → isF outer b := fun b ⟨e, he, hb⟩ hn => by
    rcases List.mem_cons.mp he with rfl | he
    · rw [hf] at hb; exact absurd (Option.some.inj hb).symm hn
    · exact ⟨e, he, hb⟩
  have k1 : ∀ b o, g.get? b = some o → ¬ isF outer b → (reG h' L (news.map (·.1))).get? b = some o := fun b o e q =>
    reG_get (S.keep b o (fun z => q (nF b z (Nat.ne_of_lt (lt b o e)))) (F.keep _ _ e)) (lt b o e) (nn b o e)
  have k2 : ∀ b o, g.get? b = some o → isF outer b → ∃ sl, (reG h' L (news.map (·.1))).get? b = some { o with slots := sl } := fun b o e ⟨en, he, hb⟩ => by
    obtain ⟨sl, hs⟩ := S.slot b o ⟨en, .tail _ he, hb⟩ (F.keep _ _ e)
    exact ⟨sl, reG_get hs (lt b o e) (nn b o e)⟩
  have st : base.StaysIn (reG h' L (news.map (·.1))) := fun b o e => k1 b o (K.stays _ _ e) fun q => by
    rw [(K.frames.mem (isF_iff.mpr q)).1] at e; cases e
  refine ⟨⟨sl_ns S F.ns, fun b o e => reG_of e, reG_size _ _ _⟩, fun p hp => ⟨?_, (N p hp).2.1, reG_none (List.mem_map_of_mem hp)⟩, ⟨K.stack, st, ?_⟩, st, k1, k2⟩
  · refine S.keep _ _ (fun q => ?_) (N p hp).1
    obtain ⟨o, ho, _⟩ := (K.frames.mem (isF_iff.mpr (nF _ q (N p hp).2.1))).2
    rw [(N p hp).2.2] at ho; cases ho
  · refine K.frames.of_keeps fun b o e _ => ?_
    by_cases q : isF outer b
    · obtain ⟨sl, hs⟩ := k2 b o e q
      exact ⟨_, hs, rfl⟩
    · exact ⟨o, k1 b o e q, rfl⟩
end
-- the contract of a method under whose frames an exception was noted
noncomputable def After2 (s : Shared) (outer : List Env) (dx : Addr) (P : Value → St → Prop) : Result → Shared → Prop :=
  Ends s fun r h' => (∀ b o, b ≠ dx → ¬ isF outer b → s.heap.get? b = some o → h'.get? b = some o) ∧ (∀ b o, isF outer b → s.heap.get? b = some o → ∃ sl, h'.get? b = some { o with slots := sl }) ∧ ∃ es n st, h'.get? dx = some (dictOf es n) ∧ StE es st ∧ P r st
theorem after2_end {s s' : Shared} {g h' : Heap} {outer : List Env} {L' x dx : Addr} {m' : Str → Option Value} {es' : List DictEntry} {n' tk : Nat} {st' : St} {P : Value → St → Prop} {v : Value}
    (G : Gr s.heap outer x dx g) (hx : s.heap.get? x = some (instObj 337 dx))
    (F' : Fr g L' h' m') (N' : News g L' h' [(x, instObj 337 dx), (dx, dictOf es' n')]) (H' : StE es' st') (hs : s' = { s with heap := h', toks := tk }) (hp : P v st') : After2 s outer dx P (.ok (.ret v)) s' := by
  refine ⟨v, h', tk, rfl, hs, fun b o hb hf e => ?_, fun b o hf e => ?_, es', n', st', N'.get (.tail _ (.head _)), H', hp⟩
  · by_cases q : b = x
    · subst q; rw [hx] at e; cases e; exact (N' _ (.head _)).1
    · exact F'.keep b o (G.keep b o e q hb hf)
  · obtain ⟨sl, hs⟩ := G.slot b o e hf
    exact ⟨sl, F'.keep _ _ hs⟩
section
variable {w : World} {base g : Heap} {mean : ExcName → Option Value} {mg mb : Str → Option Value} {dp un : Nat} {gd : Option (List Code)} {outer : List Env} {x dx L : Addr} {m : Str → Option Value} {env : Env} {news : List (Addr × Obj)} {es : List DictEntry} {n : Nat} {st : St}
theorem call_after2 {A : Around} {s : Shared} {f : Addr} {vs : List Value} {P : Value → St → Prop} {Q E : Value → Shared → Prop} {up : Obj → List (Addr × Obj)} {h₀ : Heap} (hs : codeAny (model pw w) A (.call (.ref f) ⟨vs, []⟩) (After2 s (env :: outer) dx P) s)
    (hf : env.frame = some L) (Z : Zx w base mean mg mb dp un gd outer g x dx) (G : Gr h₀ outer x dx g) (F : Fr g L s.heap m) (N : News g L s.heap news) (md : (dx, dictOf es n) ∈ news) (U : UpdF dx (dictOf es n) news up)
    (h : ∀ v h' tk es' n' st' g', P v st' → Gr h₀ outer x dx g' → Zx w base mean mg mb dp un gd outer g' x dx → (KF w.params).In g' → SetHere g' → Tp mean mg mb g' → base.StaysIn g' → Fr g' L h' m → News g' L h' (up (dictOf es' n')) → StE es' st' → Q v { s with heap := h', toks := tk }) : wpAny (model pw w) A (call (.ref f) vs) Q E s := by
  refine wpAny_call (codeAny_mono hs fun r s' hr => ?_)
  obtain ⟨v, h', tk, rfl, rfl, hk, hsl, es', n', st', hd, H', hp⟩ := hr
  -- a heap between: s.heap with dx's new dict
  have hdn : ∀ e ∈ env :: outer, e.frame ≠ some dx := fun e he => by
    rcases List.mem_cons.mp he with rfl | he
    · rw [hf]; intro q; exact (N _ md).2.1 (Option.some.inj q).symm
    · exact Z.nd e he
  have lt : ∀ b o, g.get? b = some o → b < L := fun b o e => Nat.lt_of_lt_of_le (Heap.lt_size e) F.above
  have hgd : g.get? dx = none := (N _ md).2.2
  have nF : ∀ b, isF (env :: outer) b → b ≠ L → isF outer b := fun b ⟨e, he, hb⟩ hn => by
    rcases List.mem_cons.mp he with rfl | he
    · rw [hf] at hb; exact absurd (Option.some.inj hb).symm hn
    · exact ⟨e, he, hb⟩
  have adr : (up (dictOf es' n')).map (·.1) = news.map (·.1) := by
    obtain ⟨pre, post, e1, e2, _, _⟩ := (updF_upd U (dictOf es' n')).split
    rw [e1, e2]; simp
  have hnews : ∀ p ∈ up (dictOf es' n'), h'.get? p.1 = some p.2 ∧ p.1 ≠ L ∧ g.get? p.1 = none := by
    obtain ⟨pre, post, e1, e2, a1, a2⟩ := (updF_upd U (dictOf es' n')).split
    have nf : ∀ p ∈ news, ¬ isF (env :: outer) p.1 := fun p hp q => by
      obtain ⟨o, ho, _⟩ := (Z.B.frames.mem (isF_iff.mpr (nF _ q (N p hp).2.1))).2
      rw [(N p hp).2.2] at ho; cases ho
    rw [e2]
    intro p hp
    rcases List.mem_append.mp hp with hp | hp
    · have hm : p ∈ news := by rw [e1]; exact List.mem_append_left _ hp
      exact ⟨hk _ _ (a1 p hp) (nf p hm) (N p hm).1, (N p hm).2⟩
    · rcases List.mem_cons.mp hp with rfl | hp
      · exact ⟨hd, (N _ md).2⟩
      · have hm : p ∈ news := by rw [e1]; exact List.mem_append_right _ (.tail _ hp)
        exact ⟨hk _ _ (a2 p hp) (nf p hm) (N p hm).1, (N p hm).2⟩
  have nn : ∀ b o, g.get? b = some o → b ∉ (up (dictOf es' n')).map (·.1) := fun b o e hm => by
    obtain ⟨p, hp, rfl⟩ := List.mem_map.mp hm
    rw [(hnews p hp).2.2] at e; cases e
  have hbd : ∀ b o, g.get? b = some o → b ≠ dx := fun b o e q => by rw [q, hgd] at e; cases e
  have k1 : ∀ b o, g.get? b = some o → ¬ isF outer b → (reG h' L ((up (dictOf es' n')).map (·.1))).get? b = some o := fun b o e q =>
    reG_get (hk b o (hbd b o e) (fun z => q (nF b z (Nat.ne_of_lt (lt b o e)))) (F.keep _ _ e)) (lt b o e) (nn b o e)
  have k2 : ∀ b o, g.get? b = some o → isF outer b → ∃ sl, (reG h' L ((up (dictOf es' n')).map (·.1))).get? b = some { o with slots := sl } := fun b o e ⟨en, he, hb⟩ => by
    obtain ⟨sl, hs⟩ := hsl b o ⟨en, .tail _ he, hb⟩ (F.keep _ _ e)
    exact ⟨sl, reG_get hs (lt b o e) (nn b o e)⟩
  have sb : base.StaysIn (reG h' L ((up (dictOf es' n')).map (·.1))) := fun b o e => k1 b o (Z.B.stays _ _ e) fun q => by
    rw [(Z.B.frames.mem (isF_iff.mpr q)).1] at e; cases e
  have ns : h'.Ns L m := by
    obtain ⟨oL, esL, epL, hL, hLd, hLr⟩ := F.ns
    obtain ⟨sl, hs⟩ := hsl L oL ⟨env, .head _, hf⟩ hL
    exact ⟨_, esL, epL, hs, hLd, hLr⟩
  have B' : Below (Ar dp un gd outer) base outer (reG h' L ((up (dictOf es' n')).map (·.1))) := by
    refine ⟨Z.B.stack, sb, Z.B.frames.of_keeps fun b o e _ => ?_⟩
    by_cases q : isF outer b
    · obtain ⟨sl, hs⟩ := k2 b o e q
      exact ⟨_, hs, rfl⟩
    · exact ⟨o, k1 b o e q, rfl⟩
  refine h v h' tk es' n' st' (reG h' L ((up (dictOf es' n')).map (·.1))) hp ⟨fun b o e h1 h2 q => k1 b o (G.keep b o e h1 h2 q) q, fun b o e q => ?_⟩ ⟨B', Z.X, Z.V, Z.T, Z.bx, Z.bd, Z.nx, Z.nd, Z.hxd⟩ (Z.X.keeps fun b o e => sb b o e)
    (let ⟨es, ep, t, a, b⟩ := Z.V; ⟨es, ep, t, sb _ _ a, b⟩) (Z.T.keeps fun b o e => sb b o e) sb ⟨ns, fun b o e => reG_of e, reG_size _ _ _⟩ (fun p hp => ⟨(hnews p hp).1, (hnews p hp).2.1, reG_none (List.mem_map_of_mem hp)⟩) H'
  obtain ⟨sl, hs⟩ := G.slot b o e q
  obtain ⟨sl', hs'⟩ := k2 b _ hs q
  exact ⟨sl', hs'⟩
theorem reground2 {h h' h₀ : Heap} (hf : env.frame = some L) (Z : Zx w base mean mg mb dp un gd outer g x dx) (G : Gr h₀ outer x dx g) (F : Fr g L h m) (N : News g L h news) (S : Sl h (env :: outer) h') :
    ∃ g', Gr h₀ outer x dx g' ∧ Zx w base mean mg mb dp un gd outer g' x dx ∧ (KF w.params).In g' ∧ SetHere g' ∧ Tp mean mg mb g' ∧ base.StaysIn g' ∧ Fr g' L h' m ∧ News g' L h' news := by
  obtain ⟨F', N', B', sb, k1, k2⟩ := reground Z.B F N hf S rfl
  refine ⟨_, ⟨fun b o e h1 h2 q => k1 b o (G.keep b o e h1 h2 q) q, fun b o e q => ?_⟩, ⟨B', Z.X, Z.V, Z.T, Z.bx, Z.bd, Z.nx, Z.nd, Z.hxd⟩, Z.X.keeps fun b o e => sb b o e, (let ⟨es, ep, t, a, b⟩ := Z.V; ⟨es, ep, t, sb _ _ a, b⟩), Z.T.keeps fun b o e => sb b o e, sb, F', N'⟩
  obtain ⟨sl, hs⟩ := G.slot b o e q
  obtain ⟨sl', hs'⟩ := k2 b _ hs q
  exact ⟨sl', hs'⟩
end
end Mine
-- Nl
namespace Mine
open PySem PySem.W PySem.Calls PyProof.Rows
-- what the methods do, in lists of signs
noncomputable def shedR (ks : List (List Nat)) (v : Nat) (a b : List Nat) : Prop := (a.length < v ∧ b = a) ∨ (v ≤ a.length ∧ ∃ n, n ≤ a.length - v ∧ IsL (bks ks) (a.drop v).reverse n ∧ b = a.take (a.length - n))
noncomputable def nounR (a b : List Nat) : Prop := ∃ n, IsL tab0.keys a n ∧ ((0 < n ∧ n + 1 < a.length ∧ (∃ q, n ≤ q ∧ q < a.length ∧ isV (a.getD q 0) = true) ∧ b = a.drop n) ∨ ((n = 0 ∨ a.length ≤ n + 1 ∨ ∀ q, n ≤ q → q < a.length → isV (a.getD q 0) = false) ∧ b = a))
noncomputable def stemR (a d : List Nat) : Prop := (((∀ q, q < a.length → isV (a.getD q 0) = false) ∨ a.length < 2) ∧ d = a) ∨
  ∃ p b c, p < a.length ∧ isV (a.getD p 0) = true ∧ (∀ q, q < p → isV (a.getD q 0) = false) ∧ 2 ≤ a.length ∧ shedR tab2.keys (max (p + 1) 2) a b ∧ shedR tab1.keys (max (p + 1) 2) b c ∧ nounR c d
theorem take_all {x : Str} {c : Int} (h : c = x.length) : (cp x).take c.toNat = cp x := by
  apply List.take_of_length_le
  have : x.length = (cp x).length := rfl
  omega
theorem drop_all {x : Str} {c : Int} (h : c = x.length) : (cp x).drop c.toNat = [] := by
  apply List.drop_of_length_le
  have : x.length = (cp x).length := rfl
  omega
theorem tx_len (l : List Nat) : (tx l).length = l.length := rfl
theorem take_cut {x : Str} {c v : Int} (h : c = x.length) (hv : 0 ≤ v) (hvc : v ≤ c) : ((cp x).drop v.toNat).take (c - v).toNat = (cp x).drop v.toNat := by
  apply List.take_of_length_le
  have : x.length = (cp x).length := rfl
  rw [List.length_drop]
  omega
theorem res0 (T : Tab) (hT : T.res ≠ 0) (q : Nat) (h : (if q = 0 then (0 : Int) else T.res) = 0) : q = 0 := by
  by_cases e : q = 0
  · exact e
  · rw [if_neg e] at h; exact absurd h hT
theorem res1 (T : Tab) (q : Nat) (h : (if q = 0 then (0 : Int) else T.res) ≠ 0) : 0 < q := by
  by_cases e : q = 0
  · rw [if_pos e] at h; exact absurd rfl h
  · omega
theorem noun_yes {x : Str} {l c : Int} {q : Nat} {p : Int} (hc : c = 0) (hl : l = x.length) (hI : IsL tab0.keys (cp x) q) (h0 : 0 < q) (h1 : c + q ≤ p) (h2 : p < l) (h3 : isV (chAt x p) = true) (h4 : (q : Int) + 1 < l) : nounR (cp x) ((cp x).drop q) := by
  have hx : x.length = (cp x).length := rfl
  exact ⟨q, hI, .inl ⟨h0, by omega, ⟨p.toNat, by omega, by omega, h3⟩, rfl⟩⟩
theorem noun_no {x : Str} {l c : Int} {q : Nat} (hc : c = 0) (hl : l = x.length) (hI : IsL tab0.keys (cp x) q) (h : ∀ i : Int, c + q ≤ i → i < l → isV (chAt x i) = false) : nounR (cp x) (cp x) := by
  have hx : x.length = (cp x).length := rfl
  refine ⟨q, hI, .inr ⟨.inr (.inr fun i h1 h2 => ?_), rfl⟩⟩
  have := h i (by omega) (by omega)
  rwa [chAt_cp] at this
theorem stem_yes {x : Str} {l c v p : Int} {b d e : List Nat} (hc : c = 0) (hl : l = x.length) (h1 : c ≤ p) (h2 : p < l) (h3 : isV (chAt x p) = true) (h4 : ∀ q, c ≤ q → q < p → isV (chAt x q) = false) (h5 : c + 2 ≤ l)
    (hv : v = if c + 2 ≤ p + 1 then p + 1 else c + 2) (s1 : shedR tab2.keys v.toNat (cp x) b) (s2 : shedR tab1.keys v.toNat b d) (s3 : nounR d e) : stemR (cp x) e := by
  have hx : x.length = (cp x).length := rfl
  have e : v.toNat = max (p.toNat + 1) 2 := by rw [hv]; split <;> omega
  rw [e] at s1 s2
  refine .inr ⟨p.toNat, b, d, by omega, h3, fun q hq => ?_, by omega, s1, s2, s3⟩
  have := h4 q (by omega) (by omega)
  rwa [chAt_cp] at this
theorem stem_no {x y : Str} {l c : Int} (hc : c = 0) (hl : l = x.length) (hy : y = x) (h : (∀ q, c ≤ q → q < l → isV (chAt x q) = false) ∨ ¬ c + 2 ≤ l) : stemR (cp x) (cp y) := by
  subst hy
  have hx : y.length = (cp y).length := rfl
  refine .inl ⟨?_, rfl⟩
  rcases h with h | h
  · refine .inl fun q hq => ?_
    have := h q (by omega) (by omega)
    rwa [chAt_cp] at this
  · exact .inr (by omega)
end Mine
-- Cm
namespace Mine
open PySem PySem.W PySem.Calls PyProof.Rows
open PyProof.Rows.LCg PyProof.Rows.LCt
section
variable {prog : Program} {w : World} {A : Around} {E : Value → Shared → Prop} {s : Shared} {h₀ : Heap} {L : Addr} {m : Str → Option Value} {env : Env}
theorem rest_ind {elt : PySem.Expr} {x : Str} {scope : Scope} {cl : List (Str × Addr)} {S : List (Addr × Obj) → Prop} {P : Nat → Value → Prop} {Fin : List Value → List (Addr × Obj) → Prop} (n : Nat) (J : Nat → List Value → List (Addr × Obj) → Prop)
    (step : ∀ i ys news, i < n → J i ys news → ∀ v I oI C oC D m₂ h tk (E' : Value → Shared → Prop), P i v → NsObj oC m₂ → m₂ x = some v → Fr h₀ L h m → News h₀ L h ((I, oI) :: (C, oC) :: (D, lst ys) :: news) → Off3 I C D news → ((@Ne Nat I C) ∧ (@Ne Nat I D) ∧ (@Ne Nat C D)) →
      wpAny (model prog w) A (eval elt (compEnvC scope cl C env)) (CompEnd h₀ L m { s with heap := h, toks := tk } I oI C oC D (lst ys) S (fun y news' => J (i + 1) (ys ++ [y]) news')) E' { s with heap := h, toks := tk })
    (fin : ∀ ys news, J n ys news → Fin ys news) : ∀ k i ys news, i + k = n → J i ys news → CompRest prog w A h₀ L m env elt x scope cl s S P Fin k i ys news := by
  intro k
  induction k with
  | zero =>
    intro i ys news e j
    have : i = n := by omega
    subst this
    exact CompRest.zero (fin _ _ j)
  | succ k ih =>
    intro i ys news e j
    refine CompRest.succ fun v I oI C oC D m₂ h tk E' hp hc hx F N o ne => wpAny_mono (step i ys news (by omega) j v I oI C oC D m₂ h tk E' hp hc hx F N o ne) (fun y s' hy => ?_) fun _ _ e => e
    obtain ⟨h', tk', news', e1, F', N', o', S', J'⟩ := hy
    exact ⟨h', tk', news', e1, F', N', o', S', ih _ _ _ (by omega) J'⟩
theorem restT_ind {ct elt : PySem.Expr} {x : Str} {scope : Scope} {cl : List (Str × Addr)} {S : List (Addr × Obj) → Prop} {P : Nat → Value → Prop} {Fin : List Value → List (Addr × Obj) → Prop} (n : Nat) (J : Nat → List Value → List (Addr × Obj) → Prop)
    (step : ∀ i ys news, i < n → J i ys news → ∀ v I oI C oC D m₂ h tk (E' : Value → Shared → Prop), P i v → NsObj oC m₂ → m₂ x = some v → Fr h₀ L h m → News h₀ L h ((I, oI) :: (C, oC) :: (D, lst ys) :: news) → Off3 I C D news → ((@Ne Nat I C) ∧ (@Ne Nat I D) ∧ (@Ne Nat C D)) →
      wpAny (model prog w) A (isTrue ct (compEnvC scope cl C env) (eval ct (compEnvC scope cl C env))) (fun ok s' => if ok = true then
        wpAny (model prog w) A (eval elt (compEnvC scope cl C env)) (CompEnd h₀ L m { s with heap := h, toks := tk } I oI C oC D (lst ys) S (fun y news' => J (i + 1) (ys ++ [y]) news')) E' s'
        else CompEnd h₀ L m { s with heap := h, toks := tk } I oI C oC D (lst ys) S (fun _ news' => J (i + 1) ys news') Value.none s') E' { s with heap := h, toks := tk })
    (fin : ∀ ys news, J n ys news → Fin ys news) : ∀ k i ys news, i + k = n → J i ys news → CompRestT prog w A h₀ L m env ct elt x scope cl s S P Fin k i ys news := by
  intro k
  induction k with
  | zero =>
    intro i ys news e j
    have : i = n := by omega
    subst this
    exact CompRestT.zero (fin _ _ j)
  | succ k ih =>
    intro i ys news e j
    refine CompRestT.succ fun v I oI C oC D m₂ h tk E' hp hc hx F N o ne => wpAny_mono (step i ys news (by omega) j v I oI C oC D m₂ h tk E' hp hc hx F N o ne) (fun ok s' hy => ?_) fun _ _ e => e
    cases ok with
    | true =>
      rw [if_pos rfl] at hy ⊢
      refine wpAny_mono hy (fun y s'' hz => ?_) fun _ _ e => e
      obtain ⟨h', tk', news', e1, F', N', o', S', J'⟩ := hz
      exact ⟨h', tk', news', e1, F', N', o', S', ih _ _ _ (by omega) J'⟩
    | false =>
      rw [if_neg Bool.false_ne_true] at hy ⊢
      obtain ⟨h', tk', news', e1, F', N', o', S', J'⟩ := hy
      exact ⟨h', tk', news', e1, F', N', o', S', ih _ _ _ (by omega) J'⟩
theorem str_st {I : Addr} {ty : String} {x : Str} {t : Tok} : ∀ i (h h' : Heap) (o : Obj) (nw : List (Addr × Obj)), h.IsStrIter I ty x t i → h.get? I = some o → h'.get? I = some o → (∀ b o, h₀.get? b = some o → h'.get? b = some o) → News h₀ L h' nw → True → h'.IsStrIter I ty x t i :=
  fun i h h' o nw st e e' _ _ _ => by obtain ⟨o', q, r⟩ := st; rw [e] at q; cases q; exact ⟨o, e', r⟩
noncomputable def SrcS (prog : Program) (w : World) (A : Around) (h₀ : Heap) (L : Addr) (m : Str → Option Value) (env : Env) (elt : PySem.Expr) (x : Str) (scope : Scope) (cl : List (Str × Addr)) (Fin : Shared → List Value → List (Addr × Obj) → Prop) (xv : Value) (s₁ : Shared) : Prop :=
  ∃ txt t news, xv = .str txt t ∧ A.handled = none ∧ Fr h₀ L s₁.heap m ∧ News h₀ L s₁.heap news ∧ txt.length ≤ 1000 ∧
    ∀ s₂ : Shared, (∃ h, s₂ = { s₁ with heap := h }) → CompRest prog w A h₀ L m env elt x scope cl s₂ (fun _ => True) (SignAt txt) (Fin s₂) txt.cps.size 0 [] news
noncomputable def SrcST (prog : Program) (w : World) (A : Around) (h₀ : Heap) (L : Addr) (m : Str → Option Value) (env : Env) (ct elt : PySem.Expr) (x : Str) (scope : Scope) (cl : List (Str × Addr)) (Fin : Shared → List Value → List (Addr × Obj) → Prop) (xv : Value) (s₁ : Shared) : Prop :=
  ∃ txt t news, xv = .str txt t ∧ A.handled = none ∧ Fr h₀ L s₁.heap m ∧ News h₀ L s₁.heap news ∧ txt.length ≤ 1000 ∧
    ∀ s₂ : Shared, (∃ h, s₂ = { s₁ with heap := h }) → CompRestT prog w A h₀ L m env ct elt x scope cl s₂ (fun _ => True) (SignAt txt) (Fin s₂) txt.cps.size 0 [] news
theorem thousand_line : (1000 : Nat) ≤ sizeLine := by decide
theorem lc_strT {ct elt iter : PySem.Expr} {x : Str} {px : Pos} {scope : Scope} {cl : List (Str × Addr)} {pos : Pos} {Q : Value → Shared → Prop} (F₀ : Fr h₀ L s.heap m)
    (hclos : closureFor scope env = pure cl) (hcell : ∀ y ∈ scope.names, y.2 ≠ .cell) (hkind : scope.kind = .function)
    (hnames : ∀ y ∈ scope.names, y.2 = .local → scope.names.lookup y.1 = some .local) (hx : scope.names.lookup x = some .local)
    (h : wpAny (model prog w) A (eval iter env) (SrcST prog w A h₀ L m env ct elt x scope cl (fun s₂ => FinE h₀ L m s₂ Q)) E s)
    (hs : ∀ x, foldedSetIterable iter env x = pure x := by intro _; rfl) :
    wpAny (model prog w) A (eval (.ListComp elt [⟨.Name x px, iter, [ct], 0⟩] scope pos) env) Q E s := by
  rw [eval_ListComp]
  refine wpAny_comprehension_free (use := none) rfl hs hclos hkind hnames (wpAny_mono h (fun xv s₁ h₁ => ?_) fun _ _ e => e)
  obtain ⟨txt, t, news, rfl, hh, F, N, hsz, R⟩ := h₁
  have hz : txt.cps.size ≤ sizeLine := Nat.le_trans hsz thousand_line
  cases ha : txt.cps.all (· < 128)
  · refine wpAny_pyIter_wide ha ?_
    refine block_T (Walks.strWide hh _ txt t) hz (fun i h st => by obtain ⟨o, e, _⟩ := st; exact ⟨o, e⟩) str_st hcell hkind hx ⟨_, Heap.get?_push_size _ rfl, rfl, rfl⟩ (fun b hb => ?_)
      (F.keeps fun _ _ e => Heap.get?_push_of_some _ e) (N.grown fun _ _ e => Heap.get?_push_of_some _ e) (Nat.ne_of_lt F.ns.lt) (next_is_new F) (fun p hp => Nat.ne_of_lt (Heap.lt_size (N p hp).1)) trivial (R _ ⟨_, rfl⟩) ?_
    · rw [List.mem_singleton.mp hb]
      show s₁.heap.objs.size < (s₁.heap.push _).objs.size
      rw [Heap.size_push]; exact Nat.lt_succ_self _
    · intro D C h tk m' ys news' F' N' o1 hn hC₀ hD₀ hCL hDL hCD offC fin
      refine ⟨m', hn, fun h'' hs'' => fin D h'' tk (F'.change hs'' hCL hC₀) (fun p hp => ?_) o1⟩
      refine ⟨hs''.extBut _ _ ?_ (N' p hp).1, (N' p hp).2⟩
      rcases List.mem_cons.mp hp with rfl | hp
      · exact Ne.symm hCD
      · exact offC p hp
  · refine wpAny_pyIter_ascii ha ?_
    refine block_T (Walks.strAscii hh _ txt t) hz (fun i h st => by obtain ⟨o, e, _⟩ := st; exact ⟨o, e⟩) str_st hcell hkind hx ⟨_, Heap.get?_push_size _ rfl, rfl, rfl⟩ (fun b hb => ?_)
      (F.keeps fun _ _ e => Heap.get?_push_of_some _ e) (N.grown fun _ _ e => Heap.get?_push_of_some _ e) (Nat.ne_of_lt F.ns.lt) (next_is_new F) (fun p hp => Nat.ne_of_lt (Heap.lt_size (N p hp).1)) trivial (R _ ⟨_, rfl⟩) ?_
    · rw [List.mem_singleton.mp hb]
      show s₁.heap.objs.size < (s₁.heap.push _).objs.size
      rw [Heap.size_push]; exact Nat.lt_succ_self _
    · intro D C h tk m' ys news' F' N' o1 hn hC₀ hD₀ hCL hDL hCD offC fin
      refine ⟨m', hn, fun h'' hs'' => fin D h'' tk (F'.change hs'' hCL hC₀) (fun p hp => ?_) o1⟩
      refine ⟨hs''.extBut _ _ ?_ (N' p hp).1, (N' p hp).2⟩
      rcases List.mem_cons.mp hp with rfl | hp
      · exact Ne.symm hCD
      · exact offC p hp
theorem lc_str {elt iter : PySem.Expr} {x : Str} {px : Pos} {scope : Scope} {cl : List (Str × Addr)} {pos : Pos} {Q : Value → Shared → Prop} (F₀ : Fr h₀ L s.heap m)
    (hclos : closureFor scope env = pure cl) (hcell : ∀ y ∈ scope.names, y.2 ≠ .cell) (hkind : scope.kind = .function)
    (hnames : ∀ y ∈ scope.names, y.2 = .local → scope.names.lookup y.1 = some .local) (hx : scope.names.lookup x = some .local)
    (h : wpAny (model prog w) A (eval iter env) (SrcS prog w A h₀ L m env elt x scope cl (fun s₂ => FinE h₀ L m s₂ Q)) E s)
    (hs : ∀ x, foldedSetIterable iter env x = pure x := by intro _; rfl) :
    wpAny (model prog w) A (eval (.ListComp elt [⟨.Name x px, iter, [], 0⟩] scope pos) env) Q E s := by
  rw [eval_ListComp]
  refine wpAny_comprehension_free (use := none) rfl hs hclos hkind hnames (wpAny_mono h (fun xv s₁ h₁ => ?_) fun _ _ e => e)
  obtain ⟨txt, t, news, rfl, hh, F, N, hsz, R⟩ := h₁
  have hz : txt.cps.size ≤ sizeLine := Nat.le_trans hsz thousand_line
  cases ha : txt.cps.all (· < 128)
  · refine wpAny_pyIter_wide ha ?_
    refine block_U (Walks.strWide hh _ txt t) hz (fun i h st => by obtain ⟨o, e, _⟩ := st; exact ⟨o, e⟩) str_st hcell hkind hx ⟨_, Heap.get?_push_size _ rfl, rfl, rfl⟩ (fun b hb => ?_)
      (F.keeps fun _ _ e => Heap.get?_push_of_some _ e) (N.grown fun _ _ e => Heap.get?_push_of_some _ e) (Nat.ne_of_lt F.ns.lt) (next_is_new F) (fun p hp => Nat.ne_of_lt (Heap.lt_size (N p hp).1)) trivial (R _ ⟨_, rfl⟩) ?_
    · rw [List.mem_singleton.mp hb]
      show s₁.heap.objs.size < (s₁.heap.push _).objs.size
      rw [Heap.size_push]; exact Nat.lt_succ_self _
    · intro D C h tk m' ys news' F' N' o1 hn hC₀ hD₀ hCL hDL hCD offC fin
      refine ⟨m', hn, fun h'' hs'' => fin D h'' tk (F'.change hs'' hCL hC₀) (fun p hp => ?_) o1⟩
      refine ⟨hs''.extBut _ _ ?_ (N' p hp).1, (N' p hp).2⟩
      rcases List.mem_cons.mp hp with rfl | hp
      · exact Ne.symm hCD
      · exact offC p hp
  · refine wpAny_pyIter_ascii ha ?_
    refine block_U (Walks.strAscii hh _ txt t) hz (fun i h st => by obtain ⟨o, e, _⟩ := st; exact ⟨o, e⟩) str_st hcell hkind hx ⟨_, Heap.get?_push_size _ rfl, rfl, rfl⟩ (fun b hb => ?_)
      (F.keeps fun _ _ e => Heap.get?_push_of_some _ e) (N.grown fun _ _ e => Heap.get?_push_of_some _ e) (Nat.ne_of_lt F.ns.lt) (next_is_new F) (fun p hp => Nat.ne_of_lt (Heap.lt_size (N p hp).1)) trivial (R _ ⟨_, rfl⟩) ?_
    · rw [List.mem_singleton.mp hb]
      show s₁.heap.objs.size < (s₁.heap.push _).objs.size
      rw [Heap.size_push]; exact Nat.lt_succ_self _
    · intro D C h tk m' ys news' F' N' o1 hn hC₀ hD₀ hCL hDL hCD offC fin
      refine ⟨m', hn, fun h'' hs'' => fin D h'' tk (F'.change hs'' hCL hC₀) (fun p hp => ?_) o1⟩
      refine ⟨hs''.extBut _ _ ?_ (N' p hp).1, (N' p hp).2⟩
      rcases List.mem_cons.mp hp with rfl | hp
      · exact Ne.symm hCD
      · exact offC p hp
end

-- lists of strs compared
theorem strs_len {vs : List Value} {ys : List Str} (h : StrsAre vs ys) : vs.length = ys.length := by
  induction h with
  | nil => rfl
  | cons _ _ _ ih => simp [ih]
theorem strs_get {vs : List Value} {ys : List Str} (h : StrsAre vs ys) : ∀ (j : Nat) (h1 : j < vs.length), ∃ t, vs[j] = .str (ys.getD j (tx [])) t := by
  induction h with
  | nil => intro j h1; simp at h1
  | cons x t r ih =>
    intro j h1
    cases j with
    | zero => exact ⟨t, rfl⟩
    | succ j =>
      obtain ⟨u, hu⟩ := ih j (by simpa using h1)
      exact ⟨u, by simpa using hu⟩
theorem all_eq {ns ms : List Str} (hl : ns.length = ms.length) : ((List.range ns.length).all fun j => ns.getD j (tx []) == ms.getD j (tx [])) = decide (ns = ms) := by
  rw [Bool.eq_iff_iff, List.all_eq_true, decide_eq_true_iff]
  constructor
  · intro h
    refine List.ext_getElem hl fun j h1 h2 => ?_
    have := h j (List.mem_range.mpr h1)
    simpa [List.getD_eq_getElem?_getD, h1, h2] using this
  · rintro rfl j _
    simp
section
variable {prog : Program} {w : World} {A : Around} {E : Value → Shared → Prop} {s : Shared} {a b : Addr} {xs ys : List Value} {ns ms : List Str} {Q : Value → Shared → Prop}
theorem eq_strs (ha : s.heap.IsList a xs.toArray) (hb : s.heap.IsList b ys.toArray) (hi : StrsAre xs ns) (hj : StrsAre ys ms) (hu : A.units < cLine) (h : Q (.bool (decide (ns = ms))) s) :
    wpAny (model prog w) A (compareOp .Eq (.ref a) (.ref b)) Q E s := by
  have l1 := strs_len hi
  have l2 := strs_len hj
  by_cases hl : xs.length = ys.length
  · refine SeqAt.eq_listAt (e := fun j => ns.getD j (tx []) == ms.getD j (tx [])) ha hb (by simpa using hl) hu (fun j h1 h2 => ?_) ?_
    · obtain ⟨t, e1⟩ := strs_get hi j (by simpa using h1)
      obtain ⟨u, e2⟩ := strs_get hj j (by simpa using h2)
      simp only [List.getElem_toArray]
      rw [e1, e2]
      exact SeqAt.EqAt.str_str _ _ _ _
    · rw [List.size_toArray, l1, all_eq (by omega)]
      exact h
  · refine SeqAt.eq_list_lengthsAt ha hb (by simpa using hl) hu ?_
    have : decide (ns = ms) = false := by
      rw [decide_eq_false_iff_not]; rintro rfl; omega
    rw [this] at h; exact h
theorem ne_strs (ha : s.heap.IsList a xs.toArray) (hb : s.heap.IsList b ys.toArray) (hi : StrsAre xs ns) (hj : StrsAre ys ms) (hu : A.units < cLine) (h : Q (.bool (!decide (ns = ms))) s) :
    wpAny (model prog w) A (compareOp .NotEq (.ref a) (.ref b)) Q E s := by
  have l1 := strs_len hi
  have l2 := strs_len hj
  by_cases hl : xs.length = ys.length
  · refine SeqAt.RcNeAt.lists (e := fun j => ns.getD j (tx []) == ms.getD j (tx [])) ha hb (by simpa using hl) hu (fun j h1 h2 => ?_) prog w E Q ?_
    · obtain ⟨t, e1⟩ := strs_get hi j (by simpa using h1)
      obtain ⟨u, e2⟩ := strs_get hj j (by simpa using h2)
      simp only [List.getElem_toArray]
      rw [e1, e2]
      exact SeqAt.EqAt.str_str _ _ _ _
    · rw [List.size_toArray, l1, all_eq (by omega)]
      exact h
  · refine SeqAt.RcNeAt.lists_lengths ha hb (by simpa using hl) hu prog w E Q ?_
    have : decide (ns = ms) = false := by
      rw [decide_eq_false_iff_not]; rintro rfl; omega
    rw [this] at h; exact h
end
-- a call that keeps what is old
noncomputable def AfterP (s : Shared) (P : Value → Heap → Prop) : Result → Shared → Prop :=
  Ends s fun r h' => (∀ b o, s.heap.get? b = some o → h'.get? b = some o) ∧ P r h'
theorem afterP_end {s s' : Shared} {g h' : Heap} {L' : Addr} {m' : Str → Option Value} {P : Value → Heap → Prop} {v : Value} {tk : Nat}
    (hg : ∀ b o, s.heap.get? b = some o → b ∉ ([] : List (Addr × Obj)).map (·.1) → g.get? b = some o) (F' : Fr g L' h' m') (hs : s' = { s with heap := h', toks := tk }) (hp : P v h') : AfterP s P (.ok (.ret v)) s' :=
  ⟨v, h', tk, rfl, hs, keep_all hg F', hp⟩
theorem call_pure {w : World} {A : Around} {s : Shared} {f : Addr} {vs : List Value} {P : Value → Heap → Prop} {Q E : Value → Shared → Prop} {g : Heap} {L : Addr} {m : Str → Option Value} {news : List (Addr × Obj)} (hs : codeAny (model pw w) A (.call (.ref f) ⟨vs, []⟩) (AfterP s P) s)
    (F : Fr g L s.heap m) (N : News g L s.heap news)
    (h : ∀ v h' tk, P v h' → Fr g L h' m → News g L h' news → Q v { s with heap := h', toks := tk }) : wpAny (model pw w) A (call (.ref f) vs) Q E s := by
  refine wpAny_call (codeAny_mono hs fun r s' hr => ?_)
  obtain ⟨v, h', tk, rfl, rfl, hk, hp⟩ := hr
  exact h v h' tk hp (fr_stays F hk) (news_stays N hk)
-- the caller's side of a plain function
structure Px (w : World) (base : Heap) (mean : ExcName → Option Value) (mg mb : Str → Option Value) (dp un : Nat) (gd : Option (List Code)) (outer : List Env) (g : Heap) : Prop where
  B : Below (Ar dp un gd outer) base outer g
  X : (KF w.params).In base
  V : SetHere base
  T : Tp mean mg mb base
theorem Px.cx {w : World} {base g h : Heap} {mean : ExcName → Option Value} {mg mb : Str → Option Value} {dp un : Nat} {gd : Option (List Code)} {outer : List Env} {L : Addr} {m : Str → Option Value} {env : Env} (F : Fr g L h m) (Z : Px w base mean mg mb dp un gd outer g) (hf : env.frame = some L) (hk : env.scope.kind = .function) : Cx w base mean mg mb (dp + 1) (un + 3) gd (env :: outer) h :=
  ⟨Z.X, Z.V, Z.T, pushX Z.B F hf hk⟩
section
variable {prog : Program} {w : World} {A : Around} {E : Value → Shared → Prop} {s : Shared} {env : Env} {h₀ : Heap} {x : Str} {body : List Stmt} {Q : Flow → Shared → Prop}
theorem rng_loop2 {r : Addr} {a₀ b₀ c : Int} {t₀ u₀ v₀ : Tok} {m₀ : Str → Option Value} {news : List (Addr × Obj)} (n : Nat) (J : Nat → (Str → Option Value) → Prop)
    (hh : A.handled = none) (hr : IsRange s.heap r a₀ b₀ c t₀ u₀ v₀) (hsmall : Builtin.Range.small a₀ b₀ c = true) (hn : Builtin.Range.rangeSize a₀ b₀ c = (n : Int)) (F : Fr h₀ env.locals s.heap m₀) (N : News h₀ env.locals s.heap news) (hj : J 0 m₀)
    (turn : ∀ i t m₁ h tk own, i < n → OwnOff own (news.map (·.1)) → J i m₁ → Fr h₀ env.locals h (fun y => if y = x then some (.int (a₀ + (i : Int) * c) t) else m₁ y) → News h₀ env.locals h (news ++ own) →
      wpAny (model prog w) A (execs body env) (InvPostN h₀ env.locals (fun m nx => nx = news ∧ J (i + 1) m) own (news.map (·.1)) { s with heap := h, toks := tk } Q) E { s with heap := h, toks := tk })
    (done : ∀ m₁ h tk, J n m₁ → Fr h₀ env.locals h m₁ → News h₀ env.locals h news → Q .next { s with heap := h, toks := tk }) :
    wpAny (model prog w) A (pyIter (.ref r)) (fun it s₂ => LoopAtV prog w A h₀ env x body Q E it s₂) E s := by
  refine wpAny_pyIter_range hr hsmall ?_
  have W : Walks prog w A s.heap.objs.size [s.heap.objs.size] [s.heap.objs.size] n (fun i v => i < n ∧ ∃ t, v = .int (a₀ + i * c) t)
      (fun i h => IsRangeIter h s.heap.objs.size (a₀ + (i : Nat) * c) ((n : Int) - (i : Nat)) c) := (Walks.range hh _ a₀ c n).bound
  refine loop_invN (fun i m nx => nx = news ∧ J i m) W ?_ ?_ ?_ ?_ (by show IsRangeIter _ _ _ _ _; rw [hn]; simpa using Heap.get?_push_size _ rfl) (F.push _) (fun p hp => ⟨Heap.get?_push_of_some _ (N p hp).1, (N p hp).2⟩) ⟨rfl, hj⟩ ?_ ?_
  · intro hm
    exact absurd F.ns.lt ((List.mem_singleton.mp hm) ▸ Nat.lt_irrefl _)
  · intro b hb
    rw [List.mem_singleton.mp hb]
    exact next_is_new F
  · intro p hp hI
    exact absurd (Heap.lt_size (N p hp).1) ((List.mem_singleton.mp hI) ▸ Nat.lt_irrefl _)
  · intro p hp hI
    exact absurd (Heap.lt_size (N p hp).1) ((List.mem_singleton.mp hI) ▸ Nat.lt_irrefl _)
  · rintro i v m₁ nx h tk own hi ⟨_, t, rfl⟩ _ hoff ⟨rfl, hJ⟩ F₁ N₁
    exact turn i t m₁ h tk own hi hoff hJ F₁ N₁
  · rintro m₁ nx h tk ⟨rfl, hJ⟩ F₁ N₁
    exact done m₁ h tk hJ F₁ N₁
end
noncomputable def fullL (l : List Nat) : Bool := decide (1 < l.length) && l.any isV
noncomputable def headR (l d : List Nat) : Prop := (∃ k, k < l.length ∧ fullL (l.take k) = true ∧ (∀ j, j < k → fullL (l.take j) = false) ∧ d = l.take k) ∨ ((∀ j, j < l.length → fullL (l.take j) = false) ∧ d = l)
noncomputable def ItStop (p : Prop) : Prop := p
theorem it_stop {p : Prop} (h : ItStop p) : p := h
section
variable {prog : Program} {w : World} {A : Around} {E : Value → Shared → Prop} {s : Shared} {env : Env} {h₀ : Heap} {x : Str} {body : List Stmt} {Q : Flow → Shared → Prop}
theorem lst_loop {l : Addr} {items : Array Value} {m₀ : Str → Option Value} {news : List (Addr × Obj)} (J : Nat → (Str → Option Value) → Prop)
    (hh : A.handled = none) (hl : h₀.IsList l items) (F : Fr h₀ env.locals s.heap m₀) (N : News h₀ env.locals s.heap news) (hj : J 0 m₀)
    (turn : ∀ i v m₁ h tk own, items[i]? = some v → OwnOff own (news.map (·.1)) → J i m₁ → Fr h₀ env.locals h (fun y => if y = x then some v else m₁ y) → News h₀ env.locals h (news ++ own) →
      wpAny (model prog w) A (execs body env) (InvPostN h₀ env.locals (fun m nx => nx = news ∧ J (i + 1) m) own (news.map (·.1)) { s with heap := h, toks := tk } Q) E { s with heap := h, toks := tk })
    (done : ∀ m₁ h tk, J items.size m₁ → Fr h₀ env.locals h m₁ → News h₀ env.locals h news → Q .next { s with heap := h, toks := tk }) :
    wpAny (model prog w) A (pyIter (.ref l)) (fun it s₂ => LoopAtV prog w A h₀ env x body Q E it s₂) E s := by
  have hls : s.heap.IsList l items := let ⟨o, a, r⟩ := hl; ⟨o, F.keep _ _ a, r⟩
  have hl0 : ∃ o, h₀.get? l = some o := let ⟨o, a, _⟩ := hl; ⟨o, a⟩
  have hlt : l < s.heap.objs.size := by obtain ⟨_, e, _⟩ := hls; exact Heap.lt_size e
  refine wpAny_pyIter_list hls ?_
  have W := Walks.list (prog := prog) (w := w) (A := A) hh s.heap.objs.size l (Nat.ne_of_lt hlt) items
  refine loop_invN (fun i m nx => nx = news ∧ J i m) W ?_ ?_ ?_ ?_ ⟨⟨_, Heap.get?_push_size _ rfl, rfl, rfl⟩, hls.push _⟩ (F.push _) (fun p hp => ⟨Heap.get?_push_of_some _ (N p hp).1, (N p hp).2⟩) ⟨rfl, hj⟩ ?_ ?_
  · intro hm
    rcases List.mem_cons.mp hm with hm | hm
    · exact absurd F.ns.lt (hm ▸ Nat.lt_irrefl _)
    · obtain ⟨o, ho⟩ := hl0
      have e : env.locals = l := List.mem_singleton.mp hm
      exact absurd (Nat.lt_of_lt_of_le (Heap.lt_size ho) F.above) (e ▸ Nat.lt_irrefl _)
  · intro b hb
    rw [List.mem_singleton.mp hb]
    exact next_is_new F
  · intro p hp hI
    exact absurd (Heap.lt_size (N p hp).1) ((List.mem_singleton.mp hI) ▸ Nat.lt_irrefl _)
  · intro p hp hI
    rcases List.mem_cons.mp hI with hI | hI
    · exact absurd (Heap.lt_size (N p hp).1) (hI ▸ Nat.lt_irrefl _)
    · obtain ⟨o, ho⟩ := hl0
      have := (N p hp).2.2
      rw [List.mem_singleton.mp hI, ho] at this; cases this
  · rintro i v m₁ nx h tk own hi hv _ hoff ⟨rfl, hJ⟩ F₁ N₁
    exact turn i v m₁ h tk own hv hoff hJ F₁ N₁
  · rintro m₁ nx h tk ⟨rfl, hJ⟩ F₁ N₁
    exact done m₁ h tk hJ F₁ N₁
end
structure Box (p : Prop) : Prop where
  out : p
theorem subAt_iff (x y : Str) (i : Nat) : Builtin.Str.subAt x y i = true ↔ ((cp x).drop i).take y.length = cp y := by
  unfold Builtin.Str.subAt
  rw [beq_iff_eq, ← Array.toList_inj, Array.toList_extract, List.extract_eq_take_drop, Nat.add_sub_cancel_left]
  rfl
theorem ends_iff (x y : Str) : Txt.endswith x y = (cp y).isSuffixOf (cp x) := by
  have hx : x.length = (cp x).length := rfl
  have hy : y.length = (cp y).length := rfl
  rw [Bool.eq_iff_iff]
  unfold Txt.endswith
  rw [Bool.and_eq_true, decide_eq_true_iff, subAt_iff, List.isSuffixOf_iff_suffix]
  constructor
  · rintro ⟨h1, h2⟩
    rw [← h2, List.take_of_length_le (by rw [List.length_drop]; omega)]
    exact List.drop_suffix _ _
  · intro h
    have hl := h.length_le
    refine ⟨by omega, ?_⟩
    obtain ⟨r, hr⟩ := h
    rw [hx, hy, ← hr, List.length_append, Nat.add_sub_cancel, List.drop_left, List.take_length]
theorem starts_iff (x y : Str) : Txt.startswith x y = (cp y).isPrefixOf (cp x) := by
  have hx : x.length = (cp x).length := rfl
  have hy : y.length = (cp y).length := rfl
  rw [Bool.eq_iff_iff]
  unfold Txt.startswith
  rw [Bool.and_eq_true, decide_eq_true_iff, subAt_iff, List.isPrefixOf_iff_prefix, List.drop_zero]
  constructor
  · rintro ⟨h1, h2⟩
    rw [← h2]
    exact List.take_prefix _ _
  · intro h
    have hl := h.length_le
    refine ⟨by omega, ?_⟩
    obtain ⟨r, hr⟩ := h
    rw [hy, ← hr, List.take_left]
noncomputable def nounV : List Value := [.str (Str.ofString "nyana") 893, .str (Str.ofString "ana") 894, .str (Str.ofString "ano") 895, .str (Str.ofString "oa") 896, .str (Str.ofString "i") 897]
noncomputable def nounS : List Str := [Str.ofString "nyana", Str.ofString "ana", Str.ofString "ano", Str.ofString "oa", Str.ofString "i"]
noncomputable def nounL : List (List Nat) := [[110, 121, 97, 110, 97], [97, 110, 97], [97, 110, 111], [111, 97], [105]]
theorem noun_strs : StrsAre nounV nounS := .cons _ _ (.cons _ _ (.cons _ _ (.cons _ _ (.cons _ _ (.nil)))))
theorem noun_list : nounS.map cp = nounL := by decide +kernel
theorem noun_look (P : Params) : (KF P).lookup 360 = some ⟨.type "list", none, .seq nounV.toArray 0, #[]⟩ := by kernel_rfl
theorem noun_at {w : World} {h : Heap} (X : (KF w.params).In h) : h.IsList 360 nounV.toArray := ⟨_, X 360 _ (noun_look _), rfl, _, rfl⟩
noncomputable def verbV : List Value := [.str (Str.ofString "etse") 899, .str (Str.ofString "ela") 900, .str (Str.ofString "isa") 901, .str (Str.ofString "ile") 902, .str (Str.ofString "ang") 903, .str (Str.ofString "eng") 904, .str (Str.ofString "ong") 905, .str (Str.ofString "wa") 906, .str (Str.ofString "a") 907]
noncomputable def verbS : List Str := [Str.ofString "etse", Str.ofString "ela", Str.ofString "isa", Str.ofString "ile", Str.ofString "ang", Str.ofString "eng", Str.ofString "ong", Str.ofString "wa", Str.ofString "a"]
noncomputable def verbL : List (List Nat) := [[101, 116, 115, 101], [101, 108, 97], [105, 115, 97], [105, 108, 101], [97, 110, 103], [101, 110, 103], [111, 110, 103], [119, 97], [97]]
theorem verb_strs : StrsAre verbV verbS := .cons _ _ (.cons _ _ (.cons _ _ (.cons _ _ (.cons _ _ (.cons _ _ (.cons _ _ (.cons _ _ (.cons _ _ (.nil)))))))))
theorem verb_list : verbS.map cp = verbL := by decide +kernel
theorem verb_look (P : Params) : (KF P).lookup 361 = some ⟨.type "list", none, .seq verbV.toArray 0, #[]⟩ := by kernel_rfl
theorem verb_at {w : World} {h : Heap} (X : (KF w.params).In h) : h.IsList 361 verbV.toArray := ⟨_, X 361 _ (verb_look _), rfl, _, rfl⟩
noncomputable def begV : List Value := [.str (Str.ofString "boi") 909, .str (Str.ofString "mo") 910, .str (Str.ofString "ba") 911, .str (Str.ofString "me") 912, .str (Str.ofString "ma") 913, .str (Str.ofString "le") 914, .str (Str.ofString "li") 915, .str (Str.ofString "se") 916]
noncomputable def begS : List Str := [Str.ofString "boi", Str.ofString "mo", Str.ofString "ba", Str.ofString "me", Str.ofString "ma", Str.ofString "le", Str.ofString "li", Str.ofString "se"]
noncomputable def begL : List (List Nat) := [[98, 111, 105], [109, 111], [98, 97], [109, 101], [109, 97], [108, 101], [108, 105], [115, 101]]
theorem beg_strs : StrsAre begV begS := .cons _ _ (.cons _ _ (.cons _ _ (.cons _ _ (.cons _ _ (.cons _ _ (.cons _ _ (.cons _ _ (.nil))))))))
theorem beg_list : begS.map cp = begL := by decide +kernel
theorem beg_look (P : Params) : (KF P).lookup 362 = some ⟨.type "list", none, .seq begV.toArray 0, #[]⟩ := by kernel_rfl
theorem beg_at {w : World} {h : Heap} (X : (KF w.params).In h) : h.IsList 362 begV.toArray := ⟨_, X 362 _ (beg_look _), rfl, _, rfl⟩
end Mine
-- Ls
namespace Mine
open PySem PySem.W PySem.Calls PyProof.Rows
-- the law's words, in lists of signs
noncomputable def shedL (ends : List (List Nat)) (b : List Nat) : List Nat := ends.foldl (fun l e => if e.isSuffixOf b && decide (l.length < e.length) then e else l) []
noncomputable def cutL (ends : List (List Nat)) (b : List Nat) : List Nat := b.take (b.length - (shedL ends b).length)
noncomputable def headL (x : List Nat) : Option (List Nat) := begL.find? fun e => e.isPrefixOf x && fullL (x.drop e.length)
noncomputable def dropL (x : List Nat) : List Nat := match headL x with
  | some e => x.drop e.length
  | none => x
noncomputable def lawStem (w h : List Nat) : List Nat := dropL (h ++ cutL verbL (cutL nounL (w.drop h.length)))
theorem isL_uniq {ks : List (List Nat)} {T : List Nat} {n m : Nat} (h : IsL ks T n) (h' : IsL ks T m) : n = m := by
  have a : n ≤ m := by
    rcases h.2 with e | ⟨K, hK, q, e⟩
    · omega
    · have := h'.1 K hK q; omega
  have b : m ≤ n := by
    rcases h'.2 with e | ⟨K, hK, q, e⟩
    · omega
    · have := h.1 K hK q; omega
  omega
theorem isL_mem {ks ks' : List (List Nat)} {T : List Nat} {n : Nat} (e : ∀ K, K ∈ ks ↔ K ∈ ks') (h : IsL ks T n) : IsL ks' T n := by
  refine ⟨fun K hK => h.1 K ((e K).mpr hK), ?_⟩
  rcases h.2 with q | ⟨K, hK, q⟩
  · exact .inl q
  · exact .inr ⟨K, (e K).mp hK, q⟩
theorem shed_inv (b : List Nat) : ∀ (ends : List (List Nat)) (l : List Nat),
    (let r := ends.foldl (fun l e => if e.isSuffixOf b && decide (l.length < e.length) then e else l) l
     l.length ≤ r.length ∧ (∀ e ∈ ends, e <:+ b → e.length ≤ r.length) ∧ (r = l ∨ (r ∈ ends ∧ r <:+ b)))
  | [], l => by
    refine ⟨Nat.le_refl _, ?_, Or.inl rfl⟩
    intro e h
    cases h
  | e :: r, l => by
    dsimp only
    rw [List.foldl_cons]
    by_cases q : (e.isSuffixOf b && decide (l.length < e.length)) = true
    · rw [if_pos q]
      rw [Bool.and_eq_true, List.isSuffixOf_iff_suffix, decide_eq_true_iff] at q
      obtain ⟨h1, h2, h3⟩ := shed_inv b r e
      refine ⟨by omega, fun f hf hs => ?_, ?_⟩
      · rcases List.mem_cons.mp hf with rfl | hf
        · exact h1
        · exact h2 f hf hs
      · rcases h3 with h3 | ⟨h3, h4⟩
        · exact .inr ⟨by rw [h3]; exact .head _, by rw [h3]; exact q.1⟩
        · exact .inr ⟨.tail _ h3, h4⟩
    · rw [if_neg q]
      obtain ⟨h1, h2, h3⟩ := shed_inv b r l
      refine ⟨h1, fun f hf hs => ?_, ?_⟩
      · rcases List.mem_cons.mp hf with rfl | hf
        · have : ¬ (l.length < f.length) := fun z => q (by rw [Bool.and_eq_true, List.isSuffixOf_iff_suffix, decide_eq_true_iff]; exact ⟨hs, z⟩)
          omega
        · exact h2 f hf hs
      · rcases h3 with h3 | ⟨h3, h4⟩
        · exact .inl h3
        · exact .inr ⟨.tail _ h3, h4⟩
theorem shed_isL (ends : List (List Nat)) (b : List Nat) : IsL (bks ends) b.reverse (shedL ends b).length := by
  obtain ⟨_, h2, h3⟩ := shed_inv b ends []
  refine ⟨fun K hK q => ?_, ?_⟩
  · obtain ⟨e, he, rfl⟩ := List.mem_map.mp hK
    rw [List.length_reverse]
    exact h2 e he (List.reverse_prefix.mp q)
  · rcases h3 with h3 | ⟨h3, h4⟩
    · exact .inl (by show (shedL ends b).length = 0; unfold shedL; rw [h3]; rfl)
    · exact .inr ⟨(shedL ends b).reverse, List.mem_map_of_mem h3, List.reverse_prefix.mpr h4, List.length_reverse ..⟩
theorem mem_bks {ks ks' : List (List Nat)} (e : ∀ K, K ∈ ks ↔ K ∈ ks') (K : List Nat) : K ∈ bks ks ↔ K ∈ bks ks' := by
  simp only [bks, List.mem_map]
  constructor
  · rintro ⟨a, h, r⟩; exact ⟨a, (e a).mp h, r⟩
  · rintro ⟨a, h, r⟩; exact ⟨a, (e a).mpr h, r⟩
theorem mem_noun (K : List Nat) : K ∈ tab2.keys ↔ K ∈ nounL := by
  simp only [tab2, nounL, List.mem_cons, List.not_mem_nil, or_false]
  grind
theorem mem_verb (K : List Nat) : K ∈ tab1.keys ↔ K ∈ verbL := by
  simp only [tab1, verbL, List.mem_cons, List.not_mem_nil, or_false]
  grind
theorem mem_beg (K : List Nat) : K ∈ tab0.keys ↔ K ∈ begL := by
  simp only [tab0, begL, List.mem_cons, List.not_mem_nil, or_false]
  grind
theorem shedR_cut {ks ends : List (List Nat)} (hm : ∀ K, K ∈ ks ↔ K ∈ ends) {v : Nat} {a b : List Nat} (hv : v ≤ a.length) (h : shedR ks v a b) : v ≤ b.length ∧ b = a.take v ++ cutL ends (a.drop v) := by
  rcases h with ⟨h, _⟩ | ⟨_, n, hn, hI, rfl⟩
  · omega
  · have e : n = (shedL ends (a.drop v)).length := isL_uniq (isL_mem (mem_bks hm) hI) (shed_isL ends (a.drop v))
    refine ⟨by rw [List.length_take]; omega, ?_⟩
    unfold cutL
    rw [← e, List.length_drop]
    have : a.take (a.length - n) = (a.take v ++ a.drop v).take (a.length - n) := by rw [List.take_append_drop]
    rw [this, List.take_append, List.length_take, Nat.min_eq_left hv, List.take_of_length_le (by rw [List.length_take]; omega)]
    congr 2
    omega
theorem full_iff (l : List Nat) : fullL l = true ↔ 1 < l.length ∧ ∃ q, q < l.length ∧ isV (l.getD q 0) = true := by
  unfold fullL
  rw [Bool.and_eq_true, decide_eq_true_iff, List.any_eq_true]
  constructor
  · rintro ⟨h, x, hx, hv⟩
    obtain ⟨q, hq, rfl⟩ := List.mem_iff_getElem.mp hx
    exact ⟨h, q, hq, by simpa [List.getD_eq_getElem?_getD, hq] using hv⟩
  · rintro ⟨h, q, hq, hv⟩
    refine ⟨h, l[q], List.getElem_mem _, ?_⟩
    simpa [List.getD_eq_getElem?_getD, hq] using hv
theorem full_drop (x : List Nat) (n : Nat) : fullL (x.drop n) = true ↔ n + 1 < x.length ∧ ∃ q, n ≤ q ∧ q < x.length ∧ isV (x.getD q 0) = true := by
  rw [full_iff, List.length_drop]
  constructor
  · rintro ⟨h, q, hq, hv⟩
    refine ⟨by omega, n + q, by omega, by omega, ?_⟩
    simpa [List.getD_eq_getElem?_getD] using hv
  · rintro ⟨h, q, h1, h2, hv⟩
    refine ⟨by omega, q - n, by omega, ?_⟩
    have : n + (q - n) = q := by omega
    simpa [List.getD_eq_getElem?_getD, this] using hv
theorem full_take (x : List Nat) (n : Nat) (hn : n ≤ x.length) : fullL (x.take n) = true ↔ 1 < n ∧ ∃ q, q < n ∧ isV (x.getD q 0) = true := by
  rw [full_iff, List.length_take, Nat.min_eq_left hn]
  constructor
  · rintro ⟨h, q, hq, hv⟩
    exact ⟨h, q, hq, by simpa [List.getD_eq_getElem?_getD, List.getElem?_take, hq] using hv⟩
  · rintro ⟨h, q, hq, hv⟩
    exact ⟨h, q, hq, by simpa [List.getD_eq_getElem?_getD, List.getElem?_take, hq] using hv⟩
theorem beg_free : ∀ e ∈ begL, ∀ f ∈ begL, e.isPrefixOf f = true → e = f := by decide +kernel
theorem beg_pos : ∀ e ∈ begL, 0 < e.length := by decide +kernel
theorem beg_one {x e f : List Nat} (he : e ∈ begL) (hf : f ∈ begL) (h : e <+: x) (h' : f <+: x) : e = f := by
  rcases Nat.le_total e.length f.length with q | q
  · exact beg_free e he f hf (List.isPrefixOf_iff_prefix.mpr (List.prefix_of_prefix_length_le h h' q))
  · exact (beg_free f hf e he (List.isPrefixOf_iff_prefix.mpr (List.prefix_of_prefix_length_le h' h q))).symm
theorem noun_drop {c d : List Nat} (h : nounR c d) : d = dropL c := by
  obtain ⟨n, hI, h⟩ := h
  have hI := isL_mem mem_beg hI
  unfold dropL headL
  split
  · rename_i e he
    have h1 := List.find?_some he
    have h2 := List.mem_of_find?_eq_some he
    rw [Bool.and_eq_true, List.isPrefixOf_iff_prefix] at h1
    have en : n = e.length := by
      rcases hI.2 with q | ⟨K, hK, q, r⟩
      · have := hI.1 e h2 h1.1
        have := beg_pos e h2
        omega
      · rw [← r, beg_one hK h2 q h1.1]
    subst en
    obtain ⟨f1, f2⟩ := (full_drop _ _).mp h1.2
    rcases h with ⟨_, _, _, r⟩ | ⟨h, r⟩
    · exact r
    · rcases h with h | h | h
      · have := beg_pos e h2; omega
      · omega
      · obtain ⟨q, q1, q2, q3⟩ := f2
        rw [h q q1 q2] at q3; cases q3
  · rename_i he
    rcases h with ⟨h1, h2, h3, _⟩ | ⟨_, r⟩
    · exfalso
      rcases hI.2 with q | ⟨K, hK, q, r⟩
      · omega
      · refine List.find?_eq_none.mp he K hK ?_
        rw [Bool.and_eq_true, List.isPrefixOf_iff_prefix, r]
        exact ⟨q, (full_drop _ _).mpr ⟨h2, h3⟩⟩
    · exact r
-- the two readings tell the same
theorem stem_law {a d hd : List Nat} (h : stemR a d) (hh : headR a hd) : d = lawStem a hd := by
  rcases h with ⟨h, rfl⟩ | ⟨p, b, c, hp, hpv, hmin, h2, s1, s2, s3⟩
  · have nf : ∀ j, fullL (d.take j) = false := fun j => by
      rw [← Bool.not_eq_true, full_iff]
      rintro ⟨z, q, hq, hv⟩
      rw [List.length_take] at hq z
      have hv : isV (d.getD q 0) = true := by
        simpa [List.getD_eq_getElem?_getD, List.getElem?_take, (by omega : q < j)] using hv
      rcases h with h | h
      · rw [h q (by omega)] at hv; cases hv
      · omega
    have e : hd = d := by
      rcases hh with ⟨k, _, hk, _⟩ | ⟨_, r⟩
      · rw [nf k] at hk; cases hk
      · exact r
    subst e
    unfold lawStem
    rw [List.drop_length]
    have e1 : cutL nounL [] = [] := rfl
    have e2 : cutL verbL [] = [] := rfl
    rw [e1, e2, List.append_nil]
    unfold dropL headL
    split
    · rename_i e he
      exfalso
      have h1 := List.find?_some he
      rw [Bool.and_eq_true] at h1
      obtain ⟨f1, q, q1, q2, q3⟩ := (full_drop _ _).mp h1.2
      rcases h with h | h
      · rw [h q q2] at q3; cases q3
      · omega
    · rfl
  · have hv : max (p + 1) 2 ≤ a.length := by omega
    have full : ∀ j, j ≤ a.length → (fullL (a.take j) = true ↔ max (p + 1) 2 ≤ j) := fun j hj => by
      rw [full_take _ _ hj]
      constructor
      · rintro ⟨h, q, hq, hqv⟩
        have : ¬ q < p := fun z => by rw [hmin q z] at hqv; cases hqv
        omega
      · intro h
        exact ⟨by omega, p, by omega, hpv⟩
    have e : hd = a.take (max (p + 1) 2) := by
      rcases hh with ⟨k, hk, hf, hmin', rfl⟩ | ⟨hall, rfl⟩
      · have h1 := (full k (by omega)).mp hf
        have : ¬ max (p + 1) 2 < k := fun z => by
          have := hmin' _ z
          rw [(full _ (by omega)).mpr (Nat.le_refl _)] at this; cases this
        congr 1
        omega
      · have : ¬ max (p + 1) 2 < hd.length := fun z => by
          have := hall _ z
          rw [(full _ (by omega)).mpr (Nat.le_refl _)] at this; cases this
        rw [List.take_of_length_le (by omega)]
    have hl : hd.length = max (p + 1) 2 := by rw [e, List.length_take]; omega
    obtain ⟨v1, e1⟩ := shedR_cut mem_noun hv s1
    obtain ⟨v2, e2⟩ := shedR_cut mem_verb v1 s2
    rw [← hl] at e2
    have tb : b.take hd.length = hd := by rw [e1, ← e, List.take_left' rfl]
    have db : b.drop hd.length = cutL nounL (a.drop hd.length) := by rw [e1, ← e, List.drop_left' rfl, hl]
    rw [tb, db] at e2
    rw [noun_drop s3, e2]
    rfl
end Mine
-- Wc
namespace Mine
open PySem PySem.W PySem.Calls PyProof.Rows
open PyProof.Rows.LCg
-- a call of a def with a cell, outer frames hidden too
section
variable {w : World} {base : Heap} {mean : ExcName → Option Value} {mg mb : Str → Option Value} {dp un : Nat} {gd : Option (List Code)} {outer : List Env} {s : Shared} {f : Addr} {R : Result → Shared → Prop}
  {name qual : Str} {params : Arguments} {body : List Stmt} {scope : Scope} {dV kV doc pm cdv ct oc : Value} {an od : Option Addr} {osl : Array (Option Value)} {args : Args} {binds : List (Str × Value)}
theorem enterC (hid : List (Addr × Obj)) (X : (KF w.params).In base) (T : Tp mean mg mb base) (B : base.StaysIn s.heap)
    (hh : ∀ p ∈ hid, s.heap.get? p.1 = some p.2 ∧ base.get? p.1 = none)
    (ho : (KF w.params).lookup f = some ⟨oc, od, .func (fnOf name qual params body scope dV kV doc pm an cdv ct), osl⟩) (hcd : codeIn (KF w.params) cdv qual = true) (hroom : dp < recursionLimit)
    (hbind : BindsTo s (fnOf name qual params body scope dV kV doc pm an cdv ct) args binds) (hkind : (binds.all fun y => scope.names.lookup y.1 == some .local || scope.names.lookup y.1 == some .cell) = true)
    (hnd : ((cellsFrom 0 scope.names []).map (·.1)).Nodup)
    (h : ∀ g L' h₁ tk cells, (∀ b o, s.heap.get? b = some o → b ∉ hid.map (·.1) → g.get? b = some o) → (∀ b o, g.get? b = some o → s.heap.get? b = some o) → Fr g L' h₁ (bindL (envOfC qual scope L' f cdv).kindOf binds fun _ => none) → News g L' h₁ (cells ++ hid) →
      CellsAre (bindC (envOfC qual scope L' f cdv).kindOf binds fun _ => none) (cellsFrom (L' + 1) scope.names []) cells → (KF w.params).In g → Tp mean mg mb g → base.StaysIn g → (∀ p ∈ hid, p.1 < L') →
      wpAny (model pw w) ((Ar dp un gd outer).deeper (envOfC qual scope L' f cdv)) (execs body (envOfC qual scope L' f cdv))
        (fun fl s' => R (.ok (.ret (match fl with | .ret v => v | _ => .none))) s')
        (fun e s' => wpAny (model pw w) ((Ar dp un gd outer).deeper (envOfC qual scope L' f cdv)) (leaving (envOfC qual scope L' f cdv) e) (fun _ s'' => R (.error e) s'') (fun e' s'' => R (.error e') s'') s')
        { s with heap := h₁, toks := tk })
    (hco : scope.isCoroutine = false) (hgen : scope.isGenerator = false) (hk : scope.kind = .function) :
    codeAny (model pw w) (Ar dp un gd outer) (.call (.ref f) args) R s := by
  have hin : ∀ b o, base.get? b = some o → s.heap.get? b = some o := B
  have nb : ∀ b o, base.get? b = some o → b ∉ hid.map (·.1) := fun b o e q => by
    obtain ⟨p, hp, rfl⟩ := List.mem_map.mp q
    rw [(hh p hp).2] at e; cases e
  have st : base.StaysIn (hideAll s.heap (hid.map (·.1))) := fun b o e => hideAll_get _ (hin b o e) (nb b o e)
  refine codeAny_call_function (fd := fnOf name qual params body scope dV kV doc pm an cdv ct) (body := body) hroom (hin _ _ (X _ _ ho)) rfl hco hgen rfl (codeRec_of (X.keeps hin) hcd) (hbind _ _ _ _ ?_)
  refine wpAny_newFunctionEnv_cells hk (kindsX hkind _) fun env' he s' x => ?_
  subst he
  refine ⟨(T.nolimit.keeps hin).keeps x.toInCall.keep, codeAny_func ?_⟩
  obtain ⟨h₁, tk, rfl, _⟩ := x.done
  have hk₁ := x.toInCall.keep
  obtain ⟨cells, NC, Y⟩ := Cl.news (h₀ := s.heap) (Nat.le_refl _) fun n c hm => ⟨x.cell n c (lookup_of_mem_nodup (cellsFrom_names scope.names 0 (s.heap.objs.size + 1) [] [] rfl ▸ hnd) hm), x.above n c hm⟩
  refine h (hideAll s.heap (hid.map (·.1))) s.heap.objs.size h₁ tk cells (fun b o e n => hideAll_get _ e n) (fun b o e => of_hideAll _ e) ⟨x.toInCall.ns, fun b o e => hk₁ b o (of_hideAll _ e), Nat.le_of_eq (hideAll_size _ _)⟩ (fun p hp => ?_) Y (X.keeps fun b o e => st b o e) (T.keeps fun b o e => st b o e) st (fun p hp => Heap.lt_size (hh p hp).1)
  rcases List.mem_append.mp hp with hp | hp
  · refine ⟨(NC p hp).1, (NC p hp).2.1, ?_⟩
    cases q : (hideAll s.heap (hid.map (·.1))).get? p.1 with
    | none => rfl
    | some o => have := of_hideAll _ q; rw [(NC p hp).2.2] at this; cases this
  · exact ⟨hk₁ _ _ (hh p hp).1, Nat.ne_of_lt (Heap.lt_size (hh p hp).1), hideAll_none _ (List.mem_map_of_mem hp)⟩
end
inductive All2 (R : Str → Str → Prop) : List Str → List Str → Prop
  | nil : All2 R [] []
  | cons {a b : Str} {as bs : List Str} : R a b → All2 R as bs → All2 R (a :: as) (b :: bs)
theorem All2.snoc {R : Str → Str → Prop} {as bs : List Str} {a b : Str} (h : All2 R as bs) (r : R a b) : All2 R (as ++ [a]) (bs ++ [b]) := by
  induction h with
  | nil => exact .cons r .nil
  | cons q _ ih => exact .cons q ih
theorem All2.len {R : Str → Str → Prop} {as bs : List Str} (h : All2 R as bs) : as.length = bs.length := by
  induction h with
  | nil => rfl
  | cons _ _ ih => simp [ih]
theorem All2.imp {R R' : Str → Str → Prop} {as bs : List Str} (h : All2 R as bs) (k : ∀ a b, R a b → R' a b) : All2 R' as bs := by
  induction h with
  | nil => exact .nil
  | cons q _ ih => exact .cons (k _ _ q) ih
theorem All2.eq {R R' : Str → Str → Prop} {as bs cs : List Str} (h : All2 R as bs) (h' : All2 R' as cs) (k : ∀ a b c, R a b → R' a c → b = c) : bs = cs := by
  induction h generalizing cs with
  | nil => cases h'; rfl
  | cons q _ ih => cases h' with | cons q' r' => rw [k _ _ _ q q', ih r']
theorem All2.all {R : Str → Str → Prop} {P Q : Str → Prop} {as bs : List Str} (h : All2 R as bs) (k : ∀ a b, R a b → P a → Q b) (hp : ∀ a ∈ as, P a) : ∀ b ∈ bs, Q b := by
  induction h with
  | nil => intro b hb; cases hb
  | cons q _ ih =>
    intro b hb
    rcases List.mem_cons.mp hb with rfl | hb
    · exact k _ _ q (hp _ (.head _))
    · exact ih (fun a ha => hp a (.tail _ ha)) b hb
noncomputable def StemW (a d : Str) : Prop := stemR (cp a) (cp d)
noncomputable def LawW (a d : Str) : Prop := ∃ hd, headR (cp a) hd ∧ cp d = lawStem (cp a) hd
theorem stem_is {a b c : Str} (h : StemW a b) (h' : LawW a c) : b = c := by
  obtain ⟨hd, h1, h2⟩ := h'
  have := stem_law h h1
  rw [← h2] at this
  rw [← tx_cp b, ← tx_cp c, this]
theorem noun_len {a b : List Nat} (h : nounR a b) : b.length ≤ a.length := by
  obtain ⟨n, _, ⟨_, _, _, rfl⟩ | ⟨_, rfl⟩⟩ := h
  · rw [List.length_drop]; omega
  · exact Nat.le_refl _
theorem shedR_len {ks : List (List Nat)} {v : Nat} {a b : List Nat} (h : shedR ks v a b) : b.length ≤ a.length := by
  rcases h with ⟨_, rfl⟩ | ⟨_, n, _, _, rfl⟩
  · exact Nat.le_refl _
  · rw [List.length_take]; omega
theorem stemW_len {a d : Str} (h : StemW a d) : d.length ≤ a.length := by
  show (cp d).length ≤ (cp a).length
  rcases h with ⟨_, h⟩ | ⟨p, b, c, _, _, _, _, h1, h2, h3⟩
  · rw [h]; exact Nat.le_refl _
  · have := shedR_len h1; have := shedR_len h2; have := noun_len h3; omega
theorem take_snoc {ws : List Str} {i : Nat} {e : Str} (h : ws[i]? = some e) : ws.take (i + 1) = ws.take i ++ [e] := by
  rw [List.take_add_one, h]; rfl
-- the contract of the stemmer's second word
noncomputable def AfterW (s : Shared) (Lo dx : Addr) (oo : Obj) (P : Value → Heap → Prop) : Result → Shared → Prop :=
  Ends s fun r h' => (∀ b o, b ≠ dx → b ≠ Lo → s.heap.get? b = some o → h'.get? b = some o) ∧ (∃ sl, h'.get? Lo = some { oo with slots := sl }) ∧ P r h'
theorem afterW_end {s s' : Shared} {g h' : Heap} {L' x dx Lo c D : Addr} {m' : Str → Option Value} {es es' : List DictEntry} {n n' tk : Nat} {oo oc oD : Obj} {sl : Array (Option Value)} {P : Value → Heap → Prop} {v : Value}
    (hg : ∀ b o, s.heap.get? b = some o → b ∉ [(x, instObj 337 dx), (dx, dictOf es n), (Lo, oo)].map (·.1) → g.get? b = some o) (hx : s.heap.get? x = some (instObj 337 dx))
    (F' : Fr g L' h' m') (N' : News g L' h' [(D, oD), (c, oc), (x, instObj 337 dx), (dx, dictOf es' n'), (Lo, { oo with slots := sl })]) (hs : s' = { s with heap := h', toks := tk }) (hp : P v h') : AfterW s Lo dx oo P (.ok (.ret v)) s' := by
  refine ⟨v, h', tk, rfl, hs, fun b o h1 h2 e => ?_, ⟨sl, (N' _ (.tail _ (.tail _ (.tail _ (.tail _ (.head _)))))).1⟩, hp⟩
  by_cases q : b = x
  · subst q; rw [hx] at e; cases e; exact (N' _ (.tail _ (.tail _ (.head _)))).1
  · refine F'.keep b o (hg b o e ?_)
    simp only [List.map_cons, List.map_nil, List.mem_cons, List.not_mem_nil, or_false, not_or]
    exact ⟨q, h1, h2⟩
-- a list's last item, put anew
section
variable {prog : Program} {w : World} {A : Around} {E : Value → Shared → Prop} {s : Shared} {h₀ : Heap} {L D : Addr} {m : Str → Option Value} {news news' : List (Addr × Obj)} {its : Array Value} {n : Nat} {v : Value} {u : Tok}
theorem put_last {Q : Unit → Shared → Prop} (ho : s.heap.get? D = some (listOf its n)) (hn : 0 < its.size)
    (hQ : Q () { s with heap := s.heap.update D (Obj.mapSeq (·.setIfInBounds (its.size - 1) v)) }) : wpAny (model prog w) A (setItem (.ref D) (.int (-1) u) v) Q E s := by
  have hl : s.heap.IsList D its := PySem.IsL.isList (n := n) ho
  unfold setItem
  try with_reducible refine wpAny_holding ?_
  first | refine wpAny_bind (wpAny_pure ?_) | skip
  refine wpAny_bind (wpAny_sequenceKey hl.typeIs (by decide) ?_)
  refine wpAny_bind (wpAny_callSpecial?_slot (name := Str.ofString "__setitem__") hl.typeIs slot_list_setitem
    (wpAny_call_entry slot_list_setitem hl.typeIs entry_list_setitem ?_ (args_list_setitem _ _ _)))
  show wpAny _ _ (Builtin.List.listSubscript? (.int (-1) u) >>= _) _ _ s
  refine wpAny_bind (wpAny_listSubscript_int (fitsIndex_neg (by decide) (by decide)) ?_)
  show wpAny _ _ ((Builtin.List.listItems (.ref D) >>= fun xs => pure ((seqIndex? (Int.negSucc 0) xs.size).bind fun i => xs[i]?.map (i, ·))) >>= _) _ _ s
  refine wpAny_bind (wpAny_bind ?_)
  show wpAny _ _ (seqItems? (.ref D) >>= _) _ _ s
  refine wpAny_bind (wpAny_seqItems ho rfl (wpAny_pure (wpAny_pure ?_)))
  rw [seqIndex_neg (by decide) (by omega)]
  have e : (Int.negSucc 0 + (its.size : Int)).toNat = its.size - 1 := by omega
  rw [e]
  simp only [Option.bind_some, Array.getElem?_eq_getElem (show its.size - 1 < its.size by omega), Option.map_some]
  show wpAny _ _ (setSeqItemAt D (its.size - 1) v >>= _) _ _ s
  refine wpAny_bind (wpAny_setSeqItemAt ho rfl ?_)
  first
    | exact wpAny_bind (wpAny_pure (wpAny_pure ⟨.none, rfl, wpAny_pure hQ⟩))
    | exact wpAny_pure ⟨.none, rfl, wpAny_pure hQ⟩
theorem put_lastN {Q : Unit → Shared → Prop} (F : Fr h₀ L s.heap m) (N : News h₀ L s.heap news) (U : Upd D (listOf its n) (listOf (its.setIfInBounds (its.size - 1) v) n) news news') (hn : 0 < its.size)
    (h : ∀ h', Fr h₀ L h' m → News h₀ L h' news' → Q () { s with heap := h' }) : wpAny (model prog w) A (setItem (.ref D) (.int (-1) u) v) Q E s := by
  obtain ⟨pre, post, rfl, rfl, a, b⟩ := U.split
  have z := N (D, listOf its n) (List.mem_append.mpr (.inr (.head _)))
  exact put_last z.1 hn (h _ (F.change (Heap.SameBut.update ..) z.2.1 z.2.2) (ki_turn _ N a b rfl (by simp)))
theorem get_lastN {value slice : PySem.Expr} {Q : Value → Shared → Prop} (N : News h₀ L s.heap news) (hm : (D, listOf its n) ∈ news) (hn : 0 < its.size) (hx : its[its.size - 1]? = some v) (h : Q v s)
    (hs : subscripted slice false (.ref D) (.int (-1) u) = operate [.ref D, .int (-1) u] (getItem (.ref D) (.int (-1) u)) := by with_unfolding_all rfl) :
    wpAny (model prog w) A (subscriptTail value slice (.ref D) (.int (-1) u)) Q E s := by
  have hl : s.heap.IsList D its := PySem.IsL.isList (n := n) (N _ hm).1
  refine tail_any hl.typeIs slot_list_getitem.lookup (wpAny_getItem_list_neg hl (by decide) (by omega) (by decide) ?_ h) hs
  have e : ((-1 : Int) + (its.size : Int)).toNat = its.size - 1 := by omega
  rw [e]; exact hx
theorem get_atN {value slice : PySem.Expr} {Q : Value → Shared → Prop} {k : Int} (N : News h₀ L s.heap news) (hm : (D, listOf its n) ∈ news) (h0 : 0 ≤ k) (hk : k < 1000) (hx : its[k.toNat]? = some v) (h : Q v s)
    (hs : subscripted slice false (.ref D) (.int k u) = operate [.ref D, .int k u] (getItem (.ref D) (.int k u)) := by with_unfolding_all rfl) :
    wpAny (model prog w) A (subscriptTail value slice (.ref D) (.int k u)) Q E s := by
  have hl : s.heap.IsList D its := PySem.IsL.isList (n := n) (N _ hm).1
  exact tail_any hl.typeIs slot_list_getitem.lookup (wpAny_getItem_list hl h0 (by omega) hx h) hs
theorem add_listsG {l b : Addr} {vs ws : List Value} {Q : Value → Shared → Prop} (F : Fr h₀ L s.heap m) (N : News h₀ L s.heap news) (hl : s.heap.IsList l vs.toArray) (hb : s.heap.IsList b ws.toArray) (hz : vs.length + ws.length ≤ 1000)
    (h : ∀ (P : Addr) h', (∀ p ∈ news, @LT.lt Nat _ p.1 P) → Fr h₀ L h' m → News h₀ L h' ((P, listOf (vs ++ ws).toArray 0) :: news) → Q (.ref P) { s with heap := h' }) :
    wpAny (model prog w) A (binaryOp .Add (.ref l) (.ref b)) Q E s :=
  add_lists (hsz := Nat.le_trans hz thousand_line) F N hl hb fun h' F' N' => h _ h' (fun p hp => Heap.lt_size (N p hp).1) F' N'
end
section
variable {prog : Program} {w : World} {A : Around} {E : Value → Shared → Prop} {s : Shared} {env : Env} {h₀ : Heap} {x : Str} {body : List Stmt} {Q : Flow → Shared → Prop}
-- a loop over a list that the call has made
theorem made_loop {l : Addr} {items : Array Value} {m₀ : Str → Option Value} {news : List (Addr × Obj)} (J : Nat → (Str → Option Value) → List (Addr × Obj) → Prop)
    (hh : A.handled = none) (hls : s.heap.IsList l items) (hlL : l ≠ env.locals) (hln : ∀ p ∈ news, p.1 ≠ l) (F : Fr h₀ env.locals s.heap m₀) (N : News h₀ env.locals s.heap news) (hj : J 0 m₀ news)
    (turn : ∀ i v m₁ nx h tk own, items[i]? = some v → OwnOff own (news.map (·.1)) → J i m₁ nx → Fr h₀ env.locals h (fun y => if y = x then some v else m₁ y) → News h₀ env.locals h (nx ++ own) →
      wpAny (model prog w) A (execs body env) (InvPostN h₀ env.locals (J (i + 1)) own (news.map (·.1)) { s with heap := h, toks := tk } Q) E { s with heap := h, toks := tk })
    (done : ∀ m₁ nx h tk, J items.size m₁ nx → Fr h₀ env.locals h m₁ → News h₀ env.locals h nx → Q .next { s with heap := h, toks := tk }) :
    wpAny (model prog w) A (pyIter (.ref l)) (fun it s₂ => LoopAtV prog w A h₀ env x body Q E it s₂) E s := by
  have hlt : l < s.heap.objs.size := by obtain ⟨_, e, _⟩ := hls; exact Heap.lt_size e
  refine wpAny_pyIter_list hls ?_
  have W := Walks.list (prog := prog) (w := w) (A := A) hh s.heap.objs.size l (Nat.ne_of_lt hlt) items
  refine loop_invN J W ?_ ?_ ?_ ?_ ⟨⟨_, Heap.get?_push_size _ rfl, rfl, rfl⟩, hls.push _⟩ (F.push _) (fun p hp => ⟨Heap.get?_push_of_some _ (N p hp).1, (N p hp).2⟩) hj ?_ ?_
  · intro hm
    rcases List.mem_cons.mp hm with hm | hm
    · exact absurd F.ns.lt (hm ▸ Nat.lt_irrefl _)
    · exact hlL (List.mem_singleton.mp hm).symm
  · intro b hb
    rw [List.mem_singleton.mp hb]
    exact next_is_new F
  · intro p hp hI
    exact absurd (Heap.lt_size (N p hp).1) ((List.mem_singleton.mp hI) ▸ Nat.lt_irrefl _)
  · intro p hp hI
    rcases List.mem_cons.mp hI with hI | hI
    · exact absurd (Heap.lt_size (N p hp).1) (hI ▸ Nat.lt_irrefl _)
    · exact hln p hp (List.mem_singleton.mp hI)
  · rintro i v m₁ nx h tk own hi hv _ hoff hJ F₁ N₁
    exact turn i v m₁ nx h tk own hv hoff hJ F₁ N₁
  · rintro m₁ nx h tk hJ F₁ N₁
    exact done m₁ nx h tk hJ F₁ N₁
end
theorem cc_end {q n m a b : Nat} {d : Int} (hd : d = (a : Int) - (b : Int)) (h0 : d ≠ 0) (h1 : q < n) (h2 : q < m) : (d < 0 ∧ q < n ∧ (q = m ∨ a < b)) ∨ (0 ≤ d ∧ (q = n ∨ (q < n ∧ q < m ∧ b < a))) := by omega
theorem w_bound {a b c n : Nat} (h : a ≤ b + 1) (e : b = c) (h9 : c ≤ n) : a ≤ n + 1 := by omega
theorem l_bound {a b c n : Nat} (h : a ≤ 5 * b) (e : b = c) (h9 : c ≤ n) : a ≤ 5 * n := by omega
end Mine
namespace Mine
open PySem PySem.W PySem.Calls PyProof.Rows
section
local macro_rules | `(tactic| k_get) => `(tactic| exact StE.none (by assumption) (by decide))
local macro_rules | `(tactic| walk_at "getAttr ref") => `(tactic| (k_here; (with_reducible show wpAny _ _ (getAttr (Value.ref _) (PySem.Str.ofString "current") _) _ _ _); k_dflt (refine ga_cur (by assumption) (by assumption) (by assumption) (by k_mem) (by k_mem) (by assumption) ?_); intro u'; (try dsimp only)))
local macro_rules | `(tactic| walk_at "setAttr ref") => `(tactic| (k_here; (with_reducible show wpAny _ _ (setAttr (Value.ref _) (PySem.Str.ofString "current") _) _ _ _); k_dflt (refine sa_cur (by assumption) (by assumption) (by assumption) (by k_mem) (by k_mem) (by assumption) (by k_updF) ?_); intro h' es' n' H' F' N'; (try dsimp only at N'); (try k_sweep)))
local macro_rules | `(tactic| walk_at "getAttr ref") => `(tactic| (k_here; (with_reducible show wpAny _ _ (getAttr (Value.ref _) (PySem.Str.ofString "cursor") _) _ _ _); k_dflt (refine ga_c (by assumption) (by assumption) (by assumption) (by k_mem) (by k_mem) (by assumption) ?_); intro u'; (try dsimp only)))
local macro_rules | `(tactic| walk_at "setAttr ref") => `(tactic| (k_here; (with_reducible show wpAny _ _ (setAttr (Value.ref _) (PySem.Str.ofString "cursor") _) _ _ _); k_dflt (refine sa_c (by assumption) (by assumption) (by assumption) (by k_mem) (by k_mem) (by assumption) (by k_updF) ?_); intro h' es' n' H' F' N'; (try dsimp only at N'); (try k_sweep)))
local macro_rules | `(tactic| walk_at "getAttr ref") => `(tactic| (k_here; (with_reducible show wpAny _ _ (getAttr (Value.ref _) (PySem.Str.ofString "limit") _) _ _ _); k_dflt (refine ga_l (by assumption) (by assumption) (by assumption) (by k_mem) (by k_mem) (by assumption) ?_); intro u'; (try dsimp only)))
local macro_rules | `(tactic| walk_at "setAttr ref") => `(tactic| (k_here; (with_reducible show wpAny _ _ (setAttr (Value.ref _) (PySem.Str.ofString "limit") _) _ _ _); k_dflt (refine sa_l (by assumption) (by assumption) (by assumption) (by k_mem) (by k_mem) (by assumption) (by k_updF) ?_); intro h' es' n' H' F' N'; (try dsimp only at N'); (try k_sweep)))
local macro_rules | `(tactic| walk_at "getAttr ref") => `(tactic| (k_here; (with_reducible show wpAny _ _ (getAttr (Value.ref _) (PySem.Str.ofString "limit_backward") _) _ _ _); k_dflt (refine ga_lb (by assumption) (by assumption) (by assumption) (by k_mem) (by k_mem) (by assumption) ?_); intro u'; (try dsimp only)))
local macro_rules | `(tactic| walk_at "setAttr ref") => `(tactic| (k_here; (with_reducible show wpAny _ _ (setAttr (Value.ref _) (PySem.Str.ofString "limit_backward") _) _ _ _); k_dflt (refine sa_lb (by assumption) (by assumption) (by assumption) (by k_mem) (by k_mem) (by assumption) (by k_updF) ?_); intro h' es' n' H' F' N'; (try dsimp only at N'); (try k_sweep)))
local macro_rules | `(tactic| walk_at "getAttr ref") => `(tactic| (k_here; (with_reducible show wpAny _ _ (getAttr (Value.ref _) (PySem.Str.ofString "bra") _) _ _ _); k_dflt (refine ga_bra (by assumption) (by assumption) (by assumption) (by k_mem) (by k_mem) (by assumption) ?_); intro u'; (try dsimp only)))
local macro_rules | `(tactic| walk_at "setAttr ref") => `(tactic| (k_here; (with_reducible show wpAny _ _ (setAttr (Value.ref _) (PySem.Str.ofString "bra") _) _ _ _); k_dflt (refine sa_bra (by assumption) (by assumption) (by assumption) (by k_mem) (by k_mem) (by assumption) (by k_updF) ?_); intro h' es' n' H' F' N'; (try dsimp only at N'); (try k_sweep)))
local macro_rules | `(tactic| walk_at "getAttr ref") => `(tactic| (k_here; (with_reducible show wpAny _ _ (getAttr (Value.ref _) (PySem.Str.ofString "ket") _) _ _ _); k_dflt (refine ga_ket (by assumption) (by assumption) (by assumption) (by k_mem) (by k_mem) (by assumption) ?_); intro u'; (try dsimp only)))
local macro_rules | `(tactic| walk_at "setAttr ref") => `(tactic| (k_here; (with_reducible show wpAny _ _ (setAttr (Value.ref _) (PySem.Str.ofString "ket") _) _ _ _); k_dflt (refine sa_ket (by assumption) (by assumption) (by assumption) (by k_mem) (by k_mem) (by assumption) (by k_updF) ?_); intro h' es' n' H' F' N'; (try dsimp only at N'); (try k_sweep)))
local macro_rules | `(tactic| walk_at "getAttr ref") => `(tactic| (k_here; (with_reducible show wpAny _ _ (getAttr (Value.ref _) (PySem.Str.ofString "I_pV") _) _ _ _); k_dflt (refine ga_ip (by assumption) (by assumption) (by assumption) (by k_mem) (by k_mem) (by assumption) (by first | rfl | assumption) ?_); intro u'; (try dsimp only)))
local macro_rules | `(tactic| walk_at "setAttr ref") => `(tactic| (k_here; (with_reducible show wpAny _ _ (setAttr (Value.ref _) (PySem.Str.ofString "I_pV") _) _ _ _); k_dflt (refine sa_ip (by assumption) (by assumption) (by assumption) (by k_mem) (by k_mem) (by assumption) (by k_updF) ?_); intro h' es' n' H' F' N'; (try dsimp only at N'); (try k_sweep)))
local macro_rules | `(tactic| walk_at "exec While") => `(tactic| (k_here; refine wh_stop ?_))
local macro_rules | `(tactic| walk_at "exec While Compare") => `(tactic| (k_here; refine wh_stop ?_))
local macro_rules | `(tactic| walk_at "exec While Constant") => `(tactic| (k_here; refine wh_stop ?_))
local macro_rules | `(tactic| walk_at "compareOp In str ref") => `(tactic| (k_here; (with_reducible show wpAny _ _ (compareOp _ (Value.str _ _) (Value.ref 230)) _ _ _); k_dflt (refine in_one (by assumption) (by assumption) ?_)))
local macro_rules | `(tactic| walk_at "WhlIf") => `(tactic| (refine whlif_dec ?_ ?_ <;> intro hc))
local macro_rules | `(tactic| walk_at "subscriptTail") => `(tactic| (k_here; (with_reducible show wpAny _ _ (subscriptTail _ _ (Value.str _ _) (Value.int _ _)) _ _ _); k_dflt (refine item_at (by omega) (by omega) (by assumption) ?_)))
local macro_rules | `(tactic| walk_at "last subscriptTail") => `(tactic| (k_here; (with_reducible show wpAny _ _ (subscriptTail _ _ (Value.str _ _) (Value.int _ _)) _ _ _); k_dflt (refine item_at (by omega) (by omega) (by assumption) ?_)))
local macro_rules | `(tactic| walk_at "getAttr ref") => `(tactic| (k_here; (with_reducible show wpAny _ _ (getAttr (Value.ref 337) (PySem.Str.ofString "g_v") _) _ _ _); k_dflt (refine ga_gv (by assumption) (by assumption) (by assumption) ?_)))
section
theorem fill_dummy : PySem.Challenge.rw_iu0020_01 = PySem.Challenge.rw_iu0020_01 ∧ KF = KF := by
  k_fill
  exact ⟨rfl, rfl⟩
section
variable {w : World} {base : Heap} {mean : ExcName → Option Value} {mg mb : Str → Option Value} {dp un : Nat} {gd : Option (List Code)} {outer : List Env} {s : Shared}
set_option maxHeartbeats 4000000 in
theorem go_out_spec (C : Cx w base mean mg mb dp un gd outer s.heap) (hdp : dp < 900) (hun : un < 9000) {x dx : Addr} {st : St} (S : Sx base outer s.heap x dx st)
    (h0 : 0 ≤ st.c) (hl : st.l ≤ st.cur.length) (hz : st.cur.length ≤ 1000) :
    codeAny (model pw w) (Ar dp un gd outer) (.call (.ref 98) ⟨[.ref x, .ref 230], []⟩)
      (After s dx fun r st' => (r = .bool true ∧ ∃ p, st' = { st with c := p } ∧ st.c ≤ p ∧ p < st.l ∧ isV (chAt st.cur p) = true ∧ ∀ q, st.c ≤ q → q < p → isV (chAt st.cur q) = false) ∨
        (r = .bool false ∧ ∃ p, st' = { st with c := p } ∧ ∀ q, st.c ≤ q → q < st.l → isV (chAt st.cur q) = false)) s := by
  obtain ⟨X, V, T, B⟩ := C
  obtain ⟨hx, ⟨es, n, hd, H⟩, bx, bd, nx, nd, hxd⟩ := S
  refine enter [(x, instObj 337 dx), (dx, dictOf es n)] X T B (hid_ok hx hd bx bd nx nd) (look98 _) (code98 _) (Nat.lt_of_lt_of_le hdp (by decide)) (BindsTo.of_eq (binds := [(Str.ofString "self", .ref x), (Str.ofString "s", .ref 230)]) (by rfl)) (locs rfl) ?_ (by decide) rfl rfl rfl
  intro g L' h₁ hg hgs hL F N Bg Xg Tg Sg
  conv in (execs _ _) => arg 1; whnf
  conv => (pattern (occs := *) stScope _) <;> whnf
  have Vg : SetHere g := by obtain ⟨es, ep, t, a, b⟩ := V; exact ⟨es, ep, t, Sg _ _ a, b⟩
  k_steps
  refine wh_go (fun (k : Int) j s' => ∃ h es n tk, s' = { s with heap := h, toks := tk } ∧ j = (st.l - k).toNat ∧ st.c ≤ k ∧ Fr g L' h (fun y => List.lookup y [(Str.ofString "self", Value.ref x), (Str.ofString "s", Value.ref 230)].reverse) ∧ News g L' h [(x, instObj 337 dx), (dx, dictOf es n)] ∧ StE es { st with c := k } ∧ (∀ q, st.c ≤ q → q < k → isV (chAt st.cur q) = false)) (by passes_own) _ st.c ⟨_, _, _, _, rfl, rfl, Int.le_refl _, F, N, H, fun q h1 h2 => by omega⟩ ?_
  rintro k j s' ⟨h, es, n, tk, rfl, rfl, hk, F, N, H, hq⟩
  k_steps
  all_goals (try dsimp only [Turned])
  · exact after_end hg hx F N H rfl (.inl ⟨rfl, k, rfl, hk, by omega, by assumption, hq⟩)
  · refine ⟨k + 1, (st.l - (k + 1)).toNat, by omega, _, _, _, _, rfl, rfl, by omega, by assumption, by assumption, by assumption, fun q h1 h2 => ?_⟩
    by_cases e : q = k
    · subst e; simp_all
    · exact hq q h1 (by omega)
  · exact after_end hg hx F N H rfl (.inr ⟨rfl, k, rfl, fun q h1 h2 => hq q h1 (by omega)⟩)
end
local macro_rules | `(tactic| walk_at "call ref") => `(tactic| (k_here; (with_reducible show wpAny _ _ (call (Value.ref 98) _) _ _ _); k_dflt (refine call_after (go_out_spec (Zx.cx (by assumption) (by assumption) rfl rfl) (by dsimp only [Ar]; omega) (by dsimp only [Ar]; omega) (Zx.sx (by assumption) (by assumption) (by k_mem) (by k_mem) (by assumption) rfl) (by (try dsimp only); omega) (by (try dsimp only); omega) (by (try dsimp only); omega)) (by assumption) (by assumption) (by k_mem) (by k_updF) ?_); intro v' h' tk' es' n' st' P' F' N' H'; (try dsimp only at N'); (rcases P' with ⟨a', p', b', c1', c2', c3', c4'⟩ | ⟨a', p', b', c1'⟩) <;> (subst a'; subst b'; (try dsimp only at H'); (try dsimp only at c1'); (try dsimp only at c2'); (try dsimp only at c3'); (try dsimp only at c4'))))
section
variable {w : World} {base : Heap} {mean : ExcName → Option Value} {mg mb : Str → Option Value} {dp un : Nat} {gd : Option (List Code)} {outer : List Env} {s : Shared}
set_option maxHeartbeats 4000000 in
theorem set_current_spec (C : Cx w base mean mg mb dp un gd outer s.heap) (hdp : dp < 900) (hun : un < 9000) {x dx : Addr} {st : St} (S : Sx base outer s.heap x dx st) {v : Str} {t : Nat} (hv : v.length ≤ 1000) :
    codeAny (model pw w) (Ar dp un gd outer) (.call (.ref 42) ⟨[.ref x, .str v t], []⟩)
      (After s dx fun r st' => r = .none ∧ st' = ⟨v, 0, v.length, 0, 0, v.length, st.ip⟩) s := by
  obtain ⟨X, V, T, B⟩ := C
  obtain ⟨hx, ⟨es, n, hd, H⟩, bx, bd, nx, nd, hxd⟩ := S
  refine enter [(x, instObj 337 dx), (dx, dictOf es n)] X T B (hid_ok hx hd bx bd nx nd) (look42 _) (code42 _) (Nat.lt_of_lt_of_le hdp (by decide)) (BindsTo.of_eq (binds := [(Str.ofString "self", .ref x), (Str.ofString "value", .str v t)]) (by rfl)) (locs rfl) ?_ (by decide) rfl rfl rfl
  intro g L' h₁ hg hgs hL F N Bg Xg Tg Sg
  conv in (execs _ _) => arg 1; whnf
  conv => (pattern (occs := *) stScope _) <;> whnf
  have Vg : SetHere g := by obtain ⟨es, ep, t, a, b⟩ := V; exact ⟨es, ep, t, Sg _ _ a, b⟩
  k_steps
  all_goals (try dsimp only)
  exact after_end hg hx (by assumption) (by assumption) (by assumption) rfl ⟨rfl, rfl⟩
set_option maxHeartbeats 4000000 in
theorem get_current_spec (C : Cx w base mean mg mb dp un gd outer s.heap) (hdp : dp < 900) (hun : un < 9000) {x dx : Addr} {st : St} (S : Sx base outer s.heap x dx st) :
    codeAny (model pw w) (Ar dp un gd outer) (.call (.ref 49) ⟨[.ref x], []⟩)
      (After s dx fun r st' => (∃ t, r = .str st.cur t) ∧ st' = st) s := by
  obtain ⟨X, V, T, B⟩ := C
  obtain ⟨hx, ⟨es, n, hd, H⟩, bx, bd, nx, nd, hxd⟩ := S
  refine enter [(x, instObj 337 dx), (dx, dictOf es n)] X T B (hid_ok hx hd bx bd nx nd) (look49 _) (code49 _) (Nat.lt_of_lt_of_le hdp (by decide)) (BindsTo.of_eq (binds := [(Str.ofString "self", .ref x)]) (by rfl)) (locs rfl) ?_ (by decide) rfl rfl rfl
  intro g L' h₁ hg hgs hL F N Bg Xg Tg Sg
  conv in (execs _ _) => arg 1; whnf
  conv => (pattern (occs := *) stScope _) <;> whnf
  have Vg : SetHere g := by obtain ⟨es, ep, t, a, b⟩ := V; exact ⟨es, ep, t, Sg _ _ a, b⟩
  k_steps
  all_goals (try dsimp only)
  exact after_end hg hx (by assumption) (by assumption) (by assumption) rfl ⟨⟨_, rfl⟩, rfl⟩
set_option maxHeartbeats 4000000 in
theorem replace_s_spec (C : Cx w base mean mg mb dp un gd outer s.heap) (hdp : dp < 900) (hun : un < 9000) {x dx : Addr} {st : St} (S : Sx base outer s.heap x dx st) {a b : Int} {ta tb tv : Nat}
    (h0 : 0 ≤ a) (h1 : a ≤ b) (h2 : b ≤ st.cur.length) (hz : st.cur.length ≤ 1000) :
    codeAny (model pw w) (Ar dp un gd outer) (.call (.ref 147) ⟨[.ref x, .int a ta, .int b tb, .str (Str.ofString "") tv], []⟩)
      (After s dx fun r st' => st' = { st with cur := tx ((cp st.cur).take a.toNat ++ (cp st.cur).drop b.toNat), l := st.l - (b - a), c := if b ≤ st.c then st.c - (b - a) else if a < st.c then a else st.c }) s := by
  obtain ⟨X, V, T, B⟩ := C
  obtain ⟨hx, ⟨es, n, hd, H⟩, bx, bd, nx, nd, hxd⟩ := S
  refine enter [(x, instObj 337 dx), (dx, dictOf es n)] X T B (hid_ok hx hd bx bd nx nd) (look147 _) (code147 _) (Nat.lt_of_lt_of_le hdp (by decide)) (BindsTo.of_eq (binds := [(Str.ofString "self", .ref x), (Str.ofString "c_bra", .int a ta), (Str.ofString "c_ket", .int b tb), (Str.ofString "s", .str (Str.ofString "") tv)]) (by rfl)) (locs rfl) ?_ (by decide) rfl rfl rfl
  intro g L' h₁ hg hgs hL F N Bg Xg Tg Sg
  conv in (execs _ _) => arg 1; whnf
  conv => (pattern (occs := *) stScope _) <;> whnf
  have Vg : SetHere g := by obtain ⟨es, ep, t, a, b⟩ := V; exact ⟨es, ep, t, Sg _ _ a, b⟩
  k_steps
  all_goals (try dsimp only)
  all_goals refine after_end hg hx (by assumption) (by assumption) (by assumption) rfl ?_
  all_goals (dsimp only; rw [slice_0b h0 (by omega), slice_a (by omega) h2, empty_tx, tx_app, List.append_nil, tx_app]; simp only [St.mk.injEq, true_and, and_true])
  · rw [if_pos (by omega)]; omega
  · rw [if_neg (by omega), if_pos (by omega)]; omega
  · rw [if_neg (by omega), if_neg (by omega)]; omega
end
local macro_rules | `(tactic| walk_at "call ref") => `(tactic| (k_here; (with_reducible show wpAny _ _ (call (Value.ref 147) _) _ _ _); k_dflt (refine call_after (replace_s_spec (Zx.cx (by assumption) (by assumption) rfl rfl) (by dsimp only [Ar]; omega) (by dsimp only [Ar]; omega) (Zx.sx (by assumption) (by assumption) (by k_mem) (by k_mem) (by assumption) rfl) (by omega) (by omega) (by omega) (by omega)) (by assumption) (by assumption) (by k_mem) (by k_updF) ?_); intro v' h' tk' es' n' st' P' F' N' H'; (try dsimp only at N'); subst P'))
section
variable {w : World} {base : Heap} {mean : ExcName → Option Value} {mg mb : Str → Option Value} {dp un : Nat} {gd : Option (List Code)} {outer : List Env} {s : Shared}
noncomputable def cutSt (st : St) : St := { st with cur := tx ((cp st.cur).take st.bra.toNat ++ (cp st.cur).drop st.ket.toNat), l := st.l - (st.ket - st.bra), c := if st.ket ≤ st.c then st.c - (st.ket - st.bra) else if st.bra < st.c then st.bra else st.c, ket := st.bra }
set_option maxHeartbeats 4000000 in
theorem slice_from_spec (C : Cx w base mean mg mb dp un gd outer s.heap) (hdp : dp < 800) (hun : un < 8000) {x dx : Addr} {st : St} (S : Sx base outer s.heap x dx st) {tv : Nat}
    (h0 : 0 ≤ st.bra) (h1 : st.bra ≤ st.ket) (h2 : st.ket ≤ st.l) (h3 : st.l ≤ st.cur.length) (hz : st.cur.length ≤ 1000) :
    codeAny (model pw w) (Ar dp un gd outer) (.call (.ref 154) ⟨[.ref x, .str (Str.ofString "") tv], []⟩)
      (After s dx fun r st' => r = .none ∧ st' = cutSt st) s := by
  obtain ⟨X, V, T, B⟩ := C
  obtain ⟨hx, ⟨es, n, hd, H⟩, bx, bd, nx, nd, hxd⟩ := S
  refine enter [(x, instObj 337 dx), (dx, dictOf es n)] X T B (hid_ok hx hd bx bd nx nd) (look154 _) (code154 _) (Nat.lt_of_lt_of_le hdp (by decide)) (BindsTo.of_eq (binds := [(Str.ofString "self", .ref x), (Str.ofString "s", .str (Str.ofString "") tv)]) (by rfl)) (locs rfl) ?_ (by decide) rfl rfl rfl
  intro g L' h₁ hg hgs hL F N Bg Xg Tg Sg
  conv in (execs _ _) => arg 1; whnf
  conv => (pattern (occs := *) stScope _) <;> whnf
  have Vg : SetHere g := by obtain ⟨es, ep, t, a, b⟩ := V; exact ⟨es, ep, t, Sg _ _ a, b⟩
  have Z : Zx w base mean mg mb dp un gd outer g x dx := ⟨Bg, X, V, T, bx, bd, nx, nd, hxd⟩
  k_steps
  all_goals (try dsimp only)
  refine after_end hg hx (by assumption) (by assumption) (by assumption) rfl ⟨rfl, ?_⟩
  have e0 : (Str.ofString "").length = 0 := by decide +kernel
  unfold cutSt
  simp only [St.mk.injEq, true_and, and_true]
  try omega
local macro_rules | `(tactic| walk_at "call ref") => `(tactic| (k_here; (with_reducible show wpAny _ _ (call (Value.ref 154) _) _ _ _); k_dflt (refine call_after (slice_from_spec (Zx.cx (by assumption) (by assumption) rfl rfl) (by dsimp only [Ar]; omega) (by dsimp only [Ar]; omega) (Zx.sx (by assumption) (by assumption) (by k_mem) (by k_mem) (by assumption) rfl) (by omega) (by omega) (by omega) (by omega) (by omega)) (by assumption) (by assumption) (by k_mem) (by k_updF) ?_); intro v' h' tk' es' n' st' P' F' N' H'; (try dsimp only at N'); (obtain ⟨a', b'⟩ := P'); subst a'; subst b'))
set_option maxHeartbeats 4000000 in
theorem slice_del_spec (C : Cx w base mean mg mb dp un gd outer s.heap) (hdp : dp < 700) (hun : un < 7000) {x dx : Addr} {st : St} (S : Sx base outer s.heap x dx st)
    (h0 : 0 ≤ st.bra) (h1 : st.bra ≤ st.ket) (h2 : st.ket ≤ st.l) (h3 : st.l ≤ st.cur.length) (hz : st.cur.length ≤ 1000) :
    codeAny (model pw w) (Ar dp un gd outer) (.call (.ref 161) ⟨[.ref x], []⟩)
      (After s dx fun r st' => r = .none ∧ st' = cutSt st) s := by
  obtain ⟨X, V, T, B⟩ := C
  obtain ⟨hx, ⟨es, n, hd, H⟩, bx, bd, nx, nd, hxd⟩ := S
  refine enter [(x, instObj 337 dx), (dx, dictOf es n)] X T B (hid_ok hx hd bx bd nx nd) (look161 _) (code161 _) (Nat.lt_of_lt_of_le hdp (by decide)) (BindsTo.of_eq (binds := [(Str.ofString "self", .ref x)]) (by rfl)) (locs rfl) ?_ (by decide) rfl rfl rfl
  intro g L' h₁ hg hgs hL F N Bg Xg Tg Sg
  conv in (execs _ _) => arg 1; whnf
  conv => (pattern (occs := *) stScope _) <;> whnf
  have Vg : SetHere g := by obtain ⟨es, ep, t, a, b⟩ := V; exact ⟨es, ep, t, Sg _ _ a, b⟩
  have Z : Zx w base mean mg mb dp un gd outer g x dx := ⟨Bg, X, V, T, bx, bd, nx, nd, hxd⟩
  k_steps
  all_goals (try dsimp only)
  exact after_end hg hx (by assumption) (by assumption) (by assumption) rfl ⟨rfl, rfl⟩
end
local macro_rules | `(tactic| walk_at "call ref") => `(tactic| (k_here; (with_reducible show wpAny _ _ (call (Value.ref 161) _) _ _ _); k_dflt (refine call_after (slice_del_spec (Zx.cx (by assumption) (by assumption) rfl rfl) (by dsimp only [Ar]; omega) (by dsimp only [Ar]; omega) (Zx.sx (by assumption) (by assumption) (by k_mem) (by k_mem) (by assumption) rfl) (by (try dsimp only); omega) (by (try dsimp only); omega) (by (try dsimp only); omega) (by (try dsimp only); omega) (by (try dsimp only); omega)) (by assumption) (by assumption) (by k_mem) (by k_updF) ?_); intro v' h' tk' es' n' st' P' F' N' H'; (try dsimp only at N'); (obtain ⟨a', b'⟩ := P'); subst a'; subst b'))
local macro_rules | `(tactic| walk_at "getAttr ref") => `(tactic| (k_here; (with_reducible show wpAny _ _ (getAttr (Value.ref _) (PySem.Str.ofString "s") _) _ _ _); k_dflt (refine ga_s (by assumption) (by assumption) (by assumption) ?_); intro u'; (try dsimp only)))
local macro_rules | `(tactic| walk_at "getAttr ref") => `(tactic| (k_here; (with_reducible show wpAny _ _ (getAttr (Value.ref _) (PySem.Str.ofString "substring_i") _) _ _ _); k_dflt (refine ga_sub (by assumption) (by assumption) (by assumption) ?_); intro u'; (try dsimp only)))
local macro_rules | `(tactic| walk_at "getAttr ref") => `(tactic| (k_here; (with_reducible show wpAny _ _ (getAttr (Value.ref _) (PySem.Str.ofString "result") _) _ _ _); k_dflt (refine ga_res (by assumption) (by assumption) (by assumption) ?_); intro u'; (try dsimp only)))
local macro_rules | `(tactic| walk_at "subscriptTail") => `(tactic| (k_here; (with_reducible show wpAny _ _ (subscriptTail _ _ (Value.ref (Tab.v _)) (Value.int _ _)) _ _ _); k_dflt (refine tab_item (by assumption) (by assumption) (by omega) (by omega) (by omega) ?_)))
local macro_rules | `(tactic| walk_at "last subscriptTail") => `(tactic| (k_here; (with_reducible show wpAny _ _ (subscriptTail _ _ (Value.ref (Tab.v _)) (Value.int _ _)) _ _ _); k_dflt (refine tab_item (by assumption) (by assumption) (by omega) (by omega) (by omega) ?_)))
local macro_rules | `(tactic| walk_at "call builtin:len") => `(tactic| (k_here; (with_reducible show wpAny _ _ (call (Value.builtin "len") [Value.ref (Tab.v _)]) _ _ _); k_dflt (refine tab_len (by assumption) (by assumption) (by omega) ?_); intro u' tk'))
local macro_rules | `(tactic| walk_at "call builtin:ord") => `(tactic| (k_here; (with_reducible show wpAny _ _ (call (Value.builtin "ord") [Value.str (one _) _]) _ _ _); k_dflt (refine ord_one ?_); intro u'))
section
variable {w : World} {base : Heap} {mean : ExcName → Option Value} {mg mb : Str → Option Value} {dp un : Nat} {gd : Option (List Code)} {outer : List Env} {s : Shared}
set_option maxHeartbeats 4000000 in
theorem find_among_b_spec (C : Cx w base mean mg mb dp un gd outer s.heap) (hdp : dp < 900) (hun : un < 9000) {x dx : Addr} {st : St} (S : Sx base outer s.heap x dx st) {T : Tab} (HT : TabAt base T) (O : TabOk (bks T.keys) T.sub)
    (hn0 : 0 < T.keys.length) (hn : T.keys.length < 100) (h0 : 0 ≤ st.lb) (h1 : st.lb ≤ st.c) (h2 : st.c ≤ st.cur.length) (hz : st.cur.length ≤ 1000) :
    codeAny (model pw w) (Ar dp un gd outer) (.call (.ref 140) ⟨[.ref x, .ref T.v], []⟩)
      (After s dx fun r st' => ∃ n u, IsL (bks T.keys) (((cp st.cur).drop st.lb.toNat).take (st.c - st.lb).toNat).reverse n ∧ r = .int (if n = 0 then 0 else T.res) u ∧ st' = { st with c := st.c - n } ∧ st.lb ≤ st.c - n) s := by
  obtain ⟨X, V, T0, B⟩ := C
  obtain ⟨hx, ⟨es, n, hd, H⟩, bx, bd, nx, nd, hxd⟩ := S
  refine enter [(x, instObj 337 dx), (dx, dictOf es n)] X T0 B (hid_ok hx hd bx bd nx nd) (look140 _) (code140 _) (Nat.lt_of_lt_of_le hdp (by decide)) (BindsTo.of_eq (binds := [(Str.ofString "self", .ref x), (Str.ofString "v", .ref T.v)]) (by rfl)) (locs rfl) ?_ (by decide) rfl rfl rfl
  intro g L' h₁ hg hgs hL F N Bg Xg Tg Sg
  conv in (execs _ _) => arg 1; whnf
  conv => (pattern (occs := *) stScope _) <;> whnf
  have Vg : SetHere g := by obtain ⟨es, ep, t, a, b⟩ := V; exact ⟨es, ep, t, Sg _ _ a, b⟩
  have Z : Zx w base mean mg mb dp un gd outer g x dx := ⟨Bg, X, V, T0, bx, bd, nx, nd, hxd⟩
  have HTg : TabAt g T := HT.keeps Sg
  k_steps
  let ks := bks T.keys
  let TX := (((cp st.cur).drop st.lb.toNat).take (st.c - st.lb).toNat).reverse
  rename Fr g L' _ _ => F0
  rename News g L' _ _ => N0
  rename StE _ _ => H0
  refine wh_cut (fun (p : Nat × Nat × Nat × Nat × Bool) j' s' => ∃ h es n tk m, s' = { s with heap := h, toks := tk } ∧ j' = 2 * (p.2.1 - p.1) + (if p.2.2.2.2 then 0 else 1) ∧ Fr g L' h m ∧ ML m x T.v p.1 p.2.1 st.c st.lb (Str.ofString "lb") p.2.2.1 p.2.2.2.1 p.2.2.2.2 ∧ News g L' h [(x, instObj 337 dx), (dx, dictOf es n)] ∧ StE es st ∧ BInv ks TX p.1 p.2.1 p.2.2.1 p.2.2.2.1 ∧ p.1 < p.2.1 ∧ (p.2.2.2.2 = true → p.1 = 0 ∧ p.2.1 = 1))
    (fun s' => Hid (∃ h es n tk m i j ci cj fk, s' = { s with heap := h, toks := tk } ∧ Fr g L' h m ∧ ML m x T.v i j st.c st.lb (Str.ofString "lb") ci cj fk ∧ News g L' h [(x, instObj 337 dx), (dx, dictOf es n)] ∧ StE es st ∧ CInv ks TX i ci))
    (by passes_own) _ (0, T.keys.length, 0, 0, false)
    ⟨_, _, _, _, _, rfl, rfl, F0, ⟨by rfl, by rfl, ⟨_, by rfl⟩, ⟨_, by rfl⟩, ⟨_, by rfl⟩, ⟨_, by rfl⟩, ⟨_, by rfl⟩, ⟨_, by rfl⟩, by rfl⟩, N0, H0, ?_, ?_, ?_⟩ ?_ ?_
  · dsimp only
    have e : T.keys.length = ks.length := by simp [ks, bks]
    rw [e]; exact BInv.init (by rw [← e]; exact hn0)
  · exact hn0
  · intro h; cases h
  · rintro s' ⟨h, es, n, tk, m, i, j, ci, cj, fk, rfl, F, M, N, H, CI⟩
    clear F0 N0 H0
    obtain ⟨t1, t2, t3, t4, t5, t6, F⟩ := M.fr F
    k_steps
    refine wh_go (fun (i : Nat) j' s' => ∃ h es n tk m, s' = { s with heap := h, toks := tk } ∧ j' = i ∧ Fr g L' h m ∧ MC m x T.v i st.c ci ∧ News g L' h [(x, instObj 337 dx), (dx, dictOf es n)] ∧ StE es st ∧ CInv ks TX i ci)
      (by passes_own) _ i ⟨_, _, _, _, _, rfl, rfl, F, ⟨by rfl, by rfl, ⟨_, by rfl⟩, ⟨_, by rfl⟩, ⟨_, by rfl⟩⟩, N, H, CI⟩ ?_
    clear F N H CI
    rintro i j' s' ⟨h, es, n, tk, m, rfl, hj, F, M, N, H, CI⟩
    have hj := hj.symm
    subst hj
    have hin : i < T.keys.length := by have := CI.inn; simpa [ks, bks] using this
    have hKe : ks.getD i [] = (T.key i).reverse := by
      simp only [ks, bks, Tab.key, List.getD_eq_getElem?_getD, List.getElem?_map]
      cases T.keys[i]? <;> simp
    have hKl : (tx (T.key i)).length = (T.key i).length := rfl
    have hKr : (ks.getD i []).length = (T.key i).length := by rw [hKe, List.length_reverse]
    have hK5 : (tx (T.key i)).length ≤ 5 := by have := (O.c6 i (by simpa [bks] using hin)).2; rw [hKe, List.length_reverse] at this; exact this
    have hTX : TX.length = (st.c - st.lb).toNat := by simp only [TX, List.length_reverse, List.length_take, List.length_drop]; rw [← len_cp]; omega
    obtain ⟨t1, t2, t3, F⟩ := M.fr F
    have HA : AmAt g (T.a0 + 3 * (i : Int).toNat) (T.key i) (T.sub.getD i 0) T.res := HTg.a i hin
    have hKz : (tx (T.key i)).length ≤ 1000 := by omega
    k_steps
    all_goals try dsimp only [Turned]
    · have FD := CI.found O (by rw [hKr]; omega)
      rw [hKr] at FD
      refine after_end hg hx (by assumption) (by assumption) (by assumption) rfl ⟨(T.key i).length, _, FD.1, by rw [if_neg (by omega)], rfl, by omega⟩
    · refine after_end hg hx (by assumption) (by assumption) (by assumption) rfl ⟨0, _, CI.none O (by rw [hKr]; omega) (by assumption), by rw [if_pos rfl], by simp, by omega⟩
    · rename Fr g L' _ _ => F3
      rename News g L' _ _ => N3
      have CN := CI.next O (by rw [hKr]; omega) (by assumption)
      have e : T.sub.getD i 0 = ((T.sub.getD i 0).toNat : Int) := by omega
      rw [e] at F3
      exact ⟨(T.sub.getD i 0).toNat, _, CN.2, _, _, _, _, _, rfl, rfl, F3, ⟨by rfl, by rfl, ⟨_, by rfl⟩, ⟨_, by rfl⟩, ⟨_, by rfl⟩⟩, N3, H, CN.1⟩
  rintro ⟨i, j, ci, cj, fk⟩ j' s' ⟨h, es, n, tk, m, rfl, rfl, F, M, N, H, BI, hij, hfk⟩
  clear F0 N0 H0
  dsimp only at F M BI hij hfk
  obtain ⟨t1, t2, t3, t4, t5, t6, F⟩ := M.fr F
  have hjn : j ≤ T.keys.length := by have := BI.jn; simpa [ks, bks] using this
  k_steps
  obtain ⟨k, hk⟩ : ∃ k : Nat, i + (j - i) / 2 = k := ⟨_, rfl⟩
  have ek : ((i : Int) + ((j : Int) - (i : Int)).fdiv (2 ^ Int.toNat 1)) = (k : Int) := by
    rw [show ((2 : Int) ^ Int.toNat 1) = 2 from rfl, Int.fdiv_eq_ediv_of_nonneg _ (by omega)]; omega
  have Ak : Ag (ks.getD k []) TX (min ci cj) := BI.mid O (by omega) (by omega)
  have hkn : k < T.keys.length := by omega
  have HA : AmAt g (T.a0 + 3 * (k : Int).toNat) (T.key k) (T.sub.getD k 0) T.res := HTg.a k hkn
  rename Fr g L' _ _ => F1
  dsimp only at F1
  dsimp only
  simp only [ek] at F1 ⊢
  have hKe : ks.getD k [] = (T.key k).reverse := by
    simp only [ks, bks, Tab.key, List.getD_eq_getElem?_getD, List.getElem?_map]
    cases T.keys[k]? <;> simp
  have hKl : (tx (T.key k)).length = (T.key k).length := rfl
  have hK5 : (tx (T.key k)).length ≤ 5 := by have := (O.c6 k (by simpa [bks] using hkn)).2; rw [hKe, List.length_reverse] at this; exact this
  have hK1 : 0 < (tx (T.key k)).length := by have := (O.c6 k (by simpa [bks] using hkn)).1; rw [hKe, List.length_reverse] at this; exact this
  k_steps
  rename IsRange _ _ _ _ _ _ _ _ => rgX
  rename Fr g L' _ _ => F2
  rename News g L' _ _ => N2
  have ec : (if (cj : Int) < (ci : Int) then (cj : Int) else (ci : Int)) = ((min ci cj : Nat) : Int) := by split <;> omega
  simp only [ec] at F2 rgX
  try clear F1
  generalize hcm : min ci cj = cm at F2 rgX Ak ec
  have hcl : cm ≤ (T.key k).length := by have := Ak.1; rwa [hKe, List.length_reverse] at this
  have hTX : TX.length = (st.c - st.lb).toNat := by simp only [TX, List.length_reverse, List.length_take, List.length_drop]; rw [← len_cp]; omega
  have hk1 : i ≤ k := by omega
  have hk2 : k < j := by omega
  have hk3 : i + 1 < j → i < k := by omega
  have hk4 : k = i ∨ i < k := by omega
  clear ek hk
  refine rng_loop ((T.key k).length - cm) (fun t m => MR m x T.v i j st.c st.lb (Str.ofString "lb") ci cj fk k (T.a0 + 3 * (k : Int).toNat) 0 (cm + t) ∧ Ag (ks.getD k []) TX (cm + t)) (fun s' => Hid (∃ h tk m d cm, s' = { s with heap := h, toks := tk } ∧ Fr g L' h m ∧ News g L' h [(x, instObj 337 dx), (dx, dictOf es n)] ∧ MR m x T.v i j st.c st.lb (Str.ofString "lb") ci cj fk k (T.a0 + 3 * (k : Int).toNat) d cm ∧ Cmp (ks.getD k []) TX d cm))
    rfl rgX (small_down (by omega) (by omega) (by omega) (by omega)) (by rw [rangeSize_downNat, hKl]; omega) (by assumption) (by assumption)
    ⟨⟨by rfl, by rfl, ⟨_, by rfl⟩, ⟨_, by rfl⟩, ⟨_, by rfl⟩, ⟨_, by rfl⟩, ⟨_, by rfl⟩, ⟨_, by rfl⟩, by rfl, ⟨_, by rfl⟩, by rfl, ⟨_, by rfl⟩, ⟨_, by rfl⟩⟩, Ak⟩ ?_ ?_ ?_
  · rintro s' ⟨h, tk, m, d, cm, rfl, F, N, M, CC⟩
    obtain ⟨t1, t2, t3, t4, t5, t6, t7, t8, t9, F⟩ := M.fr F
    clear F2 N2
    k_steps
    all_goals dsimp only [Turned, QP]
    · rename d < 0 => hdn
      have hl := CC.2.resolve_right (fun q => by have := q.1; clear CC hcl hTX; omega)
      have hA9 := CC.1
      clear CC hcl hTX hdn
      have BL := BI.left O hk1 hk2 hA9 hl.2.1 hl.2.2
      clear hl
      rename Fr g L' _ _ => F3
      rename News g L' _ _ => N3
      unfold Hid
      exact ⟨_, _, _, _, _, i, k, ci, cm, fk, rfl, F3, ⟨by rfl, by rfl, ⟨_, by rfl⟩, ⟨_, by rfl⟩, ⟨_, by rfl⟩, ⟨_, by rfl⟩, ⟨_, by rfl⟩, ⟨_, by rfl⟩, by rfl⟩, N3, H, CInv.of BL (.inr ⟨by omega, fun h0 => by omega⟩)⟩
    · rename d < 0 => hdn
      have hl := CC.2.resolve_right (fun q => by have := q.1; clear CC hcl hTX; omega)
      have hA9 := CC.1
      clear CC hcl hTX hdn
      have BL := BI.left O hk1 hk2 hA9 hl.2.1 hl.2.2
      clear hl
      rename Fr g L' _ _ => F3
      rename News g L' _ _ => N3
      unfold Hid
      exact ⟨_, _, _, _, _, i, k, ci, cm, fk, rfl, F3, ⟨by rfl, by rfl, ⟨_, by rfl⟩, ⟨_, by rfl⟩, ⟨_, by rfl⟩, ⟨_, by rfl⟩, ⟨_, by rfl⟩, ⟨_, by rfl⟩, by rfl⟩, N3, H, CInv.of BL (.inl ⟨by omega, by omega⟩)⟩
    · exfalso; have := hfk (by assumption); omega
    · rename d < 0 => hdn
      have hl := CC.2.resolve_right (fun q => by have := q.1; clear CC hcl hTX; omega)
      have hA9 := CC.1
      clear CC hcl hTX hdn
      have BL := BI.left O hk1 hk2 hA9 hl.2.1 hl.2.2
      clear hl
      rename Fr g L' _ _ => F3
      rename News g L' _ _ => N3
      rename fk = false => hfkf
      subst hfkf
      refine ⟨(i, k, ci, cm, true), _, ?_, _, _, _, _, _, rfl, rfl, F3, ⟨by rfl, by rfl, ⟨_, by rfl⟩, ⟨_, by rfl⟩, ⟨_, by rfl⟩, ⟨_, by rfl⟩, ⟨_, by rfl⟩, ⟨_, by rfl⟩, by rfl⟩, N3, H, BL, ?_, ?_⟩
      · dsimp only
        simp only [if_true, Bool.false_eq_true, if_false]; omega
      · dsimp only; omega
      · dsimp only; intro _; omega
    · rename d < 0 => hdn
      have hl := CC.2.resolve_right (fun q => by have := q.1; clear CC hcl hTX; omega)
      have hA9 := CC.1
      clear CC hcl hTX hdn
      have BL := BI.left O hk1 hk2 hA9 hl.2.1 hl.2.2
      clear hl
      rename Fr g L' _ _ => F3
      rename News g L' _ _ => N3
      refine ⟨(i, k, ci, cm, fk), _, ?_, _, _, _, _, _, rfl, rfl, F3, ⟨by rfl, by rfl, ⟨_, by rfl⟩, ⟨_, by rfl⟩, ⟨_, by rfl⟩, ⟨_, by rfl⟩, ⟨_, by rfl⟩, ⟨_, by rfl⟩, by rfl⟩, N3, H, BL, ?_, ?_⟩
      · dsimp only
        split <;> omega
      · dsimp only; omega
      · dsimp only; intro q; have := hfk q; omega
    · rename ¬ d < 0 => hdn
      have hl := CC.2.resolve_left (fun q => by have := q.1; clear CC hcl hTX; omega)
      have hA9 := CC.1
      clear CC hcl hTX hdn
      have BR := BI.right O hk1 hk2 hA9 hl.2
      clear hl
      rename Fr g L' _ _ => F3
      rename News g L' _ _ => N3
      unfold Hid
      exact ⟨_, _, _, _, _, k, j, cm, cj, fk, rfl, F3, ⟨by rfl, by rfl, ⟨_, by rfl⟩, ⟨_, by rfl⟩, ⟨_, by rfl⟩, ⟨_, by rfl⟩, ⟨_, by rfl⟩, ⟨_, by rfl⟩, by rfl⟩, N3, H, CInv.of BR.1 (.inr ⟨by omega, fun h0 q => BR.2 q⟩)⟩
    · exfalso; omega
    · rename ¬ d < 0 => hdn
      have hl := CC.2.resolve_left (fun q => by have := q.1; clear CC hcl hTX; omega)
      have hA9 := CC.1
      clear CC hcl hTX hdn
      have BR := BI.right O hk1 hk2 hA9 hl.2
      clear hl
      rename Fr g L' _ _ => F3
      rename News g L' _ _ => N3
      unfold Hid
      exact ⟨_, _, _, _, _, k, j, cm, cj, fk, rfl, F3, ⟨by rfl, by rfl, ⟨_, by rfl⟩, ⟨_, by rfl⟩, ⟨_, by rfl⟩, ⟨_, by rfl⟩, ⟨_, by rfl⟩, ⟨_, by rfl⟩, by rfl⟩, N3, H, CInv.of BR.1 (.inr ⟨by omega, fun h0 q => BR.2 q⟩)⟩
    · rename ¬ d < 0 => hdn
      have hl := CC.2.resolve_left (fun q => by have := q.1; clear CC hcl hTX; omega)
      have hA9 := CC.1
      clear CC hcl hTX hdn
      have BR := BI.right O hk1 hk2 hA9 hl.2
      clear hl
      rename Fr g L' _ _ => F3
      rename News g L' _ _ => N3
      rename fk = false => hfkf
      subst hfkf
      refine ⟨(k, j, cm, cj, true), _, ?_, _, _, _, _, _, rfl, rfl, F3, ⟨by rfl, by rfl, ⟨_, by rfl⟩, ⟨_, by rfl⟩, ⟨_, by rfl⟩, ⟨_, by rfl⟩, ⟨_, by rfl⟩, ⟨_, by rfl⟩, by rfl⟩, N3, H, BR.1, ?_, ?_⟩
      · dsimp only
        simp only [if_true, Bool.false_eq_true, if_false]; omega
      · dsimp only; omega
      · dsimp only; intro _; omega
    · rename ¬ d < 0 => hdn
      have hl := CC.2.resolve_left (fun q => by have := q.1; clear CC hcl hTX; omega)
      have hA9 := CC.1
      clear CC hcl hTX hdn
      have BR := BI.right O hk1 hk2 hA9 hl.2
      clear hl
      rename Fr g L' _ _ => F3
      rename News g L' _ _ => N3
      refine ⟨(k, j, cm, cj, fk), _, ?_, _, _, _, _, _, rfl, rfl, F3, ⟨by rfl, by rfl, ⟨_, by rfl⟩, ⟨_, by rfl⟩, ⟨_, by rfl⟩, ⟨_, by rfl⟩, ⟨_, by rfl⟩, ⟨_, by rfl⟩, by rfl⟩, N3, H, BR.1, ?_, ?_⟩
      · dsimp only
        split <;> omega
      · dsimp only; omega
      · dsimp only; intro q; have := hfk q; omega
  · rintro t tt m h tk own ht hown ⟨M, AA⟩ F N
    obtain ⟨t1, t2, t3, t4, t5, t6, t7, t8, t9, F⟩ := M.fr2 (by decide) F
    clear F2 N2
    have hAT : cm + t ≤ (st.c - st.lb).toNat := by rw [← hTX]; exact AA.2.1
    have hKz : (tx (T.key k)).length ≤ 1000 := by omega
    k_steps
    · rename Fr g L' _ _ => F3
      rename News g L' _ _ => N3
      unfold Hid
      refine ⟨_, _, _, -1, cm + t, rfl, F3, kst_newsOf N3 (fun p hp => List.mem_append_left _ hp), ⟨by rfl, by rfl, ⟨_, by rfl⟩, ⟨_, by rfl⟩, ⟨_, by rfl⟩, ⟨_, by rfl⟩, ⟨_, by rfl⟩, ⟨_, by rfl⟩, by rfl, ⟨_, by rfl⟩, by rfl, ⟨_, by rfl⟩, ⟨_, by rfl⟩⟩, AA, .inl ⟨by decide, ?_, .inl ?_⟩⟩
      · rw [hKe, List.length_reverse]; omega
      · rw [hTX]; omega
    · rename Fr g L' _ _ => F3
      rename News g L' _ _ => N3
      have g1 := tb_get (q := cm + t) h0 h1 h2 (by omega)
      have g2 := kb_get (K := T.key k) (q := cm + t) (i := ((tx (T.key k)).length : Int) - 1 - (cm : Int) + (t : Int) * -1) (by omega) (by omega)
      unfold Hid
      refine ⟨_, _, _, _, cm + t, rfl, F3, kst_newsOf N3 (fun p hp => List.mem_append_left _ hp), ⟨by rfl, by rfl, ⟨_, by rfl⟩, ⟨_, by rfl⟩, ⟨_, by rfl⟩, ⟨_, by rfl⟩, ⟨_, by rfl⟩, ⟨_, by rfl⟩, by rfl, ⟨_, by rfl⟩, by rfl, ⟨_, by rfl⟩, ⟨_, by rfl⟩⟩, AA, ?_⟩
      rw [hKe, List.length_reverse]
      have g1' : TX.getD (cm + t) 0 = _ := g1
      rw [g1', g2]
      exact cc_end rfl (by assumption) (by omega) (by rw [hTX]; omega)
    · rename Fr g L' _ _ => F3
      rename News g L' _ _ => N3
      have g1 := tb_get (q := cm + t) h0 h1 h2 (by omega)
      have g2 := kb_get (K := T.key k) (q := cm + t) (i := ((tx (T.key k)).length : Int) - 1 - (cm : Int) + (t : Int) * -1) (by omega) (by omega)
      rename (_ : Int) - _ = 0 => hd0
      simp only [hd0] at F3
      refine InvEndN.intro F3 N3 ⟨rfl, ⟨by rfl, by rfl, ⟨_, by rfl⟩, ⟨_, by rfl⟩, ⟨_, by rfl⟩, ⟨_, by rfl⟩, ⟨_, by rfl⟩, ⟨_, by rfl⟩, by rfl, ⟨_, by rfl⟩, by rfl, ⟨_, by rfl⟩, ⟨_, by rfl⟩⟩, AA.succ ?_ ?_ ?_⟩ rfl (fun p hp => List.mem_append_left _ hp) (fun p hp => List.mem_append_right _ hp)
      · rw [hKe, List.length_reverse]; omega
      · rw [hTX]; omega
      · have g1' : TX.getD (cm + t) 0 = _ := g1
        rw [g1', hKe, g2]
        omega
  · rintro m h tk ⟨M, AA⟩ F N
    have e : cm + ((T.key k).length - cm) = (T.key k).length := by omega
    rw [e] at M AA
    exact ⟨_, _, _, _, _, rfl, F, N, M, AA, .inr ⟨Int.le_refl _, .inl (by rw [hKe, List.length_reverse])⟩⟩
end
local macro_rules | `(tactic| walk_at "call ref") => `(tactic| (k_here; (with_reducible show wpAny _ _ (call (Value.ref 140) [_, Value.ref 318]) _ _ _); k_dflt (refine call_after (find_among_b_spec (T := tab1) (Zx.cx (by assumption) (by assumption) rfl rfl) (by dsimp only [Ar]; omega) (by dsimp only [Ar]; omega) (Zx.sx (by assumption) (by assumption) (by k_mem) (by k_mem) (by assumption) rfl) (at1 (by assumption)) ok1 (by decide) (by decide) (by (try dsimp only); omega) (by (try dsimp only); omega) (by (try dsimp only); omega) (by (try dsimp only); omega)) (by assumption) (by assumption) (by k_mem) (by k_updF) ?_); intro v' h' tk' es' n' st' P' F' N' H'; (try dsimp only at N'); (obtain ⟨q', u', a', b', c', d'⟩ := P'); subst b'; subst c'; (try dsimp only at a' d' H')))
local macro_rules | `(tactic| walk_at "call ref") => `(tactic| (k_here; (with_reducible show wpAny _ _ (call (Value.ref 140) [_, Value.ref 334]) _ _ _); k_dflt (refine call_after (find_among_b_spec (T := tab2) (Zx.cx (by assumption) (by assumption) rfl rfl) (by dsimp only [Ar]; omega) (by dsimp only [Ar]; omega) (Zx.sx (by assumption) (by assumption) (by k_mem) (by k_mem) (by assumption) rfl) (at2 (by assumption)) ok2 (by decide) (by decide) (by (try dsimp only); omega) (by (try dsimp only); omega) (by (try dsimp only); omega) (by (try dsimp only); omega)) (by assumption) (by assumption) (by k_mem) (by k_updF) ?_); intro v' h' tk' es' n' st' P' F' N' H'; (try dsimp only at N'); (obtain ⟨q', u', a', b', c', d'⟩ := P'); subst b'; subst c'; (try dsimp only at a' d' H')))
section
variable {w : World} {base : Heap} {mean : ExcName → Option Value} {mg mb : Str → Option Value} {dp un : Nat} {gd : Option (List Code)} {outer : List Env} {s : Shared}
set_option maxHeartbeats 4000000 in
theorem find_among_spec (C : Cx w base mean mg mb dp un gd outer s.heap) (hdp : dp < 900) (hun : un < 9000) {x dx : Addr} {st : St} (S : Sx base outer s.heap x dx st) {T : Tab} (HT : TabAt base T) (O : TabOk (T.keys) T.sub)
    (hn0 : 0 < T.keys.length) (hn : T.keys.length < 100) (h0 : 0 ≤ st.c) (h1 : st.c ≤ st.l) (h2 : st.l ≤ st.cur.length) (hz : st.cur.length ≤ 1000) :
    codeAny (model pw w) (Ar dp un gd outer) (.call (.ref 133) ⟨[.ref x, .ref T.v], []⟩)
      (After s dx fun r st' => ∃ n u, IsL T.keys (((cp st.cur).drop st.c.toNat).take (st.l - st.c).toNat) n ∧ r = .int (if n = 0 then 0 else T.res) u ∧ st' = { st with c := st.c + n } ∧ st.c + n ≤ st.l) s := by
  obtain ⟨X, V, T0, B⟩ := C
  obtain ⟨hx, ⟨es, n, hd, H⟩, bx, bd, nx, nd, hxd⟩ := S
  refine enter [(x, instObj 337 dx), (dx, dictOf es n)] X T0 B (hid_ok hx hd bx bd nx nd) (look133 _) (code133 _) (Nat.lt_of_lt_of_le hdp (by decide)) (BindsTo.of_eq (binds := [(Str.ofString "self", .ref x), (Str.ofString "v", .ref T.v)]) (by rfl)) (locs rfl) ?_ (by decide) rfl rfl rfl
  intro g L' h₁ hg hgs hL F N Bg Xg Tg Sg
  conv in (execs _ _) => arg 1; whnf
  conv => (pattern (occs := *) stScope _) <;> whnf
  have Vg : SetHere g := by obtain ⟨es, ep, t, a, b⟩ := V; exact ⟨es, ep, t, Sg _ _ a, b⟩
  have Z : Zx w base mean mg mb dp un gd outer g x dx := ⟨Bg, X, V, T0, bx, bd, nx, nd, hxd⟩
  have HTg : TabAt g T := HT.keeps Sg
  k_steps
  let ks := T.keys
  let TX := ((cp st.cur).drop st.c.toNat).take (st.l - st.c).toNat
  rename Fr g L' _ _ => F0
  rename News g L' _ _ => N0
  rename StE _ _ => H0
  refine wh_cut (fun (p : Nat × Nat × Nat × Nat × Bool) j' s' => ∃ h es n tk m, s' = { s with heap := h, toks := tk } ∧ j' = 2 * (p.2.1 - p.1) + (if p.2.2.2.2 then 0 else 1) ∧ Fr g L' h m ∧ ML m x T.v p.1 p.2.1 st.c st.l (Str.ofString "l") p.2.2.1 p.2.2.2.1 p.2.2.2.2 ∧ News g L' h [(x, instObj 337 dx), (dx, dictOf es n)] ∧ StE es st ∧ BInv ks TX p.1 p.2.1 p.2.2.1 p.2.2.2.1 ∧ p.1 < p.2.1 ∧ (p.2.2.2.2 = true → p.1 = 0 ∧ p.2.1 = 1))
    (fun s' => Hid (∃ h es n tk m i j ci cj fk, s' = { s with heap := h, toks := tk } ∧ Fr g L' h m ∧ ML m x T.v i j st.c st.l (Str.ofString "l") ci cj fk ∧ News g L' h [(x, instObj 337 dx), (dx, dictOf es n)] ∧ StE es st ∧ CInv ks TX i ci))
    (by passes_own) _ (0, T.keys.length, 0, 0, false)
    ⟨_, _, _, _, _, rfl, rfl, F0, ⟨by rfl, by rfl, ⟨_, by rfl⟩, ⟨_, by rfl⟩, ⟨_, by rfl⟩, ⟨_, by rfl⟩, ⟨_, by rfl⟩, ⟨_, by rfl⟩, by rfl⟩, N0, H0, ?_, ?_, ?_⟩ ?_ ?_
  · dsimp only
    have e : T.keys.length = ks.length := rfl
    rw [e]; exact BInv.init (by rw [← e]; exact hn0)
  · exact hn0
  · intro h; cases h
  · rintro s' ⟨h, es, n, tk, m, i, j, ci, cj, fk, rfl, F, M, N, H, CI⟩
    clear F0 N0 H0
    obtain ⟨t1, t2, t3, t4, t5, t6, F⟩ := M.fr F
    k_steps
    refine wh_go (fun (i : Nat) j' s' => ∃ h es n tk m, s' = { s with heap := h, toks := tk } ∧ j' = i ∧ Fr g L' h m ∧ MC m x T.v i st.c ci ∧ News g L' h [(x, instObj 337 dx), (dx, dictOf es n)] ∧ StE es st ∧ CInv ks TX i ci)
      (by passes_own) _ i ⟨_, _, _, _, _, rfl, rfl, F, ⟨by rfl, by rfl, ⟨_, by rfl⟩, ⟨_, by rfl⟩, ⟨_, by rfl⟩⟩, N, H, CI⟩ ?_
    clear F N H CI
    rintro i j' s' ⟨h, es, n, tk, m, rfl, hj, F, M, N, H, CI⟩
    have hj := hj.symm
    subst hj
    have hin : i < T.keys.length := by have := CI.inn; exact this
    have hKe : ks.getD i [] = T.key i := by
      rfl
    have hKl : (tx (T.key i)).length = (T.key i).length := rfl
    have hKr : (ks.getD i []).length = (T.key i).length := by rw [hKe]
    have hK5 : (tx (T.key i)).length ≤ 5 := by have := (O.c6 i hin).2; rw [hKe] at this; exact this
    have hTX : TX.length = (st.l - st.c).toNat := by simp only [TX, List.length_take, List.length_drop]; rw [← len_cp]; omega
    obtain ⟨t1, t2, t3, F⟩ := M.fr F
    have HA : AmAt g (T.a0 + 3 * (i : Int).toNat) (T.key i) (T.sub.getD i 0) T.res := HTg.a i hin
    have hKz : (tx (T.key i)).length ≤ 1000 := by omega
    k_steps
    all_goals try dsimp only [Turned]
    · have FD := CI.found O (by rw [hKr]; omega)
      rw [hKr] at FD
      refine after_end hg hx (by assumption) (by assumption) (by assumption) rfl ⟨(T.key i).length, _, FD.1, by rw [if_neg (by omega)], rfl, by omega⟩
    · refine after_end hg hx (by assumption) (by assumption) (by assumption) rfl ⟨0, _, CI.none O (by rw [hKr]; omega) (by assumption), by rw [if_pos rfl], by simp, by omega⟩
    · rename Fr g L' _ _ => F3
      rename News g L' _ _ => N3
      have CN := CI.next O (by rw [hKr]; omega) (by assumption)
      have e : T.sub.getD i 0 = ((T.sub.getD i 0).toNat : Int) := by omega
      rw [e] at F3
      exact ⟨(T.sub.getD i 0).toNat, _, CN.2, _, _, _, _, _, rfl, rfl, F3, ⟨by rfl, by rfl, ⟨_, by rfl⟩, ⟨_, by rfl⟩, ⟨_, by rfl⟩⟩, N3, H, CN.1⟩
  rintro ⟨i, j, ci, cj, fk⟩ j' s' ⟨h, es, n, tk, m, rfl, rfl, F, M, N, H, BI, hij, hfk⟩
  clear F0 N0 H0
  dsimp only at F M BI hij hfk
  obtain ⟨t1, t2, t3, t4, t5, t6, F⟩ := M.fr F
  have hjn : j ≤ T.keys.length := by have := BI.jn; exact this
  k_steps
  obtain ⟨k, hk⟩ : ∃ k : Nat, i + (j - i) / 2 = k := ⟨_, rfl⟩
  have ek : ((i : Int) + ((j : Int) - (i : Int)).fdiv (2 ^ Int.toNat 1)) = (k : Int) := by
    rw [show ((2 : Int) ^ Int.toNat 1) = 2 from rfl, Int.fdiv_eq_ediv_of_nonneg _ (by omega)]; omega
  have Ak : Ag (ks.getD k []) TX (min ci cj) := BI.mid O (by omega) (by omega)
  have hkn : k < T.keys.length := by omega
  have HA : AmAt g (T.a0 + 3 * (k : Int).toNat) (T.key k) (T.sub.getD k 0) T.res := HTg.a k hkn
  rename Fr g L' _ _ => F1
  dsimp only at F1
  dsimp only
  simp only [ek] at F1 ⊢
  have hKe : ks.getD k [] = T.key k := by
    rfl
  have hKl : (tx (T.key k)).length = (T.key k).length := rfl
  have hK5 : (tx (T.key k)).length ≤ 5 := by have := (O.c6 k hkn).2; rw [hKe] at this; exact this
  have hK1 : 0 < (tx (T.key k)).length := by have := (O.c6 k hkn).1; rw [hKe] at this; exact this
  k_steps
  rename IsRange _ _ _ _ _ _ _ _ => rgX
  rename Fr g L' _ _ => F2
  rename News g L' _ _ => N2
  have ec : (if (cj : Int) < (ci : Int) then (cj : Int) else (ci : Int)) = ((min ci cj : Nat) : Int) := by split <;> omega
  simp only [ec] at F2 rgX
  try clear F1
  generalize hcm : min ci cj = cm at F2 rgX Ak ec
  have hcl : cm ≤ (T.key k).length := by have := Ak.1; rwa [hKe] at this
  have hTX : TX.length = (st.l - st.c).toNat := by simp only [TX, List.length_take, List.length_drop]; rw [← len_cp]; omega
  have hk1 : i ≤ k := by omega
  have hk2 : k < j := by omega
  have hk3 : i + 1 < j → i < k := by omega
  have hk4 : k = i ∨ i < k := by omega
  clear ek hk
  refine rng_loop ((T.key k).length - cm) (fun t m => MR m x T.v i j st.c st.l (Str.ofString "l") ci cj fk k (T.a0 + 3 * (k : Int).toNat) 0 (cm + t) ∧ Ag (ks.getD k []) TX (cm + t)) (fun s' => Hid (∃ h tk m d cm, s' = { s with heap := h, toks := tk } ∧ Fr g L' h m ∧ News g L' h [(x, instObj 337 dx), (dx, dictOf es n)] ∧ MR m x T.v i j st.c st.l (Str.ofString "l") ci cj fk k (T.a0 + 3 * (k : Int).toNat) d cm ∧ Cmp (ks.getD k []) TX d cm))
    rfl rgX (small_up (by omega) (by omega) (by omega) (by omega)) (by rw [size_up, hKl]; omega) (by assumption) (by assumption)
    ⟨⟨by rfl, by rfl, ⟨_, by rfl⟩, ⟨_, by rfl⟩, ⟨_, by rfl⟩, ⟨_, by rfl⟩, ⟨_, by rfl⟩, ⟨_, by rfl⟩, by rfl, ⟨_, by rfl⟩, by rfl, ⟨_, by rfl⟩, ⟨_, by rfl⟩⟩, Ak⟩ ?_ ?_ ?_
  · rintro s' ⟨h, tk, m, d, cm, rfl, F, N, M, CC⟩
    obtain ⟨t1, t2, t3, t4, t5, t6, t7, t8, t9, F⟩ := M.fr F
    clear F2 N2
    k_steps
    all_goals dsimp only [Turned, QP]
    · rename d < 0 => hdn
      have hl := CC.2.resolve_right (fun q => by have := q.1; clear CC hcl hTX; omega)
      have hA9 := CC.1
      clear CC hcl hTX hdn
      have BL := BI.left O hk1 hk2 hA9 hl.2.1 hl.2.2
      clear hl
      rename Fr g L' _ _ => F3
      rename News g L' _ _ => N3
      unfold Hid
      exact ⟨_, _, _, _, _, i, k, ci, cm, fk, rfl, F3, ⟨by rfl, by rfl, ⟨_, by rfl⟩, ⟨_, by rfl⟩, ⟨_, by rfl⟩, ⟨_, by rfl⟩, ⟨_, by rfl⟩, ⟨_, by rfl⟩, by rfl⟩, N3, H, CInv.of BL (.inr ⟨by omega, fun h0 => by omega⟩)⟩
    · rename d < 0 => hdn
      have hl := CC.2.resolve_right (fun q => by have := q.1; clear CC hcl hTX; omega)
      have hA9 := CC.1
      clear CC hcl hTX hdn
      have BL := BI.left O hk1 hk2 hA9 hl.2.1 hl.2.2
      clear hl
      rename Fr g L' _ _ => F3
      rename News g L' _ _ => N3
      unfold Hid
      exact ⟨_, _, _, _, _, i, k, ci, cm, fk, rfl, F3, ⟨by rfl, by rfl, ⟨_, by rfl⟩, ⟨_, by rfl⟩, ⟨_, by rfl⟩, ⟨_, by rfl⟩, ⟨_, by rfl⟩, ⟨_, by rfl⟩, by rfl⟩, N3, H, CInv.of BL (.inl ⟨by omega, by omega⟩)⟩
    · exfalso; have := hfk (by assumption); omega
    · rename d < 0 => hdn
      have hl := CC.2.resolve_right (fun q => by have := q.1; clear CC hcl hTX; omega)
      have hA9 := CC.1
      clear CC hcl hTX hdn
      have BL := BI.left O hk1 hk2 hA9 hl.2.1 hl.2.2
      clear hl
      rename Fr g L' _ _ => F3
      rename News g L' _ _ => N3
      rename fk = false => hfkf
      subst hfkf
      refine ⟨(i, k, ci, cm, true), _, ?_, _, _, _, _, _, rfl, rfl, F3, ⟨by rfl, by rfl, ⟨_, by rfl⟩, ⟨_, by rfl⟩, ⟨_, by rfl⟩, ⟨_, by rfl⟩, ⟨_, by rfl⟩, ⟨_, by rfl⟩, by rfl⟩, N3, H, BL, ?_, ?_⟩
      · dsimp only
        simp only [if_true, Bool.false_eq_true, if_false]; omega
      · dsimp only; omega
      · dsimp only; intro _; omega
    · rename d < 0 => hdn
      have hl := CC.2.resolve_right (fun q => by have := q.1; clear CC hcl hTX; omega)
      have hA9 := CC.1
      clear CC hcl hTX hdn
      have BL := BI.left O hk1 hk2 hA9 hl.2.1 hl.2.2
      clear hl
      rename Fr g L' _ _ => F3
      rename News g L' _ _ => N3
      refine ⟨(i, k, ci, cm, fk), _, ?_, _, _, _, _, _, rfl, rfl, F3, ⟨by rfl, by rfl, ⟨_, by rfl⟩, ⟨_, by rfl⟩, ⟨_, by rfl⟩, ⟨_, by rfl⟩, ⟨_, by rfl⟩, ⟨_, by rfl⟩, by rfl⟩, N3, H, BL, ?_, ?_⟩
      · dsimp only
        split <;> omega
      · dsimp only; omega
      · dsimp only; intro q; have := hfk q; omega
    · rename ¬ d < 0 => hdn
      have hl := CC.2.resolve_left (fun q => by have := q.1; clear CC hcl hTX; omega)
      have hA9 := CC.1
      clear CC hcl hTX hdn
      have BR := BI.right O hk1 hk2 hA9 hl.2
      clear hl
      rename Fr g L' _ _ => F3
      rename News g L' _ _ => N3
      unfold Hid
      exact ⟨_, _, _, _, _, k, j, cm, cj, fk, rfl, F3, ⟨by rfl, by rfl, ⟨_, by rfl⟩, ⟨_, by rfl⟩, ⟨_, by rfl⟩, ⟨_, by rfl⟩, ⟨_, by rfl⟩, ⟨_, by rfl⟩, by rfl⟩, N3, H, CInv.of BR.1 (.inr ⟨by omega, fun h0 q => BR.2 q⟩)⟩
    · exfalso; omega
    · rename ¬ d < 0 => hdn
      have hl := CC.2.resolve_left (fun q => by have := q.1; clear CC hcl hTX; omega)
      have hA9 := CC.1
      clear CC hcl hTX hdn
      have BR := BI.right O hk1 hk2 hA9 hl.2
      clear hl
      rename Fr g L' _ _ => F3
      rename News g L' _ _ => N3
      unfold Hid
      exact ⟨_, _, _, _, _, k, j, cm, cj, fk, rfl, F3, ⟨by rfl, by rfl, ⟨_, by rfl⟩, ⟨_, by rfl⟩, ⟨_, by rfl⟩, ⟨_, by rfl⟩, ⟨_, by rfl⟩, ⟨_, by rfl⟩, by rfl⟩, N3, H, CInv.of BR.1 (.inr ⟨by omega, fun h0 q => BR.2 q⟩)⟩
    · rename ¬ d < 0 => hdn
      have hl := CC.2.resolve_left (fun q => by have := q.1; clear CC hcl hTX; omega)
      have hA9 := CC.1
      clear CC hcl hTX hdn
      have BR := BI.right O hk1 hk2 hA9 hl.2
      clear hl
      rename Fr g L' _ _ => F3
      rename News g L' _ _ => N3
      rename fk = false => hfkf
      subst hfkf
      refine ⟨(k, j, cm, cj, true), _, ?_, _, _, _, _, _, rfl, rfl, F3, ⟨by rfl, by rfl, ⟨_, by rfl⟩, ⟨_, by rfl⟩, ⟨_, by rfl⟩, ⟨_, by rfl⟩, ⟨_, by rfl⟩, ⟨_, by rfl⟩, by rfl⟩, N3, H, BR.1, ?_, ?_⟩
      · dsimp only
        simp only [if_true, Bool.false_eq_true, if_false]; omega
      · dsimp only; omega
      · dsimp only; intro _; omega
    · rename ¬ d < 0 => hdn
      have hl := CC.2.resolve_left (fun q => by have := q.1; clear CC hcl hTX; omega)
      have hA9 := CC.1
      clear CC hcl hTX hdn
      have BR := BI.right O hk1 hk2 hA9 hl.2
      clear hl
      rename Fr g L' _ _ => F3
      rename News g L' _ _ => N3
      refine ⟨(k, j, cm, cj, fk), _, ?_, _, _, _, _, _, rfl, rfl, F3, ⟨by rfl, by rfl, ⟨_, by rfl⟩, ⟨_, by rfl⟩, ⟨_, by rfl⟩, ⟨_, by rfl⟩, ⟨_, by rfl⟩, ⟨_, by rfl⟩, by rfl⟩, N3, H, BR.1, ?_, ?_⟩
      · dsimp only
        split <;> omega
      · dsimp only; omega
      · dsimp only; intro q; have := hfk q; omega
  · rintro t tt m h tk own ht hown ⟨M, AA⟩ F N
    obtain ⟨t1, t2, t3, t4, t5, t6, t7, t8, t9, F⟩ := M.fr2 (by decide) F
    clear F2 N2
    have hAT : cm + t ≤ (st.l - st.c).toNat := by rw [← hTX]; exact AA.2.1
    have hKz : (tx (T.key k)).length ≤ 1000 := by omega
    k_steps
    · rename Fr g L' _ _ => F3
      rename News g L' _ _ => N3
      unfold Hid
      refine ⟨_, _, _, -1, cm + t, rfl, F3, kst_newsOf N3 (fun p hp => List.mem_append_left _ hp), ⟨by rfl, by rfl, ⟨_, by rfl⟩, ⟨_, by rfl⟩, ⟨_, by rfl⟩, ⟨_, by rfl⟩, ⟨_, by rfl⟩, ⟨_, by rfl⟩, by rfl, ⟨_, by rfl⟩, by rfl, ⟨_, by rfl⟩, ⟨_, by rfl⟩⟩, AA, .inl ⟨by decide, ?_, .inl ?_⟩⟩
      · rw [hKe]; omega
      · rw [hTX]; omega
    · rename Fr g L' _ _ => F3
      rename News g L' _ _ => N3
      have g1 := tf_get (x := st.cur) (l := st.l) (q := cm + t) h0 (by omega)
      have g2 := kf_get (K := T.key k) (q := cm + t) (i := (cm : Int) + (t : Int) * 1) (by omega)
      unfold Hid
      refine ⟨_, _, _, _, cm + t, rfl, F3, kst_newsOf N3 (fun p hp => List.mem_append_left _ hp), ⟨by rfl, by rfl, ⟨_, by rfl⟩, ⟨_, by rfl⟩, ⟨_, by rfl⟩, ⟨_, by rfl⟩, ⟨_, by rfl⟩, ⟨_, by rfl⟩, by rfl, ⟨_, by rfl⟩, by rfl, ⟨_, by rfl⟩, ⟨_, by rfl⟩⟩, AA, ?_⟩
      rw [hKe]
      have g1' : TX.getD (cm + t) 0 = _ := g1
      rw [g1', g2]
      exact cc_end rfl (by assumption) (by omega) (by rw [hTX]; omega)
    · rename Fr g L' _ _ => F3
      rename News g L' _ _ => N3
      have g1 := tf_get (x := st.cur) (l := st.l) (q := cm + t) h0 (by omega)
      have g2 := kf_get (K := T.key k) (q := cm + t) (i := (cm : Int) + (t : Int) * 1) (by omega)
      rename (_ : Int) - _ = 0 => hd0
      simp only [hd0] at F3
      refine InvEndN.intro F3 N3 ⟨rfl, ⟨by rfl, by rfl, ⟨_, by rfl⟩, ⟨_, by rfl⟩, ⟨_, by rfl⟩, ⟨_, by rfl⟩, ⟨_, by rfl⟩, ⟨_, by rfl⟩, by rfl, ⟨_, by rfl⟩, by rfl, ⟨_, by rfl⟩, ⟨_, by rfl⟩⟩, AA.succ ?_ ?_ ?_⟩ rfl (fun p hp => List.mem_append_left _ hp) (fun p hp => List.mem_append_right _ hp)
      · rw [hKe]; omega
      · rw [hTX]; omega
      · have g1' : TX.getD (cm + t) 0 = _ := g1
        rw [g1', hKe, g2]
        omega
  · rintro m h tk ⟨M, AA⟩ F N
    have e : cm + ((T.key k).length - cm) = (T.key k).length := by omega
    rw [e] at M AA
    exact ⟨_, _, _, _, _, rfl, F, N, M, AA, .inr ⟨Int.le_refl _, .inl (by rw [hKe])⟩⟩
end
local macro_rules | `(tactic| walk_at "call ref") => `(tactic| (k_here; (with_reducible show wpAny _ _ (call (Value.ref 133) _) _ _ _); k_dflt (refine call_after (find_among_spec (T := tab0) (Zx.cx (by assumption) (by assumption) rfl rfl) (by dsimp only [Ar]; omega) (by dsimp only [Ar]; omega) (Zx.sx (by assumption) (by assumption) (by k_mem) (by k_mem) (by assumption) rfl) (at0 (by assumption)) ok0 (by decide) (by decide) (by (try dsimp only); omega) (by (try dsimp only); omega) (by (try dsimp only); omega) (by (try dsimp only); omega)) (by assumption) (by assumption) (by k_mem) (by k_updF) ?_); intro v' h' tk' es' n' st' P' F' N' H'; (try dsimp only at N'); (obtain ⟨q', u', a', b', c', d'⟩ := P'); subst b'; subst c'; (try dsimp only at a' d' H')))
section
variable (P : Params)
theorem kx1 : nsIn (KF P) mainGlobals (Str.ofString "lab0") = some (some (.ref 349)) := by kernel_rfl
theorem kx2 : excIn (KF P) 349 [.type "Exception", .type "BaseException", .type "object"] "Exception.__new__" = true := by kernel_rfl
end
section
variable {w : World} {base : Heap} {mean : ExcName → Option Value} {mg mb : Str → Option Value} {dp un : Nat} {gd : Option (List Code)} {outer : List Env} {s : Shared}
set_option maxHeartbeats 4000000 in
theorem mark_spec (C : Cx w base mean mg mb dp un gd outer s.heap) (hdp : dp < 600) (hun : un < 6000) {x dx : Addr} {st : St} (S : Sx base outer s.heap x dx st)
    (h0 : 0 ≤ st.c) (hl : st.l ≤ st.cur.length) (hz : st.cur.length ≤ 1000) :
    codeAny (model pw w) (Ar dp un gd outer) (.call (.ref 237) ⟨[.ref x], []⟩)
      (After2 s outer dx fun r st' => (r = .bool true ∧ ∃ p, st' = { st with ip := some (if st.c + 2 ≤ p + 1 then p + 1 else st.c + 2) } ∧ st.c ≤ p ∧ p < st.l ∧ isV (chAt st.cur p) = true ∧ (∀ q, st.c ≤ q → q < p → isV (chAt st.cur q) = false) ∧ st.c + 2 ≤ st.l) ∨
        (r = .bool false ∧ st'.cur = st.cur ∧ ((∀ q, st.c ≤ q → q < st.l → isV (chAt st.cur q) = false) ∨ ¬ st.c + 2 ≤ st.l))) s := by
  obtain ⟨X, V, T, B⟩ := C
  obtain ⟨hx, ⟨es, n, hd, H⟩, bx, bd, nx, nd, hxd⟩ := S
  refine enter [(x, instObj 337 dx), (dx, dictOf es n)] X T B (hid_ok hx hd bx bd nx nd) (look237 _) (code237 _) (Nat.lt_of_lt_of_le hdp (by decide)) (BindsTo.of_eq (binds := [(Str.ofString "self", .ref x)]) (by rfl)) (locs rfl) ?_ (by decide) rfl rfl rfl
  intro g L' h₁ hg hgs hL F N Bg Xg Tg Sg
  conv in (execs _ _) => arg 1; whnf
  conv => (pattern (occs := *) stScope _) <;> whnf
  have Vg : SetHere g := by obtain ⟨es, ep, t, a, b⟩ := V; exact ⟨es, ep, t, Sg _ _ a, b⟩
  have Z : Zx w base mean mg mb dp un gd outer g x dx := ⟨Bg, X, V, T, bx, bd, nx, nd, hxd⟩
  have G : Gr s.heap outer x dx g := Gr.of hg nx nd
  k_steps
  · exact after2_end G hx (by assumption) (by assumption) (by assumption) rfl (by exact .inr ⟨rfl, rfl, .inr (by omega)⟩)
  · rename Fr g L' _ _ => F3
    rename News g L' _ _ => N3
    rename Heap.MadeExcOf _ _ _ _ _ => hx3
    refine caught_made Bg F3 hx3 X (topRead_of T) (kx1 _) (kx2 _) (by decide +kernel) ?_
    intro h' hst hsm
    obtain ⟨g', G', Z', X', V', T', S', F', N'⟩ := reground2 (env := envOf _ _ L' _ _) rfl Z G F3 N3 (Sl.of hst hsm (Below.push Bg F3 rfl).frames)
    k_steps
    exact after2_end G' hx (by assumption) (by assumption) (by assumption) rfl (by refine .inl ⟨rfl, _, ?_, by assumption, by assumption, by assumption, by assumption, by omega⟩; rw [if_pos (by assumption)])
  · exact after2_end G hx (by assumption) (by assumption) (by assumption) rfl (by refine .inl ⟨rfl, _, ?_, by assumption, by assumption, by assumption, by assumption, by omega⟩; rw [if_neg (by assumption)])
  · exact after2_end G hx (by assumption) (by assumption) (by assumption) rfl (by exact .inr ⟨rfl, rfl, .inl (by assumption)⟩)
end
local macro_rules | `(tactic| walk_at "call ref") => `(tactic| (k_here; (with_reducible show wpAny _ _ (call (Value.ref 237) _) _ _ _); k_dflt (refine call_after2 (mark_spec (Zx.cx (by assumption) (by assumption) rfl rfl) (by dsimp only [Ar]; omega) (by dsimp only [Ar]; omega) (Zx.sx (by assumption) (by assumption) (by k_mem) (by k_mem) (by assumption) rfl) (by (try dsimp only); omega) (by (try dsimp only); omega) (by (try dsimp only); omega)) rfl (by assumption) (by assumption) (by assumption) (by assumption) (by k_mem) (by k_updF) ?_); intro v' h' tk' es' n' st' g' P' G' Z' X' V' T' S' F' N' H'; (try dsimp only at N'); (rcases P' with ⟨a', p', b', c1', c2', c3', c4', c5'⟩ | ⟨a', b', c1'⟩) <;> (subst a'; (try subst b'); (try dsimp only at H'))))
section
variable {w : World} {base : Heap} {mean : ExcName → Option Value} {mg mb : Str → Option Value} {dp un : Nat} {gd : Option (List Code)} {outer : List Env} {s : Shared}
set_option maxHeartbeats 4000000 in
theorem verb_spec (C : Cx w base mean mg mb dp un gd outer s.heap) (hdp : dp < 600) (hun : un < 6000) {x dx : Addr} {st : St} (S : Sx base outer s.heap x dx st) {v : Int}
    (hv : 0 ≤ v) (hip : st.ip = some v) (hc : st.c = st.l) (hl : st.l = st.cur.length) (hz : st.cur.length ≤ 1000) :
    codeAny (model pw w) (Ar dp un gd outer) (.call (.ref 251) ⟨[.ref x], []⟩)
      (After s dx fun r st' => shedR tab1.keys v.toNat (cp st.cur) (cp st'.cur) ∧ st'.l = st'.cur.length ∧ st'.lb = st.lb ∧ st'.ip = st.ip ∧ st'.cur.length ≤ st.cur.length) s := by
  obtain ⟨X, V, T, B⟩ := C
  obtain ⟨hx, ⟨es, n, hd, H⟩, bx, bd, nx, nd, hxd⟩ := S
  refine enter [(x, instObj 337 dx), (dx, dictOf es n)] X T B (hid_ok hx hd bx bd nx nd) (look251 _) (code251 _) (Nat.lt_of_lt_of_le hdp (by decide)) (BindsTo.of_eq (binds := [(Str.ofString "self", .ref x)]) (by rfl)) (locs rfl) ?_ (by decide) rfl rfl rfl
  intro g L' h₁ hg hgs hL F N Bg Xg Tg Sg
  conv in (execs _ _) => arg 1; whnf
  conv => (pattern (occs := *) stScope _) <;> whnf
  have Vg : SetHere g := by obtain ⟨es, ep, t, a, b⟩ := V; exact ⟨es, ep, t, Sg _ _ a, b⟩
  have Z : Zx w base mean mg mb dp un gd outer g x dx := ⟨Bg, X, V, T, bx, bd, nx, nd, hxd⟩
  k_steps
  all_goals have hcl : st.cur.length = (cp st.cur).length := rfl
  · exact after_end hg hx F N H rfl ⟨.inl ⟨by omega, rfl⟩, hl, rfl, rfl, Nat.le_refl _⟩
  · rename IsL _ _ _ => hI
    rw [take_cut (by omega) hv (by omega)] at hI
    have hq := res0 tab1 (by decide) _ (by assumption)
    refine after_end hg hx (by assumption) (by assumption) (by assumption) rfl (by
      refine ⟨.inr ⟨by omega, _, by omega, hI, ?_⟩, hl, rfl, rfl, Nat.le_refl _⟩
      rw [hq, Nat.sub_zero, List.take_length])
  · rename IsL _ _ _ => hI
    rw [take_cut (by omega) hv (by omega)] at hI
    refine after_end hg hx (by assumption) (by assumption) (by assumption) rfl (by
      dsimp only [cutSt]
      refine ⟨.inr ⟨by omega, _, ?_, hI, ?_⟩, ?_, rfl, rfl, ?_⟩
      · omega
      · rw [cp_tx, drop_all (by omega), List.append_nil]
        congr 1
        omega
      · rw [drop_all (by omega), List.append_nil, tx_len, List.length_take]
        omega
      · rw [drop_all (by omega), List.append_nil, tx_len, List.length_take]
        omega)
end
section
variable {w : World} {base : Heap} {mean : ExcName → Option Value} {mg mb : Str → Option Value} {dp un : Nat} {gd : Option (List Code)} {outer : List Env} {s : Shared}
set_option maxHeartbeats 4000000 in
theorem nominal_spec (C : Cx w base mean mg mb dp un gd outer s.heap) (hdp : dp < 600) (hun : un < 6000) {x dx : Addr} {st : St} (S : Sx base outer s.heap x dx st) {v : Int}
    (hv : 0 ≤ v) (hip : st.ip = some v) (hc : st.c = st.l) (hl : st.l = st.cur.length) (hz : st.cur.length ≤ 1000) :
    codeAny (model pw w) (Ar dp un gd outer) (.call (.ref 258) ⟨[.ref x], []⟩)
      (After s dx fun r st' => shedR tab2.keys v.toNat (cp st.cur) (cp st'.cur) ∧ st'.l = st'.cur.length ∧ st'.lb = st.lb ∧ st'.ip = st.ip ∧ st'.cur.length ≤ st.cur.length) s := by
  obtain ⟨X, V, T, B⟩ := C
  obtain ⟨hx, ⟨es, n, hd, H⟩, bx, bd, nx, nd, hxd⟩ := S
  refine enter [(x, instObj 337 dx), (dx, dictOf es n)] X T B (hid_ok hx hd bx bd nx nd) (look258 _) (code258 _) (Nat.lt_of_lt_of_le hdp (by decide)) (BindsTo.of_eq (binds := [(Str.ofString "self", .ref x)]) (by rfl)) (locs rfl) ?_ (by decide) rfl rfl rfl
  intro g L' h₁ hg hgs hL F N Bg Xg Tg Sg
  conv in (execs _ _) => arg 1; whnf
  conv => (pattern (occs := *) stScope _) <;> whnf
  have Vg : SetHere g := by obtain ⟨es, ep, t, a, b⟩ := V; exact ⟨es, ep, t, Sg _ _ a, b⟩
  have Z : Zx w base mean mg mb dp un gd outer g x dx := ⟨Bg, X, V, T, bx, bd, nx, nd, hxd⟩
  k_steps
  all_goals have hcl : st.cur.length = (cp st.cur).length := rfl
  · exact after_end hg hx F N H rfl ⟨.inl ⟨by omega, rfl⟩, hl, rfl, rfl, Nat.le_refl _⟩
  · rename IsL _ _ _ => hI
    rw [take_cut (by omega) hv (by omega)] at hI
    have hq := res0 tab2 (by decide) _ (by assumption)
    refine after_end hg hx (by assumption) (by assumption) (by assumption) rfl (by
      refine ⟨.inr ⟨by omega, _, by omega, hI, ?_⟩, hl, rfl, rfl, Nat.le_refl _⟩
      rw [hq, Nat.sub_zero, List.take_length])
  · rename IsL _ _ _ => hI
    rw [take_cut (by omega) hv (by omega)] at hI
    refine after_end hg hx (by assumption) (by assumption) (by assumption) rfl (by
      dsimp only [cutSt]
      refine ⟨.inr ⟨by omega, _, ?_, hI, ?_⟩, ?_, rfl, rfl, ?_⟩
      · omega
      · rw [cp_tx, drop_all (by omega), List.append_nil]
        congr 1
        omega
      · rw [drop_all (by omega), List.append_nil, tx_len, List.length_take]
        omega
      · rw [drop_all (by omega), List.append_nil, tx_len, List.length_take]
        omega)
end
section
variable {w : World} {base : Heap} {mean : ExcName → Option Value} {mg mb : Str → Option Value} {dp un : Nat} {gd : Option (List Code)} {outer : List Env} {s : Shared}
set_option maxHeartbeats 4000000 in
theorem noun_spec (C : Cx w base mean mg mb dp un gd outer s.heap) (hdp : dp < 600) (hun : un < 6000) {x dx : Addr} {st : St} (S : Sx base outer s.heap x dx st)
    (hc : st.c = 0) (hl : st.l = st.cur.length) (hz : st.cur.length ≤ 1000) :
    codeAny (model pw w) (Ar dp un gd outer) (.call (.ref 244) ⟨[.ref x], []⟩)
      (After s dx fun r st' => nounR (cp st.cur) (cp st'.cur)) s := by
  obtain ⟨X, V, T, B⟩ := C
  obtain ⟨hx, ⟨es, n, hd, H⟩, bx, bd, nx, nd, hxd⟩ := S
  refine enter [(x, instObj 337 dx), (dx, dictOf es n)] X T B (hid_ok hx hd bx bd nx nd) (look244 _) (code244 _) (Nat.lt_of_lt_of_le hdp (by decide)) (BindsTo.of_eq (binds := [(Str.ofString "self", .ref x)]) (by rfl)) (locs rfl) ?_ (by decide) rfl rfl rfl
  intro g L' h₁ hg hgs hL F N Bg Xg Tg Sg
  conv in (execs _ _) => arg 1; whnf
  conv => (pattern (occs := *) stScope _) <;> whnf
  have Vg : SetHere g := by obtain ⟨es, ep, t, a, b⟩ := V; exact ⟨es, ep, t, Sg _ _ a, b⟩
  have Z : Zx w base mean mg mb dp un gd outer g x dx := ⟨Bg, X, V, T, bx, bd, nx, nd, hxd⟩
  k_steps
  all_goals have hcl : st.cur.length = (cp st.cur).length := rfl
  all_goals rename IsL _ _ _ => hI
  all_goals rw [hc, Int.sub_zero, show (0 : Int).toNat = 0 from rfl, List.drop_zero, List.take_of_length_le (show (cp st.cur).length ≤ st.l.toNat by omega)] at hI
  · have hq := res0 tab0 (by decide) _ (by assumption)
    exact after_end hg hx (by assumption) (by assumption) (by assumption) rfl (by exact ⟨_, hI, .inr ⟨.inl hq, rfl⟩⟩)
  · exact after_end hg hx (by assumption) (by assumption) (by assumption) rfl (by exact ⟨_, hI, .inr ⟨.inr (.inl (by omega)), rfl⟩⟩)
  · exact after_end hg hx (by assumption) (by assumption) (by assumption) rfl (by exact ⟨_, hI, .inr ⟨.inr (.inl (by omega)), rfl⟩⟩)
  · exact after_end hg hx (by assumption) (by assumption) (by assumption) rfl (by
      have hy := noun_yes hc hl hI (res1 tab0 _ (by assumption)) (by assumption) (by assumption) (by assumption) (by omega)
      dsimp only [cutSt]
      rw [cp_tx, hc, show (0 : Int).toNat = 0 from rfl, List.take_zero, List.nil_append, Int.zero_add, Int.toNat_natCast]
      exact hy)
  · exact after_end hg hx (by assumption) (by assumption) (by assumption) rfl (by exact noun_no hc hl hI (by assumption))
end
local macro_rules | `(tactic| walk_at "call ref") => `(tactic| (k_here; (with_reducible show wpAny _ _ (call (Value.ref 251) _) _ _ _); k_dflt (refine' call_after (verb_spec (v := ?vv) (Zx.cx (by assumption) (by assumption) rfl rfl) (by dsimp only [Ar]; omega) (by dsimp only [Ar]; omega) (Zx.sx (by assumption) (by assumption) (by k_mem) (by k_mem) (by assumption) rfl) ?hv ?hip ?hc ?hl ?hz) (by assumption) (by assumption) (by k_mem) (by k_updF) ?_); (case hip => first | rfl | (dsimp only; assumption)); (case hv => first | omega | (split <;> omega)); (case hc => first | omega | rfl | (dsimp only; omega)); (case hl => first | omega | rfl | (dsimp only; omega)); (case hz => first | omega | (dsimp only; omega)); intro v' h' tk' es' n' st' P' F' N' H'; (try dsimp only at N'); (obtain ⟨a', b', c', d', e'⟩ := P'); (try dsimp only at a'); (try dsimp only at c'); (try dsimp only at d'); (try dsimp only at e')))
local macro_rules | `(tactic| walk_at "call ref") => `(tactic| (k_here; (with_reducible show wpAny _ _ (call (Value.ref 258) _) _ _ _); k_dflt (refine' call_after (nominal_spec (v := ?vv) (Zx.cx (by assumption) (by assumption) rfl rfl) (by dsimp only [Ar]; omega) (by dsimp only [Ar]; omega) (Zx.sx (by assumption) (by assumption) (by k_mem) (by k_mem) (by assumption) rfl) ?hv ?hip ?hc ?hl ?hz) (by assumption) (by assumption) (by k_mem) (by k_updF) ?_); (case hip => first | rfl | (dsimp only; assumption)); (case hv => first | omega | (split <;> omega)); (case hc => first | omega | rfl | (dsimp only; omega)); (case hl => first | omega | rfl | (dsimp only; omega)); (case hz => first | omega | (dsimp only; omega)); intro v' h' tk' es' n' st' P' F' N' H'; (try dsimp only at N'); (obtain ⟨a', b', c', d', e'⟩ := P'); (try dsimp only at a'); (try dsimp only at c'); (try dsimp only at d'); (try dsimp only at e')))
local macro_rules | `(tactic| walk_at "call ref") => `(tactic| (k_here; (with_reducible show wpAny _ _ (call (Value.ref 244) _) _ _ _); k_dflt (refine call_after (noun_spec (Zx.cx (by assumption) (by assumption) rfl rfl) (by dsimp only [Ar]; omega) (by dsimp only [Ar]; omega) (Zx.sx (by assumption) (by assumption) (by k_mem) (by k_mem) (by assumption) rfl) (by first | omega | rfl | (dsimp only; omega)) (by first | omega | rfl | (dsimp only; omega)) (by first | omega | rfl | (dsimp only; omega))) (by assumption) (by assumption) (by k_mem) (by k_updF) ?_); intro v' h' tk' es' n' st' P' F' N' H'; (try dsimp only at N'); (try dsimp only at P')))
section
variable {w : World} {base : Heap} {mean : ExcName → Option Value} {mg mb : Str → Option Value} {dp un : Nat} {gd : Option (List Code)} {outer : List Env} {s : Shared}
set_option maxHeartbeats 4000000 in
theorem stem_spec (C : Cx w base mean mg mb dp un gd outer s.heap) (hdp : dp < 500) (hun : un < 5000) {x dx : Addr} {st : St} (S : Sx base outer s.heap x dx st)
    (hc : st.c = 0) (hl : st.l = st.cur.length) (hz : st.cur.length ≤ 1000) :
    codeAny (model pw w) (Ar dp un gd outer) (.call (.ref 265) ⟨[.ref x], []⟩)
      (After2 s outer dx fun r st' => stemR (cp st.cur) (cp st'.cur)) s := by
  obtain ⟨X, V, T, B⟩ := C
  obtain ⟨hx, ⟨es, n, hd, H⟩, bx, bd, nx, nd, hxd⟩ := S
  refine enter [(x, instObj 337 dx), (dx, dictOf es n)] X T B (hid_ok hx hd bx bd nx nd) (look265 _) (code265 _) (Nat.lt_of_lt_of_le hdp (by decide)) (BindsTo.of_eq (binds := [(Str.ofString "self", .ref x)]) (by rfl)) (locs rfl) ?_ (by decide) rfl rfl rfl
  intro g L' h₁ hg hgs hL F N Bg Xg Tg Sg
  conv in (execs _ _) => arg 1; whnf
  conv => (pattern (occs := *) stScope _) <;> whnf
  have Vg : SetHere g := by obtain ⟨es, ep, t, a, b⟩ := V; exact ⟨es, ep, t, Sg _ _ a, b⟩
  have Z : Zx w base mean mg mb dp un gd outer g x dx := ⟨Bg, X, V, T, bx, bd, nx, nd, hxd⟩
  have G : Gr s.heap outer x dx g := Gr.of hg nx nd
  k_steps
  · refine after2_end (by assumption) hx (by assumption) (by assumption) (by assumption) rfl (by exact stem_yes hc hl (by assumption) (by assumption) (by assumption) (by assumption) (by assumption) rfl (by assumption) (by assumption) (by assumption))
  · exact after2_end (by assumption) hx (by assumption) (by assumption) (by assumption) rfl (by exact stem_no hc hl (by assumption) (by assumption))
end
local macro_rules | `(tactic| walk_at "call ref") => `(tactic| (k_here; (with_reducible show wpAny _ _ (call (Value.ref 42) _) _ _ _); k_dflt (refine call_after (set_current_spec (Zx.cx (by assumption) (by assumption) rfl rfl) (by dsimp only [Ar]; omega) (by dsimp only [Ar]; omega) (Zx.sx (by assumption) (by assumption) (by k_mem) (by k_mem) (by assumption) rfl) (by first | assumption | omega)) (by assumption) (by assumption) (by k_mem) (by k_updF) ?_); intro v' h' tk' es' n' st' P' F' N' H'; (try dsimp only at N'); (obtain ⟨a', b'⟩ := P'); subst a'; subst b'))
local macro_rules | `(tactic| walk_at "call ref") => `(tactic| (k_here; (with_reducible show wpAny _ _ (call (Value.ref 49) _) _ _ _); k_dflt (refine call_after (get_current_spec (Zx.cx (by assumption) (by assumption) rfl rfl) (by dsimp only [Ar]; omega) (by dsimp only [Ar]; omega) (Zx.sx (by assumption) (by assumption) (by k_mem) (by k_mem) (by assumption) rfl)) (by assumption) (by assumption) (by k_mem) (by k_updF) ?_); intro v' h' tk' es' n' st' P' F' N' H'; (try dsimp only at N'); (obtain ⟨⟨t', a'⟩, b'⟩ := P'); subst a'; subst b'))
local macro_rules | `(tactic| walk_at "call ref") => `(tactic| (k_here; (with_reducible show wpAny _ _ (call (Value.ref 265) _) _ _ _); k_dflt (refine call_after2 (stem_spec (Zx.cx (by assumption) (by assumption) rfl rfl) (by dsimp only [Ar]; omega) (by dsimp only [Ar]; omega) (Zx.sx (by assumption) (by assumption) (by k_mem) (by k_mem) (by assumption) rfl) (by first | omega | rfl | (dsimp only; omega)) (by first | omega | rfl | (dsimp only; omega)) (by first | omega | rfl | (dsimp only; omega))) rfl (by assumption) (by assumption) (by assumption) (by assumption) (by k_mem) (by k_updF) ?_); intro v' h' tk' es' n' st' g' P' G' Z' X' V' T' S' F' N' H'; (try dsimp only at N'); (try dsimp only at P')))
section
variable {w : World} {base : Heap} {mean : ExcName → Option Value} {mg mb : Str → Option Value} {dp un : Nat} {gd : Option (List Code)} {outer : List Env} {s : Shared}
set_option maxHeartbeats 4000000 in
theorem stemWord_spec (C : Cx w base mean mg mb dp un gd outer s.heap) (hdp : dp < 400) (hun : un < 4000) {x dx : Addr} {st : St} (S : Sx base outer s.heap x dx st) {v : Str} {t : Nat} (hv : v.length ≤ 1000) :
    codeAny (model pw w) (Ar dp un gd outer) (.call (.ref 189) ⟨[.ref x, .str v t], []⟩)
      (After2 s outer dx fun r st' => ∃ d u, r = .str d u ∧ stemR (cp v) (cp d)) s := by
  obtain ⟨X, V, T, B⟩ := C
  obtain ⟨hx, ⟨es, n, hd, H⟩, bx, bd, nx, nd, hxd⟩ := S
  refine enter [(x, instObj 337 dx), (dx, dictOf es n)] X T B (hid_ok hx hd bx bd nx nd) (look189 _) (code189 _) (Nat.lt_of_lt_of_le hdp (by decide)) (BindsTo.of_eq (binds := [(Str.ofString "self", .ref x), (Str.ofString "word", .str v t)]) (by rfl)) (locs rfl) ?_ (by decide) rfl rfl rfl
  intro g L' h₁ hg hgs hL F N Bg Xg Tg Sg
  conv in (execs _ _) => arg 1; whnf
  conv => (pattern (occs := *) stScope _) <;> whnf
  have Vg : SetHere g := by obtain ⟨es, ep, t, a, b⟩ := V; exact ⟨es, ep, t, Sg _ _ a, b⟩
  have Z : Zx w base mean mg mb dp un gd outer g x dx := ⟨Bg, X, V, T, bx, bd, nx, nd, hxd⟩
  have G : Gr s.heap outer x dx g := Gr.of hg nx nd
  k_steps
  all_goals try (exact after2_end (by assumption) hx (by assumption) (by assumption) (by assumption) rfl (by exact ⟨_, _, rfl, by assumption⟩))
end
end
section
section
variable {w : World} {base : Heap} {mean : ExcName → Option Value} {mg mb : Str → Option Value} {dp un : Nat} {gd : Option (List Code)} {outer : List Env} {s : Shared}
noncomputable def vowL : List Str := [one 97, one 101, one 105, one 111, one 117]
theorem vowL_lit : [Str.ofString "a", Str.ofString "e", Str.ofString "i", Str.ofString "o", Str.ofString "u"] = vowL := by decide +kernel
theorem vowL_any (c : Nat) : vowL.any (· == one c) = isV c := by
  have e : ∀ a b : Nat, (one a == one b) = (a == b) := fun a b => by
    rw [Bool.eq_iff_iff, beq_iff_eq, beq_iff_eq]
    constructor
    · intro q; simpa [one] using q
    · rintro rfl; rfl
  simp only [vowL, List.any_cons, List.any_nil, Bool.or_false, e, isV, List.contains_cons, List.contains_nil]
  have f : ∀ a : Nat, (a == c) = (c == a) := fun a => by rw [Bool.eq_iff_iff, beq_iff_eq, beq_iff_eq]; exact ⟨Eq.symm, Eq.symm⟩
  simp only [f]
set_option maxHeartbeats 4000000 in
theorem vowels_spec (C : Cx w base mean mg mb dp un gd outer s.heap) (hdp : dp < 900) (hun : un < 9000) :
    codeAny (model pw w) (Ar dp un gd outer) (.call (.ref 359) ⟨[], []⟩)
      (AfterP s fun r h => ∃ l us, r = .ref l ∧ h.IsList l (List.toArray us) ∧ StrsAre us vowL) s := by
  obtain ⟨X, V, T, B⟩ := C
  refine enter [] X T B (by simp) (look359 _) (code359 _) (Nat.lt_of_lt_of_le hdp (by decide)) (BindsTo.of_eq (binds := []) (by rfl)) (locs rfl) ?_ (by decide) rfl rfl rfl
  intro g L' h₁ hg hgs hL F N Bg Xg Tg Sg
  conv in (execs _ _) => arg 1; whnf
  conv => (pattern (occs := *) stScope _) <;> whnf
  k_steps
  rename News g L' _ _ => N3
  refine afterP_end hg (by assumption) rfl ⟨_, _, rfl, ⟨_, (N3 _ (.head _)).1, rfl, _, rfl⟩, ?_⟩
  rw [← vowL_lit]
  exact .cons _ _ (.cons _ _ (.cons _ _ (.cons _ _ (.cons _ _ .nil))))
end
local macro_rules | `(tactic| walk_at "call ref") => `(tactic| (k_here; (with_reducible show wpAny _ _ (call (Value.ref 359) _) _ _ _); k_dflt (refine call_pure (vowels_spec (Px.cx (by assumption) (by assumption) rfl rfl) (by dsimp only [Ar]; omega) (by dsimp only [Ar]; omega)) (by assumption) (by assumption) ?_); intro v' h' tk' P' F' N'; (obtain ⟨l', us', a', b', c'⟩ := P'); subst a'))
local macro_rules | `(tactic| walk_at "compareOp In str ref") => `(tactic| (k_here; (with_reducible show wpAny _ _ (compareOp _ (Value.str _ _) (Value.ref _)) _ _ _); k_dflt (refine in_list_strs (by assumption) (by assumption) ?_); (try rw [vowL_any])))
local macro_rules | `(tactic| walk_at "eval ListComp") => `(tactic| (k_here; k_dflt (refine lc_strT (F₀ := by k_asm) (by rfl) (by decide) (by rfl) (by decide) (by rfl) ?_)))
theorem strs_yes {ys : List Value} {zs : List Str} {l : List Nat} {i c u : Nat} (h : StrsAre ys zs) (e : zs = ((l.take i).filter isV).map one) (hc : l[i]? = some c) (hv : vowL.any (· == one c) = true) : StrsAre (ys ++ [.str (one c) u]) (((l.take (i + 1)).filter isV).map one) := by
  rw [vowL_any] at hv
  rw [List.take_add_one, hc]
  simp only [Option.toList_some, List.filter_append, List.map_append, List.filter_cons, hv, if_true, List.filter_nil, List.map_cons, List.map_nil]
  rw [← e]
  exact StrsAre.append' h (.cons _ _ .nil)
theorem strs_no {ys : List Value} {zs : List Str} {l : List Nat} {i c : Nat} (h : StrsAre ys zs) (e : zs = ((l.take i).filter isV).map one) (hc : l[i]? = some c) (hv : vowL.any (· == one c) = false) : StrsAre ys (((l.take (i + 1)).filter isV).map one) := by
  rw [vowL_any] at hv
  rw [List.take_add_one, hc]
  simp only [Option.toList_some, List.filter_append, List.map_append, List.filter_cons, hv, Bool.false_eq_true, if_false, List.filter_nil, List.map_nil, List.append_nil]
  rw [← e]
  exact h
theorem any_fil (l : List Nat) : (!decide (((l.filter isV).map one) = [])) = l.any isV := by
  rw [Bool.eq_iff_iff]
  simp [List.filter_eq_nil_iff]
section
variable {w : World} {base : Heap} {mean : ExcName → Option Value} {mg mb : Str → Option Value} {dp un : Nat} {gd : Option (List Code)} {outer : List Env} {s : Shared}
set_option maxHeartbeats 4000000 in
theorem full_spec (C : Cx w base mean mg mb dp un gd outer s.heap) (hdp : dp < 500) (hun : un < 5000) {v : Str} {t : Nat} (hv : v.length ≤ 1000) :
    codeAny (model pw w) (Ar dp un gd outer) (.call (.ref 367) ⟨[.str v t], []⟩)
      (AfterP s fun r h => r = .bool (decide (1 < v.length) && (cp v).any isV)) s := by
  obtain ⟨X, V, T, B⟩ := C
  refine enter [] X T B (by simp) (look367 _) (code367 _) (Nat.lt_of_lt_of_le hdp (by decide)) (BindsTo.of_eq (binds := [(Str.ofString "part", .str v t)]) (by rfl)) (locs rfl) ?_ (by decide) rfl rfl rfl
  intro g L' h₁ hg hgs hL F N Bg Xg Tg Sg
  conv in (execs _ _) => arg 1; whnf
  conv => (pattern (occs := *) stScope _) <;> whnf
  have Z : Px w base mean mg mb dp un gd outer g := ⟨Bg, X, V, T⟩
  k_steps
  · refine ⟨_, _, _, rfl, rfl, F, N, hv, ?_⟩
    rintro s₂ ⟨h, rfl⟩
    refine restT_ind v.cps.size (fun i ys news => news = [] ∧ ∃ zs, StrsAre ys zs ∧ zs = (((cp v).take i).filter isV).map one) ?_ ?_ _ 0 [] [] (by simp) ⟨rfl, [], .nil, by simp⟩
    · rintro i ys news hi ⟨rfl, zs, hzs, hze⟩ vv I oI C oC D m₂ h tk E' ⟨c, u, hc, rfl⟩ hC hx F N off ne
      have hc' : (cp v)[i]? = some c := by rw [← hc]; exact Array.getElem?_toList
      k_steps
      · exact strs_yes hzs hze hc' (by assumption)
      · exact strs_no hzs hze hc' (by assumption)
    · rintro ys news ⟨rfl, zs, hzs, hze⟩
      k_steps
      rename News g L' _ _ => N3
      refine ne_strs (ys := []) ⟨_, (N3 _ (.tail _ (.head _))).1, rfl, _, rfl⟩ ⟨_, (N3 _ (.head _)).1, rfl, _, rfl⟩ hzs .nil (by show un + 3 < 9900; omega) ?_
      have hta : (cp v).take v.cps.size = cp v := List.take_of_length_le (Nat.le_of_eq (by rfl))
      rw [hze, hta, any_fil]
      k_steps
      refine afterP_end hg (by assumption) rfl ?_
      have : decide (1 < v.length) = true := by rw [decide_eq_true_iff]; omega
      rw [this]; rfl
  · refine afterP_end hg (by assumption) rfl ?_
    have e1 : decide (1 < v.length) = false := by rw [decide_eq_false_iff_not]; omega
    have e2 : decide ((1 : Int) < (v.length : Int)) = false := by rw [decide_eq_false_iff_not]; assumption
    rw [e1, e2]; rfl
end
local macro_rules | `(tactic| walk_at "call ref") => `(tactic| (k_here; (with_reducible show wpAny _ _ (call (Value.ref 367) _) _ _ _); k_dflt (refine call_pure (full_spec (Px.cx (by assumption) (by assumption) rfl rfl) (by dsimp only [Ar]; omega) (by dsimp only [Ar]; omega) (by first | assumption | omega)) (by assumption) (by assumption) ?_); intro v' h' tk' P' F' N'; subst P'))
local macro_rules | `(tactic| walk_at "pyIter ref") => `(tactic| (k_here; refine it_stop ?_))
section
variable {w : World} {base : Heap} {mean : ExcName → Option Value} {mg mb : Str → Option Value} {dp un : Nat} {gd : Option (List Code)} {outer : List Env} {s : Shared}
set_option maxHeartbeats 4000000 in
theorem head_spec (C : Cx w base mean mg mb dp un gd outer s.heap) (hdp : dp < 400) (hun : un < 4000) {v : Str} {t : Nat} (hv : v.length ≤ 1000) :
    codeAny (model pw w) (Ar dp un gd outer) (.call (.ref 374) ⟨[.str v t], []⟩)
      (AfterP s fun r h => ∃ d u, r = .str d u ∧ headR (cp v) (cp d)) s := by
  obtain ⟨X, V, T, B⟩ := C
  refine enter [] X T B (by simp) (look374 _) (code374 _) (Nat.lt_of_lt_of_le hdp (by decide)) (BindsTo.of_eq (binds := [(Str.ofString "word", .str v t)]) (by rfl)) (locs rfl) ?_ (by decide) rfl rfl rfl
  intro g L' h₁ hg hgs hL F N Bg Xg Tg Sg
  conv in (execs _ _) => arg 1; whnf
  conv => (pattern (occs := *) stScope _) <;> whnf
  have Z : Px w base mean mg mb dp un gd outer g := ⟨Bg, X, V, T⟩
  k_steps
  unfold ItStop
  rename IsRange _ _ _ _ _ _ _ _ => rgX
  rename Fr g L' _ _ => F2
  rename News g L' _ _ => N2
  refine rng_loop2 v.length (fun i m => m (Str.ofString "word") = some (.str v t) ∧ ∀ j, j < i → fullL ((cp v).take j) = false) rfl rgX (small_up (by omega) (by omega) (by omega) (by omega)) (by rw [size_up]; omega) F2 N2 ⟨by rfl, fun j hj => by omega⟩ ?_ ?_
  · rintro i tt m h tk own hi hown ⟨hm, hall⟩ F N
    have F : Fr g L' h (kstB m [(Str.ofString "size", .int (0 + (i : Int) * 1) tt), (Str.ofString "word", .str v t)]) := by
      have e : kstB m [(Str.ofString "size", .int (0 + (i : Int) * 1) tt), (Str.ofString "word", .str v t)] = fun y => if y = Str.ofString "size" then some (.int (0 + (i : Int) * 1) tt) else m y := by
        funext z
        show (if z = Str.ofString "size" then _ else (if z = Str.ofString "word" then _ else m z)) = _
        by_cases q : z = Str.ofString "word"
        · subst q; simp [hm]
        · simp [q]
      rw [e]; exact F
    clear F2 N2
    have N : News g L' h own := N
    have hi2 : (i : Int) ≤ v.length := by omega
    have sl : Txt.slice v none (some (0 + (i : Int) * 1)) = tx ((cp v).take i) := by
      rw [slice_b (by omega) (by omega)]
      congr 2
      omega
    k_steps
    · rename (decide _ && _) = true => hf
      rw [sl] at hf
      exact afterP_end hg (by assumption) rfl (by exact ⟨_, _, rfl, .inl ⟨i, hi, hf, hall, by rw [sl, cp_tx]⟩⟩)
    · rename (decide _ && _) = false => hf
      rw [sl] at hf
      rename Fr g L' _ _ => F3
      rename News g L' _ _ => N3
      refine InvEndN.intro F3 N3 ⟨rfl, by rfl, fun j hj => ?_⟩ rfl (fun p hp => by cases hp) (fun p hp => hp)
      by_cases e : j = i
      · subst e; exact hf
      · exact hall j (by omega)
  · rintro m h tk ⟨hm, hall⟩ F N
    have F : Fr g L' h (kstB m [(Str.ofString "word", .str v t)]) := fr_kst _ F (by simpa using hm)
    clear F2 N2
    have N : News g L' h [] := N
    k_steps
    exact afterP_end hg F rfl ⟨_, _, rfl, .inr ⟨hall, rfl⟩⟩
end
theorem headR_len {v d : Str} (h : headR (cp v) (cp d)) : d.length ≤ v.length := by
  show (cp d).length ≤ (cp v).length
  rcases h with ⟨k, h1, _, _, h2⟩ | ⟨_, h2⟩
  · rw [h2, List.length_take]; omega
  · rw [h2]; exact Nat.le_refl _
theorem take_len' {v d : Str} {n : Nat} (h : cp d = (cp v).take n) : d.length ≤ v.length := by
  show (cp d).length ≤ (cp v).length
  rw [h, List.length_take]; omega
local macro_rules | `(tactic| walk_at "call ref") => `(tactic| (k_here; (with_reducible show wpAny _ _ (call (Value.ref 374) _) _ _ _); k_dflt (refine call_pure (head_spec (Px.cx (by assumption) (by assumption) rfl rfl) (by dsimp only [Ar]; omega) (by dsimp only [Ar]; omega) (by first | assumption | omega)) (by assumption) (by assumption) ?_); intro v' h' tk' P' F' N'; (obtain ⟨d', u', a', b'⟩ := P'); subst a'; have l' := headR_len b'))
local macro_rules | `(tactic| walk_at "exec For Name Name") => `(tactic| (k_here; (rename Fr _ _ _ _ => lF'); (with_unfolding_all refine' For_invVF lF' ?k1 ?k2 ?_; (case k1 => exact rfl); (case k2 => exact rfl))))
theorem shed_len (b : List Nat) : ∀ (ends : List (List Nat)) (l : List Nat), l.length ≤ b.length → (ends.foldl (fun l e => if e.isSuffixOf b && decide (l.length < e.length) then e else l) l).length ≤ b.length
  | [], _, h => h
  | e :: r, l, h => by
    rw [List.foldl_cons]
    refine shed_len b r _ ?_
    split
    · rename_i q
      rw [Bool.and_eq_true, List.isSuffixOf_iff_suffix] at q
      exact q.1.length_le
    · exact h
theorem shed_yes {es : List Str} {e v : Str} {i : Nat} {lg : List Nat} (hei : es[i]? = some e) (hsh : lg = shedL ((es.take i).map cp) (cp v)) (h1 : Txt.endswith v e = true) (h2 : (lg.length : Int) < (e.length : Int)) : cp e = shedL ((es.take (i + 1)).map cp) (cp v) := by
  have he : e.length = (cp e).length := rfl
  rw [ends_iff] at h1
  unfold shedL at hsh ⊢
  rw [List.take_add_one, hei]
  simp only [Option.toList_some, List.map_append, List.map_cons, List.map_nil, List.foldl_append, List.foldl_cons, List.foldl_nil]
  rw [← hsh, h1, decide_eq_true (by omega)]; rfl
theorem shed_no {es : List Str} {e v : Str} {i : Nat} {lg : List Nat} (hei : es[i]? = some e) (hsh : lg = shedL ((es.take i).map cp) (cp v)) (h : Txt.endswith v e = false ∨ ¬ (lg.length : Int) < (e.length : Int)) : lg = shedL ((es.take (i + 1)).map cp) (cp v) := by
  have he : e.length = (cp e).length := rfl
  rw [ends_iff] at h
  unfold shedL at hsh ⊢
  rw [List.take_add_one, hei]
  simp only [Option.toList_some, List.map_append, List.map_cons, List.map_nil, List.foldl_append, List.foldl_cons, List.foldl_nil]
  rw [← hsh]
  rcases h with h | h
  · rw [h]; rfl
  · rw [decide_eq_false (p := lg.length < (cp e).length) (by omega), Bool.and_false]; rfl
section
variable {w : World} {base : Heap} {mean : ExcName → Option Value} {mg mb : Str → Option Value} {dp un : Nat} {gd : Option (List Code)} {outer : List Env} {s : Shared}
set_option maxHeartbeats 4000000 in
theorem shed_spec (C : Cx w base mean mg mb dp un gd outer s.heap) (hdp : dp < 400) (hun : un < 4000) {v : Str} {t : Nat} (hv : v.length ≤ 1000) {l : Addr} {us : List Value} {es : List Str} (hL : s.heap.IsList l us.toArray) (hS : StrsAre us es) (hE : ∀ e ∈ es, e.length ≤ 10) (hn : es.length ≤ 20) :
    codeAny (model pw w) (Ar dp un gd outer) (.call (.ref 381) ⟨[.str v t, .ref l], []⟩)
      (AfterP s fun r h => ∃ d u, r = .str d u ∧ cp d = (cp v).take ((cp v).length - (shedL (es.map cp) (cp v)).length)) s := by
  obtain ⟨X, V, T, B⟩ := C
  refine enter [] X T B (by simp) (look381 _) (code381 _) (Nat.lt_of_lt_of_le hdp (by decide)) (BindsTo.of_eq (binds := [(Str.ofString "body", .str v t), (Str.ofString "ends", .ref l)]) (by rfl)) (locs rfl) ?_ (by decide) rfl rfl rfl
  intro g L' h₁ hg hgs hL' F N Bg Xg Tg Sg
  conv in (execs _ _) => arg 1; whnf
  conv => (pattern (occs := *) stScope _) <;> whnf
  have Z : Px w base mean mg mb dp un gd outer g := ⟨Bg, X, V, T⟩
  have hLg : g.IsList l us.toArray := by obtain ⟨o, a, r⟩ := hL; exact ⟨o, hg _ _ a (by simp), r⟩
  have hS' : Box (StrsAre us es) := ⟨hS⟩
  have hLg' : Box (g.IsList l us.toArray) := ⟨hLg⟩
  clear hS hLg hL
  k_steps
  unfold ItStop
  rename Fr g L' _ _ => F2
  rename News g L' _ _ => N2
  refine lst_loop (fun i m => m (Str.ofString "body") = some (.str v t) ∧ ∃ lg u, m (Str.ofString "longest") = some (.str lg u) ∧ cp lg = shedL ((es.take i).map cp) (cp v) ∧ lg.length ≤ 10) rfl hLg'.out F2 N2 ⟨by rfl, _, _, by rfl, by rw [empty_tx]; rfl, by rw [empty_tx]; exact Nat.zero_le _⟩ ?_ ?_
  · rintro i vv m h tk own hi hown ⟨hm, lg, u, hlg, hsh, hl10⟩ F N
    obtain ⟨e, te, rfl, hei⟩ := StrsAre.item hS'.out i vv (by simpa using hi)
    have he10 : e.length ≤ 10 := hE e (List.mem_of_getElem? hei)
    have F : Fr g L' h (kstB m [(Str.ofString "end", .str e te), (Str.ofString "body", .str v t), (Str.ofString "longest", .str lg u)]) := by
      have e : kstB m [(Str.ofString "end", .str e te), (Str.ofString "body", .str v t), (Str.ofString "longest", .str lg u)] = fun y => if y = Str.ofString "end" then some (.str e te) else m y := by
        funext z
        show (if z = Str.ofString "end" then _ else (if z = Str.ofString "body" then _ else (if z = Str.ofString "longest" then _ else m z))) = _
        by_cases q : z = Str.ofString "body"
        · subst q; simp [hm]
        · by_cases q2 : z = Str.ofString "longest"
          · subst q2; rw [if_neg (by decide), if_neg (by decide), if_pos rfl, if_neg (by decide), hlg]
          · simp [q, q2]
      rw [e]; exact F
    clear F2 N2
    have N : News g L' h own := N
    k_steps
    · rename Fr g L' _ _ => F3
      rename News g L' _ _ => N3
      exact InvEndN.intro F3 N3 ⟨rfl, by rfl, _, _, by rfl, shed_yes hei hsh (by assumption) (by assumption), he10⟩ rfl (fun p hp => by cases hp) (fun p hp => hp)
    · exact InvEndN.intro F N ⟨rfl, by rfl, _, _, by rfl, shed_no hei hsh (.inr (by assumption)), hl10⟩ rfl (fun p hp => by cases hp) (fun p hp => hp)
    · exact InvEndN.intro F N ⟨rfl, by rfl, _, _, by rfl, shed_no hei hsh (.inl (by assumption)), hl10⟩ rfl (fun p hp => by cases hp) (fun p hp => hp)
  · rintro m h tk ⟨hm, lg, u, hlg, hsh, hl10⟩ F N
    have F : Fr g L' h (kstB m [(Str.ofString "body", .str v t), (Str.ofString "longest", .str lg u)]) := fr_kst _ F (by simp [hm, hlg])
    clear F2 N2
    have N : News g L' h [] := N
    have hus : us.toArray.size = es.length := by rw [List.size_toArray, strs_len hS'.out]
    rw [hus, List.take_length] at hsh
    have hle : lg.length ≤ v.length := by
      show (cp lg).length ≤ (cp v).length
      rw [hsh]; exact shed_len _ _ _ (Nat.zero_le _)
    k_steps
    refine afterP_end hg (by assumption) rfl (by
      refine ⟨_, _, rfl, ?_⟩
      rw [slice_b (by omega) (by omega), cp_tx, ← hsh]
      congr 1
      have e1 : v.length = (cp v).length := rfl
      have e2 : lg.length = (cp lg).length := rfl
      omega)
end
theorem keepL {g h : Heap} {L l : Addr} {m : Str → Option Value} {a : Array Value} (H : g.IsList l a) (F : Fr g L h m) : h.IsList l a := let ⟨o, e, r⟩ := H; ⟨o, F.keep _ _ e, r⟩
local macro_rules | `(tactic| walk_at "call ref") => `(tactic| (k_here; (with_reducible show wpAny _ _ (call (Value.ref 381) [_, Value.ref 360]) _ _ _); k_dflt (refine call_pure (shed_spec (us := nounV) (es := nounS) (Px.cx (by assumption) (by assumption) rfl rfl) (by dsimp only [Ar]; omega) (by dsimp only [Ar]; omega) (by first | assumption | omega) (keepL (noun_at (by assumption)) (by assumption)) noun_strs (by decide +kernel) (by decide)) (by assumption) (by assumption) ?_); intro v' h' tk' P' F' N'; (obtain ⟨d', u', a', b'⟩ := P'); subst a'; (rw [noun_list] at b'); have l' := take_len' b'))
local macro_rules | `(tactic| walk_at "call ref") => `(tactic| (k_here; (with_reducible show wpAny _ _ (call (Value.ref 381) [_, Value.ref 361]) _ _ _); k_dflt (refine call_pure (shed_spec (us := verbV) (es := verbS) (Px.cx (by assumption) (by assumption) rfl rfl) (by dsimp only [Ar]; omega) (by dsimp only [Ar]; omega) (by first | assumption | omega) (keepL (verb_at (by assumption)) (by assumption)) verb_strs (by decide +kernel) (by decide)) (by assumption) (by assumption) ?_); intro v' h' tk' P' F' N'; (obtain ⟨d', u', a', b'⟩ := P'); subst a'; (rw [verb_list] at b'); have l' := take_len' b'))
theorem cp_app (a b : Str) : cp (a ++ b) = cp a ++ cp b := by
  rw [← tx_cp a, ← tx_cp b, tx_app]; rfl
noncomputable def okL (x e : List Nat) : Bool := e.isPrefixOf x && fullL (x.drop e.length)
theorem find_yes {x : List Nat} {i : Nat} {e : List Nat} (h : (begL.take i).find? (okL x) = none) (he : begL[i]? = some e) (hk : okL x e = true) : dropL x = x.drop e.length := by
  have e1 : headL x = some e := by
    show begL.find? (okL x) = some e
    have hi : i < begL.length := (List.getElem?_eq_some_iff.mp he).1
    have : begL = begL.take i ++ e :: begL.drop (i + 1) := by
      obtain ⟨_, r⟩ := List.getElem?_eq_some_iff.mp he
      rw [← r, ← List.drop_eq_getElem_cons hi, List.take_append_drop]
    rw [this, List.find?_append, h, Option.none_or, List.find?_cons_of_pos hk]
  unfold dropL
  rw [e1]
theorem find_no {x : List Nat} {i : Nat} {e : List Nat} (h : (begL.take i).find? (okL x) = none) (he : begL[i]? = some e) (hk : okL x e = false) : (begL.take (i + 1)).find? (okL x) = none := by
  rw [List.take_add_one, he, List.find?_append, h, Option.none_or]
  show List.find? _ [e] = none
  rw [List.find?_cons_of_neg (by rw [hk]; decide)]
  rfl
theorem beg_get {e : Str} {i : Nat} (h : begS[i]? = some e) : begL[i]? = some (cp e) := by
  rw [← beg_list, List.getElem?_map, h]; rfl
theorem stem_word {v d2 d1 d0 : Str} (hH : headR (cp v) (cp d2)) (hl : d2.length ≤ v.length) (ha : cp d1 = (cp (Txt.slice v (some (d2.length : Int)) none)).take ((cp (Txt.slice v (some (d2.length : Int)) none)).length - (shedL nounL (cp (Txt.slice v (some (d2.length : Int)) none))).length)) (hb : cp d0 = (cp d1).take ((cp d1).length - (shedL verbL (cp d1)).length)) :
    ∃ hd, headR (cp v) hd ∧ lawStem (cp v) hd = dropL (cp (d2 ++ d0)) := by
  refine ⟨cp d2, hH, ?_⟩
  rw [slice_a (by omega) (by omega), cp_tx, Int.toNat_natCast] at ha
  rw [cp_app, hb, ha]
  rfl
theorem st_slice {x e : Str} (h : Txt.startswith x e = true) : cp (Txt.slice x (some (e.length : Int)) none) = (cp x).drop (cp e).length := by
  rw [starts_iff, List.isPrefixOf_iff_prefix] at h
  have h1 := h.length_le
  have e1 : e.length = (cp e).length := rfl
  have e2 : x.length = (cp x).length := rfl
  rw [slice_a (by omega) (by omega), cp_tx, Int.toNat_natCast, e1]
theorem ok_eq {x e : Str} (h : Txt.startswith x e = true) {b : Bool} (hf : (decide (1 < (Txt.slice x (some (e.length : Int)) none).length) && (cp (Txt.slice x (some (e.length : Int)) none)).any isV) = b) : okL (cp x) (cp e) = b := by
  have e1 : (Txt.slice x (some (e.length : Int)) none).length = (cp (Txt.slice x (some (e.length : Int)) none)).length := rfl
  rw [e1, st_slice h] at hf
  rw [starts_iff] at h
  unfold okL
  rw [h, Bool.true_and]
  exact hf
theorem ok_no {x e : Str} (h : Txt.startswith x e = false) : okL (cp x) (cp e) = false := by
  rw [starts_iff] at h
  unfold okL
  rw [h, Bool.false_and]
section
variable {w : World} {base : Heap} {mean : ExcName → Option Value} {mg mb : Str → Option Value} {dp un : Nat} {gd : Option (List Code)} {outer : List Env} {s : Shared}
set_option maxHeartbeats 4000000 in
theorem lawStem_spec (C : Cx w base mean mg mb dp un gd outer s.heap) (hdp : dp < 350) (hun : un < 3500) {v : Str} {t : Nat} (hv : v.length ≤ 500) :
    codeAny (model pw w) (Ar dp un gd outer) (.call (.ref 388) ⟨[.str v t], []⟩)
      (AfterP s fun r h => ∃ d u hd, r = .str d u ∧ headR (cp v) hd ∧ cp d = lawStem (cp v) hd) s := by
  obtain ⟨X, V, T, B⟩ := C
  refine enter [] X T B (by simp) (look388 _) (code388 _) (Nat.lt_of_lt_of_le hdp (by decide)) (BindsTo.of_eq (binds := [(Str.ofString "word", .str v t)]) (by rfl)) (locs rfl) ?_ (by decide) rfl rfl rfl
  intro g L' h₁ hg hgs hL' F N Bg Xg Tg Sg
  conv in (execs _ _) => arg 1; whnf
  conv => (pattern (occs := *) stScope _) <;> whnf
  have Z : Px w base mean mg mb dp un gd outer g := ⟨Bg, X, V, T⟩
  k_steps
  unfold ItStop
  rename headR _ _ => hH
  rename Fr g L' _ _ => F2
  rename News g L' _ _ => N2
  rename cp _ = List.take _ (cp (Txt.slice _ _ _)) => ha
  rename cp _ = List.take _ (cp _) => hb
  have hW := stem_word hH (by assumption) ha hb
  have hbg : g.IsList 362 begV.toArray := beg_at Xg
  have hbg' : Box (g.IsList 362 begV.toArray) := ⟨hbg⟩
  clear hbg
  refine lst_loop (fun i m => ∃ x u, m (Str.ofString "word") = some (.str x u) ∧ (∃ hd, headR (cp v) hd ∧ lawStem (cp v) hd = dropL (cp x)) ∧ x.length ≤ 1000 ∧ (begL.take i).find? (okL (cp x)) = none) rfl hbg'.out F2 N2 ⟨_, _, by rfl, hW, by omega, rfl⟩ ?_ ?_
  · rintro i vv m h tk own hi hown ⟨x, u, hm, hst, hxl, hfd⟩ F N
    clear F2 N2 ha hb hH hW
    obtain ⟨e, te, rfl, hei⟩ := StrsAre.item beg_strs i vv (by simpa using hi)
    have F : Fr g L' h (kstB m [(Str.ofString "start", .str e te), (Str.ofString "word", .str x u)]) := by
      have e : kstB m [(Str.ofString "start", .str e te), (Str.ofString "word", .str x u)] = fun y => if y = Str.ofString "start" then some (.str e te) else m y := by
        funext z
        show (if z = Str.ofString "start" then _ else (if z = Str.ofString "word" then _ else m z)) = _
        by_cases q : z = Str.ofString "word"
        · subst q; simp [hm]
        · simp [q]
      rw [e]; exact F
    have N : News g L' h own := N
    have hei' := beg_get hei
    have he10 : e.length ≤ 10 := (by decide +kernel : ∀ e ∈ begS, e.length ≤ 10) e (List.mem_of_getElem? hei)
    k_steps
    · obtain ⟨hd, hst, hst2⟩ := hst
      refine afterP_end hg (by assumption) rfl (by
        refine ⟨_, _, hd, rfl, hst, ?_⟩
        rw [hst2, find_yes hfd hei' (ok_eq (by assumption) (by assumption)), st_slice (by assumption)])
    · rename Fr g L' _ _ => F3
      rename News g L' _ _ => N3
      exact InvEndN.intro F3 N3 ⟨rfl, _, _, by rfl, hst, hxl, find_no hfd hei' (ok_eq (by assumption) (by assumption))⟩ rfl (fun p hp => by cases hp) (fun p hp => hp)
    · rename Fr g L' _ _ => F3
      rename News g L' _ _ => N3
      exact InvEndN.intro F3 N3 ⟨rfl, _, _, by rfl, hst, hxl, find_no hfd hei' (ok_no (by assumption))⟩ rfl (fun p hp => by cases hp) (fun p hp => hp)
  · rintro m h tk ⟨x, u, hm, ⟨hd, hst, hst2⟩, hxl, hfd⟩ F N
    clear F2 N2 ha hb hH hW
    have F : Fr g L' h (kstB m [(Str.ofString "word", .str x u)]) := fr_kst _ F (by simp [hm])
    have N : News g L' h [] := N
    k_steps
    refine afterP_end hg (by assumption) rfl (by
      refine ⟨_, _, hd, rfl, hst, ?_⟩
      rw [hst2]
      have e1 : headL (cp x) = none := hfd
      unfold dropL
      rw [e1])
end
end
section
section
variable {w : World} {base g : Heap} {mean : ExcName → Option Value} {mg mb : Str → Option Value} {dp un : Nat} {gd : Option (List Code)} {s : Shared} {L Lo x dx : Addr} {m : Str → Option Value} {env eo : Env} {es : List DictEntry} {n : Nat} {st : St} {oo : Obj}
theorem stemF {p1 p2 p3 p4 : Addr × Obj} {v : Str} {t : Nat} {Q E : Value → Shared → Prop}
    (X : (KF w.params).In base) (V : SetHere base) (T : Tp mean mg mb base) (Sg : base.StaysIn g) (F : Fr g L s.heap m) (N : News g L s.heap [p1, p2, p3, p4, (x, instObj 337 dx), (dx, dictOf es n), (Lo, oo)])
    (H : StE es st) (hdp : dp < 395) (hun : un < 3950) (hf : env.frame = some L) (hk : env.scope.kind = .function) (hfo : eo.frame = some Lo) (hko : eo.scope.kind ≠ .module) (hod : ∀ vs, oo.data ≠ .fields vs) (bo : base.get? Lo = none) (bx : base.get? x = none) (bd : base.get? dx = none)
    (hap : ∀ p ∈ [p1, p2, p3, p4], p.1 ≠ dx ∧ p.1 ≠ Lo) (hxd : x ≠ dx) (hxo : x ≠ Lo) (hdo : dx ≠ Lo) (hv : v.length ≤ 1000)
    (h : ∀ d u h' tk es' n' st' sl, StemW v d → Fr g L h' m → News g L h' [p1, p2, p3, p4, (x, instObj 337 dx), (dx, dictOf es' n'), (Lo, { oo with slots := sl })] → StE es' st' → Q (.str d u) { s with heap := h', toks := tk }) :
    wpAny (model pw w) (Ar (dp + 1) (un + 3) gd [env, eo]) (call (.ref 189) [.ref x, .str v t]) Q E s := by
  have bL : base.get? L = none := by
    cases q : base.get? L with
    | none => rfl
    | some o => exact absurd (Nat.lt_of_lt_of_le (Heap.lt_size (Sg L o q)) F.above) (Nat.lt_irrefl _)
  have gL : g.get? L = none := Heap.get?_none_of_le F.above
  have mx : (x, instObj 337 dx) ∈ [p1, p2, p3, p4, (x, instObj 337 dx), (dx, dictOf es n), (Lo, oo)] := by simp
  have md : (dx, dictOf es n) ∈ [p1, p2, p3, p4, (x, instObj 337 dx), (dx, dictOf es n), (Lo, oo)] := by simp
  have mo : (Lo, oo) ∈ [p1, p2, p3, p4, (x, instObj 337 dx), (dx, dictOf es n), (Lo, oo)] := by simp
  have Bw : Below (Ar (dp + 1) (un + 3) gd [env, eo]) base [env, eo] s.heap :=
    ⟨rfl, fun b o e => F.keep b o (Sg b o e), Heap.FunFrames.cons (by rw [hk]; decide) hf F.ns bL ⟨hko, ⟨Lo, oo, hfo, bo, (N _ mo).1, hod⟩, trivial⟩⟩
  have fr : ∀ e ∈ [env, eo], ∀ b, e.frame = some b → b = L ∨ b = Lo := fun e he b hb => by
    simp only [List.mem_cons, List.not_mem_nil, or_false] at he
    rcases he with rfl | rfl
    · rw [hf] at hb; exact .inl (Option.some.inj hb).symm
    · rw [hfo] at hb; exact .inr (Option.some.inj hb).symm
  have Sw : Sx base [env, eo] s.heap x dx st := by
    refine ⟨(N _ mx).1, ⟨es, n, (N _ md).1, H⟩, bx, bd, fun e he q => ?_, fun e he q => ?_, hxd⟩
    · rcases fr e he _ q with r | r
      · exact (N _ mx).2.1 r
      · exact hxo r
    · rcases fr e he _ q with r | r
      · exact (N _ md).2.1 r
      · exact hdo r
  refine wpAny_call (codeAny_mono (stemWord_spec ⟨X, V, T, Bw⟩ (by omega) (by omega) Sw hv) fun r s' hr => ?_)
  obtain ⟨v', h', tk, rfl, rfl, hkp, hsl, es', n', st', hd', H', d, u, rfl, hst⟩ := hr
  have nF : ∀ b, b ≠ L → b ≠ Lo → ¬ isF [env, eo] b := fun b h1 h2 ⟨e, he, hb⟩ => by
    rcases fr e he b hb with r | r
    · exact h1 r
    · exact h2 r
  obtain ⟨sl, hLo⟩ := hsl Lo oo ⟨eo, .tail _ (.head _), hfo⟩ (N _ mo).1
  refine h d u h' tk es' n' st' sl hst ⟨?_, fun b o e => ?_, F.above⟩ (fun p hp => ?_) H'
  · obtain ⟨oL, esL, epL, hL, hLd, hLr⟩ := F.ns
    obtain ⟨sl, hs⟩ := hsl L oL ⟨env, .head _, hf⟩ hL
    exact ⟨_, esL, epL, hs, hLd, hLr⟩
  · refine hkp b o (fun q => ?_) (nF b (fun q => ?_) (fun q => ?_)) (F.keep b o e)
    · rw [q, (N _ md).2.2] at e; cases e
    · rw [q, gL] at e; cases e
    · rw [q, (N _ mo).2.2] at e; cases e
  · have old : ∀ p ∈ [p1, p2, p3, p4], h'.get? p.1 = some p.2 ∧ p.1 ≠ L ∧ g.get? p.1 = none := fun p hp => by
      have hm : p ∈ [p1, p2, p3, p4, (x, instObj 337 dx), (dx, dictOf es n), (Lo, oo)] := List.mem_append_left [(x, instObj 337 dx), (dx, dictOf es n), (Lo, oo)] hp
      exact ⟨hkp _ _ (hap p hp).1 (nF _ (N p hm).2.1 (hap p hp).2) (N p hm).1, (N p hm).2⟩
    have hp' : p ∈ [p1, p2, p3, p4] ++ [(x, instObj 337 dx), (dx, dictOf es' n'), (Lo, { oo with slots := sl })] := hp
    rcases List.mem_append.mp hp' with hp | hp
    · exact old p hp
    · simp only [List.mem_cons, List.not_mem_nil, or_false] at hp
      rcases hp with rfl | rfl | rfl
      · exact ⟨hkp _ _ hxd (nF _ (N _ mx).2.1 hxo) (N _ mx).1, (N _ mx).2⟩
      · exact ⟨hd', (N _ md).2⟩
      · exact ⟨hLo, (N _ mo).2⟩
end
section
variable {w : World} {base : Heap} {mean : ExcName → Option Value} {mg mb : Str → Option Value} {dp un : Nat} {gd : Option (List Code)} {outer : List Env} {s : Shared}
set_option maxHeartbeats 4000000 in
theorem stemWords_spec {eo : Env} {Lo : Addr} {oo : Obj} (C : Cx w base mean mg mb dp un gd [eo] s.heap) (hdp : dp < 390) (hun : un < 3900) {x dx : Addr} {st : St} (S : Sx base [eo] s.heap x dx st) (hfo : eo.frame = some Lo) {wl : Addr} {vs : List Value} {ws : List Str} (hW : s.heap.IsList wl vs.toArray) (hS : StrsAre vs ws) (hv : ∀ v ∈ ws, v.length ≤ 1000) (hn : ws.length ≤ 100) (hwx : wl ≠ x) (hwd : wl ≠ dx) (hwo : wl ≠ Lo) (hoo : s.heap.get? Lo = some oo) :
    codeAny (model pw w) (Ar dp un gd [eo]) (.call (.ref 194) ⟨[.ref x, .ref wl], []⟩)
      (AfterW s Lo dx oo fun r h' => ∃ l us ds, r = .ref l ∧ s.heap.get? l = none ∧ h'.IsList l (List.toArray us) ∧ StrsAre us ds ∧ All2 StemW ws ds) s := by
  obtain ⟨X, V, T, B⟩ := C
  obtain ⟨hx, ⟨es, n, hd, H⟩, bx, bd, nx, nd, hxd⟩ := S
  obtain ⟨bo, o₁, ho₁, hod⟩ := B.frames.mem (isF_iff.mpr ⟨eo, .head _, hfo⟩)
  rw [hoo] at ho₁
  cases ho₁
  have hko : eo.scope.kind ≠ .module := B.frames.1
  have hxo : x ≠ Lo := fun q => nx eo (.head _) (q ▸ hfo)
  have hdo : dx ≠ Lo := fun q => nd eo (.head _) (q ▸ hfo)
  refine enterC [(x, instObj 337 dx), (dx, dictOf es n), (Lo, oo)] X T B.stays (by
      intro p hp
      simp only [List.mem_cons, List.not_mem_nil, or_false] at hp
      rcases hp with rfl | rfl | rfl
      · exact ⟨hx, bx⟩
      · exact ⟨hd, bd⟩
      · exact ⟨hoo, bo⟩) (look194 _) (code194 _) (Nat.lt_of_lt_of_le hdp (by decide)) (BindsTo.of_eq (binds := [(Str.ofString "self", .ref x), (Str.ofString "words", .ref wl)]) (by rfl)) (by rfl) (by decide +kernel) ?_ rfl rfl rfl
  intro g L' h₁ tk cells hg hgs F N Y Xg Tg Sg hlt
  conv in (execs _ _) => arg 1; whnf
  conv => (pattern (occs := *) stScope _) <;> whnf
  obtain ⟨oc, rfl, hoc⟩ := CellsAre.one Y
  have hoc : oc.data = .cell (some (.ref x)) := hoc
  have hWg : g.IsList wl vs.toArray := by obtain ⟨o, a, r⟩ := hW; exact ⟨o, hg _ _ a (by simp [hwx, hwd, hwo]), r⟩
  have hln := strs_len hS
  have hcx : L' + 1 ≠ dx ∧ L' + 1 ≠ Lo := by
    exact ⟨Nat.ne_of_gt (Nat.lt_succ_of_lt (hlt (dx, dictOf es n) (by simp))), Nat.ne_of_gt (Nat.lt_succ_of_lt (hlt (Lo, oo) (by simp)))⟩
  k_steps
  refine LCg.CompSrc.base rfl F N hWg (by rw [List.size_toArray]; exact Nat.le_trans (by omega) thousand_line) fun g' => ?_
  refine rest_ind vs.toArray.size (fun i ys news => ∃ es n st sl, news = [(L' + 1, oc), (x, instObj 337 dx), (dx, dictOf es n), (Lo, { oo with slots := sl })] ∧ StE es st ∧ ∃ ds, StrsAre ys ds ∧ All2 StemW (ws.take i) ds) ?_ ?_ _ 0 [] _ (by omega) ⟨es, n, st, oo.slots, rfl, H, [], .nil, .nil⟩
  · rintro i ys news hi ⟨es, n, st, sl, rfl, H, ds, hds, hall⟩ vv I oI C oC D m₂ h tk E' hvv hC hxx F N off ne
    obtain ⟨e, te, rfl, hei⟩ := StrsAre.item hS i vv (by simpa using hvv)
    have hel := hv e (List.mem_of_getElem? hei)
    have hap : ∀ p ∈ [(I, oI), (C, oC), (D, LCg.lst ys), (L' + 1, oc)], p.1 ≠ dx ∧ p.1 ≠ Lo := by
      obtain ⟨o1, o2, o3, o4, _⟩ := off
      intro p hp
      simp only [List.mem_cons, List.not_mem_nil, or_false] at hp
      rcases hp with rfl | rfl | rfl | rfl
      · exact ⟨Ne.symm o3.1, Ne.symm o4.1⟩
      · exact ⟨Ne.symm o3.2.1, Ne.symm o4.2.1⟩
      · exact ⟨Ne.symm o3.2.2, Ne.symm o4.2.2⟩
      · exact hcx
    k_steps
    refine stemF (dp := dp) (un := un) (eo := eo) (oo := { oo with slots := sl }) X V T Sg F N H (by omega) (by omega) rfl rfl hfo hko hod bo bx bd hap hxd hxo hdo hel ?_
    intro d u h' tk' es' n' st' sl' P' F' N' H'
    refine LCg.CompEnd.intro F' N' [(L' + 1, oc), (x, instObj 337 dx), (dx, dictOf es' n'), (Lo, { oo with slots := sl' })] (fun p hp => hp) off (Or.inl hWg) ⟨es', n', st', sl', rfl, H', ds ++ [d], StrsAre.append' hds (.cons _ _ .nil), ?_⟩
    rw [take_snoc hei]
    exact hall.snoc P'
  · rintro ys news ⟨es, n, st, sl, rfl, H, ds, hds, hall⟩
    k_steps
    rename News g L' _ _ => N3
    rename (_ ∧ _ ∧ _ ∧ _) => o3
    refine afterW_end hg hx (by assumption) N3 rfl ⟨_, _, ds, rfl, ?_, ⟨_, (N3 _ (.head _)).1, rfl, _, rfl⟩, hds, ?_⟩
    · obtain ⟨_, e2, e3, e4⟩ := o3
      rw [Option.eq_none_iff_forall_ne_some]
      intro o e
      have := hg _ _ e (by
        simp only [List.map_cons, List.map_nil, List.mem_cons, List.not_mem_nil, or_false, not_or]
        exact ⟨Ne.symm e2, Ne.symm e3, Ne.symm e4⟩)
      rw [(N3 _ (.head _)).2.2] at this; cases this
    · rwa [List.size_toArray, hln, List.take_length] at hall
end
end
section
section
variable {w : World} {base g : Heap} {mean : ExcName → Option Value} {mg mb : Str → Option Value} {dp un : Nat} {gd : Option (List Code)} {s : Shared} {L x dx : Addr} {m : Str → Option Value} {env : Env} {es : List DictEntry} {n : Nat} {st : St} {news : List (Addr × Obj)}
theorem sx_one (N : News g L s.heap news) (mx : (x, instObj 337 dx) ∈ news) (md : (dx, dictOf es n) ∈ news) (H : StE es st) (bx : base.get? x = none) (bd : base.get? dx = none) (hxd : x ≠ dx) (hf : env.frame = some L) : Sx base [env] s.heap x dx st := by
  refine ⟨(N _ mx).1, ⟨es, n, (N _ md).1, H⟩, bx, bd, fun e he q => ?_, fun e he q => ?_, hxd⟩
  · rw [List.mem_singleton.mp he, hf] at q
    exact (N _ mx).2.1 (Option.some.inj q).symm
  · rw [List.mem_singleton.mp he, hf] at q
    exact (N _ md).2.1 (Option.some.inj q).symm
theorem not_one {b : Addr} (hf : env.frame = some L) (hb : b ≠ L) : ¬ isF [env] b := fun ⟨e, he, q⟩ => by
  rw [List.mem_singleton.mp he, hf] at q
  exact hb (Option.some.inj q).symm
theorem stem0 {v : Str} {t : Nat} {Q E : Value → Shared → Prop} {up : Obj → List (Addr × Obj)} (Z : Px w base mean mg mb dp un gd [] g) (F : Fr g L s.heap m) (N : News g L s.heap news) (mx : (x, instObj 337 dx) ∈ news) (md : (dx, dictOf es n) ∈ news) (U : UpdF dx (dictOf es n) news up)
    (H : StE es st) (hdp : dp < 395) (hun : un < 3950) (hf : env.frame = some L) (hk : env.scope.kind = .function) (bx : base.get? x = none) (bd : base.get? dx = none) (hxd : x ≠ dx) (hv : v.length ≤ 1000)
    (h : ∀ d u h' tk es' n' st', StemW v d → Fr g L h' m → News g L h' (up (dictOf es' n')) → StE es' st' → Q (.str d u) { s with heap := h', toks := tk }) :
    wpAny (model pw w) (Ar (dp + 1) (un + 3) gd [env]) (call (.ref 189) [.ref x, .str v t]) Q E s := by
  have gL : g.get? L = none := Heap.get?_none_of_le F.above
  refine wpAny_call (codeAny_mono (stemWord_spec (Px.cx F Z hf hk) (by omega) (by omega) (sx_one N mx md H bx bd hxd hf) hv) fun r s' hr => ?_)
  obtain ⟨v', h', tk, rfl, rfl, hkp, hsl, es', n', st', hd', H', d, u, rfl, hst⟩ := hr
  refine h d u h' tk es' n' st' hst ⟨?_, fun b o e => ?_, F.above⟩ (fun p hp => ?_) H'
  · obtain ⟨oL, esL, epL, hL, hLd, hLr⟩ := F.ns
    obtain ⟨sl, hs⟩ := hsl L oL ⟨env, .head _, hf⟩ hL
    exact ⟨_, esL, epL, hs, hLd, hLr⟩
  · refine hkp b o (fun q => ?_) (not_one hf fun q => ?_) (F.keep b o e)
    · rw [q, (N _ md).2.2] at e; cases e
    · rw [q, gL] at e; cases e
  · obtain ⟨pre, post, e1, e2, a1, a2⟩ := (updF_upd U (dictOf es' n')).split
    rw [e2] at hp
    rcases List.mem_append.mp hp with hp | hp
    · have hm : p ∈ news := by rw [e1]; exact List.mem_append_left _ hp
      exact ⟨hkp _ _ (a1 p hp) (not_one hf (N p hm).2.1) (N p hm).1, (N p hm).2⟩
    · rcases List.mem_cons.mp hp with rfl | hp
      · exact ⟨hd', (N _ md).2⟩
      · have hm : p ∈ news := by rw [e1]; exact List.mem_append_right _ (.tail _ hp)
        exact ⟨hkp _ _ (a2 p hp) (not_one hf (N p hm).2.1) (N p hm).1, (N p hm).2⟩
theorem words0 {wl : Addr} {vs : List Value} {ws : List Str} {k : Nat} {Q E : Value → Shared → Prop} {rest : List (Addr × Obj)} (Z : Px w base mean mg mb dp un gd [] g) (F : Fr g L s.heap m) (N : News g L s.heap news) (mx : (x, instObj 337 dx) ∈ news) (md : (dx, dictOf es n) ∈ news)
    (mw : (wl, listOf vs.toArray k) ∈ news) (H : StE es st) (hdp : dp < 380) (hun : un < 3800) (hf : env.frame = some L) (hk : env.scope.kind = .function) (bx : base.get? x = none) (bd : base.get? dx = none) (hxd : x ≠ dx) (hS : StrsAre vs ws) (hv : ∀ v ∈ ws, v.length ≤ 1000) (hn : ws.length ≤ 100) (hwx : wl ≠ x) (hwd : wl ≠ dx)
    (hr : ∀ p ∈ rest, p ∈ news ∧ p.1 ≠ dx)
    (h : ∀ l o us nn ds h' tk, o.cls = .type "list" → o.data = .seq (List.toArray us) nn → StrsAre us ds → All2 StemW ws ds → Fr g L h' m → (∀ p ∈ rest, p.1 ≠ l) → News g L h' ((l, o) :: rest) → Q (.ref l) { s with heap := h', toks := tk }) :
    wpAny (model pw w) (Ar (dp + 1) (un + 3) gd [env]) (call (.ref 194) [.ref x, .ref wl]) Q E s := by
  have gL : g.get? L = none := Heap.get?_none_of_le F.above
  obtain ⟨oL, esL, epL, hL, hLd, hLr⟩ := F.ns
  refine wpAny_call (codeAny_mono (stemWords_spec (Px.cx F Z hf hk) (by omega) (by omega) (sx_one N mx md H bx bd hxd hf) hf ⟨_, (N _ mw).1, rfl, _, rfl⟩ hS hv hn hwx hwd (N _ mw).2.1 hL) fun r s' hr' => ?_)
  obtain ⟨v', h', tk, rfl, rfl, hkp, ⟨sl, hs⟩, l, us, ds, rfl, hnew, ⟨o, ho, hc, nn, hd⟩, hus, hall⟩ := hr'
  have hNr : News g L h' rest := fun p hp => by
    obtain ⟨h1, h2⟩ := hr p hp
    exact ⟨hkp _ _ h2 (N p h1).2.1 (N p h1).1, (N p h1).2⟩
  have hlL : l ≠ L := fun q => by rw [q, hL] at hnew; cases hnew
  have hlg : g.get? l = none := by
    cases q : g.get? l with
    | none => rfl
    | some o => rw [F.keep _ _ q] at hnew; cases hnew
  refine h l o us nn ds h' tk hc hd hus hall ⟨⟨_, esL, epL, hs, hLd, hLr⟩, fun b o e => ?_, F.above⟩ (fun p hp q => ?_) fun p hp => ?_
  · refine hkp b o (fun q => ?_) (fun q => ?_) (F.keep b o e)
    · rw [q, (N _ md).2.2] at e; cases e
    · rw [q, gL] at e; cases e
  · have := (N p (hr p hp).1).1
    rw [q, hnew] at this; cases this
  · rcases List.mem_cons.mp hp with rfl | hp
    · exact ⟨ho, hlL, hlg⟩
    · exact hNr p hp
end
end
section
section
variable {w : World} {base : Heap} {mean : ExcName → Option Value} {mg mb : Str → Option Value} {dp un : Nat} {gd : Option (List Code)} {outer : List Env} {s : Shared}
set_option maxHeartbeats 4000000 in
theorem set_new_spec (C : Cx w base mean mg mb dp un gd outer s.heap) (hdp : dp < 900) (hun : un < 9000) {x dx : Addr} (hx : s.heap.get? x = some (instObj 337 dx)) (hd : s.heap.get? dx = some (dictOf [] 0)) (bx : base.get? x = none) (bd : base.get? dx = none) (nx : ∀ env ∈ outer, env.frame ≠ some x) (nd : ∀ env ∈ outer, env.frame ≠ some dx) (hxd : x ≠ dx) {v : Str} {t : Nat} (hv : v.length ≤ 1000) :
    codeAny (model pw w) (Ar dp un gd outer) (.call (.ref 42) ⟨[.ref x, .str v t], []⟩)
      (After s dx fun r st' => r = .none ∧ st' = ⟨v, 0, v.length, 0, 0, v.length, none⟩) s := by
  obtain ⟨X, V, T, B⟩ := C
  refine enter [(x, instObj 337 dx), (dx, dictOf [] 0)] X T B (hid_ok hx hd bx bd nx nd) (look42 _) (code42 _) (Nat.lt_of_lt_of_le hdp (by decide)) (BindsTo.of_eq (binds := [(Str.ofString "self", .ref x), (Str.ofString "value", .str v t)]) (by rfl)) (locs rfl) ?_ (by decide) rfl rfl rfl
  intro g L' h₁ hg hgs hL F N Bg Xg Tg Sg
  conv in (execs _ _) => arg 1; whnf
  conv => (pattern (occs := *) stScope _) <;> whnf
  k_steps
  refine after_end hg hx (by assumption) (by assumption) ?H rfl ⟨rfl, rfl⟩
  refine ⟨fun e he => ?_, rfl, ⟨_, rfl⟩, ⟨_, rfl⟩, ⟨_, rfl⟩, ⟨_, rfl⟩, ⟨_, rfl⟩, ⟨_, rfl⟩, rfl⟩
  simp only [List.mem_cons, List.not_mem_nil, or_false] at he
  rcases he with rfl | rfl | rfl | rfl | rfl | rfl <;> exact ⟨_, _, rfl, by decide⟩
end
section
variable {w : World} {base : Heap} {mean : ExcName → Option Value} {mg mb : Str → Option Value} {dp un : Nat} {gd : Option (List Code)} {outer : List Env} {s : Shared}
set_option maxHeartbeats 4000000 in
theorem init_spec (C : Cx w base mean mg mb dp un gd outer s.heap) (hdp : dp < 800) (hun : un < 8000) {x dx : Addr} (hx : s.heap.get? x = some (instObj 337 dx)) (hd : s.heap.get? dx = some (dictOf [] 0)) (bx : base.get? x = none) (bd : base.get? dx = none) (nx : ∀ env ∈ outer, env.frame ≠ some x) (nd : ∀ env ∈ outer, env.frame ≠ some dx) (hxd : x ≠ dx) :
    codeAny (model pw w) (Ar dp un gd outer) (.call (.ref 35) ⟨[.ref x], []⟩)
      (After s dx fun r st' => r = .none ∧ st' = ⟨Str.ofString "", 0, (Str.ofString "").length, 0, 0, (Str.ofString "").length, none⟩) s := by
  obtain ⟨X, V, T, B⟩ := C
  refine enter [(x, instObj 337 dx), (dx, dictOf [] 0)] X T B (hid_ok hx hd bx bd nx nd) (look35 _) (code35 _) (Nat.lt_of_lt_of_le hdp (by decide)) (BindsTo.of_eq (binds := [(Str.ofString "self", .ref x)]) (by rfl)) (locs rfl) ?_ (by decide) rfl rfl rfl
  intro g L' h₁ hg hgs hL F N Bg Xg Tg Sg
  conv in (execs _ _) => arg 1; whnf
  conv => (pattern (occs := *) stScope _) <;> whnf
  have Z : Zx w base mean mg mb dp un gd outer g x dx := ⟨Bg, X, V, T, bx, bd, nx, nd, hxd⟩
  k_steps
  have M : ∀ e ∈ envOf (Str.ofString "BaseStemmer.__init__") (stScope (st2 2 0)) L' 35 (.ref 34) :: outer, e.frame ≠ some x ∧ e.frame ≠ some dx := fun e he => by
    rcases List.mem_cons.mp he with rfl | he
    · exact ⟨fun q => (N _ (.head _)).2.1 (Option.some.inj q).symm, fun q => (N _ (.tail _ (.head _))).2.1 (Option.some.inj q).symm⟩
    · exact ⟨nx e he, nd e he⟩
  refine call_after (set_new_spec (Zx.cx F Z rfl rfl) (by omega) (by omega) (N _ (.head _)).1 (N _ (.tail _ (.head _))).1 bx bd (fun e he => (M e he).1) (fun e he => (M e he).2) hxd (by decide)) F N (.tail _ (.head _)) (by k_updF) ?_
  intro v' h' tk' es' n' st' P' F' N' H'
  obtain ⟨a', b'⟩ := P'
  subst a'; subst b'
  k_steps
  exact after_end hg hx F' N' H' rfl ⟨rfl, rfl⟩
end
theorem under_call (dp un : Nat) (gd : Option (List Code)) (outer : List Env) : ∃ d u gd', (Ar dp un gd outer).under (.builtin "type.__call__" ⟨[.ref 337], []⟩) = Ar d u gd' outer ∧ d ≤ dp + 5 ∧ u ≤ un + 5 := by
  refine ⟨_, _, _, rfl, ?_, ?_⟩
  · show dp + (Code.builtin "type.__call__" ⟨[.ref 337], []⟩).weight ≤ dp + 5
    exact Nat.add_le_add_left (by decide +kernel) _
  · show un + (Code.builtin "type.__call__" ⟨[.ref 337], []⟩).cUnits ≤ un + 5
    exact Nat.add_le_add_left (by decide +kernel) _
theorem stm_makes (P : Params) : makesIn (KF P) 337 = true := by kernel_rfl
theorem stm_init (P : Params) : findIn (KF P) (.ref 337) (Str.ofString "__init__") = some (some (.ref 35)) := by kernel_rfl
theorem stm_isfn (P : Params) : isFn (KF P) (.ref 35) = true := by kernel_rfl
section
variable {w : World} {base g : Heap} {mean : ExcName → Option Value} {mg mb : Str → Option Value} {dp un : Nat} {gd : Option (List Code)} {s : Shared} {L : Addr} {m : Str → Option Value} {env : Env} {outer : List Env} {news : List (Addr × Obj)}
theorem make_stemmer {Q E : Value → Shared → Prop} (Z : Px w base mean mg mb dp un gd outer g) (Xg : (KF w.params).In g) (F : Fr g L s.heap m) (N : News g L s.heap news) (hf : env.frame = some L) (hk : env.scope.kind = .function) (hdp : dp < 700) (hun : un < 7000)
    (h : ∀ x dx h' tk es n st, Fr g L h' m → News g L h' ((x, instObj 337 dx) :: (dx, dictOf es n) :: news) → StE es st → (∀ p ∈ news, @LT.lt Nat _ p.1 dx) → @LT.lt Nat _ dx x → base.get? x = none → base.get? dx = none → Q (.ref x) { s with heap := h', toks := tk }) :
    wpAny (model pw w) (Ar (dp + 1) (un + 3) gd (env :: outer)) (call (.ref 337) [] []) Q E s := by
  refine call_cls F Xg N (stm_makes _) (stm_init _) (stm_isfn _) fun x dx h' F' N' l1 l2 => ?_
  obtain ⟨d, u, gd', e, hd, hu⟩ := under_call (dp + 1) (un + 3) gd (env :: outer)
  rw [e]
  have C : Cx w base mean mg mb d u gd' (env :: outer) h' := by
    have C' := Px.cx F' Z hf hk
    exact ⟨C'.X, C'.V, C'.T, ⟨rfl, C'.B.stays, C'.B.frames⟩⟩
  have bb : ∀ {a : Addr}, g.get? a = none → base.get? a = none := fun {a} q => by
    cases q' : base.get? a with
    | none => rfl
    | some o => rw [Z.B.stays _ _ q'] at q; cases q
  have hx := N' _ (.head _)
  have hdx := N' _ (.tail _ (.head _))
  have fr : ∀ e ∈ env :: outer, ∀ b, e.frame = some b → b = L ∨ ∃ o, g.get? b = some o := fun e he b hb => by
    rcases List.mem_cons.mp he with rfl | he
    · rw [hf] at hb; exact .inl (Option.some.inj hb).symm
    · obtain ⟨_, o, ho, _⟩ := Z.B.frames.mem (isF_iff.mpr ⟨e, he, hb⟩)
      exact .inr ⟨o, ho⟩
  have hdl : d < 800 := by omega
  have hul : u < 8000 := by omega
  refine codeAny_mono (init_spec (s := { s with heap := h' }) C hdl hul hx.1 hdx.1 (bb hx.2.2) (bb hdx.2.2) (fun e he q => ?_) (fun e he q => ?_) (Nat.ne_of_gt l2)) fun r s' hr => ?_
  · rcases fr e he _ q with q | ⟨o, q⟩
    · exact hx.2.1 q
    · rw [hx.2.2] at q; cases q
  · rcases fr e he _ q with q | ⟨o, q⟩
    · exact hdx.2.1 q
    · rw [hdx.2.2] at q; cases q
  obtain ⟨v, h'', tk, rfl, rfl, hkp, es, n, st, hd', H', rfl, hst⟩ := hr
  refine ⟨rfl, h x dx h'' tk es n st (fr_after F' hkp hdx.2.2 hdx.2.1) (news_after N' (.tail (Nat.ne_of_gt l2) (.head fun p hp => Nat.ne_of_lt (l1 p hp))) hkp hd') H' l1 l2 (bb hx.2.2) (bb hdx.2.2)⟩
end
end
section
local macro_rules | `(tactic| walk_at "pyIter ref") => `(tactic| (k_here; refine it_stop ?_))
local macro_rules | `(tactic| walk_at "call ref") => `(tactic| (k_here; (with_reducible show wpAny _ _ (call (Value.ref 388) _) _ _ _); refine it_stop ?_))
local macro_rules | `(tactic| walk_at "call ref") => `(tactic| (k_here; (with_reducible show wpAny _ _ (call (Value.ref 194) _) _ _ _); refine it_stop ?_))
local macro_rules | `(tactic| walk_at "call ref") => `(tactic| (k_here; (with_reducible show wpAny _ _ (call (Value.ref 189) _) _ _ _); refine it_stop ?_))
local macro_rules | `(tactic| walk_at "compareOp NotEq ref ref") => `(tactic| (k_here; (with_reducible show wpAny _ _ (compareOp _ (Value.ref _) (Value.ref _)) _ _ _); refine it_stop ?_))
local macro_rules | `(tactic| walk_at "compareOp Eq ref ref") => `(tactic| (k_here; (with_reducible show wpAny _ _ (compareOp _ (Value.ref _) (Value.ref _)) _ _ _); refine it_stop ?_))
theorem look393 (P : Params) : (KF P).lookup 393 = some ⟨.type "function", none, .func (fnOf (Str.ofString "law") (Str.ofString "law") (stParams (st1 18)) (stBody (st1 18)) (stScope (st1 18)) .none .none .none (.str (Str.ofString "law_iu0020_01") 885) none (.ref 392) .none), #[]⟩ := by kernel_rfl
theorem code393 (P : Params) : codeIn (KF P) (.ref 392) (Str.ofString "law") = true := by kernel_rfl
local macro_rules | `(tactic| walk_at "exec For") => `(tactic| (k_here; (with_reducible show wpAny _ _ (exec (Stmt.For (Expr.Name _ _) (Expr.Subscript _ _ _) _ [] _) _) _ _ _); (rename Fr _ _ _ _ => lF'); (with_unfolding_all refine' For_invVF lF' ?k1 ?k2 ?_; (case k1 => exact rfl); (case k2 => exact rfl))))
theorem ints_item : ∀ {vs : List Value} {ns : List Int} {i : Nat} {v : Value}, IntsAre vs ns → vs[i]? = some v → ∃ q t, v = .int q t
  | _, _, 0, v, .cons q t _, e => by simp at e; exact ⟨q, t, e.symm⟩
  | _, _, i + 1, v, .cons _ _ h, e => ints_item h (by simpa using e)
theorem strs_set {y : Str} {t : Nat} : ∀ {vs : List Value} {ys : List Str}, StrsAre vs ys → ∀ j : Nat, StrsAre (vs.set j (.str y t)) (ys.set j y)
  | _, _, .nil, _ => .nil
  | _, _, .cons _ _ h, 0 => .cons y t h
  | _, _, .cons a u h, j + 1 => .cons a u (strs_set h j)
theorem strs_at {vs : List Value} {ys : List Str} (h : StrsAre vs ys) {j : Nat} (hj : j < ys.length) : ∃ e t, vs.toArray[j]? = some (.str e t) ∧ e ∈ ys := by
  obtain ⟨t, ht⟩ := h.at (List.getElem?_eq_getElem hj)
  exact ⟨_, t, by simpa using ht, List.getElem_mem hj⟩
theorem put_eq {vs : List Value} {v : Value} : vs.toArray.setIfInBounds (vs.toArray.size - 1) v = (vs.set (vs.length - 1) v).toArray := by
  apply Array.toList_inj.mp
  simp
local macro_rules | `(tactic| walk_at "eval ListComp") => `(tactic| (k_here; (with_reducible show wpAny _ _ (eval (Expr.ListComp (Expr.Call (Expr.Name _ _) _ _ _) _ _ _) _) _ _ _); refine it_stop ?_))
theorem push_lst {a : Addr} {wv : List Value} {v : Value} {n : Nat} {x y : Addr × Obj} : [(a, listOf (wv.toArray.push v) n), x, y] = [(a, listOf (wv ++ [v]).toArray n), x, y] := by rw [List.push_toArray]
theorem set_lst {a : Addr} {wv : List Value} {v : Value} {n : Nat} {x y : Addr × Obj} : [(a, listOf (wv.toArray.setIfInBounds (wv.toArray.size - 1) v) n), x, y] = [(a, listOf (wv.set (wv.length - 1) v).toArray n), x, y] := by rw [put_eq]
theorem turn_end {g h' : Heap} {L l P c : Addr} {m' : Str → Option Value} {J : (Str → Option Value) → List (Addr × Obj) → Prop} {o oP oc : Obj} {own : List (Addr × Obj)} {s₁ : Shared} {tk : Nat} (F : Fr g L h' m') (N : News g L h' ((l, o) :: (P, oP) :: (c, oc) :: own)) (hj : J m' [(l, o), (P, oP), (c, oc)]) :
    InvEndN g L J own [l, P, c] s₁ { s₁ with heap := h', toks := tk } :=
  InvEndN.intro F N hj rfl (fun p hp => List.mem_append_left own hp) (fun p hp => .tail _ (.tail _ (.tail _ hp)))
section
variable {w : World} {base : Heap} {mean : ExcName → Option Value} {mg mb : Str → Option Value} {dp un : Nat} {gd : Option (List Code)} {s : Shared}
set_option maxHeartbeats 8000000 in
theorem law_spec (C : Cx w base mean mg mb dp un gd [] s.heap) (hdp : dp < 305) (hun : un < 10) {sl : Addr} {vs : List Value} {ns : List Int} (hL : s.heap.IsList sl vs.toArray) (hI : IntsAre vs ns) (hn : ns.length ≤ 63) :
    codeAny (model pw w) (Ar dp un gd []) (.call (.ref 393) ⟨[.ref sl], []⟩)
      (AfterP s fun r h => r = .bool true) s := by
  obtain ⟨X, V, T, B⟩ := C
  refine enterC [] X T B.stays (by simp) (look393 _) (code393 _) (Nat.lt_of_lt_of_le hdp (by decide)) (BindsTo.of_eq (binds := [(Str.ofString "script", .ref sl)]) (by rfl)) (by rfl) (by decide +kernel) ?_ rfl rfl rfl
  intro g L' h₁ tk cells hg hgs F N Y Xg Tg Sg hlt
  conv in (execs _ _) => arg 1; whnf
  conv => (pattern (occs := *) stScope _) <;> whnf
  obtain ⟨oc, rfl, hoc⟩ := CellsAre.one Y
  have hoc : oc.data = .cell none := hoc
  have hLg : g.IsList sl vs.toArray := by obtain ⟨o, a, r⟩ := hL; exact ⟨o, hg _ _ a (by simp), r⟩
  have Bg : Below (Ar dp un gd []) base [] g := ⟨rfl, Sg, trivial⟩
  have Z : Px w base mean mg mb dp un gd [] g := ⟨Bg, X, V, T⟩
  k_steps
  refine add_listsG F N (keepL (noun_at Xg) F) (keepL (verb_at Xg) F) (by decide) ?_
  intro P2 h2 hlt2 F2 N2
  k_steps
  refine add_listsG F2 N2 ⟨_, (N2 _ (.head _)).1, rfl, _, rfl⟩ (keepL (beg_at Xg) F2) (by decide) ?_
  intro P3 h3 hlt3 F3 N3
  have N3 : News g L' h3 [(P3, listOf (nounV ++ verbV ++ begV).toArray 0), (L' + 1, oc)] := fun p hp => by
    simp only [List.mem_cons, List.not_mem_nil, or_false] at hp
    rcases hp with rfl | rfl
    · exact N3 _ (.head _)
    · exact N3 _ (.tail _ (.tail _ (.head _)))
  clear F N F2 N2 hlt2 hlt3
  k_steps
  rename CarriedAll _ _ => hc
  rename News g L' _ _ => N4
  rename Fr g L' _ _ => F4
  clear N3
  rename NewPlain _ _ _ _ => hpl
  rename (Heap.IsList _ _ _) => hDl
  have hly := StrsAre.of_carried hc
  clear hc
  have hS3 := StrsAre.append' (StrsAre.append' (StrsAre.append' noun_strs verb_strs) beg_strs) hly
  generalize hls : List.filter _ _ = LS at hly hS3
  have hl1 : LS.length = 31 := by rw [← hls]; decide +kernel
  have hl5 : ∀ e ∈ LS, e.length ≤ 5 := by rw [← hls]; decide +kernel
  have hq5 : ∀ e ∈ nounS ++ verbS ++ begS, e.length ≤ 5 := by decide +kernel
  have hq1 : (nounS ++ verbS ++ begS).length = 22 := by decide +kernel
  generalize nounS ++ verbS ++ begS = QS at hS3 hq5 hq1
  have hPS5 : ∀ e ∈ QS ++ LS, e.length ≤ 5 := fun e he => (List.mem_append.mp he).elim (hq5 e) (hl5 e)
  have hPS : (QS ++ LS).length = 53 := by rw [List.length_append]; omega
  have hly1 := strs_len hly
  refine add_listsG F4 N4 ⟨_, (N4 _ (.head _)).1, rfl, _, rfl⟩ hDl (by
    rw [hly1, hl1]; decide) ?_
  intro P h5 hlt5 F5 N5
  generalize nounV ++ verbV ++ begV ++ _ = pv at hS3 N5
  generalize QS ++ LS = PS at hS3 hPS5 hPS
  clear hly hls hl1 hl5 hq5 hq1 hly1 hDl hpl F4
  have N5 : News g L' h5 [(P, listOf pv.toArray 0), (L' + 1, oc)] := fun p hp => by
    simp only [List.mem_cons, List.not_mem_nil, or_false] at hp
    rcases hp with rfl | rfl
    · exact N5 _ (.head _)
    · exact N5 _ (.tail _ (.tail _ (.head _)))
  have hP3 : @LT.lt Nat _ (L' + 1) P := hlt5 _ (.tail _ (.head _))
  clear N4 hlt5
  have hpv : pv.length = 53 := by rw [strs_len hS3, hPS]
  have hS3' : Box (StrsAre pv PS) := ⟨hS3⟩
  clear hS3
  k_steps
  unfold ItStop
  rename News g L' _ _ => N6
  rename Fr g L' _ _ => F6
  rename IntsAre _ (List.take _ _) => hI6
  rename_i h90 l9 h91 l91 h92 D9 ws9 h9 hC9 hL9 l19
  have hI6' : Box (IntsAre ws9 (List.take 40 ns)) := ⟨hI6⟩
  have hns9 : (List.take 40 ns).length ≤ 40 := by rw [List.length_take]; omega
  clear hI6
  have N7 : News g L' h9 [(l9, listOf #[Value.str (Str.ofString "") _] 0), (P, listOf pv.toArray 0), (L' + 1, oc)] := fun p hp => N6 p (.tail _ hp)
  refine made_loop (l := D9) (fun i m nx => ∃ wv WS n, nx = [(l9, listOf (List.toArray wv) n), (P, listOf pv.toArray 0), (L' + 1, oc)] ∧ StrsAre wv WS ∧ 0 < WS.length ∧ WS.length ≤ i + 1 ∧ (∀ e ∈ WS, e.length ≤ 5 * i) ∧ m (Str.ofString "words") = some (.ref l9) ∧ m (Str.ofString "pieces") = some (.ref P)) rfl ⟨_, (N6 _ (.head _)).1, rfl, _, rfl⟩ (N6 _ (.head _)).2.1 ?k3 F6 N7 ?k4 ?_ ?_
  case k3 =>
      intro p hp
      simp only [List.mem_cons, List.not_mem_nil, or_false] at hp
      rcases hp with rfl | rfl | rfl
      · exact Nat.ne_of_lt l19.1
      · exact Nat.ne_of_lt l19.2.1
      · exact Nat.ne_of_lt l19.2.2
  case k4 => exact ⟨_, [Str.ofString ""], 0, rfl, .cons _ _ .nil, by decide, by decide, by decide +kernel, by rfl, by rfl⟩
  · rintro i v m nx h tk own hv hown ⟨wv, WS, n, rfl, hS, hW0, hWl, hW5, hmw, hmp⟩ F N
    clear F6 N6
    obtain ⟨q, tq, rfl⟩ : ∃ q t, v = .int q t := ints_item hI6'.out (by simpa using hv)
    have hi : i < 40 := by
      have h1 := (List.getElem?_eq_some_iff.mp (by simpa using hv : ws9[i]? = _)).1
      exact Nat.lt_of_lt_of_le h1 (Nat.le_trans (Nat.le_of_eq hI6'.out.length) hns9)
    have F : Fr g L' h (kstB m [(Str.ofString "number", .int q tq), (Str.ofString "words", .ref l9), (Str.ofString "pieces", .ref P)]) := by
      have e : kstB m [(Str.ofString "number", .int q tq), (Str.ofString "words", .ref l9), (Str.ofString "pieces", .ref P)] = fun y => if y = Str.ofString "number" then some (.int q tq) else m y := by
        funext z
        show (if z = Str.ofString "number" then _ else (if z = Str.ofString "words" then _ else (if z = Str.ofString "pieces" then _ else m z))) = _
        by_cases q1 : z = Str.ofString "words"
        · subst q1; simp [hmw]
        · by_cases q2 : z = Str.ofString "pieces"
          · subst q2; simp [hmp, (by decide : Str.ofString "pieces" ≠ Str.ofString "words")]
          · simp [q1, q2]
      rw [e]; exact F
    have N : News g L' h ((l9, listOf (List.toArray wv) n) :: (P, listOf pv.toArray 0) :: (L' + 1, oc) :: own) := N
    have hown : OwnOff own [l9, P, L' + 1] := hown
    have hwv : wv.length = WS.length := strs_len hS
    have hpS : pv.toArray.size = 53 := by rw [List.size_toArray, hpv]
    have hS' : Box (StrsAre wv WS) := ⟨hS⟩
    clear hS hv
    have hlast := strs_at hS'.out (j := WS.length - 1) (by omega)
    obtain ⟨e, te, hel, hem⟩ := hlast
    have he5 := hW5 e hem
    have hsz : 0 < wv.toArray.size := by rw [List.size_toArray]; omega
    have hqe : q.fmod 64 = q % 64 := Int.fmod_eq_emod_of_nonneg q (by decide)
    have hq0 : 0 ≤ q.fmod 64 := by rw [hqe]; exact Int.emod_nonneg _ (by decide)
    k_steps
    · rename News g L' _ _ => N3
      refine get_lastN (its := wv.toArray) N3 (.head _) hsz (by rw [List.size_toArray, hwv]; exact hel) ?_
      k_steps
      rename q.fmod _ < _ => hq1
      obtain ⟨p, tp, hpk, hpm⟩ := strs_at hS3'.out (j := (q.fmod 64).toNat) (by omega)
      have hp5 := hPS5 p hpm
      refine get_atN (its := pv.toArray) N3 (.tail _ (.head _)) hq0 (by omega) hpk ?_
      k_steps
      rename Fr g L' _ _ => F3
      refine put_lastN F3 N3 (by k_upd) hsz ?_
      intro h4 F4 N4
      k_steps
      refine turn_end F4 N4 ⟨_, _, _, set_lst, strs_set hS'.out _, by rw [List.length_set]; exact hW0, by rw [List.length_set]; omega, fun e' he' => ?_, by first | rfl | exact hmw, by first | rfl | exact hmp⟩
      rcases List.mem_or_eq_of_mem_set he' with he' | he'
      · have := hW5 e' he'; omega
      · rw [he', Str.length_append]; omega
    · rename Fr g L' _ _ => F3
      rename News g L' _ _ => N3
      refine turn_end F3 N3 ⟨_, WS ++ [Str.ofString ""], _, push_lst, StrsAre.append' hS'.out (.cons _ _ .nil), by rw [List.length_append]; omega, by rw [List.length_append]; simpa using hWl, fun e he => ?_, by first | rfl | exact hmw, by first | rfl | exact hmp⟩
      rcases List.mem_append.mp he with he | he
      · have := hW5 e he; omega
      · rw [List.mem_singleton.mp he]; exact Nat.le_trans (by decide +kernel : (Str.ofString "").length ≤ 0) (Nat.zero_le _)
  · rintro m nx h tk ⟨wv, WS, n, rfl, hS, hW0, hWl, hW5, hmw, hmp⟩ F N
    clear F6 N6
    replace F : Fr g L' h (kstB m [(Str.ofString "words", .ref l9), (Str.ofString "pieces", .ref P)]) := fr_kst _ F (by simp [hmw, hmp])
    replace N : News g L' h [(l9, listOf (List.toArray wv) n), (P, listOf pv.toArray 0), (L' + 1, oc)] := N
    have hS' : Box (StrsAre wv WS) := ⟨hS⟩
    clear hS
    k_steps
    refine make_stemmer (dp := dp) (un := un) Z Xg F N rfl rfl (by omega) (by omega) ?_
    intro x dx h4 tk4 es nd st F4 N4 H4 l1 l2 bx bd
    have m1 : @LT.lt Nat _ l9 dx := l1 _ (.head _)
    have m2 : @LT.lt Nat _ P dx := l1 _ (.tail _ (.head _))
    have m3 : @LT.lt Nat _ (L' + 1) dx := l1 _ (.tail _ (.tail _ (.head _)))
    clear l1
    k_steps
    rename News g L' _ _ => N5
    rename Fr g L' _ _ => F5
    rename (Obj.data _ = Data.cell (some _)) => hoc5
    rename_i h5' o5
    have hxd : x ≠ dx := Nat.ne_of_gt l2
    have hwl := strs_len hS'.out
    have hWS : WS.length ≤ 41 := w_bound (n := 40) (by rw [List.size_toArray] at hWl; exact hWl) hI6'.out.length hns9
    have hWL : ∀ e ∈ WS, e.length ≤ 200 := fun e he => l_bound (n := 40) (by have h1 := hW5 e he; rw [List.size_toArray] at h1; exact h1) hI6'.out.length hns9
    refine LCg.CompSrc.ledger rfl F5 N5 (.tail _ (.tail _ (.head _))) (by rw [List.size_toArray]; exact Nat.le_trans (by omega) thousand_line) fun g' => ?_
    refine rest_ind wv.toArray.size (fun i ys news => ∃ es nd st, news = [(x, instObj 337 dx), (dx, dictOf es nd), (l9, listOf wv.toArray n), (P, listOf pv.toArray 0), (L' + 1, o5)] ∧ StE es st ∧ ∃ ds, StrsAre ys ds ∧ All2 StemW (WS.take i) ds) ?_ ?_ _ 0 [] _ (by omega) ⟨es, nd, st, rfl, H4, [], .nil, .nil⟩
    · rintro i ys news hi ⟨es, nd, st, rfl, H, ds, hds, hall⟩ vv I oI C oC D m₂ h tk E' hvv hC hxx F N off ne
      obtain ⟨e, te, rfl, hei⟩ := StrsAre.item hS'.out i vv (by simpa using hvv)
      have hel := hWL e (List.mem_of_getElem? hei)
      k_steps
      unfold ItStop
      have off' := off
      simp only [LCg.Off3, and_true] at off'
      refine stem0 (dp := dp) (un := un) Z F N (.tail _ (.tail _ (.tail _ (.head _)))) (.tail _ (.tail _ (.tail _ (.tail _ (.head _))))) (by k_updF) H (by omega) (by omega) rfl rfl bx bd hxd (by omega) ?_
      intro d u h' tk' es' n' st' P' F' N' H'
      refine LCg.CompEnd.intro F' N' [(x, instObj 337 dx), (dx, dictOf es' n'), (l9, listOf wv.toArray n), (P, listOf pv.toArray 0), (L' + 1, o5)] (fun p hp => hp) off (Or.inr ⟨_, .tail _ (.tail _ (.head _)), rfl, _, rfl⟩) ⟨es', n', st', rfl, H', ds ++ [d], StrsAre.append' hds (.cons _ _ .nil), ?_⟩
      rw [take_snoc hei]
      exact hall.snoc P'
    · rintro ys news ⟨es, nd, st, rfl, H, ds, hds, hall⟩
      rw [List.size_toArray, hwl, List.take_length] at hall
      have hdsl := hall.len
      clear F5 N5
      k_steps
      unfold ItStop
      rename News g L' _ _ => N6
      rename Fr g L' _ _ => F6
      refine LCg.ListComp_U (F₀ := F6) (by with_unfolding_all rfl) (by decide) (by rfl) (by decide) (by rfl) ?_
      k_steps
      rename (_ ∧ _ ∧ _ ∧ _ ∧ _) => o6
      rename_i D6 h6 tk6
      refine LCg.CompSrc.ledger rfl F6 N6 (.tail _ (.tail _ (.tail _ (.head _)))) (by rw [List.size_toArray]; exact Nat.le_trans (by omega) thousand_line) fun g' => ?_
      refine rest_ind wv.toArray.size (fun i zs news => news = [(D6, LCg.lst ys), (x, instObj 337 dx), (dx, dictOf es nd), (l9, listOf wv.toArray n), (P, listOf pv.toArray 0), (L' + 1, o5)] ∧ ∃ ls, StrsAre zs ls ∧ All2 LawW (WS.take i) ls) ?_ ?_ _ 0 [] _ (by omega) ⟨rfl, [], .nil, .nil⟩
      · rintro i zs news hi ⟨rfl, ls, hls, hal⟩ vv I oI C oC D m₂ h tk E' hvv hC hxx F N off ne
        obtain ⟨e, te, rfl, hei⟩ := StrsAre.item hS'.out i vv (by simpa using hvv)
        have hel := hWL e (List.mem_of_getElem? hei)
        clear N6 F6
        k_steps
        unfold ItStop
        refine call_pure (lawStem_spec (dp := dp + 1) (un := un + 3) (Px.cx F Z rfl rfl) (by omega) (by omega) (by omega)) F N ?_
        intro v' h' tk' P' F' N'
        obtain ⟨d, u, hd, rfl, hh1, hh2⟩ := P'
        refine LCg.CompEnd.intro F' N' [(D6, LCg.lst ys), (x, instObj 337 dx), (dx, dictOf es nd), (l9, listOf wv.toArray n), (P, listOf pv.toArray 0), (L' + 1, o5)] (fun p hp => hp) off (Or.inr ⟨_, .tail _ (.tail _ (.tail _ (.head _))), rfl, _, rfl⟩) ⟨rfl, ls ++ [d], StrsAre.append' hls (.cons _ _ .nil), ?_⟩
        rw [take_snoc hei]
        exact hal.snoc ⟨hd, hh1, hh2⟩
      · rintro zs news ⟨rfl, ls, hls, hal⟩
        rw [List.size_toArray, hwl, List.take_length] at hal
        have hEq : ds = ls := All2.eq hall hal fun a b c => stem_is
        subst hEq
        clear N6 F6
        k_steps
        unfold ItStop
        rename News g L' _ _ => N7
        rename Fr g L' _ _ => F7
        refine ne_strs ⟨_, (N7 _ (.tail _ (.head _))).1, rfl, _, rfl⟩ ⟨_, (N7 _ (.head _)).1, rfl, _, rfl⟩ hds hls (by show un + 3 < 9900; omega) ?_
        rw [decide_eq_true rfl, Bool.not_true]
        replace N7 := (fun p hp => N7 p (.tail _ hp) : News g L' _ [(D6, LCg.lst ys), (x, instObj 337 dx), (dx, dictOf es nd), (l9, listOf wv.toArray n), (P, listOf pv.toArray 0), (L' + 1, o5)])
        k_steps
        unfold ItStop
        have hdL : ∀ e ∈ ds, e.length ≤ 200 := All2.all (P := fun e => e.length ≤ 200) hall (fun a b r h => Nat.le_trans (stemW_len r) h) hWL
        refine words0 (dp := dp) (un := un) (vs := ys) (ws := ds) (rest := [(D6, LCg.lst ys)]) Z F7 N7 (.tail _ (.head _)) (.tail _ (.tail _ (.head _))) (.head _) H (by omega) (by omega) rfl rfl bx bd hxd hds (fun e he => Nat.le_trans (hdL e he) (by decide)) (by omega) (Ne.symm o6.1) (Ne.symm o6.2.1) (fun p hp => by
          rw [List.mem_singleton.mp hp]; exact ⟨.head _, Ne.symm o6.2.1⟩) ?_
        intro l o us nn ds2 h8 tk8 hlc hld hus hall2 F8 hne8 N8
        clear N7
        k_steps
        unfold ItStop
        refine LCg.ListComp_U (F₀ := F8) (by with_unfolding_all rfl) (by decide) (by rfl) (by decide) (by rfl) ?_
        k_steps
        refine LCg.CompSrc.ledger rfl F8 N8 (.tail _ (.head _)) (by rw [List.size_toArray, strs_len hds]; exact Nat.le_trans (by omega) thousand_line) fun g' => ?_
        refine rest_ind ys.toArray.size (fun i zs news => news = [(l, o), (D6, LCg.lst ys)] ∧ ∃ ls, StrsAre zs ls ∧ All2 LawW (ds.take i) ls) ?_ ?_ _ 0 [] _ (by omega) ⟨rfl, [], .nil, .nil⟩
        · rintro i zs news hi ⟨rfl, ls, hls, hal⟩ vv I oI C oC D m₂ h tk E' hvv hC hxx F N off ne
          obtain ⟨e, te, rfl, hei⟩ := StrsAre.item hds i vv (by simpa using hvv)
          have hel := hdL e (List.mem_of_getElem? hei)
          clear N8 F8
          k_steps
          unfold ItStop
          refine call_pure (lawStem_spec (dp := dp + 1) (un := un + 3) (Px.cx F Z rfl rfl) (by omega) (by omega) (by omega)) F N ?_
          intro v' h' tk' P' F' N'
          obtain ⟨d, u, hd, rfl, hh1, hh2⟩ := P'
          refine LCg.CompEnd.intro F' N' [(l, o), (D6, LCg.lst ys)] (fun p hp => hp) off (Or.inr ⟨_, .tail _ (.head _), rfl, _, rfl⟩) ⟨rfl, ls ++ [d], StrsAre.append' hls (.cons _ _ .nil), ?_⟩
          rw [take_snoc hei]
          exact hal.snoc ⟨hd, hh1, hh2⟩
        · rintro zs2 news ⟨rfl, ls2, hls2, hal2⟩
          rw [List.size_toArray, strs_len hds, List.take_length] at hal2
          have hEq : ds2 = ls2 := All2.eq hall2 hal2 fun a b c => stem_is
          subst hEq
          clear N8 F8
          k_steps
          unfold ItStop
          rename News g L' _ _ => N9
          rename Fr g L' _ _ => F9
          refine eq_strs ⟨_, (N9 _ (.tail _ (.head _))).1, hlc, _, hld⟩ ⟨_, (N9 _ (.head _)).1, rfl, _, rfl⟩ hus hls2 (by show un + 3 < 9900; omega) ?_
          rw [decide_eq_true rfl]
          k_steps
          exact afterP_end hg F9 rfl rfl
end
end
end
section
theorem law_glob (P : Params) : nsIn (KF P) mainGlobals (Str.ofString "law") = some (some (.ref 393)) := by kernel_rfl
set_option maxHeartbeats 8000000 in
theorem holdsT : PySem.Challenge.rw_iu0020_01.Holds := by
  w_on
  o_law
  refine holds_open (q := vw) (loose := lo) (Xt := Xt0) (XP := XL vw []) (Yf := Hook.obs hk) (Ya := Hook.val hk) (YP := Hook.says hk) (N := 12080) leftK (Hook.of hk) (Hook.keeps hk) (fun s e => xl_of s (Bool.and_eq_true_iff.mp e).1) XL.keeps (by rfl) (by rfl) (by rfl) (fun s e => recFacts_of (Bool.and_eq_true_iff.mp e).2) (by rfl) (by first | assumption | decide +kernel) (by decide +kernel) ⟨rfl, rfl, rfl, rfl, rfl, by decide +kernel⟩ ?hw ?hc
  case hw => w_witness2
  show WalkO vw lo (XL vw []) (fun w h => InK KF w h ∧ SetHere h) _ _ _ _
  k_fill
  intro w s₀ s₁ mg mb G Y fa o pm cd doc dV kV ho hd hcd hD hmg hg args vals as hpre hlay hrd hwl hlo
  have KX : (KF w.params).In s₁.heap := Y.1
  have KS := Y.2
  have X := (Ground.X G).1
  have V := (Ground.X G).2
  refine Ground.open G ?_
  intro T B D TE TW
  try (refine guard_noD D (by decide +kernel) ?_; clear D)
  have h1 : mg (Str.ofString "law") = some (.ref 393) := mg_of KX T.g (law_glob w.params)
  have h2 : mg (Str.ofString "law") = some (.ref fa) := hmg
  have e393 : fa = 393 := (Value.ref.inj (Option.some.inj (h2.symm.trans h1)))
  subst e393
  clear hmg
  wrow_args hpre hlay hrd hwl hlo
  refine enter_call ?_
  rename (Heap.IsList _ _ _) => hLs
  rename IntsAre _ _ => hIs
  rename (¬ (_ : Int) < _) => hlen
  clear Y G ho hd hcd hD
  refine codeAny_mono (law_spec (base := s₁.heap) (dp := 301) (un := 4) (gd := some []) ⟨KX, KS, T, ⟨rfl, fun _ _ e => e, trivial⟩⟩ (by decide) (by decide) hLs hIs (by omega)) fun r s' hr => ?_
  obtain ⟨v, h', tk, rfl, rfl, hk, rfl⟩ := hr
  refine GoodW.toG ⟨.inl ⟨_, .bool true, [], rfl, fun cls => ?_, .bool true, ?_, fun _ => ⟨.nil, fun _ ha => nomatch ha⟩⟩, hk, rfl, hg⟩
  · rfl
  · wrow_post
end
end Mine
theorem PySem.Challenge.cw_iu0020_01_holds : PySem.Challenge.rw_iu0020_01.Holds := by
  exact Mine.holdsT
