import PyProof.Rows.All
import Wide.All
import OpenK.AllK
import Wide.FinOn
import PySem.Challenge.RW_pk0051_01
set_option Elab.async false
section
open PySem PySem.W PyProof.Rows
set_option linter.unusedVariables false
set_option maxRecDepth 100000
namespace Mine.Hd
noncomputable def pw : Program := PySem.Challenge.pw_pk0051_01
noncomputable def stI (l : List Stmt) (i : Nat) : Stmt := l[i]?.getD (.Pass ⟨0, 0, 0, 0⟩)
noncomputable def stA (i : Nat) : Stmt := stI pw.main.body i
noncomputable def fB : Stmt → List Stmt
  | .FunctionDef _ _ b .. => b
  | _ => []
noncomputable def cB : Stmt → List Stmt
  | .ClassDef _ _ _ b .. => b
  | _ => []
noncomputable def fA : Stmt → Arguments
  | .FunctionDef _ a .. => a
  | _ => default
noncomputable def fS : Stmt → Scope
  | .FunctionDef _ _ _ _ _ _ s .. => s
  | _ => default
noncomputable def bd_1 : List Stmt := fB (stA 1)
noncomputable def pa_1 : Arguments := fA (stA 1)
noncomputable def sc_1 : Scope := fS (stA 1)
noncomputable def bd_2 : List Stmt := fB (stA 2)
noncomputable def pa_2 : Arguments := fA (stA 2)
noncomputable def sc_2 : Scope := fS (stA 2)
noncomputable def bd_4_0 : List Stmt := fB (stI (cB (stA 4)) 0)
noncomputable def pa_4_0 : Arguments := fA (stI (cB (stA 4)) 0)
noncomputable def sc_4_0 : Scope := fS (stI (cB (stA 4)) 0)
noncomputable def bd_4_1 : List Stmt := fB (stI (cB (stA 4)) 1)
noncomputable def pa_4_1 : Arguments := fA (stI (cB (stA 4)) 1)
noncomputable def sc_4_1 : Scope := fS (stI (cB (stA 4)) 1)
noncomputable def bd_4_2 : List Stmt := fB (stI (cB (stA 4)) 2)
noncomputable def pa_4_2 : Arguments := fA (stI (cB (stA 4)) 2)
noncomputable def sc_4_2 : Scope := fS (stI (cB (stA 4)) 2)
noncomputable def bd_4_3 : List Stmt := fB (stI (cB (stA 4)) 3)
noncomputable def pa_4_3 : Arguments := fA (stI (cB (stA 4)) 3)
noncomputable def sc_4_3 : Scope := fS (stI (cB (stA 4)) 3)
noncomputable def bd_6 : List Stmt := fB (stA 6)
noncomputable def pa_6 : Arguments := fA (stA 6)
noncomputable def sc_6 : Scope := fS (stA 6)
noncomputable def bd_7 : List Stmt := fB (stA 7)
noncomputable def pa_7 : Arguments := fA (stA 7)
noncomputable def sc_7 : Scope := fS (stA 7)
noncomputable def bd_8 : List Stmt := fB (stA 8)
noncomputable def pa_8 : Arguments := fA (stA 8)
noncomputable def sc_8 : Scope := fS (stA 8)
noncomputable def bd_9 : List Stmt := fB (stA 9)
noncomputable def pa_9 : Arguments := fA (stA 9)
noncomputable def sc_9 : Scope := fS (stA 9)
noncomputable def bd_10 : List Stmt := fB (stA 10)
noncomputable def pa_10 : Arguments := fA (stA 10)
noncomputable def sc_10 : Scope := fS (stA 10)
noncomputable def bd_11 : List Stmt := fB (stA 11)
noncomputable def pa_11 : Arguments := fA (stA 11)
noncomputable def sc_11 : Scope := fS (stA 11)
noncomputable def bd_12 : List Stmt := fB (stA 12)
noncomputable def pa_12 : Arguments := fA (stA 12)
noncomputable def sc_12 : Scope := fS (stA 12)
noncomputable def bd_13 : List Stmt := fB (stA 13)
noncomputable def pa_13 : Arguments := fA (stA 13)
noncomputable def sc_13 : Scope := fS (stA 13)
noncomputable def bd_14 : List Stmt := fB (stA 14)
noncomputable def pa_14 : Arguments := fA (stA 14)
noncomputable def sc_14 : Scope := fS (stA 14)
noncomputable def bd_15 : List Stmt := fB (stA 15)
noncomputable def pa_15 : Arguments := fA (stA 15)
noncomputable def sc_15 : Scope := fS (stA 15)
noncomputable def bd_16 : List Stmt := fB (stA 16)
noncomputable def pa_16 : Arguments := fA (stA 16)
noncomputable def sc_16 : Scope := fS (stA 16)
noncomputable def bd_17 : List Stmt := fB (stA 17)
noncomputable def pa_17 : Arguments := fA (stA 17)
noncomputable def sc_17 : Scope := fS (stA 17)
noncomputable def bd_18 : List Stmt := fB (stA 18)
noncomputable def pa_18 : Arguments := fA (stA 18)
noncomputable def sc_18 : Scope := fS (stA 18)
noncomputable def o_0 (P : Params) : Obj := PySem.Obj.mk (PySem.Value.type "code") Option.none
  (PySem.Data.fields
    #[PySem.Value.str (PySem.Str.ofString "<module>") 182, PySem.Value.str (PySem.Str.ofString "<module>") 183,
      PySem.Value.str (PySem.Str.ofString "/claim/cut.py") 184, PySem.Value.int 1 0, PySem.Value.int 0 0,
      PySem.Value.int 0 0, PySem.Value.int 0 0, PySem.Value.int 0 0, PySem.Value.ref 11, PySem.Value.bool Bool.false,
      PySem.Value.int 181 0, PySem.Value.ref 12, PySem.Value.none, PySem.Value.none, PySem.Value.none, PySem.Value.none,
      PySem.Value.int 185 0, PySem.Value.int 1 0, PySem.Value.str (PySem.Str.ofString "/claim/cut.py") 186])
  #[]
noncomputable def o_1 (P : Params) : Obj := PySem.Obj.mk (PySem.Value.type "frame") Option.none PySem.Data.plain
  #[Option.some (PySem.Value.ref 13), Option.some (PySem.Value.ref 3), Option.some (PySem.Value.ref 3), Option.none,
    Option.some (PySem.Value.str (PySem.Str.ofString "__main__") 164), Option.none, Option.some (PySem.Value.ref 0)]
noncomputable def hA (P : Params) : Heap := ⟨⟨[boot_o_0 P, boot_o_1 P, boot_o_2 P, boot_o_3 P, boot_o_4 P, boot_o_5 P, boot_o_6 P, boot_o_7 P, boot_o_8 P, boot_o_9 P, boot_o_10 P, boot_o_7 P, boot_o_8 P, o_0 P, o_1 P]⟩, {}⟩
noncomputable def hB (P : Params) : Heap := ⟨⟨[boot_o_0 P, boot_o_1 P, boot_o_2 P, boot_o_3 P, boot_o_4 P, boot_o_5 P, boot_o_6 P, boot_o_7 P, boot_o_8 P, boot_o_9 P, boot_o_10 P, boot_o_7 P, boot_o_8 P, o_0 P, o_1 P]⟩, {}⟩
noncomputable def o_2 (P : Params) : Obj := PySem.Obj.mk (PySem.Value.type "dict") Option.none
  (PySem.Data.dict
    #[PySem.DictEntry.mk (PySem.PyData.keyHash P (PySem.Str.ofString "__name__"))
        (PySem.Value.str (PySem.Str.ofString "__name__") 165) (PySem.Value.str (PySem.Str.ofString "cpy313.netrc") 206),
      PySem.DictEntry.mk (PySem.PyData.keyHash P (PySem.Str.ofString "__doc__"))
        (PySem.Value.str (PySem.Str.ofString "__doc__") 166) PySem.Value.none,
      PySem.DictEntry.mk (PySem.PyData.keyHash P (PySem.Str.ofString "__package__"))
        (PySem.Value.str (PySem.Str.ofString "__package__") 167) PySem.Value.none,
      PySem.DictEntry.mk (PySem.PyData.keyHash P (PySem.Str.ofString "__loader__"))
        (PySem.Value.str (PySem.Str.ofString "__loader__") 168) (PySem.Value.builtin "__main__.__loader__#opaque"),
      PySem.DictEntry.mk (PySem.PyData.keyHash P (PySem.Str.ofString "__spec__"))
        (PySem.Value.str (PySem.Str.ofString "__spec__") 169) PySem.Value.none,
      PySem.DictEntry.mk (PySem.PyData.keyHash P (PySem.Str.ofString "__annotations__"))
        (PySem.Value.str (PySem.Str.ofString "__annotations__") 170) (PySem.Value.ref 6),
      PySem.DictEntry.mk (PySem.PyData.keyHash P (PySem.Str.ofString "__builtins__"))
        (PySem.Value.str (PySem.Str.ofString "__builtins__") 171) (PySem.Value.ref 4),
      PySem.DictEntry.mk (PySem.PyData.keyHash P (PySem.Str.ofString "__file__"))
        (PySem.Value.str (PySem.Str.ofString "__file__") 173)
        (PySem.Value.str (PySem.Str.ofString "/claim/cut.py") 172),
      PySem.DictEntry.mk (PySem.PyData.keyHash P (PySem.Str.ofString "__cached__"))
        (PySem.Value.str (PySem.Str.ofString "__cached__") 174) PySem.Value.none,
      PySem.DictEntry.mk (PySem.PyData.keyHash P (PySem.Str.ofString "parse_keqv_list"))
        (PySem.Value.str (PySem.Str.ofString "parse_keqv_list") 199) (PySem.Value.ref 21),
      PySem.DictEntry.mk (PySem.PyData.keyHash P (PySem.Str.ofString "parse_http_list"))
        (PySem.Value.str (PySem.Str.ofString "parse_http_list") 205) (PySem.Value.ref 26)]
    11)
  #[]
noncomputable def o_3 (P : Params) : Obj := PySem.Obj.mk PySem.Value.none Option.none
  (PySem.Data.fields
    #[PySem.Value.int 2 0, PySem.Value.int 0 0, PySem.Value.ref 20, PySem.Value.int 10 0, PySem.Value.int 0 0,
      PySem.Value.ref 25])
  #[]
noncomputable def o_4 (P : Params) : Obj := PySem.Obj.mk (PySem.Value.type "tuple") Option.none
  (PySem.Data.seq
    #[PySem.Value.str (PySem.Str.ofString "l") 192, PySem.Value.str (PySem.Str.ofString "parsed") 193,
      PySem.Value.str (PySem.Str.ofString "elt") 194, PySem.Value.str (PySem.Str.ofString "k") 195,
      PySem.Value.str (PySem.Str.ofString "v") 196])
  #[]
noncomputable def o_5 (P : Params) : Obj := PySem.Obj.mk PySem.Value.none Option.none
  (PySem.Data.func
    (PySem.FuncData.mk (PySem.Str.ofString "parse_keqv_list") (PySem.Str.ofString "parse_keqv_list") pa_1
      (PySem.FuncBody.stmts bd_1) sc_1 0 [] PySem.Value.none PySem.Value.none PySem.Value.none PySem.Value.none
      Option.none PySem.Value.none PySem.Value.none 0))
  #[]
noncomputable def o_6 (P : Params) : Obj := PySem.Obj.mk (PySem.Value.type "code") Option.none
  (PySem.Data.fields
    #[PySem.Value.str (PySem.Str.ofString "parse_keqv_list") 189,
      PySem.Value.str (PySem.Str.ofString "parse_keqv_list") 190,
      PySem.Value.str (PySem.Str.ofString "/claim/cut.py") 191, PySem.Value.int 2 0, PySem.Value.int 1 0,
      PySem.Value.int 0 0, PySem.Value.int 0 0, PySem.Value.int 3 0, PySem.Value.ref 15, PySem.Value.bool Bool.true,
      PySem.Value.int 181 0, PySem.Value.ref 16, PySem.Value.none, PySem.Value.ref 17, PySem.Value.ref 18,
      PySem.Value.ref 19, PySem.Value.int 197 0, PySem.Value.int 2 0,
      PySem.Value.str (PySem.Str.ofString "/claim/cut.py") 198])
  #[]
noncomputable def o_7 (P : Params) : Obj := PySem.Obj.mk (PySem.Value.type "function") Option.none
  (PySem.Data.func
    (PySem.FuncData.mk (PySem.Str.ofString "parse_keqv_list") (PySem.Str.ofString "parse_keqv_list") pa_1
      (PySem.FuncBody.stmts bd_1) sc_1 3 [] PySem.Value.none PySem.Value.none PySem.Value.none
      (PySem.Value.str (PySem.Str.ofString "cpy313.urllib.request") 187) Option.none (PySem.Value.ref 20)
      PySem.Value.none 0))
  #[]
noncomputable def o_8 (P : Params) : Obj := PySem.Obj.mk PySem.Value.none Option.none
  (PySem.Data.func
    (PySem.FuncData.mk (PySem.Str.ofString "parse_http_list") (PySem.Str.ofString "parse_http_list") pa_2
      (PySem.FuncBody.stmts bd_2) sc_2 0 [] PySem.Value.none PySem.Value.none PySem.Value.none PySem.Value.none
      Option.none PySem.Value.none PySem.Value.none 0))
  #[]
noncomputable def o_9 (P : Params) : Obj := PySem.Obj.mk (PySem.Value.type "code") Option.none
  (PySem.Data.fields
    #[PySem.Value.str (PySem.Str.ofString "parse_http_list") 200,
      PySem.Value.str (PySem.Str.ofString "parse_http_list") 201,
      PySem.Value.str (PySem.Str.ofString "/claim/cut.py") 202, PySem.Value.int 10 0, PySem.Value.int 1 0,
      PySem.Value.int 0 0, PySem.Value.int 0 0, PySem.Value.int 3 0, PySem.Value.ref 22, PySem.Value.bool Bool.true,
      PySem.Value.int 181 0, PySem.Value.ref 23, PySem.Value.none, PySem.Value.none, PySem.Value.none,
      PySem.Value.ref 24, PySem.Value.int 203 0, PySem.Value.int 10 0,
      PySem.Value.str (PySem.Str.ofString "/claim/cut.py") 204])
  #[]
noncomputable def o_10 (P : Params) : Obj := PySem.Obj.mk (PySem.Value.type "function") Option.none
  (PySem.Data.func
    (PySem.FuncData.mk (PySem.Str.ofString "parse_http_list") (PySem.Str.ofString "parse_http_list") pa_2
      (PySem.FuncBody.stmts bd_2) sc_2 3 [] PySem.Value.none PySem.Value.none PySem.Value.none
      (PySem.Value.str (PySem.Str.ofString "cpy313.urllib.request") 187) Option.none (PySem.Value.ref 25)
      PySem.Value.none 0))
  #[]
noncomputable def h3 (P : Params) : Heap := ⟨⟨[boot_o_0 P, boot_o_1 P, boot_o_2 P, o_2 P, boot_o_4 P, boot_o_5 P, boot_o_6 P, boot_o_7 P, boot_o_8 P, boot_o_9 P, boot_o_10 P, boot_o_7 P, o_3 P, o_0 P, o_1 P, boot_o_7 P, boot_o_8 P, o_4 P, boot_o_7 P, o_5 P, o_6 P, o_7 P, boot_o_7 P, boot_o_8 P, o_8 P, o_9 P, o_10 P]⟩, {}⟩
noncomputable def o_11 (P : Params) : Obj := PySem.Obj.mk (PySem.Value.type "dict") Option.none
  (PySem.Data.dict
    #[PySem.DictEntry.mk (PySem.PyData.keyHash P (PySem.Str.ofString "__name__"))
        (PySem.Value.str (PySem.Str.ofString "__name__") 165) (PySem.Value.str (PySem.Str.ofString "cpy313.netrc") 206),
      PySem.DictEntry.mk (PySem.PyData.keyHash P (PySem.Str.ofString "__doc__"))
        (PySem.Value.str (PySem.Str.ofString "__doc__") 166) PySem.Value.none,
      PySem.DictEntry.mk (PySem.PyData.keyHash P (PySem.Str.ofString "__package__"))
        (PySem.Value.str (PySem.Str.ofString "__package__") 167) PySem.Value.none,
      PySem.DictEntry.mk (PySem.PyData.keyHash P (PySem.Str.ofString "__loader__"))
        (PySem.Value.str (PySem.Str.ofString "__loader__") 168) (PySem.Value.builtin "__main__.__loader__#opaque"),
      PySem.DictEntry.mk (PySem.PyData.keyHash P (PySem.Str.ofString "__spec__"))
        (PySem.Value.str (PySem.Str.ofString "__spec__") 169) PySem.Value.none,
      PySem.DictEntry.mk (PySem.PyData.keyHash P (PySem.Str.ofString "__annotations__"))
        (PySem.Value.str (PySem.Str.ofString "__annotations__") 170) (PySem.Value.ref 6),
      PySem.DictEntry.mk (PySem.PyData.keyHash P (PySem.Str.ofString "__builtins__"))
        (PySem.Value.str (PySem.Str.ofString "__builtins__") 171) (PySem.Value.ref 4),
      PySem.DictEntry.mk (PySem.PyData.keyHash P (PySem.Str.ofString "__file__"))
        (PySem.Value.str (PySem.Str.ofString "__file__") 173)
        (PySem.Value.str (PySem.Str.ofString "/claim/cut.py") 172),
      PySem.DictEntry.mk (PySem.PyData.keyHash P (PySem.Str.ofString "__cached__"))
        (PySem.Value.str (PySem.Str.ofString "__cached__") 174) PySem.Value.none,
      PySem.DictEntry.mk (PySem.PyData.keyHash P (PySem.Str.ofString "parse_keqv_list"))
        (PySem.Value.str (PySem.Str.ofString "parse_keqv_list") 199) (PySem.Value.ref 21),
      PySem.DictEntry.mk (PySem.PyData.keyHash P (PySem.Str.ofString "parse_http_list"))
        (PySem.Value.str (PySem.Str.ofString "parse_http_list") 205) (PySem.Value.ref 26),
      PySem.DictEntry.mk (PySem.PyData.keyHash P (PySem.Str.ofString "_netrclex"))
        (PySem.Value.str (PySem.Str.ofString "_netrclex") 265) (PySem.Value.ref 64)]
    12)
  #[]
noncomputable def o_12 (P : Params) : Obj := PySem.Obj.mk PySem.Value.none Option.none
  (PySem.Data.fields
    #[PySem.Value.int 2 0, PySem.Value.int 0 0, PySem.Value.ref 20, PySem.Value.int 10 0, PySem.Value.int 0 0,
      PySem.Value.ref 25, PySem.Value.int 38 0, PySem.Value.int 0 0, PySem.Value.ref 32])
  #[]
noncomputable def o_13 (P : Params) : Obj := PySem.Obj.mk (PySem.Value.type "builtin_function_or_method") Option.none
  (PySem.Data.fields #[PySem.Value.builtin "type.__prepare__", PySem.Value.type "type"]) #[]
noncomputable def o_14 (P : Params) : Obj := PySem.Obj.mk (PySem.Value.type "dict") Option.none
  (PySem.Data.dict
    #[PySem.DictEntry.mk (PySem.PyData.keyHash P (PySem.Str.ofString "__module__"))
        (PySem.Value.str (PySem.Str.ofString "__module__") 215)
        (PySem.Value.str (PySem.Str.ofString "cpy313.netrc") 206),
      PySem.DictEntry.mk (PySem.PyData.keyHash P (PySem.Str.ofString "__qualname__"))
        (PySem.Value.str (PySem.Str.ofString "__qualname__") 217)
        (PySem.Value.str (PySem.Str.ofString "_netrclex") 216),
      PySem.DictEntry.mk (PySem.PyData.keyHash P (PySem.Str.ofString "__firstlineno__"))
        (PySem.Value.str (PySem.Str.ofString "__firstlineno__") 219) (PySem.Value.int 38 218),
      PySem.DictEntry.mk (PySem.PyData.keyHash P (PySem.Str.ofString "__init__"))
        (PySem.Value.str (PySem.Str.ofString "__init__") 227) (PySem.Value.ref 40),
      PySem.DictEntry.mk (PySem.PyData.keyHash P (PySem.Str.ofString "_read_char"))
        (PySem.Value.str (PySem.Str.ofString "_read_char") 235) (PySem.Value.ref 47),
      PySem.DictEntry.mk (PySem.PyData.keyHash P (PySem.Str.ofString "get_token"))
        (PySem.Value.str (PySem.Str.ofString "get_token") 245) (PySem.Value.ref 54),
      PySem.DictEntry.mk (PySem.PyData.keyHash P (PySem.Str.ofString "push_token"))
        (PySem.Value.str (PySem.Str.ofString "push_token") 253) (PySem.Value.ref 61),
      PySem.DictEntry.mk (PySem.PyData.keyHash P (PySem.Str.ofString "__static_attributes__"))
        (PySem.Value.str (PySem.Str.ofString "__static_attributes__") 258) (PySem.Value.ref 62)]
    8)
  #[]
noncomputable def o_15 (P : Params) : Obj := PySem.Obj.mk PySem.Value.none Option.none
  (PySem.Data.fields
    #[PySem.Value.int 40 0, PySem.Value.int 4 0, PySem.Value.ref 39, PySem.Value.int 46 0, PySem.Value.int 4 0,
      PySem.Value.ref 46, PySem.Value.int 52 0, PySem.Value.int 4 0, PySem.Value.ref 53, PySem.Value.int 79 0,
      PySem.Value.int 4 0, PySem.Value.ref 60])
  #[]
noncomputable def o_16 (P : Params) : Obj := PySem.Obj.mk (PySem.Value.type "code") Option.none
  (PySem.Data.fields
    #[PySem.Value.str (PySem.Str.ofString "_netrclex") 210, PySem.Value.str (PySem.Str.ofString "_netrclex") 211,
      PySem.Value.str (PySem.Str.ofString "/claim/cut.py") 212, PySem.Value.int 38 0, PySem.Value.int 0 0,
      PySem.Value.int 0 0, PySem.Value.int 0 0, PySem.Value.int 0 0, PySem.Value.ref 30, PySem.Value.bool Bool.false,
      PySem.Value.int 181 0, PySem.Value.ref 31, PySem.Value.none, PySem.Value.none, PySem.Value.none, PySem.Value.none,
      PySem.Value.int 213 0, PySem.Value.int 38 0, PySem.Value.str (PySem.Str.ofString "/claim/cut.py") 214])
  #[]
noncomputable def o_17 (P : Params) : Obj := PySem.Obj.mk (PySem.Value.type "frame") Option.none PySem.Data.plain
  #[Option.some (PySem.Value.ref 32), Option.some (PySem.Value.ref 3), Option.some (PySem.Value.ref 29), Option.none,
    Option.some (PySem.Value.str (PySem.Str.ofString "cpy313.netrc") 206), Option.none, Option.some (PySem.Value.ref 0)]
noncomputable def o_18 (P : Params) : Obj := PySem.Obj.mk (PySem.Value.type "tuple") Option.none
  (PySem.Data.seq #[PySem.Value.str (PySem.Str.ofString "self") 223, PySem.Value.str (PySem.Str.ofString "fp") 224]) #[]
noncomputable def o_19 (P : Params) : Obj := PySem.Obj.mk PySem.Value.none Option.none
  (PySem.Data.func
    (PySem.FuncData.mk (PySem.Str.ofString "__init__") (PySem.Str.ofString "_netrclex.__init__") pa_4_0
      (PySem.FuncBody.stmts bd_4_0) sc_4_0 0 [] PySem.Value.none PySem.Value.none PySem.Value.none PySem.Value.none
      Option.none PySem.Value.none PySem.Value.none 0))
  #[]
noncomputable def o_20 (P : Params) : Obj := PySem.Obj.mk (PySem.Value.type "code") Option.none
  (PySem.Data.fields
    #[PySem.Value.str (PySem.Str.ofString "__init__") 220,
      PySem.Value.str (PySem.Str.ofString "_netrclex.__init__") 221,
      PySem.Value.str (PySem.Str.ofString "/claim/cut.py") 222, PySem.Value.int 40 0, PySem.Value.int 2 0,
      PySem.Value.int 0 0, PySem.Value.int 0 0, PySem.Value.int 3 0, PySem.Value.ref 34, PySem.Value.bool Bool.true,
      PySem.Value.int 181 0, PySem.Value.ref 35, PySem.Value.none, PySem.Value.ref 36, PySem.Value.ref 37,
      PySem.Value.ref 38, PySem.Value.int 225 0, PySem.Value.int 40 0,
      PySem.Value.str (PySem.Str.ofString "/claim/cut.py") 226])
  #[]
noncomputable def o_21 (P : Params) : Obj := PySem.Obj.mk (PySem.Value.type "function") Option.none
  (PySem.Data.func
    (PySem.FuncData.mk (PySem.Str.ofString "__init__") (PySem.Str.ofString "_netrclex.__init__") pa_4_0
      (PySem.FuncBody.stmts bd_4_0) sc_4_0 3 [] PySem.Value.none PySem.Value.none PySem.Value.none
      (PySem.Value.str (PySem.Str.ofString "cpy313.netrc") 206) Option.none (PySem.Value.ref 39) PySem.Value.none 0))
  #[]
noncomputable def o_22 (P : Params) : Obj := PySem.Obj.mk (PySem.Value.type "tuple") Option.none
  (PySem.Data.seq #[PySem.Value.str (PySem.Str.ofString "self") 231, PySem.Value.str (PySem.Str.ofString "ch") 232]) #[]
noncomputable def o_23 (P : Params) : Obj := PySem.Obj.mk PySem.Value.none Option.none
  (PySem.Data.func
    (PySem.FuncData.mk (PySem.Str.ofString "_read_char") (PySem.Str.ofString "_netrclex._read_char") pa_4_1
      (PySem.FuncBody.stmts bd_4_1) sc_4_1 0 [] PySem.Value.none PySem.Value.none PySem.Value.none PySem.Value.none
      Option.none PySem.Value.none PySem.Value.none 0))
  #[]
noncomputable def o_24 (P : Params) : Obj := PySem.Obj.mk (PySem.Value.type "code") Option.none
  (PySem.Data.fields
    #[PySem.Value.str (PySem.Str.ofString "_read_char") 228,
      PySem.Value.str (PySem.Str.ofString "_netrclex._read_char") 229,
      PySem.Value.str (PySem.Str.ofString "/claim/cut.py") 230, PySem.Value.int 46 0, PySem.Value.int 1 0,
      PySem.Value.int 0 0, PySem.Value.int 0 0, PySem.Value.int 3 0, PySem.Value.ref 41, PySem.Value.bool Bool.true,
      PySem.Value.int 181 0, PySem.Value.ref 42, PySem.Value.none, PySem.Value.ref 43, PySem.Value.ref 44,
      PySem.Value.ref 45, PySem.Value.int 233 0, PySem.Value.int 46 0,
      PySem.Value.str (PySem.Str.ofString "/claim/cut.py") 234])
  #[]
noncomputable def o_25 (P : Params) : Obj := PySem.Obj.mk (PySem.Value.type "function") Option.none
  (PySem.Data.func
    (PySem.FuncData.mk (PySem.Str.ofString "_read_char") (PySem.Str.ofString "_netrclex._read_char") pa_4_1
      (PySem.FuncBody.stmts bd_4_1) sc_4_1 3 [] PySem.Value.none PySem.Value.none PySem.Value.none
      (PySem.Value.str (PySem.Str.ofString "cpy313.netrc") 206) Option.none (PySem.Value.ref 46) PySem.Value.none 0))
  #[]
noncomputable def o_26 (P : Params) : Obj := PySem.Obj.mk (PySem.Value.type "tuple") Option.none
  (PySem.Data.seq
    #[PySem.Value.str (PySem.Str.ofString "self") 239, PySem.Value.str (PySem.Str.ofString "token") 240,
      PySem.Value.str (PySem.Str.ofString "fiter") 241, PySem.Value.str (PySem.Str.ofString "ch") 242])
  #[]
noncomputable def o_27 (P : Params) : Obj := PySem.Obj.mk PySem.Value.none Option.none
  (PySem.Data.func
    (PySem.FuncData.mk (PySem.Str.ofString "get_token") (PySem.Str.ofString "_netrclex.get_token") pa_4_2
      (PySem.FuncBody.stmts bd_4_2) sc_4_2 0 [] PySem.Value.none PySem.Value.none PySem.Value.none PySem.Value.none
      Option.none PySem.Value.none PySem.Value.none 0))
  #[]
noncomputable def o_28 (P : Params) : Obj := PySem.Obj.mk (PySem.Value.type "code") Option.none
  (PySem.Data.fields
    #[PySem.Value.str (PySem.Str.ofString "get_token") 236,
      PySem.Value.str (PySem.Str.ofString "_netrclex.get_token") 237,
      PySem.Value.str (PySem.Str.ofString "/claim/cut.py") 238, PySem.Value.int 52 0, PySem.Value.int 1 0,
      PySem.Value.int 0 0, PySem.Value.int 0 0, PySem.Value.int 3 0, PySem.Value.ref 48, PySem.Value.bool Bool.true,
      PySem.Value.int 181 0, PySem.Value.ref 49, PySem.Value.none, PySem.Value.ref 50, PySem.Value.ref 51,
      PySem.Value.ref 52, PySem.Value.int 243 0, PySem.Value.int 52 0,
      PySem.Value.str (PySem.Str.ofString "/claim/cut.py") 244])
  #[]
noncomputable def o_29 (P : Params) : Obj := PySem.Obj.mk (PySem.Value.type "function") Option.none
  (PySem.Data.func
    (PySem.FuncData.mk (PySem.Str.ofString "get_token") (PySem.Str.ofString "_netrclex.get_token") pa_4_2
      (PySem.FuncBody.stmts bd_4_2) sc_4_2 3 [] PySem.Value.none PySem.Value.none PySem.Value.none
      (PySem.Value.str (PySem.Str.ofString "cpy313.netrc") 206) Option.none (PySem.Value.ref 53) PySem.Value.none 0))
  #[]
noncomputable def o_30 (P : Params) : Obj := PySem.Obj.mk (PySem.Value.type "tuple") Option.none
  (PySem.Data.seq #[PySem.Value.str (PySem.Str.ofString "self") 249, PySem.Value.str (PySem.Str.ofString "token") 250])
  #[]
noncomputable def o_31 (P : Params) : Obj := PySem.Obj.mk PySem.Value.none Option.none
  (PySem.Data.func
    (PySem.FuncData.mk (PySem.Str.ofString "push_token") (PySem.Str.ofString "_netrclex.push_token") pa_4_3
      (PySem.FuncBody.stmts bd_4_3) sc_4_3 0 [] PySem.Value.none PySem.Value.none PySem.Value.none PySem.Value.none
      Option.none PySem.Value.none PySem.Value.none 0))
  #[]
noncomputable def o_32 (P : Params) : Obj := PySem.Obj.mk (PySem.Value.type "code") Option.none
  (PySem.Data.fields
    #[PySem.Value.str (PySem.Str.ofString "push_token") 246,
      PySem.Value.str (PySem.Str.ofString "_netrclex.push_token") 247,
      PySem.Value.str (PySem.Str.ofString "/claim/cut.py") 248, PySem.Value.int 79 0, PySem.Value.int 2 0,
      PySem.Value.int 0 0, PySem.Value.int 0 0, PySem.Value.int 3 0, PySem.Value.ref 55, PySem.Value.bool Bool.true,
      PySem.Value.int 181 0, PySem.Value.ref 56, PySem.Value.none, PySem.Value.ref 57, PySem.Value.ref 58,
      PySem.Value.ref 59, PySem.Value.int 251 0, PySem.Value.int 79 0,
      PySem.Value.str (PySem.Str.ofString "/claim/cut.py") 252])
  #[]
noncomputable def o_33 (P : Params) : Obj := PySem.Obj.mk (PySem.Value.type "function") Option.none
  (PySem.Data.func
    (PySem.FuncData.mk (PySem.Str.ofString "push_token") (PySem.Str.ofString "_netrclex.push_token") pa_4_3
      (PySem.FuncBody.stmts bd_4_3) sc_4_3 3 [] PySem.Value.none PySem.Value.none PySem.Value.none
      (PySem.Value.str (PySem.Str.ofString "cpy313.netrc") 206) Option.none (PySem.Value.ref 60) PySem.Value.none 0))
  #[]
noncomputable def o_34 (P : Params) : Obj := PySem.Obj.mk (PySem.Value.type "tuple") Option.none
  (PySem.Data.seq
    #[PySem.Value.str (PySem.Str.ofString "instream") 254, PySem.Value.str (PySem.Str.ofString "lineno") 255,
      PySem.Value.str (PySem.Str.ofString "pushback") 256, PySem.Value.str (PySem.Str.ofString "whitespace") 257])
  #[]
noncomputable def o_35 (P : Params) : Obj := PySem.Obj.mk (PySem.Value.type "dict") Option.none
  (PySem.Data.dict
    #[PySem.DictEntry.mk (PySem.PyData.keyHash P (PySem.Str.ofString "__module__"))
        (PySem.Value.str (PySem.Str.ofString "__module__") 215)
        (PySem.Value.str (PySem.Str.ofString "cpy313.netrc") 206),
      PySem.DictEntry.mk (PySem.PyData.keyHash P (PySem.Str.ofString "__firstlineno__"))
        (PySem.Value.str (PySem.Str.ofString "__firstlineno__") 219) (PySem.Value.int 38 218),
      PySem.DictEntry.mk (PySem.PyData.keyHash P (PySem.Str.ofString "__init__"))
        (PySem.Value.str (PySem.Str.ofString "__init__") 227) (PySem.Value.ref 40),
      PySem.DictEntry.mk (PySem.PyData.keyHash P (PySem.Str.ofString "_read_char"))
        (PySem.Value.str (PySem.Str.ofString "_read_char") 235) (PySem.Value.ref 47),
      PySem.DictEntry.mk (PySem.PyData.keyHash P (PySem.Str.ofString "get_token"))
        (PySem.Value.str (PySem.Str.ofString "get_token") 245) (PySem.Value.ref 54),
      PySem.DictEntry.mk (PySem.PyData.keyHash P (PySem.Str.ofString "push_token"))
        (PySem.Value.str (PySem.Str.ofString "push_token") 253) (PySem.Value.ref 61),
      PySem.DictEntry.mk (PySem.PyData.keyHash P (PySem.Str.ofString "__static_attributes__"))
        (PySem.Value.str (PySem.Str.ofString "__static_attributes__") 258) (PySem.Value.ref 62),
      PySem.DictEntry.mk (PySem.PyData.keyHash P (PySem.Str.ofString "__dict__"))
        (PySem.Value.str (PySem.Str.ofString "__dict__") 260) (PySem.Value.ref 65),
      PySem.DictEntry.mk (PySem.PyData.keyHash P (PySem.Str.ofString "__weakref__"))
        (PySem.Value.str (PySem.Str.ofString "__weakref__") 262) (PySem.Value.ref 66),
      PySem.DictEntry.mk (PySem.PyData.keyHash P (PySem.Str.ofString "__doc__"))
        (PySem.Value.str (PySem.Str.ofString "__doc__") 263) PySem.Value.none]
    4)
  #[]
noncomputable def o_36 (P : Params) : Obj := PySem.Obj.mk (PySem.Value.type "type") Option.none
  (PySem.Data.cls
    (PySem.ClassData.mk (PySem.Str.ofString "_netrclex") [PySem.Value.type "object"]
      [PySem.Value.ref 64, PySem.Value.type "object"] 63 (PySem.Str.ofString "_netrclex") Bool.true [] [] Bool.false
      Option.none Bool.false))
  #[Option.none, Option.none, Option.some (PySem.Value.str (PySem.Str.ofString "_netrclex") 208),
    Option.some (PySem.Value.str (PySem.Str.ofString "_netrclex") 216),
    Option.some (PySem.Value.builtin "object.__new__"), Option.some (PySem.Value.bool Bool.true)]
noncomputable def o_37 (P : Params) : Obj := PySem.Obj.mk (PySem.Value.type "getset_descriptor") Option.none
  (PySem.Data.fields
    #[PySem.Value.str (PySem.Str.ofString "__dict__") 259, PySem.Value.ref 64, PySem.Value.builtin "function.__dict__",
      PySem.Value.builtin "function.__dict__#set"])
  #[]
noncomputable def o_38 (P : Params) : Obj := PySem.Obj.mk (PySem.Value.type "getset_descriptor") Option.none
  (PySem.Data.fields
    #[PySem.Value.str (PySem.Str.ofString "__weakref__") 261, PySem.Value.ref 64,
      PySem.Value.builtin "ExceptionGroup.__weakref__", PySem.Value.none])
  #[]
noncomputable def o_39 (P : Params) : Obj := PySem.Obj.mk (PySem.Value.type "super") Option.none
  (PySem.Data.fields #[PySem.Value.ref 64, PySem.Value.ref 64, PySem.Value.ref 64]) #[]
noncomputable def o_40 (P : Params) : Obj := PySem.Obj.mk (PySem.Value.type "builtin_function_or_method") Option.none
  (PySem.Data.fields #[PySem.Value.builtin "object.__init_subclass__", PySem.Value.ref 64]) #[]
noncomputable def h4 (P : Params) : Heap := ⟨⟨[boot_o_0 P, boot_o_1 P, boot_o_2 P, o_11 P, boot_o_4 P, boot_o_5 P, boot_o_6 P, boot_o_7 P, boot_o_8 P, boot_o_9 P, boot_o_10 P, boot_o_7 P, o_12 P, o_0 P, o_1 P, boot_o_7 P, boot_o_8 P, o_4 P, boot_o_7 P, o_5 P, o_6 P, o_7 P, boot_o_7 P, boot_o_8 P, o_8 P, o_9 P, o_10 P, boot_o_7 P, o_13 P, o_14 P, boot_o_7 P, o_15 P, o_16 P, o_17 P, boot_o_7 P, boot_o_8 P, o_18 P, boot_o_7 P, o_19 P, o_20 P, o_21 P, boot_o_7 P, boot_o_8 P, o_22 P, boot_o_7 P, o_23 P, o_24 P, o_25 P, boot_o_7 P, boot_o_8 P, o_26 P, boot_o_7 P, o_27 P, o_28 P, o_29 P, boot_o_7 P, boot_o_8 P, o_30 P, boot_o_7 P, o_31 P, o_32 P, o_33 P, o_34 P, o_35 P, o_36 P, o_37 P, o_38 P, o_39 P, o_40 P]⟩, {}⟩
noncomputable def o_41 (P : Params) : Obj := PySem.Obj.mk (PySem.Value.type "dict") Option.none
  (PySem.Data.dict
    #[PySem.DictEntry.mk (PySem.PyData.keyHash P (PySem.Str.ofString "__name__"))
        (PySem.Value.str (PySem.Str.ofString "__name__") 165)
        (PySem.Value.str (PySem.Str.ofString "law_pk0051_01") 266),
      PySem.DictEntry.mk (PySem.PyData.keyHash P (PySem.Str.ofString "__doc__"))
        (PySem.Value.str (PySem.Str.ofString "__doc__") 166) PySem.Value.none,
      PySem.DictEntry.mk (PySem.PyData.keyHash P (PySem.Str.ofString "__package__"))
        (PySem.Value.str (PySem.Str.ofString "__package__") 167) PySem.Value.none,
      PySem.DictEntry.mk (PySem.PyData.keyHash P (PySem.Str.ofString "__loader__"))
        (PySem.Value.str (PySem.Str.ofString "__loader__") 168) (PySem.Value.builtin "__main__.__loader__#opaque"),
      PySem.DictEntry.mk (PySem.PyData.keyHash P (PySem.Str.ofString "__spec__"))
        (PySem.Value.str (PySem.Str.ofString "__spec__") 169) PySem.Value.none,
      PySem.DictEntry.mk (PySem.PyData.keyHash P (PySem.Str.ofString "__annotations__"))
        (PySem.Value.str (PySem.Str.ofString "__annotations__") 170) (PySem.Value.ref 6),
      PySem.DictEntry.mk (PySem.PyData.keyHash P (PySem.Str.ofString "__builtins__"))
        (PySem.Value.str (PySem.Str.ofString "__builtins__") 171) (PySem.Value.ref 4),
      PySem.DictEntry.mk (PySem.PyData.keyHash P (PySem.Str.ofString "__file__"))
        (PySem.Value.str (PySem.Str.ofString "__file__") 173)
        (PySem.Value.str (PySem.Str.ofString "/claim/cut.py") 172),
      PySem.DictEntry.mk (PySem.PyData.keyHash P (PySem.Str.ofString "__cached__"))
        (PySem.Value.str (PySem.Str.ofString "__cached__") 174) PySem.Value.none,
      PySem.DictEntry.mk (PySem.PyData.keyHash P (PySem.Str.ofString "parse_keqv_list"))
        (PySem.Value.str (PySem.Str.ofString "parse_keqv_list") 199) (PySem.Value.ref 21),
      PySem.DictEntry.mk (PySem.PyData.keyHash P (PySem.Str.ofString "parse_http_list"))
        (PySem.Value.str (PySem.Str.ofString "parse_http_list") 205) (PySem.Value.ref 26),
      PySem.DictEntry.mk (PySem.PyData.keyHash P (PySem.Str.ofString "_netrclex"))
        (PySem.Value.str (PySem.Str.ofString "_netrclex") 265) (PySem.Value.ref 64),
      PySem.DictEntry.mk (PySem.PyData.keyHash P (PySem.Str.ofString "_law_names"))
        (PySem.Value.str (PySem.Str.ofString "_law_names") 273) (PySem.Value.ref 75),
      PySem.DictEntry.mk (PySem.PyData.keyHash P (PySem.Str.ofString "_law_lexer"))
        (PySem.Value.str (PySem.Str.ofString "_law_lexer") 282) (PySem.Value.ref 82),
      PySem.DictEntry.mk (PySem.PyData.keyHash P (PySem.Str.ofString "_law_escaped"))
        (PySem.Value.str (PySem.Str.ofString "_law_escaped") 289) (PySem.Value.ref 89),
      PySem.DictEntry.mk (PySem.PyData.keyHash P (PySem.Str.ofString "_law_quoted"))
        (PySem.Value.str (PySem.Str.ofString "_law_quoted") 297) (PySem.Value.ref 96),
      PySem.DictEntry.mk (PySem.PyData.keyHash P (PySem.Str.ofString "_law_word"))
        (PySem.Value.str (PySem.Str.ofString "_law_word") 303) (PySem.Value.ref 101),
      PySem.DictEntry.mk (PySem.PyData.keyHash P (PySem.Str.ofString "_law_drawn"))
        (PySem.Value.str (PySem.Str.ofString "_law_drawn") 310) (PySem.Value.ref 108)]
    18)
  #[]
noncomputable def o_42 (P : Params) : Obj := PySem.Obj.mk PySem.Value.none Option.none
  (PySem.Data.fields
    #[PySem.Value.int 2 0, PySem.Value.int 0 0, PySem.Value.ref 20, PySem.Value.int 10 0, PySem.Value.int 0 0,
      PySem.Value.ref 25, PySem.Value.int 38 0, PySem.Value.int 0 0, PySem.Value.ref 32, PySem.Value.int 82 0,
      PySem.Value.int 0 0, PySem.Value.ref 74, PySem.Value.int 84 0, PySem.Value.int 0 0, PySem.Value.ref 81,
      PySem.Value.int 89 0, PySem.Value.int 0 0, PySem.Value.ref 88, PySem.Value.int 91 0, PySem.Value.int 0 0,
      PySem.Value.ref 95, PySem.Value.int 93 0, PySem.Value.int 0 0, PySem.Value.ref 100, PySem.Value.int 100 0,
      PySem.Value.int 0 0, PySem.Value.ref 107])
  #[]
noncomputable def o_43 (P : Params) : Obj := PySem.Obj.mk PySem.Value.none Option.none
  (PySem.Data.func
    (PySem.FuncData.mk (PySem.Str.ofString "_law_names") (PySem.Str.ofString "_law_names") pa_6
      (PySem.FuncBody.stmts bd_6) sc_6 0 [] PySem.Value.none PySem.Value.none PySem.Value.none PySem.Value.none
      Option.none PySem.Value.none PySem.Value.none 0))
  #[]
noncomputable def o_44 (P : Params) : Obj := PySem.Obj.mk (PySem.Value.type "code") Option.none
  (PySem.Data.fields
    #[PySem.Value.str (PySem.Str.ofString "_law_names") 268, PySem.Value.str (PySem.Str.ofString "_law_names") 269,
      PySem.Value.str (PySem.Str.ofString "/claim/cut.py") 270, PySem.Value.int 82 0, PySem.Value.int 0 0,
      PySem.Value.int 0 0, PySem.Value.int 0 0, PySem.Value.int 3 0, PySem.Value.ref 69, PySem.Value.bool Bool.true,
      PySem.Value.int 181 0, PySem.Value.ref 70, PySem.Value.none, PySem.Value.ref 71, PySem.Value.ref 72,
      PySem.Value.ref 73, PySem.Value.int 271 0, PySem.Value.int 82 0,
      PySem.Value.str (PySem.Str.ofString "/claim/cut.py") 272])
  #[]
noncomputable def o_45 (P : Params) : Obj := PySem.Obj.mk (PySem.Value.type "function") Option.none
  (PySem.Data.func
    (PySem.FuncData.mk (PySem.Str.ofString "_law_names") (PySem.Str.ofString "_law_names") pa_6
      (PySem.FuncBody.stmts bd_6) sc_6 3 [] PySem.Value.none PySem.Value.none PySem.Value.none
      (PySem.Value.str (PySem.Str.ofString "law_pk0051_01") 266) Option.none (PySem.Value.ref 74) PySem.Value.none 0))
  #[]
noncomputable def o_46 (P : Params) : Obj := PySem.Obj.mk (PySem.Value.type "tuple") Option.none
  (PySem.Data.seq #[PySem.Value.str (PySem.Str.ofString "text") 277, PySem.Value.str (PySem.Str.ofString "tape") 278])
  #[]
noncomputable def o_47 (P : Params) : Obj := PySem.Obj.mk (PySem.Value.type "tuple") Option.none (PySem.Data.seq #[PySem.Value.str (PySem.Str.ofString "signs") 279])
  #[]
noncomputable def o_48 (P : Params) : Obj := PySem.Obj.mk PySem.Value.none Option.none
  (PySem.Data.func
    (PySem.FuncData.mk (PySem.Str.ofString "_law_lexer") (PySem.Str.ofString "_law_lexer") pa_7
      (PySem.FuncBody.stmts bd_7) sc_7 0 [] PySem.Value.none PySem.Value.none PySem.Value.none PySem.Value.none
      Option.none PySem.Value.none PySem.Value.none 0))
  #[]
noncomputable def o_49 (P : Params) : Obj := PySem.Obj.mk (PySem.Value.type "code") Option.none
  (PySem.Data.fields
    #[PySem.Value.str (PySem.Str.ofString "_law_lexer") 274, PySem.Value.str (PySem.Str.ofString "_law_lexer") 275,
      PySem.Value.str (PySem.Str.ofString "/claim/cut.py") 276, PySem.Value.int 84 0, PySem.Value.int 1 0,
      PySem.Value.int 0 0, PySem.Value.int 0 0, PySem.Value.int 3 0, PySem.Value.ref 76, PySem.Value.bool Bool.true,
      PySem.Value.int 181 0, PySem.Value.ref 77, PySem.Value.none, PySem.Value.ref 78, PySem.Value.ref 79,
      PySem.Value.ref 80, PySem.Value.int 280 0, PySem.Value.int 84 0,
      PySem.Value.str (PySem.Str.ofString "/claim/cut.py") 281])
  #[]
noncomputable def o_50 (P : Params) : Obj := PySem.Obj.mk (PySem.Value.type "function") Option.none
  (PySem.Data.func
    (PySem.FuncData.mk (PySem.Str.ofString "_law_lexer") (PySem.Str.ofString "_law_lexer") pa_7
      (PySem.FuncBody.stmts bd_7) sc_7 3 [] PySem.Value.none PySem.Value.none PySem.Value.none
      (PySem.Value.str (PySem.Str.ofString "law_pk0051_01") 266) Option.none (PySem.Value.ref 81) PySem.Value.none 0))
  #[]
noncomputable def o_51 (P : Params) : Obj := PySem.Obj.mk (PySem.Value.type "tuple") Option.none (PySem.Data.seq #[PySem.Value.str (PySem.Str.ofString "text") 286])
  #[]
noncomputable def o_52 (P : Params) : Obj := PySem.Obj.mk PySem.Value.none Option.none
  (PySem.Data.func
    (PySem.FuncData.mk (PySem.Str.ofString "_law_escaped") (PySem.Str.ofString "_law_escaped") pa_8
      (PySem.FuncBody.stmts bd_8) sc_8 0 [] PySem.Value.none PySem.Value.none PySem.Value.none PySem.Value.none
      Option.none PySem.Value.none PySem.Value.none 0))
  #[]
noncomputable def o_53 (P : Params) : Obj := PySem.Obj.mk (PySem.Value.type "code") Option.none
  (PySem.Data.fields
    #[PySem.Value.str (PySem.Str.ofString "_law_escaped") 283, PySem.Value.str (PySem.Str.ofString "_law_escaped") 284,
      PySem.Value.str (PySem.Str.ofString "/claim/cut.py") 285, PySem.Value.int 89 0, PySem.Value.int 1 0,
      PySem.Value.int 0 0, PySem.Value.int 0 0, PySem.Value.int 3 0, PySem.Value.ref 83, PySem.Value.bool Bool.true,
      PySem.Value.int 181 0, PySem.Value.ref 84, PySem.Value.none, PySem.Value.ref 85, PySem.Value.ref 86,
      PySem.Value.ref 87, PySem.Value.int 287 0, PySem.Value.int 89 0,
      PySem.Value.str (PySem.Str.ofString "/claim/cut.py") 288])
  #[]
noncomputable def o_54 (P : Params) : Obj := PySem.Obj.mk (PySem.Value.type "function") Option.none
  (PySem.Data.func
    (PySem.FuncData.mk (PySem.Str.ofString "_law_escaped") (PySem.Str.ofString "_law_escaped") pa_8
      (PySem.FuncBody.stmts bd_8) sc_8 3 [] PySem.Value.none PySem.Value.none PySem.Value.none
      (PySem.Value.str (PySem.Str.ofString "law_pk0051_01") 266) Option.none (PySem.Value.ref 88) PySem.Value.none 0))
  #[]
noncomputable def o_55 (P : Params) : Obj := PySem.Obj.mk (PySem.Value.type "tuple") Option.none
  (PySem.Data.seq #[PySem.Value.str (PySem.Str.ofString "word") 293, PySem.Value.str (PySem.Str.ofString "n") 294]) #[]
noncomputable def o_56 (P : Params) : Obj := PySem.Obj.mk PySem.Value.none Option.none
  (PySem.Data.func
    (PySem.FuncData.mk (PySem.Str.ofString "_law_quoted") (PySem.Str.ofString "_law_quoted") pa_9
      (PySem.FuncBody.stmts bd_9) sc_9 0 [] PySem.Value.none PySem.Value.none PySem.Value.none PySem.Value.none
      Option.none PySem.Value.none PySem.Value.none 0))
  #[]
noncomputable def o_57 (P : Params) : Obj := PySem.Obj.mk (PySem.Value.type "code") Option.none
  (PySem.Data.fields
    #[PySem.Value.str (PySem.Str.ofString "_law_quoted") 290, PySem.Value.str (PySem.Str.ofString "_law_quoted") 291,
      PySem.Value.str (PySem.Str.ofString "/claim/cut.py") 292, PySem.Value.int 91 0, PySem.Value.int 2 0,
      PySem.Value.int 0 0, PySem.Value.int 0 0, PySem.Value.int 3 0, PySem.Value.ref 90, PySem.Value.bool Bool.true,
      PySem.Value.int 181 0, PySem.Value.ref 91, PySem.Value.none, PySem.Value.ref 92, PySem.Value.ref 93,
      PySem.Value.ref 94, PySem.Value.int 295 0, PySem.Value.int 91 0,
      PySem.Value.str (PySem.Str.ofString "/claim/cut.py") 296])
  #[]
noncomputable def o_58 (P : Params) : Obj := PySem.Obj.mk (PySem.Value.type "function") Option.none
  (PySem.Data.func
    (PySem.FuncData.mk (PySem.Str.ofString "_law_quoted") (PySem.Str.ofString "_law_quoted") pa_9
      (PySem.FuncBody.stmts bd_9) sc_9 3 [] PySem.Value.none PySem.Value.none PySem.Value.none
      (PySem.Value.str (PySem.Str.ofString "law_pk0051_01") 266) Option.none (PySem.Value.ref 95) PySem.Value.none 0))
  #[]
noncomputable def o_59 (P : Params) : Obj := PySem.Obj.mk PySem.Value.none Option.none
  (PySem.Data.func
    (PySem.FuncData.mk (PySem.Str.ofString "_law_word") (PySem.Str.ofString "_law_word") pa_10
      (PySem.FuncBody.stmts bd_10) sc_10 0 [] PySem.Value.none PySem.Value.none PySem.Value.none PySem.Value.none
      Option.none PySem.Value.none PySem.Value.none 0))
  #[]
noncomputable def o_60 (P : Params) : Obj := PySem.Obj.mk (PySem.Value.type "code") Option.none
  (PySem.Data.fields
    #[PySem.Value.str (PySem.Str.ofString "_law_word") 298, PySem.Value.str (PySem.Str.ofString "_law_word") 299,
      PySem.Value.str (PySem.Str.ofString "/claim/cut.py") 300, PySem.Value.int 93 0, PySem.Value.int 2 0,
      PySem.Value.int 0 0, PySem.Value.int 0 0, PySem.Value.int 3 0, PySem.Value.ref 97, PySem.Value.bool Bool.true,
      PySem.Value.int 181 0, PySem.Value.ref 98, PySem.Value.none, PySem.Value.none, PySem.Value.none,
      PySem.Value.ref 99, PySem.Value.int 301 0, PySem.Value.int 93 0,
      PySem.Value.str (PySem.Str.ofString "/claim/cut.py") 302])
  #[]
noncomputable def o_61 (P : Params) : Obj := PySem.Obj.mk (PySem.Value.type "function") Option.none
  (PySem.Data.func
    (PySem.FuncData.mk (PySem.Str.ofString "_law_word") (PySem.Str.ofString "_law_word") pa_10
      (PySem.FuncBody.stmts bd_10) sc_10 3 [] PySem.Value.none PySem.Value.none PySem.Value.none
      (PySem.Value.str (PySem.Str.ofString "law_pk0051_01") 266) Option.none (PySem.Value.ref 100) PySem.Value.none 0))
  #[]
noncomputable def o_62 (P : Params) : Obj := PySem.Obj.mk (PySem.Value.type "tuple") Option.none (PySem.Data.seq #[PySem.Value.str (PySem.Str.ofString "n") 307]) #[]
noncomputable def o_63 (P : Params) : Obj := PySem.Obj.mk PySem.Value.none Option.none
  (PySem.Data.func
    (PySem.FuncData.mk (PySem.Str.ofString "_law_drawn") (PySem.Str.ofString "_law_drawn") pa_11
      (PySem.FuncBody.stmts bd_11) sc_11 0 [] PySem.Value.none PySem.Value.none PySem.Value.none PySem.Value.none
      Option.none PySem.Value.none PySem.Value.none 0))
  #[]
noncomputable def o_64 (P : Params) : Obj := PySem.Obj.mk (PySem.Value.type "code") Option.none
  (PySem.Data.fields
    #[PySem.Value.str (PySem.Str.ofString "_law_drawn") 304, PySem.Value.str (PySem.Str.ofString "_law_drawn") 305,
      PySem.Value.str (PySem.Str.ofString "/claim/cut.py") 306, PySem.Value.int 100 0, PySem.Value.int 1 0,
      PySem.Value.int 0 0, PySem.Value.int 0 0, PySem.Value.int 3 0, PySem.Value.ref 102, PySem.Value.bool Bool.true,
      PySem.Value.int 181 0, PySem.Value.ref 103, PySem.Value.none, PySem.Value.ref 104, PySem.Value.ref 105,
      PySem.Value.ref 106, PySem.Value.int 308 0, PySem.Value.int 100 0,
      PySem.Value.str (PySem.Str.ofString "/claim/cut.py") 309])
  #[]
noncomputable def o_65 (P : Params) : Obj := PySem.Obj.mk (PySem.Value.type "function") Option.none
  (PySem.Data.func
    (PySem.FuncData.mk (PySem.Str.ofString "_law_drawn") (PySem.Str.ofString "_law_drawn") pa_11
      (PySem.FuncBody.stmts bd_11) sc_11 3 [] PySem.Value.none PySem.Value.none PySem.Value.none
      (PySem.Value.str (PySem.Str.ofString "law_pk0051_01") 266) Option.none (PySem.Value.ref 107) PySem.Value.none 0))
  #[]
noncomputable def h11 (P : Params) : Heap := ⟨⟨[boot_o_0 P, boot_o_1 P, boot_o_2 P, o_41 P, boot_o_4 P, boot_o_5 P, boot_o_6 P, boot_o_7 P, boot_o_8 P, boot_o_9 P, boot_o_10 P, boot_o_7 P, o_42 P, o_0 P, o_1 P, boot_o_7 P, boot_o_8 P, o_4 P, boot_o_7 P, o_5 P, o_6 P, o_7 P, boot_o_7 P, boot_o_8 P, o_8 P, o_9 P, o_10 P, boot_o_7 P, o_13 P, o_14 P, boot_o_7 P, o_15 P, o_16 P, o_17 P, boot_o_7 P, boot_o_8 P, o_18 P, boot_o_7 P, o_19 P, o_20 P, o_21 P, boot_o_7 P, boot_o_8 P, o_22 P, boot_o_7 P, o_23 P, o_24 P, o_25 P, boot_o_7 P, boot_o_8 P, o_26 P, boot_o_7 P, o_27 P, o_28 P, o_29 P, boot_o_7 P, boot_o_8 P, o_30 P, boot_o_7 P, o_31 P, o_32 P, o_33 P, o_34 P, o_35 P, o_36 P, o_37 P, o_38 P, o_39 P, o_40 P, boot_o_7 P, boot_o_8 P, boot_o_7 P, boot_o_7 P, o_43 P, o_44 P, o_45 P, boot_o_7 P, boot_o_8 P, o_46 P, o_47 P, o_48 P, o_49 P, o_50 P, boot_o_7 P, boot_o_8 P, o_51 P, boot_o_7 P, o_52 P, o_53 P, o_54 P, boot_o_7 P, boot_o_8 P, o_55 P, boot_o_7 P, o_56 P, o_57 P, o_58 P, boot_o_7 P, boot_o_8 P, o_59 P, o_60 P, o_61 P, boot_o_7 P, boot_o_8 P, o_62 P, boot_o_7 P, o_63 P, o_64 P, o_65 P]⟩, {}⟩
noncomputable def o_66 (P : Params) : Obj := PySem.Obj.mk (PySem.Value.type "dict") Option.none
  (PySem.Data.dict
    #[PySem.DictEntry.mk (PySem.PyData.keyHash P (PySem.Str.ofString "__name__"))
        (PySem.Value.str (PySem.Str.ofString "__name__") 165)
        (PySem.Value.str (PySem.Str.ofString "law_pk0051_01") 266),
      PySem.DictEntry.mk (PySem.PyData.keyHash P (PySem.Str.ofString "__doc__"))
        (PySem.Value.str (PySem.Str.ofString "__doc__") 166) PySem.Value.none,
      PySem.DictEntry.mk (PySem.PyData.keyHash P (PySem.Str.ofString "__package__"))
        (PySem.Value.str (PySem.Str.ofString "__package__") 167) PySem.Value.none,
      PySem.DictEntry.mk (PySem.PyData.keyHash P (PySem.Str.ofString "__loader__"))
        (PySem.Value.str (PySem.Str.ofString "__loader__") 168) (PySem.Value.builtin "__main__.__loader__#opaque"),
      PySem.DictEntry.mk (PySem.PyData.keyHash P (PySem.Str.ofString "__spec__"))
        (PySem.Value.str (PySem.Str.ofString "__spec__") 169) PySem.Value.none,
      PySem.DictEntry.mk (PySem.PyData.keyHash P (PySem.Str.ofString "__annotations__"))
        (PySem.Value.str (PySem.Str.ofString "__annotations__") 170) (PySem.Value.ref 6),
      PySem.DictEntry.mk (PySem.PyData.keyHash P (PySem.Str.ofString "__builtins__"))
        (PySem.Value.str (PySem.Str.ofString "__builtins__") 171) (PySem.Value.ref 4),
      PySem.DictEntry.mk (PySem.PyData.keyHash P (PySem.Str.ofString "__file__"))
        (PySem.Value.str (PySem.Str.ofString "__file__") 173)
        (PySem.Value.str (PySem.Str.ofString "/claim/cut.py") 172),
      PySem.DictEntry.mk (PySem.PyData.keyHash P (PySem.Str.ofString "__cached__"))
        (PySem.Value.str (PySem.Str.ofString "__cached__") 174) PySem.Value.none,
      PySem.DictEntry.mk (PySem.PyData.keyHash P (PySem.Str.ofString "parse_keqv_list"))
        (PySem.Value.str (PySem.Str.ofString "parse_keqv_list") 199) (PySem.Value.ref 21),
      PySem.DictEntry.mk (PySem.PyData.keyHash P (PySem.Str.ofString "parse_http_list"))
        (PySem.Value.str (PySem.Str.ofString "parse_http_list") 205) (PySem.Value.ref 26),
      PySem.DictEntry.mk (PySem.PyData.keyHash P (PySem.Str.ofString "_netrclex"))
        (PySem.Value.str (PySem.Str.ofString "_netrclex") 265) (PySem.Value.ref 64),
      PySem.DictEntry.mk (PySem.PyData.keyHash P (PySem.Str.ofString "_law_names"))
        (PySem.Value.str (PySem.Str.ofString "_law_names") 273) (PySem.Value.ref 75),
      PySem.DictEntry.mk (PySem.PyData.keyHash P (PySem.Str.ofString "_law_lexer"))
        (PySem.Value.str (PySem.Str.ofString "_law_lexer") 282) (PySem.Value.ref 82),
      PySem.DictEntry.mk (PySem.PyData.keyHash P (PySem.Str.ofString "_law_escaped"))
        (PySem.Value.str (PySem.Str.ofString "_law_escaped") 289) (PySem.Value.ref 89),
      PySem.DictEntry.mk (PySem.PyData.keyHash P (PySem.Str.ofString "_law_quoted"))
        (PySem.Value.str (PySem.Str.ofString "_law_quoted") 297) (PySem.Value.ref 96),
      PySem.DictEntry.mk (PySem.PyData.keyHash P (PySem.Str.ofString "_law_word"))
        (PySem.Value.str (PySem.Str.ofString "_law_word") 303) (PySem.Value.ref 101),
      PySem.DictEntry.mk (PySem.PyData.keyHash P (PySem.Str.ofString "_law_drawn"))
        (PySem.Value.str (PySem.Str.ofString "_law_drawn") 310) (PySem.Value.ref 108),
      PySem.DictEntry.mk (PySem.PyData.keyHash P (PySem.Str.ofString "_law_value"))
        (PySem.Value.str (PySem.Str.ofString "_law_value") 316) (PySem.Value.ref 113),
      PySem.DictEntry.mk (PySem.PyData.keyHash P (PySem.Str.ofString "_law_header"))
        (PySem.Value.str (PySem.Str.ofString "_law_header") 322) (PySem.Value.ref 118),
      PySem.DictEntry.mk (PySem.PyData.keyHash P (PySem.Str.ofString "_law_read"))
        (PySem.Value.str (PySem.Str.ofString "_law_read") 329) (PySem.Value.ref 125),
      PySem.DictEntry.mk (PySem.PyData.keyHash P (PySem.Str.ofString "_law_words"))
        (PySem.Value.str (PySem.Str.ofString "_law_words") 338) (PySem.Value.ref 132),
      PySem.DictEntry.mk (PySem.PyData.keyHash P (PySem.Str.ofString "_law_rounds"))
        (PySem.Value.str (PySem.Str.ofString "_law_rounds") 344) (PySem.Value.ref 137),
      PySem.DictEntry.mk (PySem.PyData.keyHash P (PySem.Str.ofString "_law_at"))
        (PySem.Value.str (PySem.Str.ofString "_law_at") 356) (PySem.Value.ref 144),
      PySem.DictEntry.mk (PySem.PyData.keyHash P (PySem.Str.ofString "law"))
        (PySem.Value.str (PySem.Str.ofString "law") 362) (PySem.Value.ref 149)]
    25)
  #[]
noncomputable def o_67 (P : Params) : Obj := PySem.Obj.mk PySem.Value.none Option.none
  (PySem.Data.fields
    #[PySem.Value.int 2 0, PySem.Value.int 0 0, PySem.Value.ref 20, PySem.Value.int 10 0, PySem.Value.int 0 0,
      PySem.Value.ref 25, PySem.Value.int 38 0, PySem.Value.int 0 0, PySem.Value.ref 32, PySem.Value.int 82 0,
      PySem.Value.int 0 0, PySem.Value.ref 74, PySem.Value.int 84 0, PySem.Value.int 0 0, PySem.Value.ref 81,
      PySem.Value.int 89 0, PySem.Value.int 0 0, PySem.Value.ref 88, PySem.Value.int 91 0, PySem.Value.int 0 0,
      PySem.Value.ref 95, PySem.Value.int 93 0, PySem.Value.int 0 0, PySem.Value.ref 100, PySem.Value.int 100 0,
      PySem.Value.int 0 0, PySem.Value.ref 107, PySem.Value.int 102 0, PySem.Value.int 0 0, PySem.Value.ref 112,
      PySem.Value.int 113 0, PySem.Value.int 0 0, PySem.Value.ref 117, PySem.Value.int 121 0, PySem.Value.int 0 0,
      PySem.Value.ref 124, PySem.Value.int 128 0, PySem.Value.int 0 0, PySem.Value.ref 131, PySem.Value.int 134 0,
      PySem.Value.int 0 0, PySem.Value.ref 136, PySem.Value.int 146 0, PySem.Value.int 0 0, PySem.Value.ref 143,
      PySem.Value.int 155 0, PySem.Value.int 0 0, PySem.Value.ref 148])
  #[]
noncomputable def o_68 (P : Params) : Obj := PySem.Obj.mk PySem.Value.none Option.none
  (PySem.Data.func
    (PySem.FuncData.mk (PySem.Str.ofString "_law_value") (PySem.Str.ofString "_law_value") pa_12
      (PySem.FuncBody.stmts bd_12) sc_12 0 [] PySem.Value.none PySem.Value.none PySem.Value.none PySem.Value.none
      Option.none PySem.Value.none PySem.Value.none 0))
  #[]
noncomputable def o_69 (P : Params) : Obj := PySem.Obj.mk (PySem.Value.type "code") Option.none
  (PySem.Data.fields
    #[PySem.Value.str (PySem.Str.ofString "_law_value") 311, PySem.Value.str (PySem.Str.ofString "_law_value") 312,
      PySem.Value.str (PySem.Str.ofString "/claim/cut.py") 313, PySem.Value.int 102 0, PySem.Value.int 2 0,
      PySem.Value.int 0 0, PySem.Value.int 0 0, PySem.Value.int 3 0, PySem.Value.ref 109, PySem.Value.bool Bool.true,
      PySem.Value.int 181 0, PySem.Value.ref 110, PySem.Value.none, PySem.Value.none, PySem.Value.none,
      PySem.Value.ref 111, PySem.Value.int 314 0, PySem.Value.int 102 0,
      PySem.Value.str (PySem.Str.ofString "/claim/cut.py") 315])
  #[]
noncomputable def o_70 (P : Params) : Obj := PySem.Obj.mk (PySem.Value.type "function") Option.none
  (PySem.Data.func
    (PySem.FuncData.mk (PySem.Str.ofString "_law_value") (PySem.Str.ofString "_law_value") pa_12
      (PySem.FuncBody.stmts bd_12) sc_12 3 [] PySem.Value.none PySem.Value.none PySem.Value.none
      (PySem.Value.str (PySem.Str.ofString "law_pk0051_01") 266) Option.none (PySem.Value.ref 112) PySem.Value.none 0))
  #[]
noncomputable def o_71 (P : Params) : Obj := PySem.Obj.mk PySem.Value.none Option.none
  (PySem.Data.func
    (PySem.FuncData.mk (PySem.Str.ofString "_law_header") (PySem.Str.ofString "_law_header") pa_13
      (PySem.FuncBody.stmts bd_13) sc_13 0 [] PySem.Value.none PySem.Value.none PySem.Value.none PySem.Value.none
      Option.none PySem.Value.none PySem.Value.none 0))
  #[]
noncomputable def o_72 (P : Params) : Obj := PySem.Obj.mk (PySem.Value.type "code") Option.none
  (PySem.Data.fields
    #[PySem.Value.str (PySem.Str.ofString "_law_header") 317, PySem.Value.str (PySem.Str.ofString "_law_header") 318,
      PySem.Value.str (PySem.Str.ofString "/claim/cut.py") 319, PySem.Value.int 113 0, PySem.Value.int 3 0,
      PySem.Value.int 0 0, PySem.Value.int 0 0, PySem.Value.int 3 0, PySem.Value.ref 114, PySem.Value.bool Bool.true,
      PySem.Value.int 181 0, PySem.Value.ref 115, PySem.Value.none, PySem.Value.none, PySem.Value.none,
      PySem.Value.ref 116, PySem.Value.int 320 0, PySem.Value.int 113 0,
      PySem.Value.str (PySem.Str.ofString "/claim/cut.py") 321])
  #[]
noncomputable def o_73 (P : Params) : Obj := PySem.Obj.mk (PySem.Value.type "function") Option.none
  (PySem.Data.func
    (PySem.FuncData.mk (PySem.Str.ofString "_law_header") (PySem.Str.ofString "_law_header") pa_13
      (PySem.FuncBody.stmts bd_13) sc_13 3 [] PySem.Value.none PySem.Value.none PySem.Value.none
      (PySem.Value.str (PySem.Str.ofString "law_pk0051_01") 266) Option.none (PySem.Value.ref 117) PySem.Value.none 0))
  #[]
noncomputable def o_74 (P : Params) : Obj := PySem.Obj.mk (PySem.Value.type "tuple") Option.none
  (PySem.Data.seq #[PySem.Value.str (PySem.Str.ofString "header") 326]) #[]
noncomputable def o_75 (P : Params) : Obj := PySem.Obj.mk PySem.Value.none Option.none
  (PySem.Data.func
    (PySem.FuncData.mk (PySem.Str.ofString "_law_read") (PySem.Str.ofString "_law_read") pa_14
      (PySem.FuncBody.stmts bd_14) sc_14 0 [] PySem.Value.none PySem.Value.none PySem.Value.none PySem.Value.none
      Option.none PySem.Value.none PySem.Value.none 0))
  #[]
noncomputable def o_76 (P : Params) : Obj := PySem.Obj.mk (PySem.Value.type "code") Option.none
  (PySem.Data.fields
    #[PySem.Value.str (PySem.Str.ofString "_law_read") 323, PySem.Value.str (PySem.Str.ofString "_law_read") 324,
      PySem.Value.str (PySem.Str.ofString "/claim/cut.py") 325, PySem.Value.int 121 0, PySem.Value.int 1 0,
      PySem.Value.int 0 0, PySem.Value.int 0 0, PySem.Value.int 3 0, PySem.Value.ref 119, PySem.Value.bool Bool.true,
      PySem.Value.int 181 0, PySem.Value.ref 120, PySem.Value.none, PySem.Value.ref 121, PySem.Value.ref 122,
      PySem.Value.ref 123, PySem.Value.int 327 0, PySem.Value.int 121 0,
      PySem.Value.str (PySem.Str.ofString "/claim/cut.py") 328])
  #[]
noncomputable def o_77 (P : Params) : Obj := PySem.Obj.mk (PySem.Value.type "function") Option.none
  (PySem.Data.func
    (PySem.FuncData.mk (PySem.Str.ofString "_law_read") (PySem.Str.ofString "_law_read") pa_14
      (PySem.FuncBody.stmts bd_14) sc_14 3 [] PySem.Value.none PySem.Value.none PySem.Value.none
      (PySem.Value.str (PySem.Str.ofString "law_pk0051_01") 266) Option.none (PySem.Value.ref 124) PySem.Value.none 0))
  #[]
noncomputable def o_78 (P : Params) : Obj := PySem.Obj.mk (PySem.Value.type "tuple") Option.none
  (PySem.Data.seq
    #[PySem.Value.str (PySem.Str.ofString "text") 333, PySem.Value.str (PySem.Str.ofString "lexer") 334,
      PySem.Value.str (PySem.Str.ofString "words") 335])
  #[]
noncomputable def o_79 (P : Params) : Obj := PySem.Obj.mk PySem.Value.none Option.none
  (PySem.Data.func
    (PySem.FuncData.mk (PySem.Str.ofString "_law_words") (PySem.Str.ofString "_law_words") pa_15
      (PySem.FuncBody.stmts bd_15) sc_15 0 [] PySem.Value.none PySem.Value.none PySem.Value.none PySem.Value.none
      Option.none PySem.Value.none PySem.Value.none 0))
  #[]
noncomputable def o_80 (P : Params) : Obj := PySem.Obj.mk (PySem.Value.type "code") Option.none
  (PySem.Data.fields
    #[PySem.Value.str (PySem.Str.ofString "_law_words") 330, PySem.Value.str (PySem.Str.ofString "_law_words") 331,
      PySem.Value.str (PySem.Str.ofString "/claim/cut.py") 332, PySem.Value.int 128 0, PySem.Value.int 1 0,
      PySem.Value.int 0 0, PySem.Value.int 0 0, PySem.Value.int 3 0, PySem.Value.ref 126, PySem.Value.bool Bool.true,
      PySem.Value.int 181 0, PySem.Value.ref 127, PySem.Value.none, PySem.Value.ref 128, PySem.Value.ref 129,
      PySem.Value.ref 130, PySem.Value.int 336 0, PySem.Value.int 128 0,
      PySem.Value.str (PySem.Str.ofString "/claim/cut.py") 337])
  #[]
noncomputable def o_81 (P : Params) : Obj := PySem.Obj.mk (PySem.Value.type "function") Option.none
  (PySem.Data.func
    (PySem.FuncData.mk (PySem.Str.ofString "_law_words") (PySem.Str.ofString "_law_words") pa_15
      (PySem.FuncBody.stmts bd_15) sc_15 3 [] PySem.Value.none PySem.Value.none PySem.Value.none
      (PySem.Value.str (PySem.Str.ofString "law_pk0051_01") 266) Option.none (PySem.Value.ref 131) PySem.Value.none 0))
  #[]
noncomputable def o_82 (P : Params) : Obj := PySem.Obj.mk PySem.Value.none Option.none
  (PySem.Data.func
    (PySem.FuncData.mk (PySem.Str.ofString "_law_rounds") (PySem.Str.ofString "_law_rounds") pa_16
      (PySem.FuncBody.stmts bd_16) sc_16 0 [] PySem.Value.none PySem.Value.none PySem.Value.none PySem.Value.none
      Option.none PySem.Value.none PySem.Value.none 0))
  #[]
noncomputable def o_83 (P : Params) : Obj := PySem.Obj.mk (PySem.Value.type "code") Option.none
  (PySem.Data.fields
    #[PySem.Value.str (PySem.Str.ofString "_law_rounds") 339, PySem.Value.str (PySem.Str.ofString "_law_rounds") 340,
      PySem.Value.str (PySem.Str.ofString "/claim/cut.py") 341, PySem.Value.int 134 0, PySem.Value.int 2 0,
      PySem.Value.int 0 0, PySem.Value.int 0 0, PySem.Value.int 3 0, PySem.Value.ref 133, PySem.Value.bool Bool.true,
      PySem.Value.int 181 0, PySem.Value.ref 134, PySem.Value.none, PySem.Value.none, PySem.Value.none,
      PySem.Value.ref 135, PySem.Value.int 342 0, PySem.Value.int 134 0,
      PySem.Value.str (PySem.Str.ofString "/claim/cut.py") 343])
  #[]
noncomputable def o_84 (P : Params) : Obj := PySem.Obj.mk (PySem.Value.type "function") Option.none
  (PySem.Data.func
    (PySem.FuncData.mk (PySem.Str.ofString "_law_rounds") (PySem.Str.ofString "_law_rounds") pa_16
      (PySem.FuncBody.stmts bd_16) sc_16 3 [] PySem.Value.none PySem.Value.none PySem.Value.none
      (PySem.Value.str (PySem.Str.ofString "law_pk0051_01") 266) Option.none (PySem.Value.ref 136) PySem.Value.none 0))
  #[]
noncomputable def o_85 (P : Params) : Obj := PySem.Obj.mk (PySem.Value.type "tuple") Option.none
  (PySem.Data.seq
    #[PySem.Value.str (PySem.Str.ofString "rows") 348, PySem.Value.str (PySem.Str.ofString "sizes") 349,
      PySem.Value.str (PySem.Str.ofString "name") 350, PySem.Value.str (PySem.Str.ofString "left") 351,
      PySem.Value.str (PySem.Str.ofString "place") 352, PySem.Value.str (PySem.Str.ofString "k") 353])
  #[]
noncomputable def o_86 (P : Params) : Obj := PySem.Obj.mk PySem.Value.none Option.none
  (PySem.Data.func
    (PySem.FuncData.mk (PySem.Str.ofString "_law_at") (PySem.Str.ofString "_law_at") pa_17 (PySem.FuncBody.stmts bd_17)
      sc_17 0 [] PySem.Value.none PySem.Value.none PySem.Value.none PySem.Value.none Option.none PySem.Value.none
      PySem.Value.none 0))
  #[]
noncomputable def o_87 (P : Params) : Obj := PySem.Obj.mk (PySem.Value.type "code") Option.none
  (PySem.Data.fields
    #[PySem.Value.str (PySem.Str.ofString "_law_at") 345, PySem.Value.str (PySem.Str.ofString "_law_at") 346,
      PySem.Value.str (PySem.Str.ofString "/claim/cut.py") 347, PySem.Value.int 146 0, PySem.Value.int 5 0,
      PySem.Value.int 0 0, PySem.Value.int 0 0, PySem.Value.int 3 0, PySem.Value.ref 138, PySem.Value.bool Bool.true,
      PySem.Value.int 181 0, PySem.Value.ref 139, PySem.Value.none, PySem.Value.ref 140, PySem.Value.ref 141,
      PySem.Value.ref 142, PySem.Value.int 354 0, PySem.Value.int 146 0,
      PySem.Value.str (PySem.Str.ofString "/claim/cut.py") 355])
  #[]
noncomputable def o_88 (P : Params) : Obj := PySem.Obj.mk (PySem.Value.type "function") Option.none
  (PySem.Data.func
    (PySem.FuncData.mk (PySem.Str.ofString "_law_at") (PySem.Str.ofString "_law_at") pa_17 (PySem.FuncBody.stmts bd_17)
      sc_17 3 [] PySem.Value.none PySem.Value.none PySem.Value.none
      (PySem.Value.str (PySem.Str.ofString "law_pk0051_01") 266) Option.none (PySem.Value.ref 143) PySem.Value.none 0))
  #[]
noncomputable def o_89 (P : Params) : Obj := PySem.Obj.mk PySem.Value.none Option.none
  (PySem.Data.func
    (PySem.FuncData.mk (PySem.Str.ofString "law") (PySem.Str.ofString "law") pa_18 (PySem.FuncBody.stmts bd_18) sc_18 0
      [] PySem.Value.none PySem.Value.none PySem.Value.none PySem.Value.none Option.none PySem.Value.none
      PySem.Value.none 0))
  #[]
noncomputable def o_90 (P : Params) : Obj := PySem.Obj.mk (PySem.Value.type "code") Option.none
  (PySem.Data.fields
    #[PySem.Value.str (PySem.Str.ofString "law") 357, PySem.Value.str (PySem.Str.ofString "law") 358,
      PySem.Value.str (PySem.Str.ofString "/claim/cut.py") 359, PySem.Value.int 155 0, PySem.Value.int 1 0,
      PySem.Value.int 0 0, PySem.Value.int 0 0, PySem.Value.int 3 0, PySem.Value.ref 145, PySem.Value.bool Bool.true,
      PySem.Value.int 181 0, PySem.Value.ref 146, PySem.Value.none, PySem.Value.none, PySem.Value.none,
      PySem.Value.ref 147, PySem.Value.int 360 0, PySem.Value.int 155 0,
      PySem.Value.str (PySem.Str.ofString "/claim/cut.py") 361])
  #[]
noncomputable def o_91 (P : Params) : Obj := PySem.Obj.mk (PySem.Value.type "function") Option.none
  (PySem.Data.func
    (PySem.FuncData.mk (PySem.Str.ofString "law") (PySem.Str.ofString "law") pa_18 (PySem.FuncBody.stmts bd_18) sc_18 3
      [] PySem.Value.none PySem.Value.none PySem.Value.none (PySem.Value.str (PySem.Str.ofString "law_pk0051_01") 266)
      Option.none (PySem.Value.ref 148) PySem.Value.none 0))
  #[]
noncomputable def h18 (P : Params) : Heap := ⟨⟨[boot_o_0 P, boot_o_1 P, boot_o_2 P, o_66 P, boot_o_4 P, boot_o_5 P, boot_o_6 P, boot_o_7 P, boot_o_8 P, boot_o_9 P, boot_o_10 P, boot_o_7 P, o_67 P, o_0 P, o_1 P, boot_o_7 P, boot_o_8 P, o_4 P, boot_o_7 P, o_5 P, o_6 P, o_7 P, boot_o_7 P, boot_o_8 P, o_8 P, o_9 P, o_10 P, boot_o_7 P, o_13 P, o_14 P, boot_o_7 P, o_15 P, o_16 P, o_17 P, boot_o_7 P, boot_o_8 P, o_18 P, boot_o_7 P, o_19 P, o_20 P, o_21 P, boot_o_7 P, boot_o_8 P, o_22 P, boot_o_7 P, o_23 P, o_24 P, o_25 P, boot_o_7 P, boot_o_8 P, o_26 P, boot_o_7 P, o_27 P, o_28 P, o_29 P, boot_o_7 P, boot_o_8 P, o_30 P, boot_o_7 P, o_31 P, o_32 P, o_33 P, o_34 P, o_35 P, o_36 P, o_37 P, o_38 P, o_39 P, o_40 P, boot_o_7 P, boot_o_8 P, boot_o_7 P, boot_o_7 P, o_43 P, o_44 P, o_45 P, boot_o_7 P, boot_o_8 P, o_46 P, o_47 P, o_48 P, o_49 P, o_50 P, boot_o_7 P, boot_o_8 P, o_51 P, boot_o_7 P, o_52 P, o_53 P, o_54 P, boot_o_7 P, boot_o_8 P, o_55 P, boot_o_7 P, o_56 P, o_57 P, o_58 P, boot_o_7 P, boot_o_8 P, o_59 P, o_60 P, o_61 P, boot_o_7 P, boot_o_8 P, o_62 P, boot_o_7 P, o_63 P, o_64 P, o_65 P, boot_o_7 P, boot_o_8 P, o_68 P, o_69 P, o_70 P, boot_o_7 P, boot_o_8 P, o_71 P, o_72 P, o_73 P, boot_o_7 P, boot_o_8 P, o_74 P, boot_o_7 P, o_75 P, o_76 P, o_77 P, boot_o_7 P, boot_o_8 P, o_78 P, boot_o_7 P, o_79 P, o_80 P, o_81 P, boot_o_7 P, boot_o_8 P, o_82 P, o_83 P, o_84 P, boot_o_7 P, boot_o_8 P, o_85 P, boot_o_7 P, o_86 P, o_87 P, o_88 P, boot_o_7 P, boot_o_8 P, o_89 P, o_90 P, o_91 P]⟩, {}⟩
noncomputable def heap_39 (P : Params) : Frag := [(2, boot_o_2 P), (3, o_66 P), (15, boot_o_7 P), (17, o_4 P), (18, boot_o_7 P), (20, o_6 P), (21, o_7 P), (22, boot_o_7 P), (25, o_9 P), (26, o_10 P), (34, boot_o_7 P), (36, o_18 P), (37, boot_o_7 P), (39, o_20 P), (40, o_21 P), (41, boot_o_7 P), (43, o_22 P), (44, boot_o_7 P), (46, o_24 P), (47, o_25 P), (48, boot_o_7 P), (50, o_26 P), (51, boot_o_7 P), (53, o_28 P), (54, o_29 P), (55, boot_o_7 P), (57, o_30 P), (58, boot_o_7 P), (60, o_32 P), (61, o_33 P), (62, o_34 P), (63, o_35 P), (64, o_36 P), (65, o_37 P), (66, o_38 P), (69, boot_o_7 P), (71, boot_o_7 P), (72, boot_o_7 P), (74, o_44 P), (75, o_45 P), (76, boot_o_7 P), (78, o_46 P), (79, o_47 P), (81, o_49 P), (82, o_50 P), (83, boot_o_7 P), (85, o_51 P), (86, boot_o_7 P), (88, o_53 P), (89, o_54 P), (90, boot_o_7 P), (92, o_55 P), (93, boot_o_7 P), (95, o_57 P), (96, o_58 P), (97, boot_o_7 P), (100, o_60 P), (101, o_61 P), (102, boot_o_7 P), (104, o_62 P), (105, boot_o_7 P), (107, o_64 P), (108, o_65 P), (109, boot_o_7 P), (112, o_69 P), (113, o_70 P), (114, boot_o_7 P), (117, o_72 P), (118, o_73 P), (119, boot_o_7 P), (121, o_74 P), (122, boot_o_7 P), (124, o_76 P), (125, o_77 P), (126, boot_o_7 P), (128, o_78 P), (129, boot_o_7 P), (131, o_80 P), (132, o_81 P), (133, boot_o_7 P), (136, o_83 P), (137, o_84 P), (138, boot_o_7 P), (140, o_85 P), (141, boot_o_7 P), (143, o_87 P), (144, o_88 P), (145, boot_o_7 P), (148, o_90 P), (149, o_91 P)]
noncomputable def asK : List Addr := [2, 3, 15, 17, 18, 20, 21, 22, 25, 26, 34, 36, 37, 39, 40, 41, 43, 44, 46, 47, 48, 50, 51, 53, 54, 55, 57, 58, 60, 61, 62, 63, 64, 65, 66, 69, 71, 72, 74, 75, 76, 78, 79, 81, 82, 83, 85, 86, 88, 89, 90, 92, 93, 95, 96, 97, 100, 101, 102, 104, 105, 107, 108, 109, 112, 113, 114, 117, 118, 119, 121, 122, 124, 125, 126, 128, 129, 131, 132, 133, 136, 137, 138, 140, 141, 143, 144, 145, 148, 149]
noncomputable def view : Program := { pw with main := { pw.main with body := [1, 2, 4, 6, 7, 8, 9, 10, 11, 12, 13, 14, 15, 16, 17, 18].map stA } }
end Mine.Hd
end
section
open PySem PySem.W PyProof.Rows
set_option linter.unusedVariables false
set_option maxRecDepth 100000
namespace Mine.Hd
noncomputable def bE : List Stmt := behindTheImports pw
noncomputable def envT : Env := { scope := pw.main.scope, locals := mainNs, globals := mainNs, cells := [], code := .ref 13, frame := some 14 }
noncomputable def cE : Code := .body bE envT
noncomputable def shA (h : Heap) (k : Nat) (os : OsState) : Shared := ⟨h, ⟨[]⟩, {}, k, os⟩
noncomputable abbrev q0 : Pos := ⟨0, 0, 0, 0⟩
noncomputable abbrev an : Option Value := some (.ref 6)
theorem run_pre (w : World) (os : OsState) : topGo treeTable pw w 11 an 12 (shA (boot_heap w.params) boot_toks os) (topStub pw) = some (shA (hA w.params) 187 os, ⟨denote treeTable cE, cE, q0, [topFrame q0]⟩) := by kernel_rfl
noncomputable def cut (a n : Nat) : List Stmt := (pw.main.body.drop a).take n
theorem run_block (w : World) (os : OsState) : segRun treeTable pw w 11 an 1 1 (shA (hA w.params) 187 os) (blockOf bE envT cE q0 [topFrame q0]) = some (.next, shA (hA w.params) 187 os, cE, q0) := by kernel_rfl
theorem run_a (w : World) (os : OsState) : segRun treeTable pw w 11 an 1 78 (shA (hA w.params) 187 os) (piecesOf (cut 0 4) envT cE q0 [topFrame q0]) = some (.next, shA (h3 w.params) 208 os, cE, ⟨37, 0, 37, 8⟩) := by
  show segRun treeTable pw w 11 an 1 78 (shA (hA w.params) 187 os) ⟨(execs (cut 0 4) envT).wrap doneF deadEnd id id, cE, q0, [topFrame q0]⟩ = some (.next, shA (h3 w.params) 208 os, cE, ⟨37, 0, 37, 8⟩)
  rw [PySem.W.Fast.te14374325043358763698, PySem.W.Fast.te14364793385576792824, PySem.W.Fast.te12563942051412417395]
  kernel_rfl
theorem run_b (w : World) (os : OsState) : segRun treeTable pw w 11 an 1 324 (shA (h3 w.params) 208 os) (piecesOf (cut 4 1) envT cE ⟨37, 0, 37, 8⟩ [topFrame q0]) = some (.next, shA (h4 w.params) 266 os, cE, ⟨38, 0, 80, 35⟩) := by
  show segRun treeTable pw w 11 an 1 324 (shA (h3 w.params) 208 os) ⟨(execs (cut 4 1) envT).wrap doneF deadEnd id id, cE, ⟨37, 0, 37, 8⟩, [topFrame q0]⟩ = some (.next, shA (h4 w.params) 266 os, cE, ⟨38, 0, 80, 35⟩)
  rw [PySem.W.Fast.te14374325043358763698, PySem.W.Fast.te14364793385576792824, PySem.W.Fast.te12563942051412417395]
  kernel_rfl
theorem run_c (w : World) (os : OsState) : segRun treeTable pw w 11 an 1 183 (shA (h4 w.params) 266 os) (piecesOf (cut 5 7) envT cE ⟨38, 0, 80, 35⟩ [topFrame q0]) = some (.next, shA (h11 w.params) 311 os, cE, ⟨100, 0, 101, 67⟩) := by
  show segRun treeTable pw w 11 an 1 183 (shA (h4 w.params) 266 os) ⟨(execs (cut 5 7) envT).wrap doneF deadEnd id id, cE, ⟨38, 0, 80, 35⟩, [topFrame q0]⟩ = some (.next, shA (h11 w.params) 311 os, cE, ⟨100, 0, 101, 67⟩)
  rw [PySem.W.Fast.te14374325043358763698, PySem.W.Fast.te14364793385576792824, PySem.W.Fast.te12563942051412417395]
  kernel_rfl
theorem run_d (w : World) (os : OsState) : segRun treeTable pw w 11 an 1 199 (shA (h11 w.params) 311 os) (piecesOf (cut 12 7) envT cE ⟨100, 0, 101, 67⟩ [topFrame q0]) = some (.next, shA (h18 w.params) 363 os, cE, ⟨155, 0, 178, 33⟩) := by
  show segRun treeTable pw w 11 an 1 199 (shA (h11 w.params) 311 os) ⟨(execs (cut 12 7) envT).wrap doneF deadEnd id id, cE, ⟨100, 0, 101, 67⟩, [topFrame q0]⟩ = some (.next, shA (h18 w.params) 363 os, cE, ⟨155, 0, 178, 33⟩)
  rw [PySem.W.Fast.te14374325043358763698, PySem.W.Fast.te14364793385576792824, PySem.W.Fast.te12563942051412417395]
  kernel_rfl
theorem run_fin (w : World) (os : OsState) : topRun treeTable pw w 11 an 2 (shA (h18 w.params) 363 os) ⟨doneF .next, cE, ⟨155, 0, 178, 33⟩, [topFrame q0]⟩ = some (shA (h18 w.params) 363 os) := by kernel_rfl
end Mine.Hd
end
section
open PySem PySem.W PyProof.Rows
set_option linter.unusedVariables false
set_option maxRecDepth 100000
namespace Mine.Hd
theorem run_top (w : World) (os : OsState) : topRun treeTable pw w 11 an (12 + (1 + (78 + (324 + (183 + (199 + 2)))))) (shA (boot_heap w.params) boot_toks os) (topStub pw) = some (shA (h18 w.params) 363 os) := by
  have hb : bE = cut 0 4 ++ (cut 4 1 ++ (cut 5 7 ++ (cut 12 7 ++ []))) := by kernel_rfl
  refine go_top (run_pre w os) (piece_block (run_block w os) ?_)
  refine (congrArg (fun l => topRun treeTable pw w 11 an (78 + (324 + (183 + (199 + 2)))) (shA (hA w.params) 187 os) (restOf l envT cE q0 [topFrame q0])) hb).trans ?_
  exact piece_app (run_a w os) (piece_app (run_b w os) (piece_app (run_c w os) (piece_app (run_d w os) (piece_nil (run_fin w os)))))
theorem asK_eq : ∀ P, asK = (heap_39 P).map (·.1) := fun P => by kernel_rfl
noncomputable def HK : Hook := kmHook heap_39 asK asK_eq [77]
noncomputable def XT (s : Shared) : Bool := xlAt view [] s && recOk PySem.Challenge.rw_pk0051_01.row.records s
theorem look_a (w : World) (os : OsState) : (staticsOk (importedModules pw.main.body) (boot_heap w.params) (h18 w.params) && namesBound pw (h18 w.params) && gensDone (shA (h18 w.params) 363 os) && laidKept (boot_heap w.params) (h18 w.params)) = true := by kernel_rfl
theorem look_b (w : World) (os : OsState) : openSeen view [] (importedModules pw.main.body) XT true (shA (h18 w.params) 363 os) = openGood view [] := by
  rw [PySem.W.Fast.te4187177175401517315]
  kernel_rfl
theorem look_c (w : World) (os : OsState) : HK.obs (shA (h18 w.params) 363 os) = HK.val w := by kernel_rfl
theorem left : LeftO pw view [] XT HK.obs HK.val 1686 := by
  refine LeftO.of_pieces (H₀ := boot_heap) (H₁ := h18) (gs₀ := ⟨[]⟩) (gs₁ := ⟨[]⟩) (d₀ := boot_drawn) (d₁ := {}) (k₀ := boot_toks) (k₁ := 363) (m₀ := 11) (ann := an) (M := 12 + (1 + (78 + (324 + (183 + (199 + 2))))))
    (boot_open (by kernel_rfl) (by decide) (fun s => by kernel_rfl)) (fun w => by kernel_rfl) run_top (by decide) (fun w => ?_)
  funext os
  exact Prod.ext (look_a w os) (Prod.ext (look_b w os) (look_c w os))
end Mine.Hd
end
section
open PySem PySem.W PyProof.Rows
set_option linter.unusedVariables false
set_option maxRecDepth 100000
namespace Mine.Hd
noncomputable def dLaw : DefRec := { name := "law", params := pa_18, body := bd_18, scope := sc_18, pos := ⟨155, 0, 178, 33⟩ }
theorem said : PySem.Challenge.rw_pk0051_01.wellSaid = true := by
  rw [PySem.W.Fast.te9446332074065402090]
  unfold PySem.W.Fast.tw9446332074065402090
  repeat' (with_reducible refine look_both ?_ ?_)
  all_goals (try unfold PySem.W.Fast.tw17960256430627541270)
  all_goals (repeat' (with_reducible refine look_both ?_ ?_))
  all_goals (try unfold PySem.W.Fast.tw2436336058641802641)
  all_goals (repeat' (with_reducible refine look_both ?_ ?_))
  all_goals (try unfold PySem.W.Fast.tw12908688711261696721)
  all_goals (repeat' (with_reducible refine look_both ?_ ?_))
  all_goals decide +kernel
theorem hd (walk : WalkO view [] (XL view []) HK.says PySem.Challenge.rw_pk0051_01.row.toRowW dLaw [] fun f vs => PySem.call f vs) : PySem.Challenge.rw_pk0051_01.Holds := by
  refine holds_law said fun said => ?_
  refine holds_open (q := view) (loose := []) (Xt := XT) (XP := XL view []) (Yf := HK.obs) (Ya := HK.val) (YP := HK.says) (d := dLaw) (kwd := []) (N := 1686) left HK.of HK.keeps
    (fun s e => xl_of s (Bool.and_eq_true_iff.mp e).1) XL.keeps (by kernel_rfl) (by kernel_rfl) (by kernel_rfl) (fun s e => recFacts_of (Bool.and_eq_true_iff.mp e).2) (by kernel_rfl) said (by kernel_rfl) ⟨rfl, rfl, rfl, rfl, rfl, by decide +kernel⟩
    ⟨[.list []], by decide +kernel, by decide +kernel⟩ walk
end Mine.Hd
end
section
open PySem PySem.W PyProof.Rows PySem.Calls PySem.Spec PySem.SeqAt
set_option linter.unusedVariables false
namespace Mine
/-! ## no heap shrinks -/
theorem runs_size {M : Model} {Γ : PySem.Ctx} {p : Pos} {t : Sem Fin} {fs : List Frame} {s s' : Shared} {e : End} (h : Runs M Γ p t fs s e s') : s.heap.objs.size ≤ s'.heap.objs.size := by
  induction h <;> (try simp only [Shared.setGen, Heap.size_push, (Heap.SameBut.update _ _ _).1] at *) <;> omega
theorem wakes_size {M : Model} {Γ : PySem.Ctx} {p : Pos} {g : Nat} {r : Resume} {s s' : Shared} {res : GenResult} (h : Wakes M Γ p g r s res s') : s.heap.objs.size ≤ s'.heap.objs.size := by
  unfold Wakes at h
  split at h
  · exact h.elim
  · split at h
    · obtain ⟨e₁, s₁, hr, _, _, rfl⟩ := h; exact (runs_size hr : (s.setGen g .running).heap.objs.size ≤ s₁.heap.objs.size)
    · rw [h.2]; exact Nat.le_refl _
    · rw [h.2]; exact Nat.le_refl _
  · obtain ⟨e₁, s₁, hr, _, _, rfl⟩ := h; exact (runs_size hr : (s.setGen g .running).heap.objs.size ≤ s₁.heap.objs.size)
  · rw [h.2]; exact Nat.le_refl _
  · rw [h.2]; exact Nat.le_refl _
open Sem in
theorem wp_size {α : Type} (M : Model) (Γ : PySem.Ctx) (n : Nat) (t : Sem α) : ∀ (Q : α → Pos → Shared → Prop) (E : Value → Pos → Shared → Prop) (p : Pos) (s : Shared), n ≤ s.heap.objs.size → wp M Γ t Q E p s →
    wp M Γ t (fun a p' s' => n ≤ s'.heap.objs.size ∧ Q a p' s') (fun e p' s' => n ≤ s'.heap.objs.size ∧ E e p' s') p s := by
  induction t with
  | pure a => intro Q E p s hn h; exact ⟨hn, h⟩
  | raise e => intro Q E p s hn h; exact ⟨hn, h⟩
  | unsupported _ => intro Q E p s _ h; exact h
  | finish _ => intro Q E p s _ h; exact h
  | rule _ k ih => intro Q E p s hn h; exact ih () Q E p s hn h
  | «at» p' k ih => intro Q E p s hn h; exact ih () Q E p' s hn h
  | load a _ k ih => intro Q E p s hn h; obtain ⟨o, ho, h⟩ := h; exact ⟨o, ho, ih o Q E p s hn h⟩
  | update a _ f k ih => intro Q E p s hn h; exact ⟨h.1, ih () Q E p _ (by show n ≤ (s.heap.update a f).objs.size; rw [(Heap.SameBut.update _ _ _).1]; exact hn) h.2⟩
  | loadIfAlive a k ih => intro Q E p s hn h; exact ih _ Q E p s hn h
  | point _ k ih => intro Q E p s hn h; exact ih () Q E p s hn h
  | register _ _ => intro Q E p s _ h; exact h
  | alloc o k ih => intro Q E p s hn h; exact ih _ Q E p _ (by show n ≤ (s.heap.push o).objs.size; rw [Heap.size_push]; exact Nat.le_succ_of_le hn) h
  | fresh k ih => intro Q E p s hn h; exact ih _ Q E p _ hn h
  | ask k ih => intro Q E p s hn h; exact ih _ Q E p s hn h
  | choose src m k ih => intro Q E p s hn h; exact ⟨h.1, ih _ Q E p _ hn h.2⟩
  | os q _ k ih => intro Q E p s hn h; exact ih _ Q E p _ hn h
  | call c hd _ _ k ih => intro Q E p s hn h; obtain ⟨r, s', hr, h⟩ := h; exact ⟨r, s', hr, ih r Q E p s' (Nat.le_trans hn (runs_size hr)) h⟩
  | handled own k ih => intro Q E p s hn h; exact ih _ Q E p s hn h
  | genState g k ih => intro Q E p s hn h; obtain ⟨st, hs, h⟩ := h; exact ⟨st, hs, ih _ Q E p s hn h⟩
  | newGen c k ih => intro Q E p s hn h; exact ih _ Q E p _ hn h
  | resume g r _ k ih => intro Q E p s hn h; obtain ⟨res, s', hw, h⟩ := h; exact ⟨res, s', hw, ih res Q E p s' (Nat.le_trans hn (wakes_size hw)) h⟩
  | yield _ _ _ _ => intro Q E p s _ h; exact h
  | stack k ih => intro Q E p s hn h; exact ih _ Q E p s hn h
  | fork _ _ => intro Q E p s _ h; exact h
  | thread k ih => intro Q E p s hn h; exact ih _ Q E p s hn h
  | await _ _ _ _ _ => intro Q E p s _ h; exact h
theorem wpAny_size {α : Type} {M : Model} {A : Around} {s : Shared} {t : Sem α} {Q : α → Shared → Prop} {E : Value → Shared → Prop} (h : wpAny M A t Q E s) :
    wpAny M A t (fun a s' => s.heap.objs.size ≤ s'.heap.objs.size ∧ Q a s') (fun e s' => s.heap.objs.size ≤ s'.heap.objs.size ∧ E e s') s := fun Γ p hΓ =>
  wp_size M Γ s.heap.objs.size t _ _ p s (Nat.le_refl _) (h Γ p hΓ)
theorem with_size {α : Type} {M : Model} {A : Around} {s : Shared} {t : Sem α} {Q : α → Shared → Prop} {E : Value → Shared → Prop}
    (h : wpAny M A t (fun a s' => s.heap.objs.size ≤ s'.heap.objs.size → Q a s') E s) : wpAny M A t Q E s :=
  wpAny_mono (wpAny_size h) (fun _ _ x => x.2 x.1) fun _ _ x => x.2
theorem with_tk {α : Type} {M : Model} {A : Around} {s : Shared} {t : Sem α} {Q : α → Shared → Prop} {E : Value → Shared → Prop}
    (h : wpAny M A t (fun a s' => s.toks ≤ s'.toks → Q a s') E s) : wpAny M A t Q E s :=
  wpAny_mono (wpAny_toks h) (fun _ _ x => x.2 x.1) fun _ _ x => x.2
noncomputable abbrev retR (Q E : Value → Shared → Prop) : Result → Shared → Prop := fun r s' => match r with | .ok (.ret v) => Q v s' | .ok _ => False | .error e => E e s'
theorem code_size {M : Model} {A : Around} {s : Shared} {c : Code} {Q E : Value → Shared → Prop} (h : codeAny M A c (retR (fun a s' => s.heap.objs.size ≤ s'.heap.objs.size → Q a s') E) s) : codeAny M A c (retR Q E) s := fun Γ p hc hΓ => by
  obtain ⟨r, s', hr, hR⟩ := h Γ p hc hΓ
  refine ⟨r, s', hr, ?_⟩
  rcases r with e | (v | _ | _ | _) <;> first | exact hR (runs_size hr) | exact hR
theorem code_tk {M : Model} {A : Around} {s : Shared} {c : Code} {Q E : Value → Shared → Prop} (h : codeAny M A c (retR (fun a s' => s.toks ≤ s'.toks → Q a s') E) s) : codeAny M A c (retR Q E) s := fun Γ p hc hΓ => by
  obtain ⟨r, s', hr, hR⟩ := h Γ p hc hΓ
  refine ⟨r, s', hr, ?_⟩
  rcases r with e | (v | _ | _ | _) <;> first | exact hR hr.toks_le | exact hR
end Mine
end
section
open PySem PySem.W PyProof.Rows PySem.Calls PySem.Spec PySem.SeqAt
namespace Mine

/-! ## heaps that grow -/
noncomputable def isTab (o : Obj) : Bool := match o.cls, o.data with
  | .none, .fields _ => true
  | _, _ => false
noncomputable abbrev lamQual : Str := Str.ofString "_law_lexer.<locals>.<lambda>"
noncomputable abbrev lamPos : Pos := ⟨87, 16, 87, 76⟩
/-- the code table of the one def that makes a lambda -/
noncomputable def TabInv (h : Heap) : Prop :=
  h.get? 77 = some (tabObj #[]) ∨ ∃ c, h.get? 77 = some (tabObj #[rawInt lamPos.line, rawInt lamPos.col, .ref c]) ∧ h.CodeRec (.ref c) lamQual
theorem TabInv.keeps {h h' : Heap} (T : TabInv h) (k : ∀ a o, h.get? a = some o → h'.get? a = some o) : TabInv h' := by
  rcases T with e | ⟨c, e, r⟩
  · exact .inl (k _ _ e)
  · exact .inr ⟨c, k _ _ e, r.keeps k⟩
structure Kp (h h' : Heap) : Prop where
  keep : ∀ a o, h.get? a = some o → (isTab o = false ∨ a ≠ 77) → h'.get? a = some o
  tab : TabInv h → TabInv h'
  size : h.objs.size ≤ h'.objs.size
theorem Kp.refl (h : Heap) : Kp h h := ⟨fun _ _ e _ => e, id, Nat.le_refl _⟩
theorem Kp.trans {h h' h'' : Heap} (k : Kp h h') (k' : Kp h' h'') : Kp h h'' :=
  ⟨fun a o e n => k'.keep a o (k.keep a o e n) n, fun t => k'.tab (k.tab t), Nat.le_trans k.size k'.size⟩
theorem Kp.of {h h' : Heap} (k : ∀ a o, h.get? a = some o → h'.get? a = some o) (z : h.objs.size ≤ h'.objs.size) : Kp h h' :=
  ⟨fun a o e _ => k a o e, fun t => t.keeps k, z⟩
theorem Kp.push (h : Heap) (o : Obj) : Kp h (h.push o) := .of (fun _ _ e => Heap.get?_push_of_some _ e) (by rw [Heap.size_push]; omega)
theorem Kp.at {h h' : Heap} (k : Kp h h') {a : Addr} {o : Obj} (e : h.get? a = some o) (n : isTab o = false) : h'.get? a = some o := k.keep a o e (.inl n)
theorem Kp.ns {h h' : Heap} (k : Kp h h') {a : Addr} {m : Str → Option Value} (n : h.Ns a m) : h'.Ns a m := by
  obtain ⟨o, es, ep, ho, hd, r⟩ := n
  refine ⟨o, es, ep, k.at ho ?_, hd, r⟩
  unfold isTab; rw [hd]; cases o.cls <;> rfl
theorem isTab_cls {o : Obj} {n : String} (h : o.cls = .type n) : isTab o = false := by unfold isTab; rw [h]
theorem isTab_data {o : Obj} (h : ∀ vs, o.data ≠ .fields vs) : isTab o = false := by
  unfold isTab
  split
  · rename_i vs _ e; exact absurd e (h _)
  · rfl
mutual
theorem reads_kp {h h' : Heap} (k : Kp h h') : ∀ {v : Value} {d : PyData} {as : List Addr}, Reads h v d as → Reads h' v d as
  | _, _, _, .none => .none
  | _, _, _, .bool b => .bool b
  | _, _, _, .int i t => .int i t
  | _, _, _, .str x t => .str x t
  | _, _, _, .list h1 h2 h3 h4 => .list (k.at h1 (isTab_cls h2)) h2 h3 (readsAll_kp k h4)
  | _, _, _, .tuple h1 h2 h3 h4 => .tuple (k.at h1 (isTab_cls h2)) h2 h3 (readsAll_kp k h4)
  | _, _, _, .dict h1 h2 h3 h4 h5 => .dict (k.at h1 (isTab_cls h2)) h2 h3 (readsAll_kp k h4) (readsAll_kp k h5)
theorem readsAll_kp {h h' : Heap} (k : Kp h h') : ∀ {vs : List Value} {ds : List PyData} {as : List Addr}, ReadsAll h vs ds as → ReadsAll h' vs ds as
  | _, _, _, .nil => .nil
  | _, _, _, .cons h1 h2 => .cons (reads_kp k h1) (readsAll_kp k h2)
end
/-- a value that reads as data, its lists at addresses of FP -/
noncomputable def Rd (FP : Addr → Prop) (h : Heap) (v : Value) (d : PyData) : Prop := ∃ as, Reads h v d as ∧ ∀ b ∈ as, FP b
noncomputable def Rds (FP : Addr → Prop) (h : Heap) (vs : List Value) (ds : List PyData) : Prop := ∃ as, ReadsAll h vs ds as ∧ ∀ b ∈ as, FP b
section
variable {FP : Addr → Prop} {h h' : Heap} {v : Value} {d : PyData} {vs ws : List Value} {ds es : List PyData}
theorem Rd.kp (r : Rd FP h v d) (k : Kp h h') : Rd FP h' v d := let ⟨as, r, f⟩ := r; ⟨as, reads_kp k r, f⟩
theorem Rds.kp (r : Rds FP h vs ds) (k : Kp h h') : Rds FP h' vs ds := let ⟨as, r, f⟩ := r; ⟨as, readsAll_kp k r, f⟩
theorem Rd.int (i : Int) (t : Tok) : Rd FP h (.int i t) (.int i) := ⟨_, .int i t, fun _ hb => nomatch hb⟩
theorem Rd.str (x : Str) (t : Tok) : Rd FP h (.str x t) (.str x) := ⟨_, .str x t, fun _ hb => nomatch hb⟩
theorem Rd.bool (b : Bool) : Rd FP h (.bool b) (.bool b) := ⟨_, .bool b, fun _ hb => nomatch hb⟩
theorem Rd.none : Rd FP h .none .none := ⟨_, .none, fun _ hb => nomatch hb⟩
theorem Rds.nil : Rds FP h [] [] := ⟨_, .nil, fun _ hb => nomatch hb⟩
theorem Rds.cons (r : Rd FP h v d) (q : Rds FP h vs ds) : Rds FP h (v :: vs) (d :: ds) := by
  obtain ⟨as, r, f⟩ := r
  obtain ⟨bs, q, g⟩ := q
  exact ⟨_, .cons r q, fun b hb => (List.mem_append.mp hb).elim (f b) (g b)⟩
theorem Rds.uncons (r : Rds FP h (v :: vs) (d :: ds)) : Rd FP h v d ∧ Rds FP h vs ds := by
  obtain ⟨as, r, f⟩ := r
  cases r with
  | cons r q => exact ⟨⟨_, r, fun b hb => f b (List.mem_append_left _ hb)⟩, ⟨_, q, fun b hb => f b (List.mem_append_right _ hb)⟩⟩
theorem Rds.length : ∀ {vs : List Value} {ds : List PyData}, Rds FP h vs ds → vs.length = ds.length
  | [], [], _ => rfl
  | [], _ :: _, ⟨_, r, _⟩ => nomatch r
  | _ :: _, [], ⟨_, r, _⟩ => nomatch r
  | _ :: _, _ :: _, r => by rw [List.length_cons, List.length_cons, r.uncons.2.length]
theorem Rds.append : ∀ {vs : List Value} {ds : List PyData}, Rds FP h vs ds → Rds FP h ws es → Rds FP h (vs ++ ws) (ds ++ es)
  | [], [], _, q => q
  | [], _ :: _, ⟨_, r, _⟩, _ => nomatch r
  | _ :: _, [], ⟨_, r, _⟩, _ => nomatch r
  | _ :: _, _ :: _, r, q => .cons r.uncons.1 (r.uncons.2.append q)
theorem Rds.get : ∀ {vs : List Value} {ds : List PyData}, Rds FP h vs ds → ∀ {i : Nat} {d : PyData}, ds[i]? = some d → ∃ v, vs[i]? = some v ∧ Rd FP h v d
  | [], [], _, _, _, e => by simp at e
  | [], _ :: _, ⟨_, r, _⟩, _, _, _ => nomatch r
  | _ :: _, [], ⟨_, r, _⟩, _, _, _ => nomatch r
  | v :: _, _ :: _, r, 0, d, e => by
    simp at e; subst e
    exact ⟨v, rfl, r.uncons.1⟩
  | _ :: _, _ :: _, r, i + 1, d, e => by
    simp at e
    obtain ⟨v, h1, h2⟩ := r.uncons.2.get e
    exact ⟨v, by simpa using h1, h2⟩
theorem Rds.take : ∀ {vs : List Value} {ds : List PyData}, Rds FP h vs ds → ∀ n, Rds FP h (vs.take n) (ds.take n)
  | _, _, r, 0 => by simpa using Rds.nil
  | [], [], r, _ + 1 => by simpa using r
  | [], _ :: _, ⟨_, r, _⟩, _ => nomatch r
  | _ :: _, [], ⟨_, r, _⟩, _ => nomatch r
  | _ :: _, _ :: _, r, n + 1 => .cons r.uncons.1 (r.uncons.2.take n)
theorem Rds.drop : ∀ {vs : List Value} {ds : List PyData}, Rds FP h vs ds → ∀ n, Rds FP h (vs.drop n) (ds.drop n)
  | _, _, r, 0 => r
  | [], [], r, _ + 1 => by simpa using r
  | [], _ :: _, ⟨_, r, _⟩, _ => nomatch r
  | _ :: _, [], ⟨_, r, _⟩, _ => nomatch r
  | _ :: _, _ :: _, r, n + 1 => r.uncons.2.drop n
theorem Rd.listOpen (r : Rd FP h v (.list ds)) : ∃ a vs, v = .ref a ∧ h.IsList a vs.toArray ∧ Rds FP h vs ds ∧ FP a := by
  obtain ⟨as, r, f⟩ := r
  cases r with
  | list h1 h2 h3 h4 => exact ⟨_, _, rfl, ⟨_, h1, h2, _, h3⟩, ⟨_, h4, fun b hb => f b (.tail _ hb)⟩, f _ (.head _)⟩
theorem Rd.tupleOpen (r : Rd FP h v (.tuple ds)) : ∃ a vs, v = .ref a ∧ IsTup h a vs.toArray ∧ Rds FP h vs ds := by
  obtain ⟨as, r, f⟩ := r
  cases r with
  | tuple h1 h2 h3 h4 => exact ⟨_, _, rfl, ⟨_, h1, h2, _, h3⟩, ⟨_, h4, fun b hb => f b hb⟩⟩
theorem Rd.mkList {a : Addr} (hl : h.IsList a vs.toArray) (r : Rds FP h vs ds) (fa : FP a) : Rd FP h (.ref a) (.list ds) := by
  obtain ⟨o, ho, hc, n, hd⟩ := hl
  obtain ⟨as, r, f⟩ := r
  exact ⟨_, .list ho hc hd (by simpa using r), fun b hb => (List.mem_cons.mp hb).elim (fun e => e ▸ fa) (f b)⟩
theorem Rd.mkTuple {a : Addr} (hl : IsTup h a vs.toArray) (r : Rds FP h vs ds) : Rd FP h (.ref a) (.tuple ds) := by
  obtain ⟨o, ho, hc, n, hd⟩ := hl
  obtain ⟨as, r, f⟩ := r
  exact ⟨_, .tuple ho hc hd (by simpa using r), f⟩
theorem Rd.intOpen {i : Int} (r : Rd FP h v (.int i)) : ∃ t, v = .int i t := by obtain ⟨_, r, _⟩ := r; cases r; exact ⟨_, rfl⟩
theorem Rd.strOpen {x : Str} (r : Rd FP h v (.str x)) : ∃ t, v = .str x t := by obtain ⟨_, r, _⟩ := r; cases r; exact ⟨_, rfl⟩
theorem Rd.boolOpen {b : Bool} (r : Rd FP h v (.bool b)) : v = .bool b := by obtain ⟨_, r, _⟩ := r; cases r; rfl
theorem Rd.noneOpen (r : Rd FP h v .none) : v = .none := by obtain ⟨_, r, _⟩ := r; cases r; rfl
end

/-! ## steps of the state -/
structure Stp (s s' : Shared) : Prop where
  kp : Kp s.heap s'.heap
  rest : ∃ h' tk, s' = { s with heap := h', toks := tk }
  tk : s.toks ≤ s'.toks
theorem Stp.refl (s : Shared) : Stp s s := ⟨.refl _, ⟨s.heap, s.toks, rfl⟩, Nat.le_refl _⟩
theorem Stp.trans {s s' s'' : Shared} (a : Stp s s') (b : Stp s' s'') : Stp s s'' := by
  refine ⟨a.kp.trans b.kp, ?_, Nat.le_trans a.tk b.tk⟩
  obtain ⟨h1, t1, rfl⟩ := a.rest
  obtain ⟨h2, t2, rfl⟩ := b.rest
  exact ⟨h2, t2, rfl⟩
theorem Stp.mk' {s : Shared} {h' : Heap} {tk : Nat} (k : Kp s.heap h') (h : s.toks ≤ tk := by first | assumption | exact Nat.le_refl _ | omega) : Stp s { s with heap := h', toks := tk } := ⟨k, ⟨h', tk, rfl⟩, h⟩
theorem Stp.toks (s : Shared) (tk : Nat) (h : s.toks ≤ tk := by first | assumption | exact Nat.le_refl _ | exact Nat.le_succ _ | omega) : Stp s { s with toks := tk } := ⟨.refl _, ⟨s.heap, tk, rfl⟩, h⟩
theorem Stp.push (s : Shared) (o : Obj) : Stp s { s with heap := s.heap.push o } := ⟨.push _ _, ⟨_, s.toks, rfl⟩, Nat.le_refl _⟩

/-! ## names -/
inductive NameAt (env : Env) (h : Heap) (x : Str) (v : Value) : Prop
  | loc {m : Str → Option Value} : env.kindOf x = some .local → h.Ns env.locals m → m x = some v → NameAt env h x v
  | cell {c : Addr} {o : Obj} : env.kindOf x = some .cell → env.cells.lookup x = some c → h.get? c = some o → o.data = .cell (some v) → NameAt env h x v
  | free {c : Addr} {o : Obj} : env.kindOf x = some .free → env.cells.lookup x = some c → h.get? c = some o → o.data = .cell (some v) → NameAt env h x v
theorem NameAt.kp {env : Env} {h h' : Heap} {x : Str} {v : Value} (n : NameAt env h x v) (k : Kp h h') : NameAt env h' x v := by
  cases n with
  | loc a b c => exact .loc a (k.ns b) c
  | cell a b c d => exact .cell a b (k.at c (isTab_data (by rw [d]; simp))) d
  | free a b c d => exact .free a b (k.at c (isTab_data (by rw [d]; simp))) d
theorem load_name {M : Model} {A : Around} {E : Value → Shared → Prop} {s : Shared} {env : Env} {x : Str} {pos : Pos} {v : Value} {Q : Value → Shared → Prop} (hk : env.scope.kind = .function)
    (n : NameAt env s.heap x v) (h : Q v s) (hd : (x == ("__debug__" : Str)) = false) (hn : (x == ("__classdict__" : Str)) = false) : wpAny M A (eval (.Name x pos) env) Q E s := by
  refine wpAny_Name ?_ hd
  cases n with
  | loc a b c => exact wpAny_loadName_local hk a b c h
  | cell a b c d => exact wpAny_loadName_cell hk a b ⟨_, c, d⟩ h
  | free a b c d => exact wpAny_loadName_free hk a b ⟨_, c, d⟩ h hn

/-- what the names of a block hold -/
noncomputable def Sees (env : Env) (FP : Addr → Prop) (h : Heap) (ρ : Str → Option PyData) : Prop := ∀ x d, ρ x = some d → ∃ v, NameAt env h x v ∧ Rd FP h v d
theorem Sees.kp {env : Env} {FP : Addr → Prop} {h h' : Heap} {ρ : Str → Option PyData} (z : Sees env FP h ρ) (k : Kp h h') : Sees env FP h' ρ := fun x d e =>
  let ⟨v, n, r⟩ := z x d e
  ⟨v, n.kp k, r.kp k⟩
end Mine
end
section
open PySem PySem.W PyProof.Rows PySem.Calls PySem.Spec PySem.SeqAt
set_option linter.unusedVariables false
namespace Mine

theorem Stp.push1 {s₀ s : Shared} (h : Stp s₀ s) (o : Obj) : Stp s₀ { s with heap := s.heap.push o } := h.trans (.push s o)

/-- the ground of a block -/
structure Cx (A : Around) (env : Env) (FP : Addr → Prop) (s₀ : Shared) : Prop where
  fp : ∀ b, s₀.heap.objs.size ≤ b → FP b
  hh : A.handled = none
  un : A.units + 200 < cLine
  kind : env.scope.kind = .function
theorem Cx.stp {A : Around} {env : Env} {FP : Addr → Prop} {s₀ s : Shared} (c : Cx A env FP s₀) (h : Stp s₀ s) : Cx A env FP s :=
  ⟨fun b hb => c.fp b (Nat.le_trans h.kp.size hb), c.hh, c.un, c.kind⟩

/-- the tree gives the data d, from every later state -/
structure Gives (prog : Program) (w : World) (A : Around) (FP : Addr → Prop) (s₀ : Shared) (t : Sem Value) (d : PyData) : Prop where
  go : ∀ s, Stp s₀ s → ∀ (E : Value → Shared → Prop) (Q : Value → Shared → Prop), (∀ v s', Stp s s' → Rd FP s'.heap v d → Q v s') → wpAny (model prog w) A t Q E s
noncomputable abbrev Ev (prog : Program) (w : World) (A : Around) (env : Env) (FP : Addr → Prop) (s₀ : Shared) (e : Expr) (d : PyData) : Prop := Gives prog w A FP s₀ (eval e env) d
structure EvAll (prog : Program) (w : World) (A : Around) (env : Env) (FP : Addr → Prop) (s₀ : Shared) (es : List Expr) (ds : List PyData) : Prop where
  go : ∀ (pos : Pos) s, Stp s₀ s → ∀ (E : Value → Shared → Prop) (Q : List Value → Shared → Prop), (∀ vs s', Stp s s' → Rds FP s'.heap vs ds → Q vs s') → wpAny (model prog w) A (spliced (backTo pos (starEach es env))) Q E s
/-- a test -/
structure Tst (prog : Program) (w : World) (A : Around) (env : Env) (s₀ : Shared) (e : Expr) (b : Bool) : Prop where
  go : ∀ s, Stp s₀ s → ∀ (E : Value → Shared → Prop) (Q : Bool → Shared → Prop), (∀ s', Stp s s' → Q b s') → wpAny (model prog w) A (isTrue e env (eval e env)) Q E s

section
variable {prog : Program} {w : World} {A : Around} {env : Env} {FP : Addr → Prop} {s₀ : Shared} {ρ : Str → Option PyData} {l r e : Expr} {es : List Expr} {d : PyData} {ds es' : List PyData} {pos p q : Pos} {k : Nat} {a b i : Int} {x y : Str}

theorem Gives.stp {t : Sem Value} {s : Shared} (h : Gives prog w A FP s₀ t d) (st : Stp s₀ s) : Gives prog w A FP s t d := ⟨fun s' st' => h.go s' (st.trans st')⟩
theorem ev_int : Ev prog w A env FP s₀ (.Constant (.int i) k pos) (.int i) := ⟨fun s _ _ _ h => wpAny_Constant_int (h _ _ (.toks s _) (.int _ _))⟩
theorem ev_str : Ev prog w A env FP s₀ (.Constant (.str x) k pos) (.str x) := ⟨fun s _ _ _ h => Constant_str (h _ _ (.toks s _) (.str _ _))⟩
theorem ev_name (c : Cx A env FP s₀) (z : Sees env FP s₀.heap ρ) (hx : ρ x = some d) (hd : (x == ("__debug__" : Str)) = false := by decide) (hn : (x == ("__classdict__" : Str)) = false := by decide) :
    Ev prog w A env FP s₀ (.Name x pos) d := ⟨fun s st _ _ h => by
  obtain ⟨v, n, r⟩ := z x d hx
  exact load_name c.kind (n.kp st.kp) (h v s (.refl s) (r.kp st.kp)) hd hn⟩

/-- two operands -/
theorem ev_bin {op : Operator} {da db : PyData} (hl : Ev prog w A env FP s₀ l da) (hr : Ev prog w A env FP s₀ r db)
    (h : ∀ s va vb, Stp s₀ s → Rd FP s.heap va da → Rd FP s.heap vb db → ∀ (E : Value → Shared → Prop) (Q : Value → Shared → Prop), (∀ v s', Stp s s' → Rd FP s'.heap v d → Q v s') → wpAny (model prog w) A (binaryOp op va vb) Q E s) :
    Ev prog w A env FP s₀ (.BinOp l op r pos) d := ⟨fun s st E Q hQ =>
  wpAny_BinOp (hl.go s st _ _ fun va s1 st1 r1 => hr.go s1 (st.trans st1) _ _ fun vb s2 st2 r2 => h s2 va vb ((st.trans st1).trans st2) (r1.kp st2.kp) r2 _ _ fun v s3 st3 r3 => hQ v s3 ((st1.trans st2).trans st3) r3)⟩
theorem ev_addI (hl : Ev prog w A env FP s₀ l (.int a)) (hr : Ev prog w A env FP s₀ r (.int b)) : Ev prog w A env FP s₀ (.BinOp l .Add r pos) (.int (a + b)) :=
  ev_bin hl hr fun s va vb _ ra rb E Q hQ => by
    obtain ⟨t, rfl⟩ := ra.intOpen
    obtain ⟨u, rfl⟩ := rb.intOpen
    exact PySem.P.add_int (hQ _ _ (.toks s _) (.int _ _))
theorem ev_subI (hl : Ev prog w A env FP s₀ l (.int a)) (hr : Ev prog w A env FP s₀ r (.int b)) : Ev prog w A env FP s₀ (.BinOp l .Sub r pos) (.int (a - b)) :=
  ev_bin hl hr fun s va vb _ ra rb E Q hQ => by
    obtain ⟨t, rfl⟩ := ra.intOpen
    obtain ⟨u, rfl⟩ := rb.intOpen
    exact PySem.P.sub_int (hQ _ _ (.toks s _) (.int _ _))
theorem ev_mulI (hl : Ev prog w A env FP s₀ l (.int a)) (hr : Ev prog w A env FP s₀ r (.int b)) (hm : IntMulOk a b) : Ev prog w A env FP s₀ (.BinOp l .Mult r pos) (.int (a * b)) :=
  ev_bin hl hr fun s va vb _ ra rb E Q hQ => by
    obtain ⟨t, rfl⟩ := ra.intOpen
    obtain ⟨u, rfl⟩ := rb.intOpen
    exact PySem.P.mul_int (hQ _ _ (.toks s _) (.int _ _)) hm
theorem ev_modI (hl : Ev prog w A env FP s₀ l (.int a)) (hr : Ev prog w A env FP s₀ r (.int b)) (hb : b ≠ 0 := by decide) : Ev prog w A env FP s₀ (.BinOp l .Mod r pos) (.int (a.fmod b)) :=
  ev_bin hl hr fun s va vb _ ra rb E Q hQ => by
    obtain ⟨t, rfl⟩ := ra.intOpen
    obtain ⟨u, rfl⟩ := rb.intOpen
    exact PyProof.Rows.mod_int' hb (hQ _ _ (.toks s _) (.int _ _))
theorem ev_divI (hl : Ev prog w A env FP s₀ l (.int a)) (hr : Ev prog w A env FP s₀ r (.int b)) (hb : b ≠ 0 := by decide) (hp : b.natAbs.log2 < 9000 := by decide +kernel) : Ev prog w A env FP s₀ (.BinOp l .FloorDiv r pos) (.int (a.fdiv b)) :=
  ev_bin hl hr fun s va vb _ ra rb E Q hQ => by
    obtain ⟨t, rfl⟩ := ra.intOpen
    obtain ⟨u, rfl⟩ := rb.intOpen
    exact PyProof.Rows.floordiv_int hb (hQ _ _ (.toks s _) (.int _ _)) (.inl (PyProof.noPylong_of_log2 hp))
theorem ev_addS (hl : Ev prog w A env FP s₀ l (.str x)) (hr : Ev prog w A env FP s₀ r (.str y)) (hz : x.length + y.length ≤ sizeLine) : Ev prog w A env FP s₀ (.BinOp l .Add r pos) (.str (x ++ y)) :=
  ev_bin hl hr fun s va vb _ ra rb E Q hQ => by
    obtain ⟨t, rfl⟩ := ra.strOpen
    obtain ⟨u, rfl⟩ := rb.strOpen
    exact with_tk (PyProof.Rows.add_str (fun t' tk htk => hQ _ _ (.toks s _) (.str _ _)) hz)
theorem newListGives (c : Cx A env FP s₀) {s : Shared} {vs : List Value} {E : Value → Shared → Prop} {Q : Value → Shared → Prop} (st : Stp s₀ s) (r : Rds FP s.heap vs ds) (hz : ds.length ≤ sizeLine)
    (hQ : ∀ v s', Stp s s' → Rd FP s'.heap v (.list ds) → Q v s') : wpAny (model prog w) A (newList vs) Q E s :=
  wpAny_newList (hQ _ _ (.push s _) (.mkList ⟨_, Heap.get?_push_size _ rfl, rfl, _, rfl⟩ (r.kp (.push _ _)) (c.fp _ st.kp.size))) (by rw [r.length]; exact hz)
theorem newTupleGives {s : Shared} {vs : List Value} {E : Value → Shared → Prop} {Q : Value → Shared → Prop} (r : Rds FP s.heap vs ds) (hz : ds.length ≤ sizeLine)
    (hQ : ∀ v s', Stp s s' → Rd FP s'.heap v (.tuple ds) → Q v s') : wpAny (model prog w) A (newTuple vs) Q E s :=
  wpAny_newTuple (hQ _ _ (.push s _) (.mkTuple ⟨_, Heap.get?_push_size _ rfl, rfl, _, rfl⟩ (r.kp (.push _ _)))) (by rw [r.length]; exact hz)
theorem ev_addL (c : Cx A env FP s₀) (hl : Ev prog w A env FP s₀ l (.list ds)) (hr : Ev prog w A env FP s₀ r (.list es')) (hz : ds.length + es'.length ≤ sizeLine) : Ev prog w A env FP s₀ (.BinOp l .Add r pos) (.list (ds ++ es')) :=
  ev_bin hl hr fun s va vb st ra rb E Q hQ => by
    obtain ⟨a1, vs, rfl, ⟨⟨c1, o1, d1, sl1⟩, ho, hc, n, hd⟩, rv, _⟩ := ra.listOpen
    obtain ⟨a2, ws, rfl, ⟨⟨c2, o2, d2, sl2⟩, ho2, hc2, n2, hd2⟩, rw2, _⟩ := rb.listOpen
    dsimp only at hc hd hc2 hd2
    subst hc hd hc2 hd2
    have e : vs.toArray ++ ws.toArray = (vs ++ ws).toArray := by simp
    have r12 := rv.append rw2
    refine concat_meets ⟨_, ho, rfl⟩ ⟨_, ho2, rfl⟩ noFill_list_add seq_list_add PySem.F.slot_list_add PySem.F.entry_list_add (PySem.F.args_list_add_2 _ _) (list_addW a1 a2 vs.toArray ws.toArray n n2 o1 o2 sl1 sl2 (by simpa [rv.length, rw2.length] using hz)) ⟨ho, ho2, ?_⟩
    rw [e]
    exact hQ _ _ (.push s _) (.mkList ⟨_, Heap.get?_push_size _ rfl, rfl, _, rfl⟩ (r12.kp (.push _ _)) (c.fp _ st.kp.size))

/-! comparisons -/
theorem ev_cmp {op : CmpOp} {da db : PyData} (hl : Ev prog w A env FP s₀ l da) (hr : Ev prog w A env FP s₀ r db)
    (h : ∀ s va vb, Stp s₀ s → Rd FP s.heap va da → Rd FP s.heap vb db → ∀ (E : Value → Shared → Prop) (Q : Value → Shared → Prop), (∀ v s', Stp s s' → Rd FP s'.heap v d → Q v s') → wpAny (model prog w) A (compareOp op va vb) Q E s)
    (hm : behindInMarks op r = false := by with_unfolding_all rfl) :
    Ev prog w A env FP s₀ (.Compare l [op] [r] pos) d := ⟨fun s st E Q hQ =>
  wpAny_Compare1 (hl.go s st _ _ fun va s1 st1 r1 => hr.go s1 (st.trans st1) _ _ fun vb s2 st2 r2 => h s2 va vb ((st.trans st1).trans st2) (r1.kp st2.kp) r2 _ _ fun v s3 st3 r3 => hQ v s3 ((st1.trans st2).trans st3) r3) hm⟩
theorem tst_cmp {op : CmpOp} {da db : PyData} {c : Bool} (hl : Ev prog w A env FP s₀ l da) (hr : Ev prog w A env FP s₀ r db)
    (h : ∀ s va vb, Stp s₀ s → Rd FP s.heap va da → Rd FP s.heap vb db → ∀ (E : Value → Shared → Prop) (Q : Value → Shared → Prop), (∀ s', Stp s s' → Q (.bool c) s') → wpAny (model prog w) A (compareOp op va vb) Q E s)
    (hm : behindInMarks op r = false := by with_unfolding_all rfl) :
    Tst prog w A env s₀ (.Compare l [op] [r] pos) c := ⟨fun s st E Q hQ =>
  wpAny_isTrue_Compare1 (hl.go s st _ _ fun va s1 st1 r1 => hr.go s1 (st.trans st1) _ _ fun vb s2 st2 r2 => h s2 va vb ((st.trans st1).trans st2) (r1.kp st2.kp) r2 _ _ fun s3 st3 => wpAny_truthy_bool (hQ s3 ((st1.trans st2).trans st3))) hm⟩
section
variable {da db : PyData}
theorem cmpEq (c : Cx A env FP s₀) (ha : shaped da = true) (hb : shaped db = true) : ∀ s va vb, Stp s₀ s → Rd FP s.heap va da → Rd FP s.heap vb db → ∀ (E : Value → Shared → Prop) (Q : Value → Shared → Prop), (∀ s', Stp s s' → Q (.bool (PyData.eqv da db)) s') → wpAny (model prog w) A (compareOp .Eq va vb) Q E s := fun s _ _ _ ra rb _ _ hQ => by
  obtain ⟨_, ra, _⟩ := ra
  obtain ⟨_, rb, _⟩ := rb
  exact compareEq_shaped ra rb ha hb (by have := c.un; omega) (hQ s (.refl s))
theorem cmpNe (c : Cx A env FP s₀) (ha : shaped da = true) (hb : shaped db = true) : ∀ s va vb, Stp s₀ s → Rd FP s.heap va da → Rd FP s.heap vb db → ∀ (E : Value → Shared → Prop) (Q : Value → Shared → Prop), (∀ s', Stp s s' → Q (.bool (!PyData.eqv da db)) s') → wpAny (model prog w) A (compareOp .NotEq va vb) Q E s := fun s _ _ _ ra rb _ _ hQ => by
  obtain ⟨_, ra, _⟩ := ra
  obtain ⟨_, rb, _⟩ := rb
  exact compareNe_shaped ra rb ha hb (by have := c.un; omega) (hQ s (.refl s))
end
theorem tst_eq {da db : PyData} {c : Bool} (cx : Cx A env FP s₀) (hl : Ev prog w A env FP s₀ l da) (hr : Ev prog w A env FP s₀ r db) (ha : shaped da = true) (hb : shaped db = true) (hc : PyData.eqv da db = c)
    (hm : behindInMarks .Eq r = false := by with_unfolding_all rfl) : Tst prog w A env s₀ (.Compare l [.Eq] [r] pos) c := tst_cmp hl hr (hc ▸ cmpEq cx ha hb) hm
theorem tst_ne {da db : PyData} {c : Bool} (cx : Cx A env FP s₀) (hl : Ev prog w A env FP s₀ l da) (hr : Ev prog w A env FP s₀ r db) (ha : shaped da = true) (hb : shaped db = true) (hc : (!PyData.eqv da db) = c)
    (hm : behindInMarks .NotEq r = false := by with_unfolding_all rfl) : Tst prog w A env s₀ (.Compare l [.NotEq] [r] pos) c := tst_cmp hl hr (hc ▸ cmpNe cx ha hb) hm
theorem tst_gt {c : Bool} (hl : Ev prog w A env FP s₀ l (.int a)) (hr : Ev prog w A env FP s₀ r (.int b)) (hc : decide (a > b) = c) (hm : behindInMarks .Gt r = false := by with_unfolding_all rfl) :
    Tst prog w A env s₀ (.Compare l [.Gt] [r] pos) c := tst_cmp hl hr (fun s va vb _ ra rb E Q hQ => by
    obtain ⟨t, rfl⟩ := ra.intOpen
    obtain ⟨u, rfl⟩ := rb.intOpen
    exact PySem.P.gt_int (hc ▸ hQ s (.refl s))) hm
theorem tst_ge {c : Bool} (hl : Ev prog w A env FP s₀ l (.int a)) (hr : Ev prog w A env FP s₀ r (.int b)) (hc : decide (a ≥ b) = c) (hm : behindInMarks .GtE r = false := by with_unfolding_all rfl) :
    Tst prog w A env s₀ (.Compare l [.GtE] [r] pos) c := tst_cmp hl hr (fun s va vb _ ra rb E Q hQ => by
    obtain ⟨t, rfl⟩ := ra.intOpen
    obtain ⟨u, rfl⟩ := rb.intOpen
    exact PySem.P.ge_int (hc ▸ hQ s (.refl s))) hm
theorem tst_orF {rest : List Expr} {c : Bool} (h1 : Tst prog w A env s₀ e false) (h2 : Tst prog w A env s₀ (.BoolOp .Or rest pos) c) : Tst prog w A env s₀ (.BoolOp .Or (e :: rest) pos) c := ⟨fun s st E Q hQ => by
  rw [arm_isTrue_BoolOp, arm_allTrue_cons]
  refine wpAny_bind (h1.go s st _ _ fun s1 st1 => ?_)
  have := h2.go s1 (st.trans st1) E Q fun s2 st2 => hQ s2 (st1.trans st2)
  rw [arm_isTrue_BoolOp] at this
  exact this⟩
theorem tst_orNil : Tst prog w A env s₀ (.BoolOp .Or [] pos) false := ⟨fun s _ E Q hQ => by
  rw [arm_isTrue_BoolOp, arm_allTrue_nil]
  exact wpAny_pure (hQ s (.refl s))⟩

/-! places -/
theorem ev_sub {dv di : PyData} (hl : Ev prog w A env FP s₀ l dv) (hr : Ev prog w A env FP s₀ r di)
    (h : ∀ s va vb, Stp s₀ s → Rd FP s.heap va dv → Rd FP s.heap vb di → ∀ (E : Value → Shared → Prop) (Q : Value → Shared → Prop), (∀ v s', Stp s s' → Rd FP s'.heap v d → Q v s') → wpAny (model prog w) A (subscriptTail l r va vb) Q E s) :
    Ev prog w A env FP s₀ (.Subscript l r pos) d := ⟨fun s st E Q hQ =>
  Subscript_ (hl.go s st _ _ fun va s1 st1 r1 => hr.go s1 (st.trans st1) _ _ fun vb s2 st2 r2 => h s2 va vb ((st.trans st1).trans st2) (r1.kp st2.kp) r2 _ _ fun v s3 st3 r3 => hQ v s3 ((st1.trans st2).trans st3) r3)⟩
noncomputable def plainIx (r : Expr) : Bool := match r with
  | .Slice .. => false
  | _ => true
theorem subscripted_plain (h : plainIx r = true) (o i : Value) : subscripted r false o i = operate [o, i] (getItem o i) := by
  cases r <;> first | rfl | cases h
theorem ev_itemL {i : Int} (hl : Ev prog w A env FP s₀ l (.list ds)) (hr : Ev prog w A env FP s₀ r (.int i)) (h0 : 0 ≤ i) (h1 : i < 2 ^ 63) (hd : ds[i.toNat]? = some d) (hp : plainIx r = true := by rfl) : Ev prog w A env FP s₀ (.Subscript l r pos) d :=
  ev_sub hl hr fun s va vb _ ra rb E Q hQ => by
    obtain ⟨t, rfl⟩ := rb.intOpen
    obtain ⟨a, vs, rfl, hL, rv, _⟩ := ra.listOpen
    obtain ⟨v, hv, rd⟩ := rv.get hd
    exact tail_any hL.typeIs slot_list_getitem.lookup (wpAny_getItem_list hL h0 h1 (by simpa using hv) (hQ v s (.refl s) rd)) (subscripted_plain hp _ _)
theorem ev_itemN {i : Int} (hl : Ev prog w A env FP s₀ l (.list ds)) (hr : Ev prog w A env FP s₀ r (.int i)) (h0 : i < 0) (h1 : -(2 ^ 63) ≤ i) (h2 : -(ds.length : Int) ≤ i) (hd : ds[(i + ds.length).toNat]? = some d) (hp : plainIx r = true := by rfl) : Ev prog w A env FP s₀ (.Subscript l r pos) d :=
  ev_sub hl hr fun s va vb _ ra rb E Q hQ => by
    obtain ⟨t, rfl⟩ := rb.intOpen
    obtain ⟨a, vs, rfl, hL, rv, _⟩ := ra.listOpen
    obtain ⟨v, hv, rd⟩ := rv.get hd
    have hz : vs.toArray.size = ds.length := by simpa using rv.length
    exact tail_any hL.typeIs slot_list_getitem.lookup (wpAny_getItem_list_neg hL h0 (by rw [hz]; exact h2) h1 (by rw [hz]; simpa using hv) (hQ v s (.refl s) rd)) (subscripted_plain hp _ _)
theorem ev_itemT {i : Int} (hl : Ev prog w A env FP s₀ l (.tuple ds)) (hr : Ev prog w A env FP s₀ r (.int i)) (h0 : 0 ≤ i) (h1 : i < 2 ^ 63) (hd : ds[i.toNat]? = some d) (hp : plainIx r = true := by rfl) : Ev prog w A env FP s₀ (.Subscript l r pos) d :=
  ev_sub hl hr fun s va vb _ ra rb E Q hQ => by
    obtain ⟨t, rfl⟩ := rb.intOpen
    obtain ⟨a, vs, rfl, hL, rv⟩ := ra.tupleOpen
    obtain ⟨v, hv, rd⟩ := rv.get hd
    have hlt : i.toNat < ds.length := (List.getElem?_eq_some_iff.mp hd).1
    have hz : vs.toArray.size = ds.length := by simpa using rv.length
    refine tail_any hL.typeIs slot_tuple_getitem.lookup (PyProof.Rows.getItem_tuple (j := i.toNat) hL (by omega) h1 ?_ (by simpa using hv) (hQ v s (.refl s) rd)) (subscripted_plain hp _ _)
    rw [hz]
    unfold seqIndex?
    have e : ¬ i < 0 := by omega
    have e2 : (decide (0 ≤ i) && decide (i < (ds.length : Int))) = true := by
      rw [Bool.and_eq_true]
      exact ⟨decide_eq_true h0, decide_eq_true (by omega)⟩
    simp only [e, if_false, e2, if_true]

/-! cuts of lists -/
theorem ev_cut {lo hi : Option Expr} {lv hv : Option Int} (c : Cx A env FP s₀) (hl : Ev prog w A env FP s₀ l (.list ds))
    (h1 : match lo, lv with | none, none => True | some e, some i => Ev prog w A env FP s₀ e (.int i) | _, _ => False)
    (h2 : match hi, hv with | none, none => True | some e, some i => Ev prog w A env FP s₀ e (.int i) | _, _ => False)
    (hz : ds.length ≤ sizeLine) (out : List PyData) (ho : ∀ (h : Heap) (vs : List Value), Rds FP h vs ds → Rds FP h (slicePick vs.toArray lv hv none).toList out) :
    Ev prog w A env FP s₀ (.Subscript l (.Slice lo hi none p) pos) (.list out) := ⟨fun s st E Q hQ => by
  have part : ∀ (o : Option Expr) (ov : Option Int), (match o, ov with | none, none => True | some e, some i => Ev prog w A env FP s₀ e (.int i) | _, _ => False) →
      ∀ s, Stp s₀ s → ∀ (Q : Value → Shared → Prop), (∀ v s', Stp s s' → IsPart v ov → Q v s') → wpAny (model prog w) A (evalPart o env) Q E s := by
    intro o ov ho s st Q hQ
    cases o with
    | none => cases ov with
      | none => exact wpAny_evalPart_none (hQ _ s (.refl s) .none)
      | some i => exact ho.elim
    | some e => cases ov with
      | none => exact ho.elim
      | some i => exact wpAny_evalPart_some (ho.go s st _ _ fun v s' st' r' => by obtain ⟨t, rfl⟩ := r'.intOpen; exact hQ _ s' st' (.int i t))
  refine Subscript_ (hl.go s st _ _ fun va s1 st1 r1 => wpAny_Slice (part lo lv h1 s1 (st.trans st1) _ fun vl s2 st2 pl => part hi hv h2 s2 ((st.trans st1).trans st2) _ fun vu s3 st3 pu => wpAny_evalPart_none ?_))
  have r3 := ((r1.kp st2.kp).kp st3.kp).kp (.push s3.heap { cls := .type "slice", data := .fields #[vl, vu, .none] })
  obtain ⟨a, vs, rfl, hL, rv, _⟩ := r3.listOpen
  have hlen : vs.toArray.size ≤ sizeLine := by simpa [rv.length] using hz
  have sAll : Stp s { s3 with heap := s3.heap.push { cls := .type "slice", data := .fields #[vl, vu, .none] } } := ((st1.trans st2).trans st3).push1 _
  refine tail_any hL.typeIs slot_list_getitem.lookup (wpAny_getItem_list_slice hL (Heap.IsSliceOf.new ..) pl pu .none (by simp) ?_ hlen) rfl
  have hsz := Nat.le_trans st.kp.size sAll.kp.size
  generalize hS : ({ s3 with heap := s3.heap.push { cls := .type "slice", data := .fields #[vl, vu, .none] } } : Shared) = S at *
  have hH : s3.heap.push { cls := .type "slice", data := .fields #[vl, vu, .none] } = S.heap := by rw [← hS]
  rw [hH] at rv
  exact hQ _ _ (sAll.push1 _) (.mkList (vs := (slicePick vs.toArray lv hv none).toList) ⟨_, Heap.get?_push_size _ rfl, rfl, 0, by rw [Array.toArray_toList]⟩ ((ho _ _ rv).kp (.push _ _)) (c.fp _ hsz))⟩
theorem ev_upto {hi : Expr} {n : Nat} (c : Cx A env FP s₀) (hl : Ev prog w A env FP s₀ l (.list ds)) (h2 : Ev prog w A env FP s₀ hi (.int n)) (hz : ds.length ≤ sizeLine) :
    Ev prog w A env FP s₀ (.Subscript l (.Slice none (some hi) none p) pos) (.list (ds.take n)) :=
  ev_cut (lv := none) (hv := some n) c hl trivial h2 hz _ fun h vs r => by rw [slicePick_upto']; simpa using r.take n
theorem ev_from {lo : Expr} {n : Nat} (c : Cx A env FP s₀) (hl : Ev prog w A env FP s₀ l (.list ds)) (h1 : Ev prog w A env FP s₀ lo (.int n)) (hz : ds.length ≤ sizeLine) :
    Ev prog w A env FP s₀ (.Subscript l (.Slice (some lo) none none p) pos) (.list (ds.drop n)) :=
  ev_cut (lv := some n) (hv := none) c hl h1 trivial hz _ fun h vs r => by rw [slicePick_from']; simpa using r.drop n
theorem ev_butLast {hi : Expr} {n : Nat} (c : Cx A env FP s₀) (hl : Ev prog w A env FP s₀ l (.list ds)) (h2 : Ev prog w A env FP s₀ hi (.int (-(n : Int)))) (hn : 1 ≤ n) (hz : ds.length ≤ sizeLine) :
    Ev prog w A env FP s₀ (.Subscript l (.Slice none (some hi) none p) pos) (.list (ds.take (ds.length - n))) :=
  ev_cut (lv := none) (hv := some (-(n : Int))) c hl trivial h2 hz _ fun h vs r => by rw [slicePick_butLast _ _ hn]; simpa [r.length] using r.take (ds.length - n)

/-! displays -/
theorem evAll_nil : EvAll prog w A env FP s₀ [] [] := ⟨fun _ s _ _ _ h => spliced_nil (h [] s (.refl s) .nil)⟩
theorem evAll_cons (h : Ev prog w A env FP s₀ e d) (t : EvAll prog w A env FP s₀ es ds) (hs : ∀ r, starEach (e :: r) env = (false, eval e env) :: starEach r env := by intro _; rfl) :
    EvAll prog w A env FP s₀ (e :: es) (d :: ds) := ⟨fun pos s st E Q hQ => by
  rw [hs]
  exact spliced_cons (h.go s st _ _ fun v s1 st1 r1 => t.go pos s1 (st.trans st1) _ _ fun vs s2 st2 r2 => hQ _ s2 (st1.trans st2) (.cons (r1.kp st2.kp) r2))⟩
theorem ev_list (c : Cx A env FP s₀) (h : EvAll prog w A env FP s₀ es ds) (hz : ds.length ≤ sizeLine) : Ev prog w A env FP s₀ (.List es pos) (.list ds) := ⟨fun s st E Q hQ =>
  List_ (h.go pos s st _ _ fun vs s1 st1 r1 => newListGives c (st.trans st1) r1 hz fun v s2 st2 r2 => hQ v s2 (st1.trans st2) r2)⟩
theorem ev_tuple (h : EvAll prog w A env FP s₀ es ds) (hz : ds.length ≤ sizeLine) : Ev prog w A env FP s₀ (.Tuple es k pos) (.tuple ds) := ⟨fun s st E Q hQ =>
  Tuple_ (h.go pos s st _ _ fun vs s1 st1 r1 => newTupleGives r1 hz fun v s2 st2 r2 => hQ v s2 (st1.trans st2) r2)⟩
end
end Mine
end
section
open PySem PySem.W PyProof.Rows PySem.Calls PySem.Spec PySem.SeqAt
set_option linter.unusedVariables false
namespace Mine

/-- neither a code record nor a table -/
noncomputable def soft (o : Obj) : Bool := !isTab o && (match o.data with
  | .fields vs => (match (vs[1]? : Option Value) with | some (Value.str x _) => x != lamQual | _ => true)
  | _ => true)
theorem soft_tab {ps : Array Value} : soft (tabObj ps) = false := rfl
theorem soft_noFields {o : Obj} (h : ∀ vs, o.data ≠ .fields vs) : soft o = true := by
  unfold soft
  rw [isTab_data h]
  split
  · rename_i vs e; exact absurd e (h vs)
  · rfl
theorem TabInv.but {h h' : Heap} (T : TabInv h) {U : List Addr} (hk : ∀ b o, b ∉ U → h.get? b = some o → h'.get? b = some o) (hU : ∀ b ∈ U, ∀ o, h.get? b = some o → soft o = true) : TabInv h' := by
  have at77 : ∀ ps, h.get? 77 = some (tabObj ps) → h'.get? 77 = some (tabObj ps) := fun ps e => hk _ _ (fun hm => by have := hU _ hm _ e; rw [soft_tab] at this; cases this) e
  rcases T with e | ⟨c, e, c', o, vs, t, e1, ho, hd, hv⟩
  · exact .inl (at77 _ e)
  · refine .inr ⟨c, at77 _ e, c', o, vs, t, e1, hk _ _ (fun hm => ?_) ho, hd, hv⟩
    have := hU _ hm _ ho
    unfold soft at this
    rw [hd] at this
    dsimp only at this
    rw [hv] at this
    simp at this
/-- a step that changes objects newer than h₁ alone -/
theorem Kp.but {h₁ h h' : Heap} (k : Kp h₁ h) {U : List Addr} (hk : ∀ b o, b ∉ U → h.get? b = some o → h'.get? b = some o) (hn : ∀ b ∈ U, h₁.objs.size ≤ b) (hU : ∀ b ∈ U, ∀ o, h.get? b = some o → soft o = true)
    (hz : h₁.objs.size ≤ h'.objs.size) : Kp h₁ h' :=
  ⟨fun a o e n => hk a o (fun hm => Nat.lt_irrefl _ (Nat.lt_of_lt_of_le (Heap.lt_size e) (hn a hm))) (k.keep a o e n), fun t => (k.tab t).but hk hU, hz⟩

mutual
theorem reads_below {h : Heap} : ∀ {v : Value} {d : PyData} {as : List Addr}, Reads h v d as → ∀ b ∈ as, b < h.objs.size
  | _, _, _, .none => fun _ hb => nomatch hb
  | _, _, _, .bool b => fun _ hb => nomatch hb
  | _, _, _, .int i t => fun _ hb => nomatch hb
  | _, _, _, .str x t => fun _ hb => nomatch hb
  | _, _, _, .list h1 h2 h3 h4 => fun b hb => (List.mem_cons.mp hb).elim (fun e => e ▸ Heap.lt_size h1) (readsAll_below h4 b)
  | _, _, _, .tuple h1 h2 h3 h4 => readsAll_below h4
  | _, _, _, .dict h1 h2 h3 h4 h5 => fun b hb => by
    rcases List.mem_append.mp hb with hb | hb
    · exact (List.mem_cons.mp hb).elim (fun e => e ▸ Heap.lt_size h1) (readsAll_below h4 b)
    · exact readsAll_below h5 b hb
theorem readsAll_below {h : Heap} : ∀ {vs : List Value} {ds : List PyData} {as : List Addr}, ReadsAll h vs ds as → ∀ b ∈ as, b < h.objs.size
  | _, _, _, .nil => fun _ hb => nomatch hb
  | _, _, _, .cons h1 h2 => fun b hb => (List.mem_append.mp hb).elim (reads_below h1 b) (readsAll_below h2 b)
end
noncomputable def tupLike (o : Obj) : Prop := o.cls = .type "tuple" ∧ ∃ vs n, o.data = .seq vs n
theorem tupLike_cls {o : Obj} (h : o.cls ≠ .type "tuple") : ¬ tupLike o := fun z => h z.1
theorem tupLike_data {o : Obj} (h : ∀ vs n, o.data ≠ .seq vs n) : ¬ tupLike o := fun ⟨_, vs, n, e⟩ => h vs n e
/-- the objects that may change under data: none of them a tuple, a list or dict only off the footprint -/
noncomputable def Off (FP : Addr → Prop) (U : Addr → Prop) (h : Heap) : Prop := ∀ b o, U b → h.get? b = some o → ¬ tupLike o ∧ ((o.cls ≠ .type "list" ∧ o.cls ≠ .type "dict") ∨ ¬ FP b)
mutual
theorem reads_chg {h h' : Heap} {FP U : Addr → Prop} (k : ∀ b o, ¬ U b → h.get? b = some o → h'.get? b = some o) (hU : Off FP U h) : ∀ {v : Value} {d : PyData} {as : List Addr}, Reads h v d as → (∀ b ∈ as, FP b) → Reads h' v d as
  | _, _, _, .none, _ => .none
  | _, _, _, .bool b, _ => .bool b
  | _, _, _, .int i t, _ => .int i t
  | _, _, _, .str x t, _ => .str x t
  | _, _, _, .list h1 h2 h3 h4, hn => .list (k _ _ (fun u => (hU _ _ u h1).2.elim (fun q => q.1 h2) fun q => q (hn _ (.head _))) h1) h2 h3 (readsAll_chg k hU h4 fun b hb => hn b (.tail _ hb))
  | _, _, _, .tuple h1 h2 h3 h4, hn => .tuple (k _ _ (fun u => (hU _ _ u h1).1 ⟨h2, _, _, h3⟩) h1) h2 h3 (readsAll_chg k hU h4 hn)
  | _, _, _, .dict h1 h2 h3 h4 h5, hn => .dict (k _ _ (fun u => (hU _ _ u h1).2.elim (fun q => q.2 h2) fun q => q (hn _ (List.mem_append_left _ (.head _)))) h1) h2 h3
      (readsAll_chg k hU h4 fun b hb => hn b (List.mem_append_left _ (.tail _ hb))) (readsAll_chg k hU h5 fun b hb => hn b (List.mem_append_right _ hb))
theorem readsAll_chg {h h' : Heap} {FP U : Addr → Prop} (k : ∀ b o, ¬ U b → h.get? b = some o → h'.get? b = some o) (hU : Off FP U h) : ∀ {vs : List Value} {ds : List PyData} {as : List Addr}, ReadsAll h vs ds as → (∀ b ∈ as, FP b) → ReadsAll h' vs ds as
  | _, _, _, .nil, _ => .nil
  | _, _, _, .cons h1 h2, hn => .cons (reads_chg k hU h1 fun b hb => hn b (List.mem_append_left _ hb)) (readsAll_chg k hU h2 fun b hb => hn b (List.mem_append_right _ hb))
end
section
variable {FP FP' : Addr → Prop} {h h' : Heap} {v : Value} {d : PyData} {vs : List Value} {ds : List PyData} {D : Addr}
theorem Rd.mono (r : Rd FP h v d) (hf : ∀ b, b < h.objs.size → FP b → FP' b) : Rd FP' h v d := let ⟨as, r, f⟩ := r; ⟨as, r, fun b hb => hf b (reads_below r b hb) (f b hb)⟩
theorem Rds.mono (r : Rds FP h vs ds) (hf : ∀ b, b < h.objs.size → FP b → FP' b) : Rds FP' h vs ds := let ⟨as, r, f⟩ := r; ⟨as, r, fun b hb => hf b (readsAll_below r b hb) (f b hb)⟩
theorem Rd.chg {U : Addr → Prop} (r : Rd FP h v d) (k : ∀ b o, ¬ U b → h.get? b = some o → h'.get? b = some o) (hU : Off FP U h) : Rd FP h' v d :=
  let ⟨as, r, f⟩ := r; ⟨as, reads_chg k hU r f, f⟩
theorem Rds.chg {U : Addr → Prop} (r : Rds FP h vs ds) (k : ∀ b o, ¬ U b → h.get? b = some o → h'.get? b = some o) (hU : Off FP U h) : Rds FP h' vs ds :=
  let ⟨as, r, f⟩ := r; ⟨as, readsAll_chg k hU r f, f⟩
end
theorem Sees.mono {env : Env} {FP FP' : Addr → Prop} {h : Heap} {ρ : Str → Option PyData} (z : Sees env FP h ρ) (hf : ∀ b, b < h.objs.size → FP b → FP' b) : Sees env FP' h ρ := fun x d e =>
  let ⟨v, n, r⟩ := z x d e
  ⟨v, n, r.mono hf⟩

/-! ## what is iterated -/
/-- an iterator over the data ds, made behind the state s1 -/
noncomputable def ItAt (prog : Program) (w : World) (A : Around) (FP : Addr → Prop) (ds : List PyData) (it : Value) (s1 s2 : Shared) : Prop :=
  ∃ I fp wr P St, it = .ref I ∧ Walks prog w A I fp wr ds.length P St ∧ St 0 s2.heap ∧ (∀ b ∈ fp, b < s2.heap.objs.size) ∧ (∀ b ∈ wr, s1.heap.objs.size ≤ b) ∧
    (∀ i v, i < ds.length → P i v → ∃ d, ds[i]? = some d ∧ Rd FP s1.heap v d) ∧ (∀ i h, St i h → ∀ b ∈ wr, ∀ o, h.get? b = some o → soft o = true ∧ o.cls ≠ .type "tuple" ∧ o.cls ≠ .type "list" ∧ o.cls ≠ .type "dict") ∧
    (∀ i h, St i h → ∃ o T, h.get? I = some o ∧ o.cls = .type T ∧ (["enumerate", "zip", "dict_itemiterator", "dict_reverseitemiterator", "odict_iterator", "itertools.zip_longest", "itertools.pairwise"] : List String).contains T = false) ∧
    (∀ i h, St i h → ∀ b ∈ fp, ∀ o, h.get? b = some o → isTab o = false) ∧
    (∀ i h h' (U : Addr → Prop), St i h → (∀ b, U b → b ∉ wr) → Off FP U h → (∀ b o, ¬ U b → h.get? b = some o → h'.get? b = some o) → St i h')
structure IterOf (prog : Program) (w : World) (A : Around) (env : Env) (FP : Addr → Prop) (s₀ : Shared) (iter : Expr) (ds : List PyData) : Prop where
  go : ∀ s, Stp s₀ s → ∀ (E : Value → Shared → Prop) (Q : Value → Shared → Prop), (∀ it s1 s2, Stp s s1 → Stp s1 s2 → ItAt prog w A FP ds it s1 s2 → Q it s2) →
    wpAny (model prog w) A (eval iter env) (fun x s1 => wpAny (model prog w) A (pyIter x) Q E s1) E s
section
variable {prog : Program} {w : World} {A : Around} {env : Env} {FP : Addr → Prop} {s₀ : Shared} {iter : Expr} {ds : List PyData} {x : Str}
theorem soft_iter {o : Obj} {vs : Array Value} {k : Int} {t : Tok} {T : String} (hc : o.cls = .type T) (hd : o.data = .fields vs) (hv : vs[1]? = some (.int k t)) : soft o = true := by
  unfold soft
  rw [isTab_cls hc, hd]
  dsimp only
  rw [hv]
  rfl
theorem iter_seq {ad : Addr} {vs : List Value} {s1 : Shared} {o : Obj} {St : Nat → Heap → Prop} {T : String} (hlt : ad < s1.heap.objs.size) (rv : Rds FP s1.heap vs ds)
    (W : Walks prog w A s1.heap.objs.size [s1.heap.objs.size, ad] [s1.heap.objs.size] vs.toArray.size (fun i v => vs.toArray[i]? = some v) St) (h0 : St 0 (s1.heap.push o))
    (hS : ∀ i h, St i h → ∃ o a k, h.get? s1.heap.objs.size = some o ∧ o.cls = .type T ∧ o.data = .fields #[.ref a, .int k 0]) (hA : ∀ i h, St i h → ∃ o T, h.get? ad = some o ∧ o.cls = .type T)
    (hU : ∀ i h, St i h → ∃ o, h.get? ad = some o ∧ ((o.cls = .type "list" ∧ FP ad) ∨ tupLike o))
    (hT : (["enumerate", "zip", "dict_itemiterator", "dict_reverseitemiterator", "odict_iterator", "itertools.zip_longest", "itertools.pairwise"] : List String).contains T = false) (hT' : T ≠ "tuple" ∧ T ≠ "list" ∧ T ≠ "dict") :
    ItAt prog w A FP ds (.ref s1.heap.objs.size) s1 { s1 with heap := s1.heap.push o } := by
  have e : vs.toArray.size = ds.length := by simpa using rv.length
  rw [e] at W
  refine ⟨_, _, _, _, _, rfl, W, h0, ?_, ?_, ?_, ?_, ?_, ?_, ?_⟩
  · intro b hb
    show b < (s1.heap.push _).objs.size
    rw [Heap.size_push]
    rcases List.mem_cons.mp hb with rfl | hb
    · exact Nat.lt_succ_self _
    · rw [List.mem_singleton.mp hb]; exact Nat.lt_succ_of_lt hlt
  · intro b hb; rw [List.mem_singleton.mp hb]; exact Nat.le_refl _
  · intro i v _ hv
    have hv' : vs[i]? = some v := by simpa using hv
    have hi : i < ds.length := by rw [← rv.length]; exact (List.getElem?_eq_some_iff.mp hv').1
    obtain ⟨v', e1, r'⟩ := rv.get (i := i) (d := ds[i]) (by simp [hi])
    rw [hv'] at e1; cases e1
    exact ⟨ds[i], by simp [hi], r'⟩
  · intro i h hs b hb o' ho'
    obtain ⟨o, a, k, ho, hc, hd⟩ := hS i h hs
    rw [List.mem_singleton.mp hb, ho] at ho'; cases ho'
    exact ⟨soft_iter (k := k) (t := 0) hc hd rfl, fun e => hT'.1 (Value.type.inj (hc.symm.trans e)), fun e => hT'.2.1 (Value.type.inj (hc.symm.trans e)), fun e => hT'.2.2 (Value.type.inj (hc.symm.trans e))⟩
  · intro i h hs
    obtain ⟨o, a, k, ho, hc, hd⟩ := hS i h hs
    exact ⟨o, T, ho, hc, hT⟩
  · intro i h hs b hb o' ho'
    rcases List.mem_cons.mp hb with rfl | hb
    · obtain ⟨o, a, k, ho, hc, hd⟩ := hS i h hs
      rw [ho] at ho'; cases ho'
      exact isTab_cls hc
    · obtain ⟨o, T', ho, hc⟩ := hA i h hs
      rw [List.mem_singleton.mp hb, ho] at ho'; cases ho'
      exact isTab_cls hc
  · intro i h h' U hs hu off keep
    refine W.frame _ _ _ hs fun b hb o ho => keep b o (fun z => ?_) ho
    rcases List.mem_cons.mp hb with rfl | hb
    · exact hu _ z (.head _)
    · rw [List.mem_singleton.mp hb] at z ho
      obtain ⟨o', ho', q⟩ := hU i h hs
      rw [ho'] at ho; cases ho
      have := off _ _ z ho'
      rcases q with q | q
      · exact this.2.elim (fun r => r.1 q.1) fun r => r q.2
      · exact this.1 q
theorem iter_list (c : Cx A env FP s₀) (h : Ev prog w A env FP s₀ iter (.list ds)) : IterOf prog w A env FP s₀ iter ds := ⟨fun s st E Q hQ =>
  h.go s st _ _ fun v s1 st1 r1 => by
    obtain ⟨a, vs, rfl, hL, rv, hfpa⟩ := r1.listOpen
    have hlt : a < s1.heap.objs.size := by obtain ⟨o, ho, _⟩ := id hL; exact Heap.lt_size ho
    refine wpAny_pyIter_list hL (hQ _ s1 _ st1 (.push s1 _) ?_)
    refine iter_seq (T := "list_iterator") hlt rv (Walks.list (prog := prog) (w := w) c.hh s1.heap.objs.size a (Nat.ne_of_lt hlt) vs.toArray) ⟨⟨_, Heap.get?_push_size _ rfl, rfl, rfl⟩, hL.push _⟩ ?_ (fun i h hs => let ⟨o, ho, hc, _⟩ := hs.2; ⟨o, _, ho, hc⟩) (fun i h hs => let ⟨o, ho, hc, _⟩ := hs.2; ⟨o, ho, .inl ⟨hc, hfpa⟩⟩) (by decide) (by decide)
    rintro i h ⟨⟨o, ho, hc, hd⟩, _⟩
    exact ⟨o, _, _, ho, hc, hd⟩⟩
theorem iter_tuple (c : Cx A env FP s₀) (h : Ev prog w A env FP s₀ iter (.tuple ds)) : IterOf prog w A env FP s₀ iter ds := ⟨fun s st E Q hQ =>
  h.go s st _ _ fun v s1 st1 r1 => by
    obtain ⟨a, vs, rfl, hL, rv⟩ := r1.tupleOpen
    have hL' : s1.heap.IsTuple a vs.toArray := hL
    have hlt : a < s1.heap.objs.size := by obtain ⟨o, ho, _⟩ := id hL; exact Heap.lt_size ho
    refine wpAny_pyIter_tuple hL' (hQ _ s1 _ st1 (.push s1 _) ?_)
    refine iter_seq (T := "tuple_iterator") hlt rv (Walks.tuple (prog := prog) (w := w) c.hh s1.heap.objs.size a (Nat.ne_of_lt hlt) vs.toArray) ⟨⟨_, Heap.get?_push_size _ rfl, rfl, rfl⟩, hL'.at fun o e => Heap.get?_push_of_some _ e⟩ ?_ (fun i h hs => let ⟨o, ho, hc, _⟩ := hs.2; ⟨o, _, ho, hc⟩) (fun i h hs => let ⟨o, ho, hc, n, hd⟩ := hs.2; ⟨o, ho, .inr ⟨hc, _, n, hd⟩⟩) (by decide) (by decide)
    rintro i h ⟨⟨o, ho, hc, hd⟩, _⟩
    exact ⟨o, _, _, ho, hc, hd⟩⟩
theorem iter_str (c : Cx A env FP s₀) (h : Ev prog w A env FP s₀ iter (.str x)) : IterOf prog w A env FP s₀ iter (x.cps.toList.map fun c => .str ⟨#[c]⟩) := ⟨fun s st E Q hQ =>
  h.go s st _ _ fun v s1 st1 r1 => by
    obtain ⟨t, rfl⟩ := r1.strOpen
    have mk : ∀ (T : String), (["enumerate", "zip", "dict_itemiterator", "dict_reverseitemiterator", "odict_iterator", "itertools.zip_longest", "itertools.pairwise"] : List String).contains T = false → T ≠ "tuple" ∧ T ≠ "list" ∧ T ≠ "dict" →
        Walks prog w A s1.heap.objs.size [s1.heap.objs.size] [s1.heap.objs.size] x.cps.size (SignAt x) (fun i h => h.IsStrIter s1.heap.objs.size T x t i) →
        ∀ o, (s1.heap.push o).IsStrIter s1.heap.objs.size T x t 0 → ItAt prog w A FP (x.cps.toList.map fun c => PyData.str ⟨#[c]⟩) (.ref s1.heap.objs.size) s1 { s1 with heap := s1.heap.push o } := by
      intro T hT hT' W o h0
      have e : x.cps.size = (x.cps.toList.map fun c => PyData.str ⟨#[c]⟩).length := by simp
      rw [e] at W
      refine ⟨_, _, _, _, _, rfl, W, h0, ?_, ?_, ?_, ?_, ?_, ?_, fun i h h' U hs hu off keep => W.frame _ _ _ hs fun b hb o ho => keep b o (fun z => hu b z hb) ho⟩
      · intro b hb
        show b < (s1.heap.push _).objs.size
        rw [Heap.size_push, List.mem_singleton.mp hb]
        exact Nat.lt_succ_self _
      · intro b hb; rw [List.mem_singleton.mp hb]; exact Nat.le_refl _
      · rintro i v _ ⟨c, u, hc, rfl⟩
        exact ⟨.str ⟨#[c]⟩, by simp [hc], .str _ _⟩
      · rintro i h ⟨o, ho, hc, hd⟩ b hb o' ho'
        rw [List.mem_singleton.mp hb, ho] at ho'; cases ho'
        exact ⟨soft_iter (k := i) (t := 0) hc hd rfl, fun e => hT'.1 (Value.type.inj (hc.symm.trans e)), fun e => hT'.2.1 (Value.type.inj (hc.symm.trans e)), fun e => hT'.2.2 (Value.type.inj (hc.symm.trans e))⟩
      · rintro i h ⟨o, ho, hc, hd⟩
        exact ⟨o, T, ho, hc, hT⟩
      · rintro i h ⟨o, ho, hc, hd⟩ b hb o' ho'
        rw [List.mem_singleton.mp hb, ho] at ho'; cases ho'
        exact isTab_cls hc
    cases ha : x.cps.all (· < 128)
    · exact wpAny_pyIter_wide ha (hQ _ s1 _ st1 (.push s1 _) (mk "str_iterator" (by decide) (by decide) (Walks.strWide c.hh _ x t) _ ⟨_, Heap.get?_push_size _ rfl, rfl, rfl⟩))
    · exact wpAny_pyIter_ascii ha (hQ _ s1 _ st1 (.push s1 _) (mk "str_ascii_iterator" (by decide) (by decide) (Walks.strAscii c.hh _ x t) _ ⟨_, Heap.get?_push_size _ rfl, rfl, rfl⟩))⟩
end

/-! ## global names -/
noncomputable def GlAt (env : Env) (h : Heap) (x : Str) (v : Value) : Prop := env.kindOf x = some .globalImplicit ∧
  ∃ mg, h.Ns env.globals mg ∧ (mg x = some v ∨ (mg x = none ∧ ∃ mb, h.Ns env.builtins mb ∧ mb x = some v))
theorem GlAt.kp {env : Env} {h h' : Heap} {x : Str} {v : Value} (g : GlAt env h x v) (k : Kp h h') : GlAt env h' x v := by
  obtain ⟨hx, mg, hg, r⟩ := g
  exact ⟨hx, mg, k.ns hg, r.imp id fun ⟨a, mb, hb, e⟩ => ⟨a, mb, k.ns hb, e⟩⟩
section
variable {prog : Program} {w : World} {A : Around} {env : Env} {FP : Addr → Prop} {s₀ : Shared} {x : Str} {pos p : Pos}
theorem load_gl {M : Model} {E : Value → Shared → Prop} {s : Shared} {v : Value} {Q : Value → Shared → Prop} (hk : env.scope.kind = .function) (g : GlAt env s.heap x v) (h : Q v s) (hd : (x == ("__debug__" : Str)) = false) :
    wpAny M A (eval (.Name x pos) env) Q E s := by
  obtain ⟨hx, mg, hg, r | ⟨r, mb, hb, e⟩⟩ := g
  · exact Name_function_global hk hx (loadGlobal_global hg r h) hd
  · exact Name_function_global hk hx (loadGlobal_builtin hg r hb e h) hd
theorem iter_range {e : Expr} {n : Nat} (c : Cx A env FP s₀) (g : GlAt env s₀.heap "range" (.type "range")) (h : Ev prog w A env FP s₀ e (.int n)) (hn : (n : Int) < 2 ^ 62)
    (hs : starEach [e] env = [(false, eval e env)] := by rfl) : IterOf prog w A env FP s₀ (.Call (.Name "range" p) [e] [] pos) ((List.range n).map fun i : Nat => PyData.int (i : Int)) := ⟨fun s st E Q hQ => by
  refine wpAny_Call_NameR (load_gl c.kind (g.kp st.kp) ?_ (by decide))
  have e0 : backTo pos (starEach [e] env) = [(false, eval e env)] := by rw [hs]; rfl
  rw [e0]
  refine PySem.callWith_type rfl (Calls.evalArgs_plain (Calls.spliced_cons (h.go s st _ _ fun v s1 st1 r1 => Calls.spliced_nil ?_)))
  obtain ⟨t, rfl⟩ := r1.intOpen
  refine call_range_1 ?_
  refine wpAny_pyIter_range (IsRange.new ..) (small_one (by omega) (by omega) (by omega) hn) ?_
  have hsz : Builtin.Range.rangeSize 0 n 1 = (n : Int) := by rw [rangeSize_one]; split <;> omega
  have W := Walks.range (prog := prog) (w := w) c.hh (s1.heap.objs.size + 1) 0 1 n
  have e1 : n = ((List.range n).map fun i : Nat => PyData.int (i : Int)).length := by simp
  rw [e1] at W
  have k1 : Stp s s1 := st1
  rw [show (s1.heap.push { cls := .type "range", data := .fields #[.int 0 s1.toks, .int n t, .int 1 (s1.toks + 1)] }).objs.size = s1.heap.objs.size + 1 from Heap.size_push ..]
  refine hQ _ s1 _ st1 (.mk' ((Kp.push _ _).trans (.push _ _)) (Nat.le_trans (Nat.le_succ _) (Nat.le_succ _))) ⟨_, _, _, _, _, rfl, W, ?_, ?_, ?_, ?_, ?_, ?_, ?_, fun i h h' U hs hu off keep => W.frame _ _ _ hs fun b hb o ho => keep b o (fun z => hu b z hb) ho⟩
  · show IsRangeIter _ _ ((0 : Int) + ((0 : Nat) : Int) * 1) ((((List.range n).map fun i : Nat => PyData.int (i : Int)).length : Int) - ((0 : Nat) : Int)) 1
    rw [← e1, hsz]
    have e2 : ((0 : Int) + ((0 : Nat) : Int) * 1) = 0 := by simp
    have e3 : ((n : Int) - ((0 : Nat) : Int)) = n := by simp
    rw [e2, e3]
    have := Heap.get?_push_size (s1.heap.push { cls := .type "range", data := .fields #[.int 0 s1.toks, .int n t, .int 1 (s1.toks + 1)] }) (o := { cls := .type "range_iterator", data := .fields #[rawInt 0, rawInt n, rawInt 1] }) rfl
    rw [Heap.size_push] at this
    exact this
  · intro b hb
    show b < ((s1.heap.push _).push _).objs.size
    rw [Heap.size_push, Heap.size_push, List.mem_singleton.mp hb]; exact Nat.lt_succ_self _
  · intro b hb; rw [List.mem_singleton.mp hb]; exact Nat.le_succ _
  · rintro i v hi ⟨u, rfl⟩
    rw [← e1] at hi
    exact ⟨.int i, by simp [hi], by rw [show (0 : Int) + (i : Int) * 1 = i by omega]; exact .int _ _⟩
  · intro i h hs b hb o' ho'
    rw [List.mem_singleton.mp hb] at ho'
    rw [show h.get? (s1.heap.objs.size + 1) = _ from hs] at ho'
    cases ho'
    exact ⟨rfl, by simp, by simp, by simp⟩
  · intro i h hs
    exact ⟨_, "range_iterator", hs, rfl, by decide⟩
  · intro i h hs b hb o' ho'
    rw [List.mem_singleton.mp hb] at ho'
    rw [show h.get? (s1.heap.objs.size + 1) = _ from hs] at ho'
    cases ho'
    rfl⟩
end
end Mine
end
section
open PySem PySem.W PyProof.Rows PySem.Calls PySem.Spec PySem.SeqAt
set_option linter.unusedVariables false
namespace Mine

section
variable {prog : Program} {w : World} {A : Around} {R : Result → Shared → Prop} {s : Shared}
theorem compLoop_any {elt target iter : Expr} {ifs : List Expr} {scope : Scope} {pos : Pos} {it acc : Value} {env : Env} (I : Nat → Shared → Prop)
    (turn : ∀ n s, I n s → wpAny (model prog w) A (pyNext it) (fun r s₁ => match r with
      | none => R (.ok .next) s₁
      | some v => wpAny (model prog w) A (letOwnedTupleGo target it v) (fun _ s₁' => wpAny (model prog w) A (assign target env v) (fun _ s₂ =>
          wpAny (model prog w) A (forIn ifs true fun c r => if r = true then do let ok ← isTrue c env (eval c env); pure (ForInStep.yield ok) else pure (ForInStep.yield r)) (fun ok s₃ =>
            if ok = true then wpAny (model prog w) A (eval elt env) (fun x s₄ =>
              wpAny (model prog w) A (call (.builtin "list.append") [acc, x]) (fun _ s₅ => ∃ m, m < n ∧ I m s₅) (notedBy (model prog w) A env fun e s' => R (.error e) s') s₄) (notedBy (model prog w) A env fun e s' => R (.error e) s') s₃
            else ∃ m, m < n ∧ I m s₃) (notedBy (model prog w) A env fun e s' => R (.error e) s') s₂) (notedBy (model prog w) A env fun e s' => R (.error e) s') s₁') (notedBy (model prog w) A env fun e s' => R (.error e) s') s₁) (notedBy (model prog w) A env fun e s' => R (.error e) s') s)
    (n : Nat) (h : I n s) :
    codeAny (model prog w) A (.compLoop (.ListComp elt [⟨target, iter, ifs, 0⟩] scope pos) 0 it acc env) R s := by
  refine codeAny_loop rfl I (fun n s hI => ?_) n h
  show wpAny _ A ((compTurn (.ListComp elt [⟨target, iter, ifs, 0⟩] scope pos) 0 it acc env).onRaise (fun x => do noteFrame x env; theTreesLotGoes x)) _ _ s
  refine wpAny_noted ?_
  rw [compTurn_list]
  refine wpAny_bind (wpAny_standAt (wpAny_bind (wpAny_mono (turn n s hI) (fun r s₁ h₁ => ?_) fun _ _ h' => h')))
  cases r with
  | none => exact wpAny_pure h₁
  | some v =>
    refine wpAny_bind (wpAny_mono h₁ (fun _ s₁' h₁' => ?_) fun _ _ h' => h')
    refine wpAny_bind (wpAny_mono h₁' (fun _ s₂ h₂ => wpAny_bind (wpAny_mono h₂ (fun ok s₃ h₃ => ?_) fun _ _ h' => h')) fun _ _ h' => h')
    cases ok with
    | false => exact wpAny_pure ⟨rfl, h₃⟩
    | true =>
      exact wpAny_bind (wpAny_bind (wpAny_mono h₃ (fun x s₄ h₄ => wpAny_bind (wpAny_mono h₄ (fun _ s₅ h₅ => wpAny_pure (wpAny_pure ⟨rfl, h₅⟩)) fun _ _ h' => h')) fun _ _ h' => h'))
end

theorem letOwned_other {prog : Program} {w : World} {A : Around} {E : Value → Shared → Prop} {s : Shared} {target : Expr} {I : Addr} {v : Value} {o : Obj} {T : String} {Q : Unit → Shared → Prop} (ho : s.heap.get? I = some o) (hc : o.cls = .type T)
    (hT : (["enumerate", "zip", "dict_itemiterator", "dict_reverseitemiterator", "odict_iterator", "itertools.zip_longest", "itertools.pairwise"] : List String).contains T = false) (h : Q () s) :
    wpAny (model prog w) A (letOwnedTupleGo target (.ref I) v) Q E s := by
  have main : wpAny (model prog w) A (do
      let (.ref r, .ref a) := (Value.ref I, v) | return
      let o ← load r
      match o.cls, o.data with
      | .type n, .fields vs =>
        if ["enumerate", "zip", "dict_itemiterator", "dict_reverseitemiterator", "odict_iterator", "itertools.zip_longest", "itertools.pairwise"].contains n && vs[0]? == some (rawInt a) then
          rule "for.unpacks-the-owned-tuple"
          updateField r 0 .none
      | _, _ => pure () : Sem Unit) Q E s := by
    cases v with
    | ref a =>
      refine wpAny_bind (wpAny_load ho ?_)
      rw [hc]
      cases o.data with
      | fields vs =>
        show wpAny _ _ (if (["enumerate", "zip", "dict_itemiterator", "dict_reverseitemiterator", "odict_iterator", "itertools.zip_longest", "itertools.pairwise"].contains T && vs[0]? == some (rawInt a)) = true then _ else _) _ _ _
        rw [hT]
        exact wpAny_pure h
      | _ => exact wpAny_pure h
    | _ => exact wpAny_pure h
  cases target with
  | Tuple => exact main
  | List => exact main
  | _ => exact wpAny_pure h

/-- off the made list and the block's own frame -/
noncomputable abbrev FPx (FP : Addr → Prop) (D : Addr) (fr : List Addr) : Addr → Prop := fun b => FP b ∧ b ≠ D ∧ b ∉ fr

section
variable {prog : Program} {w : World} {A : Around} {R : Result → Shared → Prop} {s s1 : Shared} {FP : Addr → Prop} {ds : List PyData} {T0 : Nat}
theorem comp_core {elt target iter : Expr} {ifs : List Expr} {scope : Scope} {pos : Pos} {I D : Addr} {fp wr fr : List Addr} {P : Nat → Value → Prop} {St : Nat → Heap → Prop} {cenv : Env} {Fr : Heap → Prop} {Bn : PyData → Heap → Prop}
    (p : PyData → Bool) (f : PyData → PyData)
    (W : Walks prog w A I fp wr ds.length P St) (hP : ∀ i v, i < ds.length → P i v → ∃ d, ds[i]? = some d ∧ Rd FP s1.heap v d) (hwr : ∀ b ∈ wr, s1.heap.objs.size ≤ b)
    (hsoft : ∀ i h, St i h → ∀ b ∈ wr, ∀ o, h.get? b = some o → soft o = true ∧ o.cls ≠ .type "tuple" ∧ o.cls ≠ .type "list" ∧ o.cls ≠ .type "dict")
    (hown : ∀ i h, St i h → ∃ o T, h.get? I = some o ∧ o.cls = .type T ∧ (["enumerate", "zip", "dict_itemiterator", "dict_reverseitemiterator", "odict_iterator", "itertools.zip_longest", "itertools.pairwise"] : List String).contains T = false)
    (hfpT : ∀ i h, St i h → ∀ b ∈ fp, ∀ o, h.get? b = some o → isTab o = false)
    (hD1 : s1.heap.objs.size ≤ D) (hDfp : D ∉ fp) (hfr : ∀ b ∈ fr, s1.heap.objs.size ≤ b ∧ b ∉ fp ∧ b ≠ D)
    (frSoft : ∀ h, Fr h → ∀ b ∈ fr, ∀ o, h.get? b = some o → soft o = true ∧ ¬ tupLike o)
    (frKeep : ∀ h h', Fr h → (∀ b ∈ fr, ∀ o, h.get? b = some o → isTab o = false → h'.get? b = some o) → Fr h')
    (bnKeep : ∀ d h h', Bn d h → Kp h h' → Bn d h')
    (asg : ∀ (i : Nat) d v h tk (E : Value → Shared → Prop) (Q : Unit → Shared → Prop), ds[i]? = some d → Fr h → Kp s1.heap h → Rd (FPx FP D fr) h v d →
      (∀ h' tk', Fr h' → (∀ b o, b ∉ fr → h.get? b = some o → h'.get? b = some o) → (Rd (FPx FP D fr) h' v d → Bn d h') → Q () { s with heap := h', toks := tk' }) → wpAny (model prog w) A (assign target cenv v) Q E { s with heap := h, toks := tk })
    (tests : ∀ (i : Nat) d h tk (E : Value → Shared → Prop) (Q : Bool → Shared → Prop), ds[i]? = some d → Bn d h → T0 ≤ tk → Kp s1.heap h → D < h.objs.size → (∀ b, h.objs.size ≤ b → b ∉ fr) → (∀ s', Stp { s with heap := h, toks := tk } s' → Q (p d) s') →
      wpAny (model prog w) A (forIn ifs true fun c r => if r = true then do let ok ← isTrue c cenv (eval c cenv); pure (ForInStep.yield ok) else pure (ForInStep.yield r)) Q E { s with heap := h, toks := tk })
    (elts : ∀ (i : Nat) d h tk, ds[i]? = some d → p d = true → Bn d h → T0 ≤ tk → Kp s1.heap h → D < h.objs.size → (∀ b, h.objs.size ≤ b → b ∉ fr) → Gives prog w A (FPx FP D fr) { s with heap := h, toks := tk } (eval elt cenv) (f d))
    (frIn : ∀ h, Fr h → ∀ b ∈ fr, b < h.objs.size)
    (hst : St 0 s.heap) (hacc : s.heap.PlainList D #[]) (hFr : Fr s.heap) (hkp : Kp s1.heap s.heap) (hsz : ds.length ≤ sizeLine) (hT0 : T0 ≤ s.toks)
    (hR : ∀ h tk ys, T0 ≤ tk → h.PlainList D ys → Rds (FPx FP D fr) h ys.toList ((ds.filter p).map f) → Kp s1.heap h → Fr h → R (.ok .next) { s with heap := h, toks := tk }) :
    codeAny (model prog w) A (.compLoop (.ListComp elt [⟨target, iter, ifs, 0⟩] scope pos) 0 (.ref I) (.ref D) cenv) R s := by
  refine compLoop_any (fun k s' => ∃ i h tk ys, s' = { s with heap := h, toks := tk } ∧ T0 ≤ tk ∧ i ≤ ds.length ∧ k = ds.length + 1 - i ∧ St i h ∧ h.PlainList D ys ∧ Fr h ∧ Kp s1.heap h ∧ Rds (FPx FP D fr) h ys.toList (((ds.take i).filter p).map f)) ?_ (ds.length + 1)
    ⟨0, s.heap, s.toks, #[], rfl, hT0, Nat.zero_le _, rfl, hst, hacc, hFr, hkp, by simpa using Rds.nil⟩
  rintro k s' ⟨i, h, tk, ys, rfl, hT, hi, rfl, hst, hacc, hFr, hkp, hys⟩
  have hDw : D ∉ wr := fun hm => hDfp (W.sub _ hm)
  have hDlt : ∀ h : Heap, ∀ ys, h.PlainList D ys → D < h.objs.size := fun h ys ⟨n, e⟩ => Heap.lt_size e
  by_cases hlt : i < ds.length
  · refine with_tk (W.item i _ _ _ hlt hst fun v h1 tk1 hPv hst1 hk1 htk1 => ?_)
    have hT1 : T0 ≤ tk1 := Nat.le_trans hT htk1
    obtain ⟨d, hd, rd⟩ := hP i v hlt hPv
    have hacc1 : h1.PlainList D ys := hacc.at fun o e => hk1 D o hDw e
    have hFr1 : Fr h1 := frKeep _ _ hFr fun b hb o e _ => hk1 b o (fun hm => (hfr b hb).2.1 (W.sub _ hm)) e
    have hkp1 : Kp s1.heap h1 := hkp.but hk1 hwr (fun b hb o ho => (hsoft i h hst b hb o ho).1) (Nat.le_of_lt (Nat.lt_of_le_of_lt hD1 (hDlt _ _ hacc1)))
    have offWr : Off (FPx FP D fr) (· ∈ wr) h := fun b o hb ho => let z := hsoft i h hst b hb o ho; ⟨tupLike_cls z.2.1, .inl z.2.2⟩
    have hys1 : Rds (FPx FP D fr) h1 ys.toList (((ds.take i).filter p).map f) := hys.chg hk1 offWr
    have rd' : Rd (FPx FP D fr) s1.heap v d := rd.mono fun b hb hf => ⟨hf, fun e => by subst e; omega, fun hm => by have := (hfr b hm).1; omega⟩
    obtain ⟨oI, TI, hoI, hcI, hTI⟩ := hown (i + 1) h1 hst1
    refine letOwned_other hoI hcI hTI ?_
    refine with_tk (asg i d v h1 tk1 _ _ hd hFr1 hkp1 (rd'.kp hkp1) fun h2 tk2 hFr2 hk2 hBn2 htk2 => ?_)
    have hT2 : T0 ≤ tk2 := Nat.le_trans hT1 htk2
    have hDfr : D ∉ fr := fun hm => (hfr D hm).2.2 rfl
    have hacc2 : h2.PlainList D ys := hacc1.at fun o e => hk2 D o hDfr e
    have hkp2 : Kp s1.heap h2 := hkp1.but hk2 (fun b hb => (hfr b hb).1) (fun b hb o ho => (frSoft h1 hFr1 b hb o ho).1) (Nat.le_of_lt (Nat.lt_of_le_of_lt hD1 (hDlt _ _ hacc2)))
    have offFr : Off (FPx FP D fr) (· ∈ fr) h1 := fun b o hb ho => ⟨(frSoft h1 hFr1 b hb o ho).2, .inr fun z => z.2.2 hb⟩
    have hys2 : Rds (FPx FP D fr) h2 ys.toList (((ds.take i).filter p).map f) := hys1.chg hk2 offFr
    have hst2 : St (i + 1) h2 := W.frame _ _ _ hst1 fun b hb o e => hk2 b o (fun hm => (hfr b hm).2.1 hb) e
    have hBn : Bn d h2 := hBn2 (rd'.kp hkp2)
    have frOut : ∀ h, Fr h → ∀ b, h.objs.size ≤ b → b ∉ fr := fun h hF b hb hm => Nat.lt_irrefl _ (Nat.lt_of_lt_of_le (frIn h hF b hm) hb)
    refine tests i d h2 tk2 _ _ hd hBn hT2 hkp2 (hDlt _ _ hacc2) (frOut _ hFr2) fun s3 st3 => ?_
    have htk3 := st3.tk
    obtain ⟨h3, tk3, rfl⟩ := st3.rest
    have hT3 : T0 ≤ tk3 := Nat.le_trans hT2 htk3
    have k3 : Kp h2 h3 := st3.kp
    have hys3 : Rds (FPx FP D fr) h3 ys.toList (((ds.take i).filter p).map f) := hys2.kp k3
    have hacc3 : h3.PlainList D ys := hacc2.at fun o e => k3.at e (isTab_cls (n := "list") (by obtain ⟨n, e'⟩ := hacc2; rw [e'] at e; cases e; rfl))
    have hFr3 : Fr h3 := frKeep _ _ hFr2 fun b hb o e nt => k3.at e nt
    have keepFp : ∀ (h h' : Heap), Kp h h' → St (i + 1) h → St (i + 1) h' := fun h h' k hs => by
      exact W.frame _ _ _ hs fun b hb o e => k.at e (hfpT _ _ hs b hb o e)
    have hst3 : St (i + 1) h3 := keepFp _ _ k3 hst2
    have htake : ds.take (i + 1) = ds.take i ++ [d] := by rw [List.take_add_one, hd]; rfl
    cases hp : p d with
    | false =>
      simp only [Bool.false_eq_true, if_false]
      refine ⟨ds.length + 1 - (i + 1), by omega, i + 1, h3, tk3, ys, rfl, hT3, hlt, rfl, hst3, hacc3, hFr3, hkp2.trans k3, ?_⟩
      rw [htake, List.filter_append, List.map_append]
      simpa [hp] using hys3
    | true =>
      simp only [if_true]
      refine (elts i d h3 tk3 hd hp (bnKeep _ _ _ hBn k3) hT3 (hkp2.trans k3) (hDlt _ _ hacc3) (frOut _ hFr3)).go _ (.refl _) _ _ fun y s4 st4 r4 => ?_
      have htk4 := st4.tk
      obtain ⟨h4, tk4, rfl⟩ := st4.rest
      have hT4 : T0 ≤ tk4 := Nat.le_trans hT3 htk4
      have k4 : Kp h3 h4 := st4.kp
      have hacc4 : h4.PlainList D ys := hacc3.at fun o e => k4.at e (isTab_cls (n := "list") (by obtain ⟨n, e'⟩ := hacc3; rw [e'] at e; cases e; rfl))
      have hFr4 : Fr h4 := frKeep _ _ hFr3 fun b hb o e nt => k4.at e nt
      have hyl : ys.size ≤ sizeLine := by
        have e1 := hys3.length
        have e2 : (((ds.take i).filter p).map f).length ≤ i := by
          rw [List.length_map]
          exact Nat.le_trans (List.length_filter_le _ _) (by rw [List.length_take]; exact Nat.min_le_left _ _)
        have e3 : ys.toList.length = ys.size := by simp
        omega
      refine wpAny_list_append_plain (hsz := hyl) hacc4 fun h5 hl5 hs5 => ?_
      have k5 : ∀ b o, b ∉ [D] → h4.get? b = some o → h5.get? b = some o := fun b o hb e => hs5.extBut b o (fun z => hb (by rw [z]; exact .head _)) e
      have offD : Off (FPx FP D fr) (· ∈ [D]) h4 := fun b o hb ho => by
        rw [List.mem_singleton.mp hb] at ho ⊢
        obtain ⟨n, e'⟩ := hacc4
        rw [e'] at ho; cases ho
        exact ⟨tupLike_cls (by simp), .inr fun z => z.2.1 rfl⟩
      have hkp5 : Kp s1.heap h5 := ((hkp2.trans k3).trans k4).but k5 (fun b hb => by rw [List.mem_singleton.mp hb]; exact hD1) (fun b hb o ho => by
        rw [List.mem_singleton.mp hb] at ho
        obtain ⟨n, e'⟩ := hacc4
        rw [e'] at ho; cases ho; rfl) (Nat.le_of_lt (Nat.lt_of_le_of_lt hD1 (hDlt _ _ hl5)))
      refine ⟨ds.length + 1 - (i + 1), by omega, i + 1, h5, tk4, _, rfl, hT4, hlt, rfl, ?_, hl5, ?_, hkp5, ?_⟩
      · exact W.frame _ _ _ (keepFp _ _ k4 hst3) fun b hb o e => k5 b o (fun hm => hDfp (by rw [← List.mem_singleton.mp hm]; exact hb)) e
      · exact frKeep _ _ hFr4 fun b hb o e _ => k5 b o (fun hm => (hfr b hb).2.2 (List.mem_singleton.mp hm)) e
      · rw [htake, List.filter_append, List.map_append]
        have : (ys.push y).toList = ys.toList ++ [y] := by simp
        rw [this]
        refine Rds.append ((hys3.kp k4).chg k5 offD) ?_
        simpa [hp] using Rds.cons (r4.chg k5 offD) Rds.nil
  · have hin : i = ds.length := by omega
    subst hin
    refine with_tk (W.done _ _ _ hst fun h1 tk1 hk1 htk1 => ?_)
    have hacc1 : h1.PlainList D ys := hacc.at fun o e => hk1 D o hDw e
    have offWr : Off (FPx FP D fr) (· ∈ wr) h := fun b o hb ho => let z := hsoft _ h hst b hb o ho; ⟨tupLike_cls z.2.1, .inl z.2.2⟩
    refine hR h1 tk1 ys (Nat.le_trans hT htk1) hacc1 ?_ ?_ ?_
    · have := hys.chg hk1 offWr
      simpa using this
    · exact hkp.but hk1 hwr (fun b hb o ho => (hsoft _ h hst b hb o ho).1) (Nat.le_of_lt (Nat.lt_of_le_of_lt hD1 (hDlt _ _ hacc1)))
    · exact frKeep _ _ hFr fun b hb o e _ => hk1 b o (fun hm => (hfr b hb).2.1 (W.sub _ hm)) e
end
end Mine
end
section
open PySem PySem.W PyProof.Rows PySem.Calls PySem.Spec PySem.SeqAt
set_option linter.unusedVariables false
namespace Mine

structure Tsts (prog : Program) (w : World) (A : Around) (env : Env) (s₀ : Shared) (ifs : List Expr) (b : Bool) : Prop where
  go : ∀ s, Stp s₀ s → ∀ (E : Value → Shared → Prop) (Q : Bool → Shared → Prop), (∀ s', Stp s s' → Q b s') →
    wpAny (model prog w) A (forIn ifs true fun c r => if r = true then do let ok ← isTrue c env (eval c env); pure (ForInStep.yield ok) else pure (ForInStep.yield r)) Q E s
theorem tsts_nil {prog : Program} {w : World} {A : Around} {env : Env} {s₀ : Shared} : Tsts prog w A env s₀ [] true := ⟨fun s _ _ _ hQ => wpAny_tests_nil (hQ s (.refl s))⟩
theorem tsts_one {prog : Program} {w : World} {A : Around} {env : Env} {s₀ : Shared} {c : Expr} {b : Bool} (h : Tst prog w A env s₀ c b) : Tsts prog w A env s₀ [c] b := ⟨fun s st E Q hQ => wpAny_tests_one (h.go s st E Q hQ)⟩

/-- what the names of a comprehension's block hold -/
noncomputable def rhoC (vis : List Str) (ρ : Str → Option PyData) (bs : List (Str × PyData)) : Str → Option PyData := fun y => match bs.lookup y with
  | some e => some e
  | none => if vis.contains y then ρ y else none

/-- the frame of a comprehension's block -/
noncomputable def FrC (ncs : Addr → List Addr) (C : Addr) (h : Heap) : Prop := (∃ m, h.Ns C m) ∧ ∀ c ∈ ncs C, ∃ v, h.IsCell c v
section
variable {prog : Program} {w : World} {A : Around} {env : Env} {FP : Addr → Prop} {s₀ : Shared} {ρ : Str → Option PyData} {ds : List PyData}
theorem FrC.soft {ncs : Addr → List Addr} {C : Addr} {h : Heap} (F : FrC ncs C h) : ∀ b ∈ C :: ncs C, ∀ o, h.get? b = some o → soft o = true ∧ ¬ tupLike o := by
  intro b hb o' ho'
  rcases List.mem_cons.mp hb with rfl | hb
  · obtain ⟨m, o, es, ep, ho, hd, _⟩ := F.1
    rw [ho] at ho'; cases ho'
    exact ⟨soft_noFields (by rw [hd]; simp), tupLike_data (by rw [hd]; simp)⟩
  · obtain ⟨v, o, ho, hd⟩ := F.2 b hb
    rw [ho] at ho'; cases ho'
    exact ⟨soft_noFields (by rw [hd]; simp), tupLike_data (by rw [hd]; simp)⟩
theorem FrC.keep {ncs : Addr → List Addr} {C : Addr} {h h' : Heap} (F : FrC ncs C h) (k : ∀ b ∈ C :: ncs C, ∀ o, h.get? b = some o → isTab o = false → h'.get? b = some o) : FrC ncs C h' := by
  obtain ⟨⟨m, o, es, ep, ho, hd, r⟩, hc⟩ := F
  refine ⟨⟨m, o, es, ep, k _ (.head _) o ho (isTab_data (by rw [hd]; simp)), hd, r⟩, fun c hc' => ?_⟩
  obtain ⟨v, o, ho, hd⟩ := hc c hc'
  exact ⟨v, o, k c (.tail _ hc') o ho (isTab_data (by rw [hd]; simp)), hd⟩
theorem FrC.lt {ncs : Addr → List Addr} {C : Addr} {h : Heap} (F : FrC ncs C h) : ∀ b ∈ C :: ncs C, b < h.objs.size := by
  intro b hb
  rcases List.mem_cons.mp hb with rfl | hb
  · obtain ⟨m, n⟩ := F.1; exact n.lt
  · obtain ⟨v, o, ho, _⟩ := F.2 b hb; exact Heap.lt_size ho

theorem comp_gen {elt target iter : Expr} {ifs : List Expr} {scope : Scope} {pos : Pos} {cl : List (Str × Addr)} {cls : Addr → List (Str × Addr)} {ncs : Addr → List Addr} {use : Option (Value → Sem Unit)} (c : Cx A env FP s₀) (z : Sees env FP s₀.heap ρ) (hi : IterOf prog w A env FP s₀ iter ds) (hsz : ds.length ≤ sizeLine)
    (vis : List Str) (bs : PyData → List (Str × PyData)) (p : PyData → Bool) (f : PyData → PyData)
    (hclos : closureFor scope env = pure cl) (hkind : scope.kind = .function) (hnames : ∀ y ∈ scope.names, y.2 = .local → scope.names.lookup y.1 = some .local)
    (hvis : ∀ C, ∀ y ∈ vis, env.kindOf y ≠ some .local ∧ (cls C).lookup y = env.cells.lookup y ∧ ((relabel scope env).names.lookup y = some .cell ∨ (relabel scope env).names.lookup y = some .free))
    (hnc : ∀ C, ∀ c ∈ ncs C, C < c)
    (mk : ∀ (s : Shared) (E : Value → Shared → Prop) (Q : Env → Shared → Prop), (∀ h', FrC ncs s.heap.objs.size h' → (∀ b o, s.heap.get? b = some o → h'.get? b = some o) →
      Q (newEnv scope s.heap.objs.size env.globals (cls s.heap.objs.size) env.qual none .none (some env) builtinsNs) { s with heap := h' }) → wpAny (model prog w) A (newFunctionEnv scope env.globals cl [] env.qual none .none (some env)) Q E s)
    (asg : ∀ (i : Nat) d v C (s : Shared) (FP' : Addr → Prop) (E : Value → Shared → Prop) (Q : Unit → Shared → Prop), ds[i]? = some d → FrC ncs C s.heap → Rd FP' s.heap v d →
      (∀ h' tk', FrC ncs C h' → (∀ b o, b ∉ C :: ncs C → s.heap.get? b = some o → h'.get? b = some o) → (Rd FP' h' v d → ∀ q ∈ bs d, ∃ u, NameAt (compEnvC scope (cls C) C env) h' q.1 u ∧ Rd FP' h' u q.2) → Q () { s with heap := h', toks := tk' }) →
      wpAny (model prog w) A (assign target (compEnvC scope (cls C) C env) v) Q E s)
    (tests : ∀ (i : Nat) d, ds[i]? = some d → ∀ C FP' s', Stp s₀ s' → (∀ b, b < s₀.heap.objs.size → FP b → FP' b) → Cx A (compEnvC scope (cls C) C env) FP' s' → Sees (compEnvC scope (cls C) C env) FP' s'.heap (rhoC vis ρ (bs d)) → Tsts prog w A (compEnvC scope (cls C) C env) s' ifs (p d))
    (elts : ∀ (i : Nat) d, ds[i]? = some d → p d = true → ∀ C FP' s', Stp s₀ s' → (∀ b, b < s₀.heap.objs.size → FP b → FP' b) → Cx A (compEnvC scope (cls C) C env) FP' s' → Sees (compEnvC scope (cls C) C env) FP' s'.heap (rhoC vis ρ (bs d)) → Ev prog w A (compEnvC scope (cls C) C env) FP' s' elt (f d))
    (hs : ∀ x, foldedSetIterable iter env x = pure x) {s : Shared} (st : Stp s₀ s) {E : Value → Shared → Prop} {Q : Value → Shared → Prop}
    (hend : ∀ h tk ys D C, Stp s { s with heap := h, toks := tk } → D ≠ C → s.heap.objs.size ≤ D → (∀ b ∈ C :: ncs C, s.heap.objs.size ≤ b) → FrC ncs C h → h.PlainList D ys → Rds (FPx FP D (C :: ncs C)) h ys.toList ((ds.filter p).map f) →
      compPost (model prog w) A E use Q (.ref D) C (.ok .next) { s with heap := h, toks := tk }) :
    wpAny (model prog w) A (comprehension (.ListComp elt [⟨target, iter, ifs, 0⟩] scope pos) scope env (firstIterPos [⟨target, iter, ifs, 0⟩] pos) (newList []) (firstAsync [⟨target, iter, ifs, 0⟩]) (firstIter [⟨target, iter, ifs, 0⟩] env) use) Q E s := by
  refine wpAny_comprehension_free rfl hs hclos hkind hnames (hi.go s st _ _ fun it s1 s2 st1 st2 hit => ?_)
  obtain ⟨I, fp, wr, P, St, rfl, W, hst, hfp, hwr, hP, hsoft, hown, hfpT, _⟩ := hit
  refine wpAny_newObj_type (mk _ _ _ fun h₁ hF₁ old₁ => ?_)
  dsimp only at hF₁ old₁ ⊢
  generalize hH2 : s2.heap.push { cls := .type "list", dict := none, data := .seq ([] : List Value).toArray } = H2 at hF₁ old₁ ⊢
  have hC : H2.objs.size = s2.heap.objs.size + 1 := by rw [← hH2, Heap.size_push]
  have h12 := st2.kp.size
  have hDC : s2.heap.objs.size ≠ H2.objs.size := by rw [hC]; exact Nat.ne_of_lt (Nat.lt_succ_self _)
  have frLo : ∀ b ∈ H2.objs.size :: ncs H2.objs.size, s2.heap.objs.size < b := fun b hb => by
    rcases List.mem_cons.mp hb with rfl | hb
    · rw [hC]; exact Nat.lt_succ_self _
    · have := hnc _ b hb
      rw [hC] at this
      exact Nat.lt_of_succ_lt this
  have frLo1 : ∀ b ∈ H2.objs.size :: ncs H2.objs.size, s1.heap.objs.size ≤ b := fun b hb => Nat.le_of_lt (Nat.lt_of_le_of_lt h12 (frLo b hb))
  have hDfr : s2.heap.objs.size ∉ H2.objs.size :: ncs H2.objs.size := fun hm => Nat.lt_irrefl _ (frLo _ hm)
  have old : ∀ b o, s2.heap.get? b = some o → h₁.get? b = some o := fun b o e => old₁ b o (hH2 ▸ Heap.get?_push_of_some _ e)
  have hacc : h₁.PlainList s2.heap.objs.size #[] := ⟨_, old₁ _ _ (hH2 ▸ Heap.get?_push_size _ rfl)⟩
  have hCin : H2.objs.size < h₁.objs.size := hF₁.lt _ (.head _)
  have k1 : Kp s1.heap h₁ := st2.kp.trans (.of old (by rw [hC] at hCin; exact Nat.le_of_succ_le (Nat.le_of_lt hCin)))
  have hst₁ : St 0 h₁ := W.frame _ _ _ hst fun b _ o e => old b o e
  have loop : ∀ s₃ : Shared, s₃ = { s2 with heap := h₁ } →
      codeAny (model prog w) A (.compLoop (.ListComp elt [⟨target, iter, ifs, 0⟩] scope pos) 0 (.ref I) (.ref s2.heap.objs.size) (compEnvC scope (cls H2.objs.size) H2.objs.size env))
        (compPost (model prog w) A E use Q (.ref s2.heap.objs.size) H2.objs.size) s₃ := by
    intro s₃ hs₃
    have base : ∀ h tk, s1.toks ≤ tk → Kp s1.heap h → Stp s₀ { s₃ with heap := h, toks := tk } := fun h tk hT k => by
      subst hs₃
      refine st.trans (st1.trans ?_)
      obtain ⟨h2, t2, rfl⟩ := st2.rest
      exact ⟨k, ⟨h, tk, rfl⟩, hT⟩
    have cx : ∀ h tk, s1.toks ≤ tk → Kp s1.heap h → s2.heap.objs.size < h.objs.size → (∀ b, h.objs.size ≤ b → b ∉ H2.objs.size :: ncs H2.objs.size) → Cx A (compEnvC scope (cls H2.objs.size) H2.objs.size env) (FPx FP s2.heap.objs.size (H2.objs.size :: ncs H2.objs.size)) { s₃ with heap := h, toks := tk } := fun h tk hT k hD hfr =>
      ⟨fun b hb => ⟨c.fp b (Nat.le_trans (base h tk hT k).kp.size hb), fun e => by subst e; exact Nat.lt_irrefl _ (Nat.lt_of_lt_of_le hD hb), hfr b hb⟩, c.hh, c.un, hkind⟩
    have oldFP : ∀ b, b < s₀.heap.objs.size → FP b → FPx FP s2.heap.objs.size (H2.objs.size :: ncs H2.objs.size) b := fun b hb hf => by
      have lo : s₀.heap.objs.size ≤ s2.heap.objs.size := Nat.le_trans (st.trans st1).kp.size h12
      exact ⟨hf, fun e => Nat.lt_irrefl _ (Nat.lt_of_lt_of_le (e ▸ hb) lo), fun hm => Nat.lt_irrefl _ (Nat.lt_trans (Nat.lt_of_lt_of_le hb lo) (frLo b hm))⟩
    refine comp_core (s1 := s1) (T0 := s1.toks) (FP := FP) (fr := H2.objs.size :: ncs H2.objs.size) (Fr := FrC ncs H2.objs.size)
      (Bn := fun d h => Sees (compEnvC scope (cls H2.objs.size) H2.objs.size env) (FPx FP s2.heap.objs.size (H2.objs.size :: ncs H2.objs.size)) h (rhoC vis ρ (bs d))) p f W hP hwr hsoft hown hfpT h12 (fun hm => Nat.lt_irrefl _ (hfp _ hm)) ?_ ?_ ?_ ?_ ?_ ?_ ?_ (fun h F => F.lt) ?_ ?_ ?_ ?_ hsz ?_ ?_
    · intro b hb
      exact ⟨frLo1 b hb, fun hm => Nat.lt_irrefl _ (Nat.lt_trans (hfp _ hm) (frLo b hb)), fun e => hDfr (e ▸ hb)⟩
    · exact fun h F => F.soft
    · exact fun h h' F k => F.keep k
    · exact fun d h h' zz k => zz.kp k
    · rintro i d v h tk E' Q' hd hF k rv hQ'
      refine asg i d v H2.objs.size _ _ E' Q' hd hF rv fun h' tk' hF' hk' hb' => ?_
      refine hQ' h' tk' hF' hk' fun rv' => ?_
      intro y dy hy
      unfold rhoC at hy
      cases hl : (bs d).lookup y with
      | some e =>
        rw [hl] at hy
        cases hy
        exact hb' rv' (y, dy) (PyProof.Rows.mem_of_lookup hl)
      | none =>
        rw [hl] at hy
        dsimp only at hy
        split at hy
        · rename_i hv
          have hv' : y ∈ vis := by simpa using hv
          obtain ⟨n1, n2, n3⟩ := hvis H2.objs.size y hv'
          obtain ⟨u, na, ru⟩ := z y dy hy
          have lo : s₀.heap.objs.size ≤ s2.heap.objs.size := Nat.le_trans (st.trans st1).kp.size h12
          have kk : Kp s₀.heap h' := by
            refine (base h s1.toks (Nat.le_refl _) k).kp.but (U := H2.objs.size :: ncs H2.objs.size) hk' (fun b hb => Nat.le_of_lt (Nat.lt_of_le_of_lt lo (frLo b hb))) (fun b hb o ho => (hF.soft b hb o ho).1) ?_
            exact Nat.le_of_lt (Nat.lt_of_le_of_lt lo (Nat.lt_trans (frLo _ (.head _)) (hF'.lt _ (.head _))))
          have ru' : Rd (FPx FP s2.heap.objs.size (H2.objs.size :: ncs H2.objs.size)) h' u dy :=
            (ru.mono fun b hb hf => ⟨hf, fun e => by subst e; exact Nat.lt_irrefl _ (Nat.lt_of_lt_of_le hb lo), fun hm => Nat.lt_irrefl _ (Nat.lt_trans (Nat.lt_of_lt_of_le hb lo) (frLo b hm))⟩).kp kk
          refine ⟨u, ?_, ru'⟩
          have na' := na.kp kk
          cases na' with
          | loc a _ _ => exact absurd a n1
          | cell a b c' d' => rcases n3 with n3 | n3
                              · exact .cell n3 (n2.trans b) c' d'
                              · exact .free n3 (n2.trans b) c' d'
          | free a b c' d' => rcases n3 with n3 | n3
                              · exact .cell n3 (n2.trans b) c' d'
                              · exact .free n3 (n2.trans b) c' d'
        · cases hy
    · intro i d h tk E' Q' hd zz hT k hD hfr hQ'
      exact (tests i d hd _ _ _ (base h tk hT k) oldFP (cx h tk hT k hD hfr) zz).go _ (.refl _) E' Q' hQ'
    · intro i d h tk hd hp zz hT k hD hfr
      exact elts i d hd hp _ _ _ (base h tk hT k) oldFP (cx h tk hT k hD hfr) zz
    · rw [hs₃]; exact hst₁
    · rw [hs₃]; exact hacc
    · rw [hs₃]; exact hF₁
    · rw [hs₃]; exact k1
    · rw [hs₃]; exact st2.tk
    · intro h tk ys hT hl hys k hF
      have lo1 := st1.kp.size
      have e3 : ({ s₃ with heap := h, toks := tk } : Shared) = { s with heap := h, toks := tk } := by
        subst hs₃
        obtain ⟨h2, t2, rfl⟩ := st2.rest
        obtain ⟨h3, t3, rfl⟩ := st1.rest
        rfl
      rw [e3]
      refine hend h tk ys _ _ ⟨st1.kp.trans k, ⟨h, tk, rfl⟩, Nat.le_trans st1.tk hT⟩ hDC (Nat.le_trans lo1 h12) (fun b hb => Nat.le_trans lo1 (frLo1 b hb)) hF hl hys
  exact codeAny_compStart_list (loop _ rfl) (W.self 0 _ _ _ hst₁ (loop _ rfl))

theorem FrC.off {ncs : Addr → List Addr} {C D : Addr} {h : Heap} (F : FrC ncs C h) : Off (FPx FP D (C :: ncs C)) (· ∈ [C]) h := fun b o hb ho => by
  have hb' : b ∈ C :: ncs C := by rw [List.mem_singleton.mp hb]; exact .head _
  exact ⟨(F.soft b hb' o ho).2, .inr fun z => z.2.2 hb'⟩

/-- the frame without cells of its own -/
theorem mk_plain {scope : Scope} {cl : List (Str × Addr)} (hcell : ∀ y ∈ scope.names, y.2 ≠ .cell) (hkind : scope.kind = .function) (s : Shared) (E : Value → Shared → Prop) (Q : Env → Shared → Prop)
    (hQ : ∀ h', FrC (fun _ => []) s.heap.objs.size h' → (∀ b o, s.heap.get? b = some o → h'.get? b = some o) →
      Q (newEnv scope s.heap.objs.size env.globals cl env.qual none .none (some env) builtinsNs) { s with heap := h' }) : wpAny (model prog w) A (newFunctionEnv scope env.globals cl [] env.qual none .none (some env)) Q E s := by
  refine wpAny_newFunctionEnv hcell (by intro y hy; simp at hy) (fun h₁ hns₁ hsb₁ => ?_) hkind
  exact hQ h₁ ⟨⟨_, hns₁⟩, fun c hc => nomatch hc⟩ fun b o e => hsb₁.extBut b o (Nat.ne_of_lt (Heap.lt_size e)) (Heap.get?_push_of_some _ e)

/-- a comprehension, its value used at once or given -/
structure CompOf (prog : Program) (w : World) (A : Around) (env : Env) (FP : Addr → Prop) (s₀ : Shared) (e : Expr) (ds : List PyData) : Prop where
  go : ∀ (use : Option (Value → Sem Unit)) s, Stp s₀ s → ∀ (E : Value → Shared → Prop) (Q : Value → Shared → Prop),
    (∀ h tk D C, Stp s { s with heap := h, toks := tk } → D ≠ C → s.heap.objs.size ≤ D → s.heap.objs.size ≤ C → (∃ m, h.Ns C m) → (∃ ys, h.PlainList D ys) → Rd (fun b => FP b ∧ b ≠ C) h (.ref D) (.list ds) →
      compPost (model prog w) A E use Q (.ref D) C (.ok .next) { s with heap := h, toks := tk }) →
    match e with
    | .ListComp elt gens scope pos => wpAny (model prog w) A (comprehension (.ListComp elt gens scope pos) scope env (firstIterPos gens pos) (newList []) (firstAsync gens) (firstIter gens env) use) Q E s
    | _ => False
theorem pl_of_comp {elt : Expr} {gens : List Comprehension} {scope : Scope} {pos : Pos} {ds : List PyData} (h : CompOf prog w A env FP s₀ (.ListComp elt gens scope pos) ds) : (∀ s, Stp s₀ s → ∀ (E : Value → Shared → Prop) (Q : Value → Shared → Prop), (∀ D s', Stp s s' → (∃ ys, s'.heap.PlainList D ys) → Rd FP s'.heap (.ref D) (.list ds) → Q (.ref D) s') → wpAny (model prog w) A (eval (.ListComp elt gens scope pos) env) Q E s) := fun s st E Q hQ => by
  rw [eval_ListComp]
  refine h.go none s st E Q fun h tk D C st' hDC hD hC hns hpl hr => ?_
  obtain ⟨m, hm⟩ := hns
  refine ⟨m, hm, fun h' hs' => ?_⟩
  have hk' : ∀ b o, b ∉ [C] → h.get? b = some o → h'.get? b = some o := fun b o hb e => hs'.extBut b o (fun e' => hb (by rw [e']; exact .head _)) e
  have hoc : ∀ b ∈ [C], ∀ o, h.get? b = some o → soft o = true ∧ ¬ tupLike o := fun b hb o ho => by
    obtain ⟨o2, es, ep, ho2, hd, _⟩ := hm
    have ho' : h.get? C = some o := by rw [← List.mem_singleton.mp hb]; exact ho
    rw [ho2] at ho'; cases ho'
    exact ⟨soft_noFields (by rw [hd]; simp), tupLike_data (by rw [hd]; simp)⟩
  have offC : Off (fun b => FP b ∧ b ≠ C) (· ∈ [C]) h := fun b o hb ho => ⟨(hoc b hb o ho).2, .inr fun z => z.2 (List.mem_singleton.mp hb)⟩
  have r' := hr.chg hk' offC
  obtain ⟨a, vs, e, hL, _, _⟩ := r'.listOpen
  cases e
  have hDlt : D < h'.objs.size := by obtain ⟨o, ho, _⟩ := hL; exact Heap.lt_size ho
  have k' : Kp s.heap h' := st'.kp.but hk' (fun b hb => by rw [List.mem_singleton.mp hb]; exact hC) (fun b hb o ho => (hoc b hb o ho).1) (Nat.le_of_lt (Nat.lt_of_le_of_lt hD hDlt))
  exact hQ _ _ ⟨k', ⟨h', tk, rfl⟩, st'.tk⟩ (let ⟨ys, hy⟩ := hpl; ⟨ys, hy.at fun o e => hs'.extBut _ o hDC e⟩) (r'.mono fun b _ hb => hb.1)
theorem ev_of_comp {elt : Expr} {gens : List Comprehension} {scope : Scope} {pos : Pos} {ds : List PyData} (h : CompOf prog w A env FP s₀ (.ListComp elt gens scope pos) ds) : Ev prog w A env FP s₀ (.ListComp elt gens scope pos) (.list ds) := ⟨fun s st E Q hQ =>
  pl_of_comp h s st E Q fun D s' st' _ r => hQ _ s' st' r⟩
theorem comp_end {elt target iter : Expr} {ifs : List Expr} {scope : Scope} {pos : Pos} {ncs : Addr → List Addr} {out : List PyData} {use : Option (Value → Sem Unit)} (c : Cx A env FP s₀) {s : Shared} (st : Stp s₀ s) {E : Value → Shared → Prop} {Q : Value → Shared → Prop}
    (hend : ∀ h tk D C, Stp s { s with heap := h, toks := tk } → D ≠ C → s.heap.objs.size ≤ D → s.heap.objs.size ≤ C → (∃ m, h.Ns C m) → (∃ ys, h.PlainList D ys) → Rd (fun b => FP b ∧ b ≠ C) h (.ref D) (.list out) →
      compPost (model prog w) A E use Q (.ref D) C (.ok .next) { s with heap := h, toks := tk }) :
    ∀ h tk ys D C, Stp s { s with heap := h, toks := tk } → D ≠ C → s.heap.objs.size ≤ D → (∀ b ∈ C :: ncs C, s.heap.objs.size ≤ b) → FrC ncs C h → h.PlainList D ys → Rds (FPx FP D (C :: ncs C)) h ys.toList out →
      compPost (model prog w) A E use Q (.ref D) C (.ok .next) { s with heap := h, toks := tk } := fun h tk ys D C st' hDC hD hC F hl hys =>
  hend h tk D C st' hDC hD (hC _ (.head _)) F.1 ⟨ys, hl⟩ (.mkList (vs := ys.toList) (by simpa using hl.isList) (hys.mono fun b _ hb => ⟨hb.1, fun e => hb.2.2 (e ▸ .head _)⟩) ⟨c.fp _ (Nat.le_trans st.kp.size hD), hDC⟩)

theorem ev_compG {elt target iter : Expr} {ifs : List Expr} {scope : Scope} {pos : Pos} {cl : List (Str × Addr)} (c : Cx A env FP s₀) (z : Sees env FP s₀.heap ρ) (hi : IterOf prog w A env FP s₀ iter ds) (hsz : ds.length ≤ sizeLine)
    (vis : List Str) (bs : PyData → List (Str × PyData)) (p : PyData → Bool) (f : PyData → PyData)
    (hclos : closureFor scope env = pure cl) (hcell : ∀ y ∈ scope.names, y.2 ≠ .cell) (hkind : scope.kind = .function) (hnames : ∀ y ∈ scope.names, y.2 = .local → scope.names.lookup y.1 = some .local)
    (hvis : ∀ y ∈ vis, env.kindOf y ≠ some .local ∧ cl.lookup y = env.cells.lookup y ∧ ((relabel scope env).names.lookup y = some .cell ∨ (relabel scope env).names.lookup y = some .free))
    (hloc : ∀ d, ∀ q ∈ bs d, scope.names.lookup q.1 = some .local)
    (asg : ∀ (i : Nat) d v C (s : Shared) (m : Str → Option Value) (FP' : Addr → Prop) (E : Value → Shared → Prop) (Q : Unit → Shared → Prop), ds[i]? = some d → s.heap.Ns C m → Rd FP' s.heap v d →
      (∀ h' tk' m', h'.Ns C m' → (∀ b o, b ≠ C → s.heap.get? b = some o → h'.get? b = some o) → (Rd FP' h' v d → ∀ q ∈ bs d, ∃ u, m' q.1 = some u ∧ Rd FP' h' u q.2) → Q () { s with heap := h', toks := tk' }) →
      wpAny (model prog w) A (assign target (compEnvC scope cl C env) v) Q E s)
    (tests : ∀ (i : Nat) d, ds[i]? = some d → ∀ C FP' s', Stp s₀ s' → (∀ b, b < s₀.heap.objs.size → FP b → FP' b) → Cx A (compEnvC scope cl C env) FP' s' → Sees (compEnvC scope cl C env) FP' s'.heap (rhoC vis ρ (bs d)) → Tsts prog w A (compEnvC scope cl C env) s' ifs (p d))
    (elts : ∀ (i : Nat) d, ds[i]? = some d → p d = true → ∀ C FP' s', Stp s₀ s' → (∀ b, b < s₀.heap.objs.size → FP b → FP' b) → Cx A (compEnvC scope cl C env) FP' s' → Sees (compEnvC scope cl C env) FP' s'.heap (rhoC vis ρ (bs d)) → Ev prog w A (compEnvC scope cl C env) FP' s' elt (f d))
    (hs : ∀ x, foldedSetIterable iter env x = pure x) :
    CompOf prog w A env FP s₀ (.ListComp elt [⟨target, iter, ifs, 0⟩] scope pos) ((ds.filter p).map f) := ⟨fun use s st E Q hend => by
  refine comp_gen (cls := fun _ => cl) (ncs := fun _ => []) c z hi hsz vis bs p f hclos hkind hnames (fun _ => hvis) (fun _ _ h => nomatch h) (mk_plain hcell hkind) ?_ tests elts hs st (comp_end (elt := elt) (target := target) (iter := iter) (ifs := ifs) (scope := scope) (pos := pos) c st hend)
  intro i d v C s' FP' E' Q' hd hF rv hQ'
  obtain ⟨m, hm⟩ := hF.1
  refine asg i d v C s' m FP' E' Q' hd hm rv fun h' tk' m' hm' hk' hb' => ?_
  refine hQ' h' tk' ⟨⟨m', hm'⟩, fun _ h => nomatch h⟩ (fun b o hb e => hk' b o (fun e' => hb (by rw [e']; exact .head _)) e) fun rv' q hq => ?_
  obtain ⟨u, hu, ru⟩ := hb' rv' q hq
  exact ⟨u, .loc (lookup_relabel_local (hloc d q hq)) hm' hu, ru⟩⟩
end
end Mine
end
section
open PySem PySem.W PyProof.Rows PySem.Calls PySem.Spec PySem.SeqAt
set_option linter.unusedVariables false
namespace Mine
section
variable {prog : Program} {w : World} {A : Around} {env : Env} {FP : Addr → Prop} {s₀ : Shared} {ρ : Str → Option PyData} {ds : List PyData}

theorem co_comp1 {elt iter : Expr} {x : Str} {px : Pos} {ifs : List Expr} {scope : Scope} {pos : Pos} {cl : List (Str × Addr)} (c : Cx A env FP s₀) (z : Sees env FP s₀.heap ρ) (hi : IterOf prog w A env FP s₀ iter ds) (hsz : ds.length ≤ sizeLine)
    (vis : List Str) (p : PyData → Bool) (f : PyData → PyData) (hclos : closureFor scope env = pure cl)
    (hvis : ∀ y ∈ vis, env.kindOf y ≠ some .local ∧ cl.lookup y = env.cells.lookup y ∧ ((relabel scope env).names.lookup y = some .cell ∨ (relabel scope env).names.lookup y = some .free))
    (tests : ∀ (i : Nat) d, ds[i]? = some d → ∀ C FP' s', Stp s₀ s' → (∀ b, b < s₀.heap.objs.size → FP b → FP' b) → Cx A (compEnvC scope cl C env) FP' s' → Sees (compEnvC scope cl C env) FP' s'.heap (rhoC vis ρ [(x, d)]) → Tsts prog w A (compEnvC scope cl C env) s' ifs (p d))
    (elts : ∀ (i : Nat) d, ds[i]? = some d → p d = true → ∀ C FP' s', Stp s₀ s' → (∀ b, b < s₀.heap.objs.size → FP b → FP' b) → Cx A (compEnvC scope cl C env) FP' s' → Sees (compEnvC scope cl C env) FP' s'.heap (rhoC vis ρ [(x, d)]) → Ev prog w A (compEnvC scope cl C env) FP' s' elt (f d))
    (hcell : ∀ y ∈ scope.names, y.2 ≠ .cell := by decide) (hkind : scope.kind = .function := by rfl) (hnames : ∀ y ∈ scope.names, y.2 = .local → scope.names.lookup y.1 = some .local := by decide)
    (hx : scope.names.lookup x = some .local := by rfl) (hs : ∀ x, foldedSetIterable iter env x = pure x := by intro _; rfl) :
    CompOf prog w A env FP s₀ (.ListComp elt [⟨.Name x px, iter, ifs, 0⟩] scope pos) ((ds.filter p).map f) := by
  refine ev_compG c z hi hsz vis (fun d => [(x, d)]) p f hclos hcell hkind hnames hvis (fun d q hq => by rw [List.mem_singleton.mp hq]; exact hx) ?_ tests elts hs
  intro i d v C s m FP' E Q hd hm rv hQ
  refine wpAny_assign_Name (wpAny_storeName_local (env := compEnvC scope cl C env) (lookup_relabel_local hx) hm (fun h' hn hs' => ?_) (by simp [compEnvC, relabel, hkind]))
  refine hQ h' _ _ hn (fun b o hb e => hs'.extBut b o hb e) fun rv' q hq => ?_
  rw [List.mem_singleton.mp hq]
  exact ⟨v, by simp, rv'⟩
theorem ev_comp1 {elt iter : Expr} {x : Str} {px : Pos} {ifs : List Expr} {scope : Scope} {pos : Pos} {cl : List (Str × Addr)} (c : Cx A env FP s₀) (z : Sees env FP s₀.heap ρ) (hi : IterOf prog w A env FP s₀ iter ds) (hsz : ds.length ≤ sizeLine)
    (vis : List Str) (p : PyData → Bool) (f : PyData → PyData) (hclos : closureFor scope env = pure cl)
    (hvis : ∀ y ∈ vis, env.kindOf y ≠ some .local ∧ cl.lookup y = env.cells.lookup y ∧ ((relabel scope env).names.lookup y = some .cell ∨ (relabel scope env).names.lookup y = some .free))
    (tests : ∀ (i : Nat) d, ds[i]? = some d → ∀ C FP' s', Stp s₀ s' → (∀ b, b < s₀.heap.objs.size → FP b → FP' b) → Cx A (compEnvC scope cl C env) FP' s' → Sees (compEnvC scope cl C env) FP' s'.heap (rhoC vis ρ [(x, d)]) → Tsts prog w A (compEnvC scope cl C env) s' ifs (p d))
    (elts : ∀ (i : Nat) d, ds[i]? = some d → p d = true → ∀ C FP' s', Stp s₀ s' → (∀ b, b < s₀.heap.objs.size → FP b → FP' b) → Cx A (compEnvC scope cl C env) FP' s' → Sees (compEnvC scope cl C env) FP' s'.heap (rhoC vis ρ [(x, d)]) → Ev prog w A (compEnvC scope cl C env) FP' s' elt (f d))
    (hcell : ∀ y ∈ scope.names, y.2 ≠ .cell := by decide) (hkind : scope.kind = .function := by rfl) (hnames : ∀ y ∈ scope.names, y.2 = .local → scope.names.lookup y.1 = some .local := by decide)
    (hx : scope.names.lookup x = some .local := by rfl) (hs : ∀ x, foldedSetIterable iter env x = pure x := by intro _; rfl) :
    Ev prog w A env FP s₀ (.ListComp elt [⟨.Name x px, iter, ifs, 0⟩] scope pos) (.list ((ds.filter p).map f)) := ev_of_comp (co_comp1 c z hi hsz vis p f hclos hvis tests elts hcell hkind hnames hx hs)
theorem co_map1 {elt iter : Expr} {x : Str} {px : Pos} {scope : Scope} {pos : Pos} {cl : List (Str × Addr)} (c : Cx A env FP s₀) (z : Sees env FP s₀.heap ρ) (hi : IterOf prog w A env FP s₀ iter ds) (hsz : ds.length ≤ sizeLine)
    (vis : List Str) (f : PyData → PyData) (hclos : closureFor scope env = pure cl)
    (hvis : ∀ y ∈ vis, env.kindOf y ≠ some .local ∧ cl.lookup y = env.cells.lookup y ∧ ((relabel scope env).names.lookup y = some .cell ∨ (relabel scope env).names.lookup y = some .free))
    (elts : ∀ (i : Nat) d, ds[i]? = some d → ∀ C FP' s', Stp s₀ s' → (∀ b, b < s₀.heap.objs.size → FP b → FP' b) → Cx A (compEnvC scope cl C env) FP' s' → Sees (compEnvC scope cl C env) FP' s'.heap (rhoC vis ρ [(x, d)]) → Ev prog w A (compEnvC scope cl C env) FP' s' elt (f d))
    (hcell : ∀ y ∈ scope.names, y.2 ≠ .cell := by decide) (hkind : scope.kind = .function := by rfl) (hnames : ∀ y ∈ scope.names, y.2 = .local → scope.names.lookup y.1 = some .local := by decide)
    (hx : scope.names.lookup x = some .local := by rfl) (hs : ∀ x, foldedSetIterable iter env x = pure x := by intro _; rfl) :
    CompOf prog w A env FP s₀ (.ListComp elt [⟨.Name x px, iter, [], 0⟩] scope pos) (ds.map f) := by
  have := co_comp1 (px := px) (pos := pos) c z hi hsz vis (fun _ => true) f hclos hvis (fun i d hd C FP' s' st hf cx zz => tsts_nil) (fun i d hd _ => elts i d hd) hcell hkind hnames hx hs
  rw [List.filter_eq_self.mpr (fun _ _ => rfl)] at this
  exact this
theorem ev_map1 {elt iter : Expr} {x : Str} {px : Pos} {scope : Scope} {pos : Pos} {cl : List (Str × Addr)} (c : Cx A env FP s₀) (z : Sees env FP s₀.heap ρ) (hi : IterOf prog w A env FP s₀ iter ds) (hsz : ds.length ≤ sizeLine)
    (vis : List Str) (f : PyData → PyData) (hclos : closureFor scope env = pure cl)
    (hvis : ∀ y ∈ vis, env.kindOf y ≠ some .local ∧ cl.lookup y = env.cells.lookup y ∧ ((relabel scope env).names.lookup y = some .cell ∨ (relabel scope env).names.lookup y = some .free))
    (elts : ∀ (i : Nat) d, ds[i]? = some d → ∀ C FP' s', Stp s₀ s' → (∀ b, b < s₀.heap.objs.size → FP b → FP' b) → Cx A (compEnvC scope cl C env) FP' s' → Sees (compEnvC scope cl C env) FP' s'.heap (rhoC vis ρ [(x, d)]) → Ev prog w A (compEnvC scope cl C env) FP' s' elt (f d))
    (hcell : ∀ y ∈ scope.names, y.2 ≠ .cell := by decide) (hkind : scope.kind = .function := by rfl) (hnames : ∀ y ∈ scope.names, y.2 = .local → scope.names.lookup y.1 = some .local := by decide)
    (hx : scope.names.lookup x = some .local := by rfl) (hs : ∀ x, foldedSetIterable iter env x = pure x := by intro _; rfl) :
    Ev prog w A env FP s₀ (.ListComp elt [⟨.Name x px, iter, [], 0⟩] scope pos) (.list (ds.map f)) := ev_of_comp (co_map1 c z hi hsz vis f hclos hvis elts hcell hkind hnames hx hs)
/-- pairs unpacked -/
theorem co_map2 {elt iter : Expr} {x y : Str} {px py pt : Pos} {k : Nat} {scope : Scope} {pos : Pos} {cl : List (Str × Addr)} {ps : List (PyData × PyData)} (c : Cx A env FP s₀) (z : Sees env FP s₀.heap ρ)
    (hi : IterOf prog w A env FP s₀ iter (ps.map fun q => .tuple [q.1, q.2])) (hsz : ps.length ≤ sizeLine)
    (vis : List Str) (f : PyData × PyData → PyData) (hclos : closureFor scope env = pure cl)
    (hvis : ∀ y ∈ vis, env.kindOf y ≠ some .local ∧ cl.lookup y = env.cells.lookup y ∧ ((relabel scope env).names.lookup y = some .cell ∨ (relabel scope env).names.lookup y = some .free))
    (elts : ∀ (i : Nat) q, ps[i]? = some q → ∀ C FP' s', Stp s₀ s' → (∀ b, b < s₀.heap.objs.size → FP b → FP' b) → Cx A (compEnvC scope cl C env) FP' s' → Sees (compEnvC scope cl C env) FP' s'.heap (rhoC vis ρ [(x, q.1), (y, q.2)]) → Ev prog w A (compEnvC scope cl C env) FP' s' elt (f q))
    (hxy : x ≠ y := by decide)
    (hcell : ∀ y ∈ scope.names, y.2 ≠ .cell := by decide) (hkind : scope.kind = .function := by rfl) (hnames : ∀ y ∈ scope.names, y.2 = .local → scope.names.lookup y.1 = some .local := by decide)
    (hx : scope.names.lookup x = some .local := by rfl) (hy : scope.names.lookup y = some .local := by rfl) (hs : ∀ x, foldedSetIterable iter env x = pure x := by intro _; rfl) :
    CompOf prog w A env FP s₀ (.ListComp elt [⟨.Tuple [.Name x px, .Name y py] k pt, iter, [], 0⟩] scope pos) (ps.map f) := by
  let un : PyData → PyData × PyData := fun d => match d with
    | .tuple [a, b] => (a, b)
    | _ => (.none, .none)
  have hget : ∀ (i : Nat) d, (ps.map fun q => PyData.tuple [q.1, q.2])[i]? = some d → ∃ q, ps[i]? = some q ∧ d = .tuple [q.1, q.2] := fun i d e => by
    rw [List.getElem?_map] at e
    cases hq : ps[i]? with
    | none => rw [hq] at e; cases e
    | some q => rw [hq] at e; cases e; exact ⟨q, rfl, rfl⟩
  have main := ev_compG (target := .Tuple [.Name x px, .Name y py] k pt) (elt := elt) (pos := pos) (ifs := []) c z hi (by simpa using hsz) vis (fun d => [(x, (un d).1), (y, (un d).2)]) (fun _ => true) (fun d => f (un d)) hclos hcell hkind hnames hvis
    (fun d q hq => by
      rcases List.mem_cons.mp hq with rfl | hq
      · exact hx
      · rw [List.mem_singleton.mp hq]; exact hy) ?_ (fun i d hd C FP' s' st hf cx zz => tsts_nil) ?_ hs
  · rw [List.filter_eq_self.mpr (fun _ _ => rfl), List.map_map] at main
    exact main
  · intro i d v C s m FP' E Q hd hm rv hQ
    obtain ⟨q, hq, rfl⟩ := hget i d hd
    obtain ⟨a, vs, rfl, ht, rvs⟩ := rv.tupleOpen
    have hlen := rvs.length
    obtain ⟨v1, v2, rfl⟩ : ∃ v1 v2, vs = [v1, v2] := by
      match vs, hlen with
      | [v1, v2], _ => exact ⟨v1, v2, rfl⟩
    refine wpAny_assign_Tuple c.hh ht rfl rfl fun h1 hk1 => ?_
    have full1 : ∀ b o, s.heap.get? b = some o → h1.get? b = some o := fun b o e => hk1 b o (Nat.ne_of_lt (Heap.lt_size e)) e
    refine wpAny_assignInOrder_more (wpAny_assign_Name (wpAny_storeName_local (env := compEnvC scope cl C env) (lookup_relabel_local hx) (hm.keeps full1) (fun h2 hn2 hs2 => ?_) (by simp [compEnvC, relabel, hkind])))
    refine wpAny_assignInOrder_more (wpAny_assign_Name (wpAny_storeName_local (env := compEnvC scope cl C env) (lookup_relabel_local hy) hn2 (fun h3 hn3 hs3 => ?_) (by simp [compEnvC, relabel, hkind])))
    refine wpAny_assignInOrder_none (hQ h3 _ _ hn3 (fun b o hb e => hs3.extBut b o hb (hs2.extBut b o hb (full1 b o e))) fun rv' q' hq' => ?_)
    obtain ⟨a', vs', e1, ht', rvs'⟩ := rv'.tupleOpen
    cases e1
    have hvs : vs' = [v1, v2] := by
      obtain ⟨o, ho, _, n, hdt⟩ := ht
      obtain ⟨o', ho', _, n', hdt'⟩ := ht'
      have ha : a ≠ C := by
        rintro rfl
        obtain ⟨oc, es, ep, hoc, hdc, _⟩ := hm
        rw [ho] at hoc; cases hoc; rw [hdt] at hdc; cases hdc
      have := hs3.extBut a o ha (hs2.extBut a o ha (full1 a o ho))
      rw [ho'] at this; cases this
      rw [hdt] at hdt'
      simp at hdt'
      exact hdt'.1.symm
    subst hvs
    have r1 := rvs'.uncons
    rcases List.mem_cons.mp hq' with rfl | hq'
    · exact ⟨v1, by simp [hxy], r1.1⟩
    · rw [List.mem_singleton.mp hq']
      exact ⟨v2, by simp, r1.2.uncons.1⟩
  · intro i d hd _ C FP' s' st hf cx zz
    obtain ⟨q, hq, rfl⟩ := hget i d hd
    exact elts i q hq C FP' s' st hf cx zz

theorem ev_map2 {elt iter : Expr} {x y : Str} {px py pt : Pos} {k : Nat} {scope : Scope} {pos : Pos} {cl : List (Str × Addr)} {ps : List (PyData × PyData)} (c : Cx A env FP s₀) (z : Sees env FP s₀.heap ρ)
    (hi : IterOf prog w A env FP s₀ iter (ps.map fun q => .tuple [q.1, q.2])) (hsz : ps.length ≤ sizeLine)
    (vis : List Str) (f : PyData × PyData → PyData) (hclos : closureFor scope env = pure cl)
    (hvis : ∀ y ∈ vis, env.kindOf y ≠ some .local ∧ cl.lookup y = env.cells.lookup y ∧ ((relabel scope env).names.lookup y = some .cell ∨ (relabel scope env).names.lookup y = some .free))
    (elts : ∀ (i : Nat) q, ps[i]? = some q → ∀ C FP' s', Stp s₀ s' → (∀ b, b < s₀.heap.objs.size → FP b → FP' b) → Cx A (compEnvC scope cl C env) FP' s' → Sees (compEnvC scope cl C env) FP' s'.heap (rhoC vis ρ [(x, q.1), (y, q.2)]) → Ev prog w A (compEnvC scope cl C env) FP' s' elt (f q))
    (hxy : x ≠ y := by decide)
    (hcell : ∀ y ∈ scope.names, y.2 ≠ .cell := by decide) (hkind : scope.kind = .function := by rfl) (hnames : ∀ y ∈ scope.names, y.2 = .local → scope.names.lookup y.1 = some .local := by decide)
    (hx : scope.names.lookup x = some .local := by rfl) (hy : scope.names.lookup y = some .local := by rfl) (hs : ∀ x, foldedSetIterable iter env x = pure x := by intro _; rfl) :
    Ev prog w A env FP s₀ (.ListComp elt [⟨.Tuple [.Name x px, .Name y py] k pt, iter, [], 0⟩] scope pos) (.list (ps.map f)) := ev_of_comp (co_map2 c z hi hsz vis f hclos hvis elts hxy hcell hkind hnames hx hy hs)
/-! ## calls of defs -/
/-- calling f with the data ds gives the data d -/
structure CallTo (prog : Program) (w : World) (A : Around) (FP : Addr → Prop) (s₀ : Shared) (f : Value) (ds : List PyData) (d : PyData) : Prop where
  go : ∀ s, Stp s₀ s → ∀ vs, Rds FP s.heap vs ds → ∀ (E : Value → Shared → Prop) (Q : Value → Shared → Prop), (∀ v s', Stp s s' → Rd FP s'.heap v d → Q v s') → wpAny (model prog w) A (call f vs) Q E s
theorem CallTo.stp {f : Value} {d : PyData} {s : Shared} (h : CallTo prog w A FP s₀ f ds d) (st : Stp s₀ s) : CallTo prog w A FP s f ds d := ⟨fun s' st' => h.go s' (st.trans st')⟩
theorem evalArgs_all {f : Value} {es : List Expr} {pos : Pos} {s : Shared} {E : Value → Shared → Prop} {Q : Args → Shared → Prop} (hs : (starEach es env).all (fun x => !x.1) = true)
    (h : wpAny (model prog w) A (spliced (backTo pos (starEach es env))) (fun vs s' => Q ⟨vs, []⟩ s') E s) : wpAny (model prog w) A (evalArgs f true (backTo pos (starEach es env)) []) Q E s := by
  cases hq : starEach es env with
  | nil =>
    rw [hq] at h
    show wpAny (model prog w) A (evalArgs f true [] []) Q E s
    unfold evalArgs
    show wpAny (model prog w) A (spliced [] >>= _) Q E s
    refine wpAny_bind (wpAny_mono h (fun vs s' h' => ?_) fun _ _ x => x)
    refine wpAny_bind (wpAny_pure ?_)
    refine wpAny_holding ?_
    exact wpAny_bind (wpAny_pure (wpAny_bind (wpAny_pure (wpAny_pure h'))))
  | cons x r =>
    rw [hq] at h hs
    obtain ⟨b, t⟩ := x
    have hb : b = false := by simpa using (List.all_eq_true.mp hs (b, t) (.head _))
    subst hb
    exact evalArgs_plain h
theorem ev_call {x : Str} {p pos : Pos} {es : List Expr} {a : Addr} {o : Obj} {fd : FuncData} {d : PyData} (c : Cx A env FP s₀) (g : GlAt env s₀.heap x (.ref a)) (ho : s₀.heap.get? a = some o) (hd : o.data = .func fd)
    (h : EvAll prog w A env FP s₀ es ds) (hc : CallTo prog w A FP s₀ (.ref a) ds d) (hs : (starEach es env).all (fun x => !x.1) = true := by rfl) (hx : (x == ("__debug__" : Str)) = false := by decide) :
    Ev prog w A env FP s₀ (.Call (.Name x p) es [] pos) d := ⟨fun s st E Q hQ => by
  refine wpAny_Call_NameR (load_gl c.kind (g.kp st.kp) ?_ hx)
  refine callWith_function (o := o) (fd := fd) (evalArgs_all hs (h.go pos s st _ _ fun vs s1 st1 r1 => ⟨⟨?_, hd⟩, ?_⟩))
  · exact (st.trans st1).kp.at ho (isTab_data (by rw [hd]; simp))
  · exact hc.go s1 (st.trans st1) vs r1 _ _ fun v s2 st2 r2 => hQ v s2 (st1.trans st2) r2⟩
theorem ev_callB {x : Str} {p pos : Pos} {es : List Expr} {id : String} {d : PyData} (c : Cx A env FP s₀) (g : GlAt env s₀.heap x (.builtin id))
    (h : EvAll prog w A env FP s₀ es ds) (hc : CallTo prog w A FP s₀ (.builtin id) ds d) (hs : (starEach es env).all (fun x => !x.1) = true := by rfl) (hs' : (backTo pos (starEach es env)).any (·.1) = false := by rfl) (hx : (x == ("__debug__" : Str)) = false := by decide) :
    Ev prog w A env FP s₀ (.Call (.Name x p) es [] pos) d := ⟨fun s st E Q hQ => by
  refine wpAny_Call_NameR (load_gl c.kind (g.kp st.kp) ?_ hx)
  refine callWith_builtin hs' (evalArgs_all hs (h.go pos s st _ _ fun vs s1 st1 r1 => ?_))
  exact hc.go s1 (st.trans st1) vs r1 _ _ fun v s2 st2 r2 => hQ v s2 (st1.trans st2) r2⟩
theorem ev_callT {x : Str} {p pos : Pos} {es : List Expr} {T : String} {d : PyData} (c : Cx A env FP s₀) (g : GlAt env s₀.heap x (.type T))
    (h : EvAll prog w A env FP s₀ es ds) (hc : CallTo prog w A FP s₀ (.type T) ds d) (hs : (starEach es env).all (fun x => !x.1) = true := by rfl) (hs' : (backTo pos (starEach es env)).any (·.1) = false := by rfl) (hx : (x == ("__debug__" : Str)) = false := by decide) :
    Ev prog w A env FP s₀ (.Call (.Name x p) es [] pos) d := ⟨fun s st E Q hQ => by
  refine wpAny_Call_NameR (load_gl c.kind (g.kp st.kp) ?_ hx)
  refine PySem.callWith_type hs' (evalArgs_all hs (h.go pos s st _ _ fun vs s1 st1 r1 => ?_))
  exact hc.go s1 (st.trans st1) vs r1 _ _ fun v s2 st2 r2 => hQ v s2 (st1.trans st2) r2⟩
end
end Mine
end
section
open PySem PySem.W PyProof.Rows PySem.Calls PySem.Spec PySem.SeqAt
set_option linter.unusedVariables false
namespace Mine
section
variable {prog : Program} {w : World} {A : Around} {env : Env} {FP : Addr → Prop} {s₀ : Shared} {ds : List PyData} {d : PyData} {x y : Str}

theorem Rds.strs {h : Heap} : ∀ {vs : List Value} {ys : List Str}, Rds FP h vs (ys.map .str) → StrsAre vs ys
  | [], [], _ => .nil
  | [], _ :: _, ⟨_, r, _⟩ => nomatch r
  | _ :: _, [], ⟨_, r, _⟩ => nomatch r
  | v :: _, y :: _, r => by
    obtain ⟨t, rfl⟩ := r.uncons.1.strOpen
    exact .cons y t r.uncons.2.strs
theorem Rds.ints {h : Heap} : ∀ {vs : List Value} {ys : List Int}, Rds FP h vs (ys.map .int) → IntsAre vs ys
  | [], [], _ => .nil
  | [], _ :: _, ⟨_, r, _⟩ => nomatch r
  | _ :: _, [], ⟨_, r, _⟩ => nomatch r
  | v :: _, y :: _, r => by
    obtain ⟨t, rfl⟩ := r.uncons.1.intOpen
    exact .cons y t r.uncons.2.ints
theorem Rds.one {h : Heap} {vs : List Value} (r : Rds FP h vs [d]) : ∃ v, vs = [v] ∧ Rd FP h v d := by
  match vs, r.length with
  | [v], _ => exact ⟨v, rfl, r.uncons.1⟩
theorem Rds.two {h : Heap} {vs : List Value} {d' : PyData} (r : Rds FP h vs [d, d']) : ∃ v v', vs = [v, v'] ∧ Rd FP h v d ∧ Rd FP h v' d' := by
  match vs, r.length with
  | [v, v'], _ => exact ⟨v, v', rfl, r.uncons.1, r.uncons.2.uncons.1⟩

/-! ## methods of strs -/
theorem ev_meth {o : Expr} {name : Str} {apos pos : Pos} {args : List Expr} {id : String} (slot : Slot "str" name id) (hty : typeOf (.builtin id) = pure (.type "method_descriptor"))
    (ho : Ev prog w A env FP s₀ o (.str x)) (ha : EvAll prog w A env FP s₀ args ds) (hc : CallTo prog w A FP s₀ (.builtin id) (.str x :: ds) d)
    (hbase : attributeBase o name env (eval o env) = eval o env := by rfl) (hs : (starEach args env).all (fun x => !x.1) = true := by rfl)
    (hs' : (backTo pos (starEach args env)).any (·.1) = false := by rfl)
    (hfew : ((backTo pos (starEach args env)).all (fun x => !x.1) && (backToKw pos (keywordEach [] env)).all (fun x => x.1.isSome)
      && decide (args.length + ([] : List Keyword).length + (if ([] : List Keyword).isEmpty then 0 else 1) < 30)) = true := by rfl) (hline : (apos.endLine == pos.line) = true := by rfl) :
    Ev prog w A env FP s₀ (.Call (.Attribute o name apos) args [] pos) d := ⟨fun s st E Q hQ =>
  wpAny_Call_method_lateS hbase hfew hline (ho.go s st _ _ fun v s1 st1 r1 => by
    obtain ⟨t, rfl⟩ := r1.strOpen
    refine ⟨"str", id, F.plainAttrs_str, slot, hty, typeIs_str _ _ _, (fun _ e => nomatch e), ?_⟩
    refine callWith_builtin hs' (evalArgs_all hs (ha.go pos s1 (st.trans st1) _ _ fun vs s2 st2 r2 => ?_))
    exact hc.go s2 ((st.trans st1).trans st2) _ (.cons (.str x t) r2) _ _ fun v s3 st3 r3 => hQ v s3 ((st1.trans st2).trans st3) r3)⟩
theorem call_strip (hz : x.length ≤ sizeLine) : CallTo prog w A FP s₀ (.builtin "str.strip") [.str x] (.str (Txt.strip x)) := ⟨fun s st vs r E Q hQ => by
  obtain ⟨v, rfl, r1⟩ := r.one
  obtain ⟨t, rfl⟩ := r1.strOpen
  exact with_tk (SC.strip (fun t' k htk => hQ _ _ (.toks s _) (.str _ _)) hz)⟩
theorem ev_strip {o : Expr} {apos pos : Pos} (ho : Ev prog w A env FP s₀ o (.str x)) (hz : x.length ≤ sizeLine)
    (hbase : attributeBase o "strip" env (eval o env) = eval o env := by rfl) (hline : (apos.endLine == pos.line) = true := by rfl) :
    Ev prog w A env FP s₀ (.Call (.Attribute o "strip" apos) [] [] pos) (.str (Txt.strip x)) :=
  ev_meth F.slot_str_strip F.type_str_strip ho evalAll_dummy (call_strip hz) hbase rfl rfl rfl hline
where evalAll_dummy := (evAll_nil (prog := prog) (w := w) (A := A) (env := env) (FP := FP) (s₀ := s₀))
theorem call_joinL {sep : Str} {ys : List Str} (hok : (ys.map (·.length)).sum + ys.length * sep.length ≤ 16777216) : CallTo prog w A FP s₀ (.builtin "str.join") [.str sep, .list (ys.map .str)] (.str (Txt.join sep ys)) := ⟨fun s st vs r E Q hQ => by
  obtain ⟨v, v', rfl, r1, r2⟩ := r.two
  obtain ⟨t, rfl⟩ := r1.strOpen
  obtain ⟨a, ws, rfl, hL, rw', _⟩ := r2.listOpen
  exact with_tk (join_list hL (by simpa using rw'.strs) hok (fun t' k htk => hQ _ _ (.toks s _) (.str _ _)))⟩
theorem ev_join {o e : Expr} {apos pos : Pos} {sep : Str} {ys : List Str} (ho : Ev prog w A env FP s₀ o (.str sep)) (he : Ev prog w A env FP s₀ e (.list (ys.map .str))) (hok : (ys.map (·.length)).sum + ys.length * sep.length ≤ 16777216)
    (hst : ∀ r, starEach (e :: r) env = (false, eval e env) :: starEach r env := by intro _; rfl)
    (hbase : attributeBase o "join" env (eval o env) = eval o env := by rfl) (hline : (apos.endLine == pos.line) = true := by rfl) :
    Ev prog w A env FP s₀ (.Call (.Attribute o "join" apos) [e] [] pos) (.str (Txt.join sep ys)) :=
  ev_meth F.slot_str_join F.type_str_join ho (evAll_cons he evAll_nil hst) (call_joinL hok) hbase (by rw [hst]; rfl) (by rw [hst]; rfl) (by rw [hst]; rfl) hline

/-! ## built-ins -/
theorem call_len (hz : (ds.length : Int) < 2 ^ 63) : CallTo prog w A FP s₀ (.builtin "len") [.list ds] (.int ds.length) := ⟨fun s st vs r E Q hQ => by
  obtain ⟨v, rfl, r1⟩ := r.one
  obtain ⟨a, ws, rfl, hL, rw', _⟩ := r1.listOpen
  have e : ws.toArray.size = ds.length := by simpa using rw'.length
  refine call_len_list hL (by rw [e]; exact hz) (hQ _ _ (.toks s _) ?_)
  rw [e]
  exact .int _ _⟩
theorem preSum_list (ns : List Int) : ∀ k, k ≤ ns.length → preSum (fun i => ns.getD i 0) k = (ns.take k).sum
  | 0, _ => by simp [preSum]
  | k + 1, h => by
    have ih := preSum_list ns k (Nat.le_of_succ_le h)
    rw [preSum, ih, List.take_add_one, List.sum_append]
    have : ns[k]? = some ns[k] := by simp [Nat.lt_of_succ_le h]
    simp [this]
theorem call_sum {ns : List Int} (hh : A.handled = none) : CallTo prog w A FP s₀ (.builtin "sum") [.list (ns.map .int)] (.int ns.sum) := ⟨fun s st vs r E Q hQ => by
  obtain ⟨v, rfl, r1⟩ := r.one
  obtain ⟨a, ws, rfl, hL, rw', _⟩ := r1.listOpen
  have hi := rw'.ints
  have hlt : a < s.heap.objs.size := by obtain ⟨o, ho, _⟩ := id hL; exact Heap.lt_size ho
  refine with_tk (with_size (call_sum_walkG (wpAny_pyIter_list hL ?_)))
  have W := Walks.list (prog := prog) (w := w) (A := A.in1) hh s.heap.objs.size a (Nat.ne_of_lt hlt) ws.toArray
  have e : ws.toArray.size = ns.length := by simp [hi.length]
  rw [e] at W
  refine ⟨_, _, _, _, _, _, (fun i => ns.getD i 0), rfl, W, ⟨⟨_, Heap.get?_push_size _ rfl, rfl, rfl⟩, hL.push _⟩, ?_, ?_, ?_⟩
  · intro b hb
    show b < (s.heap.push _).objs.size
    rw [Heap.size_push]
    rcases List.mem_cons.mp hb with rfl | hb
    · exact Nat.lt_succ_self _
    · rw [List.mem_singleton.mp hb]; exact Nat.lt_succ_of_lt hlt
  · intro i v hv
    have hv' : ws[i]? = some v := by simpa using hv
    have hlt' : i < ns.length := by rw [← hi.length]; exact (List.getElem?_eq_some_iff.mp hv').1
    obtain ⟨t, ht⟩ := hi.get i ns[i] (by simp [hlt'])
    rw [hv'] at ht; cases ht
    exact ⟨t, by simp [hlt']⟩
  · intro h' tk t' hk hz htk
    have hp := preSum_list ns ns.length (Nat.le_refl _)
    rw [List.take_length] at hp
    have hk2 : ∀ b o, s.heap.get? b = some o → h'.get? b = some o := fun b o e => hk b o (fun hm => Nat.lt_irrefl _ (by have := Heap.lt_size e; rw [List.mem_singleton.mp hm] at this; exact this)) (Heap.get?_push_of_some _ e)
    rw [hp]
    exact hQ _ _ (.mk' (.of hk2 hz)) (.int _ _)⟩
end
end Mine
end
section
open PySem PySem.W PyProof.Rows PySem.Calls PySem.Spec PySem.SeqAt
set_option linter.unusedVariables false
namespace Mine

theorem ns_unique {h : Heap} {a : Addr} {m m' : Str → Option Value} (n : h.Ns a m) (n' : h.Ns a m') : m = m' := by
  obtain ⟨o, es, ep, ho, hd, _, hf⟩ := n
  obtain ⟨o', es', ep', ho', hd', _, hf'⟩ := n'
  rw [ho] at ho'; cases ho'
  rw [hd] at hd'; cases hd'
  funext x
  rw [← hf, ← hf']

/-- the addresses of a frame -/
noncomputable abbrev frameOf' (env : Env) : List Addr := env.locals :: env.cells.map (·.2)
/-- an activation: s the state at the call, t the state now -/
structure Act (s : Shared) (env : Env) (m cm : Str → Option Value) (t : Shared) : Prop where
  kp : Kp s.heap t.heap
  rest : ∃ h tk, t = { s with heap := h, toks := tk }
  ns : t.heap.Ns env.locals m
  cell : ∀ n c, env.cells.lookup n = some c → t.heap.IsCell c (cm n)
  apart : env.cells.Pairwise fun x y => x.2 ≠ y.2
  above : ∀ n c, (n, c) ∈ env.cells → env.locals < c
  fresh : s.heap.objs.size ≤ env.locals
  look : ∀ n c, (n, c) ∈ env.cells → env.cells.lookup n = some c
  tk : s.toks ≤ t.toks
noncomputable def Has (env : Env) (m cm : Str → Option Value) (FP : Addr → Prop) (h : Heap) (ρ : Str → Option PyData) : Prop :=
  ∀ x d, ρ x = some d → ∃ v, ((env.kindOf x = some .local ∧ m x = some v) ∨ (env.kindOf x = some .cell ∧ (∃ c, env.cells.lookup x = some c) ∧ cm x = some v)) ∧ Rd FP h v d
/-- names that hold something else than data -/
noncomputable def Raw (env : Env) (m cm : Str → Option Value) (σ : Str → Option Value) : Prop :=
  ∀ x v, σ x = some v → (env.kindOf x = some .local ∧ m x = some v) ∨ (env.kindOf x = some .cell ∧ (∃ c, env.cells.lookup x = some c) ∧ cm x = some v)
noncomputable abbrev noRaw : Str → Option Value := fun _ => none
/-- the ground of a body -/
structure Bd (A : Around) (env : Env) (FP : Addr → Prop) (n : Nat) : Prop where
  fp : ∀ b, n ≤ b → FP b
  off : ∀ b ∈ frameOf' env, ¬ FP b
  hh : A.handled = none
  un : A.units + 200 < cLine
  kind : env.scope.kind = .function
structure Fx (s : Shared) (env : Env) (FP : Addr → Prop) (n : Nat) (ρ : Str → Option PyData) (σ : Str → Option Value) (t : Shared) : Prop where
  ex : ∃ m cm, Act s env m cm t ∧ Has env m cm FP t.heap ρ ∧ Raw env m cm σ
  big : n ≤ t.heap.objs.size
section
variable {prog : Program} {w : World} {A : Around} {env : Env} {FP : Addr → Prop} {s t : Shared} {ρ : Str → Option PyData} {σ : Str → Option Value} {m cm : Str → Option Value} {n : Nat}
theorem Act.stp (a : Act s env m cm t) {t' : Shared} (st : Stp t t') : Act s env m cm t' := by
  refine ⟨a.kp.trans st.kp, ?_, st.kp.ns a.ns, fun n c e => ?_, a.apart, a.above, a.fresh, a.look, Nat.le_trans a.tk st.tk⟩
  · obtain ⟨h1, t1, rfl⟩ := a.rest
    obtain ⟨h2, t2, rfl⟩ := st.rest
    exact ⟨h2, t2, rfl⟩
  · obtain ⟨o, ho, hd⟩ := a.cell n c e
    exact ⟨o, st.kp.at ho (isTab_data (by rw [hd]; simp)), hd⟩
theorem Act.toStp (a : Act s env m cm t) : Stp s t := ⟨a.kp, a.rest, a.tk⟩
theorem Fx.stp (f : Fx s env FP n ρ σ t) {t' : Shared} (st : Stp t t') : Fx s env FP n ρ σ t' := by
  obtain ⟨m, cm, a, h, g⟩ := f.ex
  exact ⟨⟨m, cm, a.stp st, fun x d e => let ⟨v, k, r⟩ := h x d e; ⟨v, k, r.kp st.kp⟩, g⟩, Nat.le_trans f.big st.kp.size⟩
theorem Fx.raw (f : Fx s env FP n ρ σ t) {x : Str} {v : Value} (e : σ x = some v) : NameAt env t.heap x v := by
  obtain ⟨m, cm, a, h, g⟩ := f.ex
  rcases g x v e with ⟨k1, k2⟩ | ⟨k1, ⟨c, k2⟩, k3⟩
  · exact .loc k1 a.ns k2
  · obtain ⟨o, ho, hd⟩ := a.cell x c k2
    exact .cell k1 k2 ho (by rw [hd, k3])
theorem Fx.toStp (f : Fx s env FP n ρ σ t) : Stp s t := let ⟨_, _, a, _, _⟩ := f.ex; a.toStp
theorem Fx.sees (f : Fx s env FP n ρ σ t) : Sees env FP t.heap ρ := fun x d e => by
  obtain ⟨m, cm, a, h, _⟩ := f.ex
  obtain ⟨v, k, r⟩ := h x d e
  refine ⟨v, ?_, r⟩
  rcases k with ⟨k1, k2⟩ | ⟨k1, ⟨c, k2⟩, k3⟩
  · exact .loc k1 a.ns k2
  · obtain ⟨o, ho, hd⟩ := a.cell x c k2
    exact .cell k1 k2 ho (by rw [hd, k3])
theorem Fx.cx (f : Fx s env FP n ρ σ t) (b : Bd A env FP n) : Cx A env FP t := ⟨fun x hx => b.fp x (Nat.le_trans f.big hx), b.hh, b.un, b.kind⟩
/-- a name with its new value -/
noncomputable def put (ρ : Str → Option PyData) (x : Str) (d : PyData) : Str → Option PyData := fun y => if y = x then some d else ρ y
theorem frame_off (a : Act s env m cm t) (b : Bd A env FP n) : Off FP (· ∈ frameOf' env) t.heap := fun c o hc ho => by
  refine ⟨tupLike_data ?_, .inr (b.off c hc)⟩
  rcases List.mem_cons.mp hc with rfl | hc
  · obtain ⟨o', es, ep, ho', hd, _⟩ := a.ns
    rw [ho'] at ho; cases ho; rw [hd]; simp
  · obtain ⟨q, hq, rfl⟩ := List.mem_map.mp hc
    obtain ⟨o', ho', hd⟩ := a.cell q.1 q.2 (a.look q.1 q.2 hq)
    rw [ho'] at ho; cases ho; rw [hd]; simp
theorem frame_soft (a : Act s env m cm t) : ∀ b ∈ frameOf' env, ∀ o, t.heap.get? b = some o → soft o = true := fun c hc o ho => by
  refine soft_noFields ?_
  rcases List.mem_cons.mp hc with rfl | hc
  · obtain ⟨o', es, ep, ho', hd, _⟩ := a.ns
    rw [ho'] at ho; cases ho; rw [hd]; simp
  · obtain ⟨q, hq, rfl⟩ := List.mem_map.mp hc
    obtain ⟨o', ho', hd⟩ := a.cell q.1 q.2 (a.look q.1 q.2 hq)
    rw [ho'] at ho; cases ho; rw [hd]; simp
theorem frame_lo (a : Act s env m cm t) : ∀ b ∈ frameOf' env, s.heap.objs.size ≤ b := fun c hc => by
  rcases List.mem_cons.mp hc with rfl | hc
  · exact a.fresh
  · obtain ⟨q, hq, rfl⟩ := List.mem_map.mp hc
    exact Nat.le_of_lt (Nat.lt_of_le_of_lt a.fresh (a.above q.1 q.2 hq))
/-- storing a name, data or not -/
theorem store_any {x : Str} {v : Value} {E : Value → Shared → Prop} {Q : Unit → Shared → Prop} {ρ' : Str → Option PyData} {σ' : Str → Option Value} (b : Bd A env FP n) (f : Fx s env FP n ρ σ t)
    (hρ : ∀ y dy, ρ' y = some dy → (y = x ∧ Rd FP t.heap v dy) ∨ (y ≠ x ∧ ρ y = some dy)) (hσ : ∀ y u, σ' y = some u → (y = x ∧ u = v) ∨ (y ≠ x ∧ σ y = some u))
    (hk : env.kindOf x = some .local ∨ (env.kindOf x = some .cell ∧ (env.cells.lookup x).isSome = true))
    (hQ : ∀ t', Fx s env FP n ρ' σ' t' → (∀ c o, c ∉ frameOf' env → t.heap.get? c = some o → t'.heap.get? c = some o) → Q () t') : wpAny (model prog w) A (storeName env x v) Q E t := by
  obtain ⟨m, cm, a, h, g⟩ := f.ex
  obtain ⟨h0, tk0, ht⟩ := a.rest
  rcases hk with hk | ⟨hk, hc⟩
  · refine with_tk (with_size (wpAny_storeName_local hk a.ns (fun h' hn hs hz htk => ?_) (by rw [b.kind]; rfl)))
    have k' : ∀ c o, c ∉ [env.locals] → t.heap.get? c = some o → h'.get? c = some o := fun c o hc e => hs.extBut c o (fun e' => hc (by rw [e']; exact .head _)) e
    have k'' : ∀ c o, ¬ c ∈ frameOf' env → t.heap.get? c = some o → h'.get? c = some o := fun c o hc e => k' c o (fun hm => hc (by rw [List.mem_singleton.mp hm]; exact .head _)) e
    refine hQ _ ⟨⟨_, cm, ⟨?_, ?_, hn, ?_, a.apart, a.above, a.fresh, a.look, Nat.le_trans a.tk htk⟩, ?_, ?_⟩, Nat.le_trans f.big hz⟩ k''
    · exact a.kp.but k' (fun c hc => by rw [List.mem_singleton.mp hc]; exact a.fresh) (fun c hc o ho => frame_soft a c (by rw [List.mem_singleton.mp hc]; exact .head _) o ho) (Nat.le_trans a.kp.size hz)
    · subst ht; exact ⟨h', _, rfl⟩
    · intro y c e
      exact (a.cell y c e).sameBut hs (Nat.ne_of_gt (a.above y c (PySem.mem_of_lookup e)))
    · intro y dy hy
      rcases hρ y dy hy with ⟨e, r⟩ | ⟨e, hy⟩
      · exact ⟨v, .inl ⟨e ▸ hk, by simp [e]⟩, r.chg k'' (frame_off a b)⟩
      · obtain ⟨u, ku, ru⟩ := h y dy hy
        refine ⟨u, ?_, ru.chg k'' (frame_off a b)⟩
        rcases ku with ⟨k1, k2⟩ | k1
        · exact .inl ⟨k1, by simpa [e] using k2⟩
        · exact .inr k1
    · intro y u hy
      rcases hσ y u hy with ⟨e, e'⟩ | ⟨e, hy⟩
      · exact .inl ⟨e ▸ hk, by simp [e, e']⟩
      · rcases g y u hy with ⟨k1, k2⟩ | k1
        · exact .inl ⟨k1, by simpa [e] using k2⟩
        · exact .inr k1
  · obtain ⟨c, hc⟩ := Option.isSome_iff_exists.mp hc
    have hmem := PySem.mem_of_lookup hc
    have hLc := a.above x c hmem
    refine with_tk (with_size (wpAny_storeName_cell b.kind hk hc (a.cell x c hc) fun h' hc' hs hz htk => ?_))
    have k' : ∀ c' o, c' ∉ [c] → t.heap.get? c' = some o → h'.get? c' = some o := fun c' o hn e => hs.extBut c' o (fun e' => hn (by rw [e']; exact .head _)) e
    have hcf : c ∈ frameOf' env := List.mem_cons_of_mem _ (List.mem_map.mpr ⟨(x, c), hmem, rfl⟩)
    have k'' : ∀ c' o, ¬ c' ∈ frameOf' env → t.heap.get? c' = some o → h'.get? c' = some o := fun c' o hn e => k' c' o (fun hm => hn (by rw [List.mem_singleton.mp hm]; exact hcf)) e
    refine hQ _ ⟨⟨m, (fun y => if y = x then some v else cm y), ⟨?_, ?_, a.ns.sameBut hs (Nat.ne_of_lt hLc), ?_, a.apart, a.above, a.fresh, a.look, Nat.le_trans a.tk htk⟩, ?_, ?_⟩, Nat.le_trans f.big hz⟩ k''
    · exact a.kp.but k' (fun c' hm => by rw [List.mem_singleton.mp hm]; exact frame_lo a c hcf) (fun c' hm o ho => frame_soft a c' (by rw [List.mem_singleton.mp hm]; exact hcf) o ho) (Nat.le_trans a.kp.size hz)
    · subst ht; exact ⟨h', _, rfl⟩
    · intro y c' e
      by_cases hy : y = x
      · subst hy
        rw [hc] at e; cases e
        simpa using hc'
      · simp only [if_neg hy]
        exact (a.cell y c' e).sameBut hs fun e' => hy (name_of_addr a.apart (PySem.mem_of_lookup e) (e' ▸ hmem))
    · intro y dy hy
      rcases hρ y dy hy with ⟨e, r⟩ | ⟨e, hy⟩
      · exact ⟨v, .inr ⟨e ▸ hk, ⟨c, e ▸ hc⟩, by simp [e]⟩, r.chg k'' (frame_off a b)⟩
      · obtain ⟨u, ku, ru⟩ := h y dy hy
        refine ⟨u, ?_, ru.chg k'' (frame_off a b)⟩
        rcases ku with k1 | ⟨k1, k2, k3⟩
        · exact .inl k1
        · exact .inr ⟨k1, k2, by simpa [e] using k3⟩
    · intro y u hy
      rcases hσ y u hy with ⟨e, e'⟩ | ⟨e, hy⟩
      · exact .inr ⟨e ▸ hk, ⟨c, e ▸ hc⟩, by simp [e, e']⟩
      · rcases g y u hy with k1 | ⟨k1, k2, k3⟩
        · exact .inl k1
        · exact .inr ⟨k1, k2, by simpa [e] using k3⟩
theorem store_name {x : Str} {v : Value} {d : PyData} {E : Value → Shared → Prop} {Q : Unit → Shared → Prop} (b : Bd A env FP n) (f : Fx s env FP n ρ σ t) (r : Rd FP t.heap v d)
    (hk : env.kindOf x = some .local ∨ (env.kindOf x = some .cell ∧ (env.cells.lookup x).isSome = true)) (hσ : σ x = none)
    (hQ : ∀ t', Fx s env FP n (put ρ x d) σ t' → Q () t') : wpAny (model prog w) A (storeName env x v) Q E t := by
  refine store_any b f (fun y dy hy => ?_) (fun y u hy => ?_) hk fun t' f' _ => hQ t' f'
  · unfold put at hy
    split at hy
    · rename_i e; cases hy; exact .inl ⟨e, r⟩
    · rename_i e; exact .inr ⟨e, hy⟩
  · by_cases e : y = x
    · rw [e, hσ] at hy; cases hy
    · exact .inr ⟨e, hy⟩
theorem store_name' {x : Str} {v : Value} {d : PyData} {E : Value → Shared → Prop} {Q : Unit → Shared → Prop} (b : Bd A env FP n) (f : Fx s env FP n ρ σ t) (r : Rd FP t.heap v d)
    (hk : env.kindOf x = some .local ∨ (env.kindOf x = some .cell ∧ (env.cells.lookup x).isSome = true)) (hσ : σ x = none)
    (hQ : ∀ t', Fx s env FP n (put ρ x d) σ t' → (∀ c o, c ∉ frameOf' env → t.heap.get? c = some o → t'.heap.get? c = some o) → Q () t') : wpAny (model prog w) A (storeName env x v) Q E t := by
  refine store_any b f (fun y dy hy => ?_) (fun y u hy => ?_) hk hQ
  · unfold put at hy
    split at hy
    · rename_i e; cases hy; exact .inl ⟨e, r⟩
    · rename_i e; exact .inr ⟨e, hy⟩
  · by_cases e : y = x
    · rw [e, hσ] at hy; cases hy
    · exact .inr ⟨e, hy⟩
/-- a change off the footprint -/
theorem Fx.but {U : List Addr} {h' : Heap} {tk : Nat} (f : Fx s env FP n ρ σ t) (hk : ∀ b o, b ∉ U → t.heap.get? b = some o → h'.get? b = some o) (hU : ∀ b ∈ U, s.heap.objs.size ≤ b ∧ b ∉ frameOf' env ∧ ∀ o, t.heap.get? b = some o → soft o = true)
    (off : Off FP (· ∈ U) t.heap) (hz : t.heap.objs.size ≤ h'.objs.size) (htk : t.toks ≤ tk) : Fx s env FP n ρ σ { t with heap := h', toks := tk } := by
  obtain ⟨m, cm, a, h, g⟩ := f.ex
  refine ⟨⟨m, cm, ⟨?_, ?_, ?_, ?_, a.apart, a.above, a.fresh, a.look, Nat.le_trans a.tk htk⟩, ?_, g⟩, Nat.le_trans f.big hz⟩
  · exact a.kp.but hk (fun b hb => (hU b hb).1) (fun b hb => (hU b hb).2.2) (Nat.le_trans a.kp.size hz)
  · obtain ⟨h1, t1, rfl⟩ := a.rest
    exact ⟨h', tk, rfl⟩
  · obtain ⟨o, es, ep, ho, r⟩ := a.ns
    exact ⟨o, es, ep, hk _ _ (fun hm => (hU _ hm).2.1 (.head _)) ho, r⟩
  · intro y c e
    obtain ⟨o, ho, hd⟩ := a.cell y c e
    exact ⟨o, hk _ _ (fun hm => (hU _ hm).2.1 (List.mem_cons_of_mem _ (List.mem_map.mpr ⟨(y, c), PySem.mem_of_lookup e, rfl⟩))) ho, hd⟩
  · intro x d e
    obtain ⟨v, k, r⟩ := h x d e
    exact ⟨v, k, r.chg hk off⟩
theorem Fx.mono {FP' : Addr → Prop} {n' : Nat} (f : Fx s env FP n ρ σ t) (hf : ∀ b, b < t.heap.objs.size → FP b → FP' b) (hn : n' ≤ t.heap.objs.size) : Fx s env FP' n' ρ σ t := by
  obtain ⟨m, cm, a, h, g⟩ := f.ex
  exact ⟨⟨m, cm, a, fun x d e => let ⟨v, k, r⟩ := h x d e; ⟨v, k, r.mono hf⟩, g⟩, hn⟩
theorem store_raw {x : Str} {v : Value} {E : Value → Shared → Prop} {Q : Unit → Shared → Prop} (b : Bd A env FP n) (f : Fx s env FP n ρ σ t) (hρ : ρ x = none)
    (hk : env.kindOf x = some .local ∨ (env.kindOf x = some .cell ∧ (env.cells.lookup x).isSome = true))
    (hQ : ∀ t', Fx s env FP n ρ (fun y => if y = x then some v else σ y) t' → Q () t') : wpAny (model prog w) A (storeName env x v) Q E t := by
  refine store_any b f (fun y dy hy => ?_) (fun y u hy => ?_) hk fun t' f' _ => hQ t' f'
  · by_cases e : y = x
    · rw [e, hρ] at hy; cases hy
    · exact .inr ⟨e, hy⟩
  · split at hy
    · rename_i e; cases hy; exact .inl ⟨e, rfl⟩
    · rename_i e; exact .inr ⟨e, hy⟩
end
end Mine
end
section
open PySem PySem.W PyProof.Rows PySem.Calls PySem.Spec PySem.SeqAt
set_option linter.unusedVariables false
namespace Mine

/-! ## bodies -/
structure Run (prog : Program) (w : World) (A : Around) (env : Env) (FP : Addr → Prop) (s : Shared) (n : Nat) (ρ : Str → Option PyData) (σ : Str → Option Value) (body : List Stmt) (d : PyData) : Prop where
  go : ∀ t, Fx s env FP n ρ σ t → ∀ (E : Value → Shared → Prop) (Q : Flow → Shared → Prop), (∀ v t', Stp s t' → Rd FP t'.heap v d → Q (.ret v) t') → wpAny (model prog w) A (execs body env) Q E t
section
variable {prog : Program} {w : World} {A : Around} {env : Env} {FP : Addr → Prop} {s : Shared} {n : Nat} {ρ : Str → Option PyData} {σ : Str → Option Value} {rest body : List Stmt} {d d1 : PyData} {e : Expr} {x : Str} {p pos : Pos}

theorem run_ret (h : ∀ t, Fx s env FP n ρ σ t → Ev prog w A env FP t e d) : Run prog w A env FP s n ρ σ (.Return (some e) pos :: rest) d := ⟨fun t f E Q hQ =>
  wpAny_execs_cons (wpAny_Return_some ((h t f).go t (.refl t) _ _ fun v t' st r => hQ v t' (f.toStp.trans st) r))⟩
theorem run_assign (b : Bd A env FP n) (h : ∀ t, Fx s env FP n ρ σ t → Ev prog w A env FP t e d1) (hr : Run prog w A env FP s n (put ρ x d1) σ rest d)
    (hk : env.kindOf x = some .local ∨ (env.kindOf x = some .cell ∧ (env.cells.lookup x).isSome = true)) (hs : swapsWith e (some (.Name x p)) pos.line env = pure false := by rfl) (hσ : σ x = none := by rfl) :
    Run prog w A env FP s n ρ σ (.Assign [.Name x p] e pos :: rest) d := ⟨fun t f E Q hQ =>
  wpAny_execs_cons (wpAny_Assign_Name ((h t f).go t (.refl t) _ _ fun v t' st r => store_name b (f.stp st) r hk hσ fun t'' f'' => hr.go t'' f'' E Q hQ) hs)⟩
/-- a comprehension stored as it is made -/
theorem run_assignC {elt : Expr} {gens : List Comprehension} {scope : Scope} {cp : Pos} {ds : List PyData} (b : Bd A env FP n) (h : ∀ t, Fx s env FP n ρ σ t → CompOf prog w A env FP t (.ListComp elt gens scope cp) ds) (hr : Run prog w A env FP s n (put ρ x (.list ds)) σ rest d)
    (hk : env.kindOf x = some .local) (hs : swapsWith (.ListComp elt gens scope cp) (some (.Name x p)) pos.line env = pure true := by rfl) (hσ : σ x = none := by rfl) :
    Run prog w A env FP s n ρ σ (.Assign [.Name x p] (.ListComp elt gens scope cp) pos :: rest) d := ⟨fun t f E Q hQ => by
  refine wpAny_execs_cons ?_
  rw [exec_Assign_Name_used x p _ pos hs, arm_evalThenUse_ListComp]
  refine wpAny_bind (wpAny_standAt (wpAny_bind (wpAny_bind ((h t f).go (some (assign (.Name x p) env)) t (.refl t) _ _ fun h1 tk D C st hDC hD hC hns _ hr1 => ?_))))
  have hlo := f.toStp.kp.size
  have f1 := f.stp st
  obtain ⟨m, hm⟩ := hns
  have hCfr : C ∉ frameOf' env := fun hm' => by
    obtain ⟨m0, cm0, a0, _, _⟩ := f.ex
    have : C < t.heap.objs.size := by
      rcases List.mem_cons.mp hm' with rfl | hm'
      · exact a0.ns.lt
      · obtain ⟨q, hq, rfl⟩ := List.mem_map.mp hm'
        exact (a0.cell q.1 q.2 (a0.look q.1 q.2 hq)).lt
    exact Nat.lt_irrefl _ (Nat.lt_of_lt_of_le this hC)
  have f2 : Fx s env (fun b => FP b ∧ b ≠ C) (C + 1) ρ σ { t with heap := h1, toks := tk } := by
    have f0 : Fx s env (fun b => FP b ∧ b ≠ C) t.heap.objs.size ρ σ t := f.mono (fun b hb hf => ⟨hf, fun e => Nat.lt_irrefl _ (Nat.lt_of_lt_of_le (e ▸ hb) hC)⟩) (Nat.le_refl _)
    exact (f0.stp st).mono (fun _ _ hb => hb) hm.lt
  have b2 : Bd A env (fun b => FP b ∧ b ≠ C) (C + 1) := ⟨fun b' hb => ⟨b.fp b' (Nat.le_trans f.big (Nat.le_trans hC (Nat.le_of_succ_le hb))), fun e => by subst e; exact Nat.lt_irrefl _ hb⟩, fun b' hb z => b.off b' hb z.1, b.hh, b.un, b.kind⟩
  refine wpAny_assign_Name (store_name' b2 f2 hr1 (.inl hk) hσ fun t2 f3 keep => ?_)
  have hm2 : t2.heap.Ns C m := by
    obtain ⟨o, es, ep, ho, r⟩ := hm
    exact ⟨o, es, ep, keep _ _ hCfr ho, r⟩
  refine ⟨m, hm2, fun h' hs' => ?_⟩
  have hk' : ∀ b o, b ∉ [C] → t2.heap.get? b = some o → h'.get? b = some o := fun b o hb e => hs'.extBut b o (fun e' => hb (by rw [e']; exact .head _)) e
  have hoc : ∀ b ∈ [C], ∀ o, t2.heap.get? b = some o → soft o = true ∧ ¬ tupLike o := fun b hb o ho => by
    obtain ⟨o2, es, ep, ho2, hd, _⟩ := hm2
    have ho' : t2.heap.get? C = some o := by rw [← List.mem_singleton.mp hb]; exact ho
    rw [ho2] at ho'; cases ho'
    exact ⟨soft_noFields (by rw [hd]; simp), tupLike_data (by rw [hd]; simp)⟩
  have f4 := f3.but (tk := t2.toks) hk' (fun b hb => ⟨by rw [List.mem_singleton.mp hb]; exact Nat.le_trans hlo hC, by rw [List.mem_singleton.mp hb]; exact hCfr, fun o ho => (hoc b hb o ho).1⟩)
    (fun b o hb ho => ⟨(hoc b hb o ho).2, .inr fun z => z.2 (List.mem_singleton.mp hb)⟩) (Nat.le_of_eq hs'.1.symm) (Nat.le_refl _)
  have f5 : Fx s env FP n (put ρ x (.list ds)) σ { t2 with heap := h' } := f4.mono (fun b _ hb => hb.1) (Nat.le_trans f.big (Nat.le_trans hC (Nat.le_of_succ_le f4.big)))
  exact wpAny_pure (wpAny_pure (hr.go _ f5 E Q hQ))⟩
theorem run_ifT (h : ∀ t, Fx s env FP n ρ σ t → Tst prog w A env t e true) (hr : Run prog w A env FP s n ρ σ body d) (orelse : List Stmt) : Run prog w A env FP s n ρ σ (.If e body orelse pos :: rest) d := ⟨fun t f E Q hQ =>
  wpAny_execs_cons (wpAny_If ((h t f).go t (.refl t) _ _ fun t' st => hr.go t' (f.stp st) _ _ fun v t'' st' r => hQ v t'' st' r))⟩
theorem run_ifF (h : ∀ t, Fx s env FP n ρ σ t → Tst prog w A env t e false) (hr : Run prog w A env FP s n ρ σ rest d) : Run prog w A env FP s n ρ σ (.If e body [] pos :: rest) d := ⟨fun t f E Q hQ =>
  wpAny_execs_cons (wpAny_If ((h t f).go t (.refl t) _ _ fun t' st => wpAny_execs_nil (hr.go t' (f.stp st) E Q hQ)))⟩
theorem Fx.congr {ρ' : Str → Option PyData} {t : Shared} (f : Fx s env FP n ρ' σ t) (e : ∀ x dx, ρ x = some dx → ρ' x = some dx) : Fx s env FP n ρ σ t :=
  ⟨by obtain ⟨m, cm, a, hh, g⟩ := f.ex; exact ⟨m, cm, a, fun x dx hx => hh x dx (e x dx hx), g⟩, f.big⟩
theorem Run.congr {ρ' : Str → Option PyData} (h : Run prog w A env FP s n ρ σ body d) (e : ∀ x dx, ρ x = some dx → ρ' x = some dx) : Run prog w A env FP s n ρ' σ body d := ⟨fun t f =>
  h.go t (f.congr e)⟩
end

/-! ## entering a def -/
structure FnAt (h : Heap) (a : Addr) (fd : FuncData) : Prop where
  ex : ∃ o c oc vs t, h.get? a = some o ∧ o.data = .func fd ∧ fd.code = .ref c ∧ c ≠ 77 ∧ h.get? c = some oc ∧ oc.data = .fields vs ∧ vs[1]? = some (.str fd.qualname t)
  lim : h.NoLimit
theorem FnAt.kp {h h' : Heap} {a : Addr} {fd : FuncData} (F : FnAt h a fd) (k : Kp h h') : FnAt h' a fd := by
  obtain ⟨o, c, oc, vs, t, h1, h2, h3, h4, h5, h6, h7⟩ := F.ex
  refine ⟨⟨o, c, oc, vs, t, k.at h1 (isTab_data (by rw [h2]; simp)), h2, h3, h4, k.keep _ _ h5 (.inr h4), h6, h7⟩, ?_⟩
  obtain ⟨mc, n1, n2⟩ := F.lim
  exact ⟨mc, k.ns n1, n2⟩
theorem bindL_keep {kindOf : Str → Option NameKind} {x : Str} : ∀ (binds : List (Str × Value)) (m : Str → Option Value), x ∉ binds.map (·.1) → bindL kindOf binds m x = m x
  | [], m, _ => rfl
  | (y, v) :: r, m, h => by
    have h1 : x ≠ y := fun e => h (by rw [e]; exact .head _)
    rw [bindL, bindL_keep r _ fun hm => h (.tail _ hm)]
    split
    · simp [h1]
    · rfl
theorem bindC_keep {kindOf : Str → Option NameKind} {x : Str} : ∀ (binds : List (Str × Value)) (m : Str → Option Value), x ∉ binds.map (·.1) → bindC kindOf binds m x = m x
  | [], m, _ => rfl
  | (y, v) :: r, m, h => by
    have h1 : x ≠ y := fun e => h (by rw [e]; exact .head _)
    rw [bindC, bindC_keep r _ fun hm => h (.tail _ hm)]
    split
    · rfl
    · simp [h1]
theorem bindL_get {kindOf : Str → Option NameKind} {x : Str} {v : Value} (hk : kindOf x = some .local) : ∀ (binds : List (Str × Value)) (m : Str → Option Value), (binds.map (·.1)).Nodup → (x, v) ∈ binds → bindL kindOf binds m x = some v
  | (y, u) :: r, m, hn, hm => by
    rw [List.map_cons, List.nodup_cons] at hn
    rw [bindL]
    rcases List.mem_cons.mp hm with e | hm
    · cases e
      rw [bindL_keep r _ hn.1, if_pos hk]; simp
    · exact bindL_get hk r _ hn.2 hm
theorem bindC_get {kindOf : Str → Option NameKind} {x : Str} {v : Value} (hk : kindOf x ≠ some .local) : ∀ (binds : List (Str × Value)) (m : Str → Option Value), (binds.map (·.1)).Nodup → (x, v) ∈ binds → bindC kindOf binds m x = some v
  | (y, u) :: r, m, hn, hm => by
    rw [List.map_cons, List.nodup_cons] at hn
    rw [bindC]
    rcases List.mem_cons.mp hm with e | hm
    · cases e
      rw [bindC_keep r _ hn.1, if_neg hk]; simp
    · exact bindC_get hk r _ hn.2 hm
theorem zip_rd {FP : Addr → Prop} {h : Heap} : ∀ {ps : List Str} {vs : List Value} {ds : List PyData}, Rds FP h vs ds → ∀ {x : Str} {d : PyData}, (ps.zip ds).lookup x = some d → ∃ v, (x, v) ∈ ps.zip vs ∧ Rd FP h v d
  | [], _, _, _, _, _, e => by simp at e
  | _ :: _, [], [], _, _, _, e => by simp at e
  | _ :: _, [], _ :: _, ⟨_, r, _⟩, _, _, _ => nomatch r
  | _ :: _, _ :: _, [], ⟨_, r, _⟩, _, _, _ => nomatch r
  | p :: ps, v :: vs, d0 :: ds, r, x, d, e => by
    rw [List.zip_cons_cons, List.lookup_cons] at e
    cases hb : x == p with
    | true => rw [hb] at e; cases e; exact ⟨v, by rw [beq_iff_eq.mp hb]; exact .head _, r.uncons.1⟩
    | false =>
      rw [hb] at e
      obtain ⟨v', hv, rv⟩ := zip_rd r.uncons.2 e
      exact ⟨v', .tail _ hv, rv⟩
theorem lookup_of_mem_nd : ∀ {l : List (Str × Addr)}, (l.map (·.1)).Nodup → ∀ {n : Str} {c : Addr}, (n, c) ∈ l → l.lookup n = some c
  | (y, u) :: r, hn, n, c, hm => by
    rw [List.map_cons, List.nodup_cons] at hn
    rw [List.lookup_cons]
    rcases List.mem_cons.mp hm with e | hm
    · cases e; simp
    · have : (n == y) = false := by
        cases q : n == y with
        | false => rfl
        | true => exact absurd (by rw [← beq_iff_eq.mp q]; exact List.mem_map.mpr ⟨(n, c), hm, rfl⟩) hn.1
      rw [this]
      exact lookup_of_mem_nd hn.2 hm
section
variable {prog : Program} {w : World} {A : Around} {FP : Addr → Prop} {s₀ : Shared} {ds : List PyData} {d : PyData}
/-- what a call of a def asks of the stack -/
structure Room (A : Around) (k : Nat) : Prop where
  hh : A.handled = none
  dp : A.depth + k < recursionLimit
  un : A.units + 200 + 20 * k < cLine
theorem Room.deeper {k : Nat} (r : Room A (k + 1)) (env : Env) : Room (A.deeper env) k :=
  ⟨r.hh, by show A.depth + 1 + k < _; have := r.dp; omega, by show A.units + 3 + 200 + 20 * k < _; have := r.un; omega⟩
theorem Room.le {k k' : Nat} (r : Room A k) (h : k' ≤ k) : Room A k' := ⟨r.hh, by have := r.dp; omega, by have := r.un; omega⟩

theorem enter_defC {a : Addr} {fd : FuncData} {body : List Stmt} {s : Shared} (F : FnAt s.heap a fd) (room : Room A 1) (fp : ∀ b, s.heap.objs.size ≤ b → FP b) (params : List Str) (vs : List Value) (hlen' : vs.length = params.length)
    (ρ : Str → Option PyData) (σ : Str → Option Value) (hρ : ∀ x d, ρ x = some d → ∃ v, (x, v) ∈ params.zip vs ∧ Rd FP s.heap v d) (hσ : ∀ x v, σ x = some v → (x, v) ∈ params.zip vs) {Q : Value → Shared → Prop} {E : Value → Shared → Prop}
    (run : ∀ (FP' : Addr → Prop) (n : Nat) s1, (∀ b, FP' b → FP b) → (∀ b, FP b → b ∉ frameOf' (callEnvC fd s.heap.objs.size a) → FP' b) → s.heap.objs.size ≤ n → Bd (A.deeper (callEnvC fd s.heap.objs.size a)) (callEnvC fd s.heap.objs.size a) FP' n →
      Fx s (callEnvC fd s.heap.objs.size a) FP' n ρ σ s1 → (∀ b o, s.heap.get? b = some o → s1.heap.get? b = some o) → wpAny (model prog w) (A.deeper (callEnvC fd s.heap.objs.size a)) (execs body (callEnvC fd s.heap.objs.size a)) (fun f s' => Q (match f with | .ret v => v | _ => .none) s')
        (fun e s' => wpAny (model prog w) (A.deeper (callEnvC fd s.heap.objs.size a)) (leaving (callEnvC fd s.heap.objs.size a) e) (fun _ s'' => E e s'') (fun e' s'' => E e' s'') s') s1)
    (hbind : bindArgs fd ⟨vs, []⟩ = pure (params.zip vs))
    (hbody : fd.body = .stmts body := by rfl) (hclo : fd.closure = [] := by rfl)
    (hkind : ∀ x ∈ params, fd.scope.names.lookup x = some .local ∨ (fd.scope.names.lookup x = some .cell ∧ ((cellsFrom 0 fd.scope.names []).map (·.1)).contains x = true) := by decide)
    (hnd : ((cellsFrom 0 fd.scope.names []).map (·.1)).Nodup := by decide) (hpn : params.Nodup := by decide)
    (hco : fd.scope.isCoroutine = false := by rfl) (hgen : fd.scope.isGenerator = false := by rfl) (hk : fd.scope.kind = .function := by rfl) :
    codeAny (model prog w) A (.call (.ref a) ⟨vs, []⟩) (retR Q E) s := by
  obtain ⟨o, c, oc, ws, t, h1, h2, h3, h4, h5, h6, h7⟩ := F.ex
  have hz1 : (params.zip vs).map (·.1) = params := by rw [List.map_fst_zip]; omega
  have cn : ∀ k : Nat, ((cellsFrom k fd.scope.names []).map (·.1)) = (cellsFrom 0 fd.scope.names []).map (·.1) := fun k => cellsFrom_names _ _ _ _ _ rfl
  have look : ∀ (k : Nat) (x : Str), ((cellsFrom 0 fd.scope.names []).map (·.1)).contains x = true → ((cellsFrom k fd.scope.names []).lookup x).isSome = true := fun k x hx => by
    rw [← cn k] at hx
    have hx' : x ∈ (cellsFrom k fd.scope.names []).map (·.1) := by simpa using hx
    obtain ⟨q, hq, e⟩ := List.mem_map.mp hx'
    have := lookup_of_mem_nd (cn k ▸ hnd) (n := q.1) (c := q.2) hq
    rw [← e, this]; rfl
  refine codeAny_call_function (by have := room.dp; omega) h1 h2 hco hgen hbody ⟨c, oc, ws, t, h3, h5, h6, h7⟩ ?_
  rw [hbind, hclo]
  refine wpAny_pure (with_tk (wpAny_newFunctionEnv_cells hk ?_ fun env he s1 ic htk0 => ?_))
  · intro x hx
    have hx' : x.1 ∈ params := by rw [← hz1]; exact List.mem_map.mpr ⟨x, hx, rfl⟩
    rcases hkind x.1 hx' with q | ⟨q, q'⟩
    · exact .inl q
    · exact .inr ⟨q, look _ _ q'⟩
  · subst he
    refine ⟨F.lim.keeps ic.toInCall.keep, codeAny_func ?_⟩
    have act : Act s (callEnvC fd s.heap.objs.size a) _ _ s1 := ⟨.of ic.toInCall.keep (by have := ic.toInCall.ns.lt; have := ic.toInCall.fresh; exact Nat.le_of_lt (Nat.lt_of_le_of_lt ‹s.heap.objs.size ≤ _› ‹_ < s1.heap.objs.size›)), ic.toInCall.same, ic.toInCall.ns, ic.cell, ic.apart, ic.above, ic.toInCall.fresh,
      fun n c hm => lookup_of_mem_nd (by rw [show (callEnvC fd s.heap.objs.size a).cells = cellsFrom (s.heap.objs.size + 1) fd.scope.names [] from rfl, cn]; exact hnd) hm, htk0⟩
    have lo := frame_lo act
    have nameOf : ∀ x v, (x, v) ∈ params.zip vs → ((callEnvC fd s.heap.objs.size a).kindOf x = some .local ∧ bindL (callEnvC fd s.heap.objs.size a).kindOf (params.zip vs) (fun _ => none) x = some v) ∨
        ((callEnvC fd s.heap.objs.size a).kindOf x = some .cell ∧ (∃ c, (callEnvC fd s.heap.objs.size a).cells.lookup x = some c) ∧ bindC (callEnvC fd s.heap.objs.size a).kindOf (params.zip vs) (fun _ => none) x = some v) := fun x v hv => by
      have hx' : x ∈ params := by rw [← hz1]; exact List.mem_map.mpr ⟨(x, v), hv, rfl⟩
      rcases hkind x hx' with q | ⟨q, q'⟩
      · exact .inl ⟨q, bindL_get q _ _ (by rw [hz1]; exact hpn) hv⟩
      · exact .inr ⟨q, Option.isSome_iff_exists.mp (look _ _ q'), bindC_get (by show fd.scope.names.lookup x ≠ _; rw [q]; simp) _ _ (by rw [hz1]; exact hpn) hv⟩
    refine run (fun b => FP b ∧ b ∉ frameOf' (callEnvC fd s.heap.objs.size a)) s1.heap.objs.size s1 (fun b hb => hb.1) (fun b h1 h2 => ⟨h1, h2⟩) act.kp.size ⟨?_, fun b hb z => z.2 hb, room.hh, by show A.units + 3 + 200 < _; have := room.un; omega, hk⟩ ⟨⟨_, _, act, ?_, fun x v e => nameOf x v (hσ x v e)⟩, Nat.le_refl _⟩ ic.toInCall.keep
    · intro b hb
      refine ⟨fp b (Nat.le_trans act.toStp.kp.size hb), fun hm => ?_⟩
      have : b < s1.heap.objs.size := by
        rcases List.mem_cons.mp hm with rfl | hm
        · exact ic.toInCall.ns.lt
        · obtain ⟨q, hq, rfl⟩ := List.mem_map.mp hm
          exact (ic.cell q.1 q.2 (act.look q.1 q.2 hq)).lt
      exact Nat.lt_irrefl _ (Nat.lt_of_lt_of_le this hb)
    · intro x dx hx
      obtain ⟨v, hv, rv⟩ := hρ x dx hx
      exact ⟨v, nameOf x v hv, (rv.mono fun b hb hf => ⟨hf, fun hm => Nat.lt_irrefl _ (Nat.lt_of_lt_of_le hb (lo b hm))⟩).kp act.kp⟩
theorem enter_def {a : Addr} {fd : FuncData} {body : List Stmt} {s : Shared} (F : FnAt s.heap a fd) (room : Room A 1) (fp : ∀ b, s.heap.objs.size ≤ b → FP b) (params : List Str) (vs : List Value) (hlen' : vs.length = params.length)
    (ρ : Str → Option PyData) (σ : Str → Option Value) (hρ : ∀ x d, ρ x = some d → ∃ v, (x, v) ∈ params.zip vs ∧ Rd FP s.heap v d) (hσ : ∀ x v, σ x = some v → (x, v) ∈ params.zip vs) {Q : Value → Shared → Prop} {E : Value → Shared → Prop}
    (run : ∀ (FP' : Addr → Prop) (n : Nat) s1, (∀ b, FP' b → FP b) → (∀ b, FP b → b ∉ frameOf' (callEnvC fd s.heap.objs.size a) → FP' b) → s.heap.objs.size ≤ n → Bd (A.deeper (callEnvC fd s.heap.objs.size a)) (callEnvC fd s.heap.objs.size a) FP' n →
      Fx s (callEnvC fd s.heap.objs.size a) FP' n ρ σ s1 → (∀ b o, s.heap.get? b = some o → s1.heap.get? b = some o) → wpAny (model prog w) (A.deeper (callEnvC fd s.heap.objs.size a)) (execs body (callEnvC fd s.heap.objs.size a)) (fun f s' => Q (match f with | .ret v => v | _ => .none) s')
        (fun e s' => wpAny (model prog w) (A.deeper (callEnvC fd s.heap.objs.size a)) (leaving (callEnvC fd s.heap.objs.size a) e) (fun _ s'' => E e s'') (fun e' s'' => E e' s'') s') s1)
    (hbind : bindArgs fd ⟨vs, []⟩ = pure (params.zip vs))
    (hbody : fd.body = .stmts body := by rfl) (hclo : fd.closure = [] := by rfl)
    (hkind : ∀ x ∈ params, fd.scope.names.lookup x = some .local ∨ (fd.scope.names.lookup x = some .cell ∧ ((cellsFrom 0 fd.scope.names []).map (·.1)).contains x = true) := by decide)
    (hnd : ((cellsFrom 0 fd.scope.names []).map (·.1)).Nodup := by decide) (hpn : params.Nodup := by decide)
    (hco : fd.scope.isCoroutine = false := by rfl) (hgen : fd.scope.isGenerator = false := by rfl) (hk : fd.scope.kind = .function := by rfl) :
    wpAny (model prog w) A (call (.ref a) vs) Q E s := wpAny_call (enter_defC F room fp params vs hlen' ρ σ hρ hσ run hbind hbody hclo hkind hnd hpn hco hgen hk)
theorem callTo_def {a : Addr} {fd : FuncData} {body : List Stmt} (F : FnAt s₀.heap a fd) (room : Room A 1) (fp : ∀ b, s₀.heap.objs.size ≤ b → FP b) (params : List Str)
    (run : ∀ s, Stp s₀ s → ∀ (FP' : Addr → Prop) (n : Nat), (∀ b, FP' b → FP b) → Bd (A.deeper (callEnvC fd s.heap.objs.size a)) (callEnvC fd s.heap.objs.size a) FP' n →
      Run prog w (A.deeper (callEnvC fd s.heap.objs.size a)) (callEnvC fd s.heap.objs.size a) FP' s n (fun x => (params.zip ds).lookup x) noRaw body d)
    (hbind : ∀ vs : List Value, vs.length = params.length → bindArgs fd ⟨vs, []⟩ = pure (params.zip vs)) (hlen : params.length = ds.length)
    (hbody : fd.body = .stmts body := by rfl) (hclo : fd.closure = [] := by rfl)
    (hkind : ∀ x ∈ params, fd.scope.names.lookup x = some .local ∨ (fd.scope.names.lookup x = some .cell ∧ ((cellsFrom 0 fd.scope.names []).map (·.1)).contains x = true) := by decide)
    (hnd : ((cellsFrom 0 fd.scope.names []).map (·.1)).Nodup := by decide) (hpn : params.Nodup := by decide)
    (hco : fd.scope.isCoroutine = false := by rfl) (hgen : fd.scope.isGenerator = false := by rfl) (hk : fd.scope.kind = .function := by rfl) :
    CallTo prog w A FP s₀ (.ref a) ds d := ⟨fun s st vs r E Q hQ => by
  have hlen' : vs.length = params.length := by rw [hlen]; exact r.length
  refine enter_def (F.kp st.kp) room (fun b hb => fp b (Nat.le_trans st.kp.size hb)) params vs hlen' (fun x => (params.zip ds).lookup x) noRaw (fun x dx hx => zip_rd r hx) (fun x v e => nomatch e) ?_ (hbind vs hlen') hbody hclo hkind hnd hpn hco hgen hk
  intro FP' n s1 hf _ _ b f _
  exact (run s st FP' n hf b).go s1 f _ _ fun v t' st' rv => hQ v t' st' (rv.mono fun b _ hb => hf b hb)⟩
end
end Mine
end
section
open PySem PySem.W PyProof.Rows PySem.Calls PySem.Spec PySem.SeqAt
set_option linter.unusedVariables false
namespace Mine

/-! ## blocks and loops -/
structure Blk (prog : Program) (w : World) (A : Around) (env : Env) (FP : Addr → Prop) (s : Shared) (n : Nat) (ρ : Str → Option PyData) (σ : Str → Option Value) (body : List Stmt) (ρ' : Str → Option PyData) : Prop where
  go : ∀ t, Fx s env FP n ρ σ t → ∀ (E : Value → Shared → Prop) (Q : Flow → Shared → Prop), (∀ t', Fx s env FP n ρ' σ t' → Q .next t') → wpAny (model prog w) A (execs body env) Q E t
noncomputable abbrev al (l : List (Str × PyData)) : Str → Option PyData := fun x => l.lookup x
/-- what l tells, ρ tells -/
structure Sub (l : List (Str × PyData)) (ρ : Str → Option PyData) : Prop where
  go : ∀ q ∈ l, ρ q.1 = some q.2
theorem sub_nil {ρ : Str → Option PyData} : Sub [] ρ := ⟨fun _ h => nomatch h⟩
theorem sub_cons {l : List (Str × PyData)} {ρ : Str → Option PyData} {x : Str} {d : PyData} (t : Sub l ρ) (h : ρ x = some d := by rfl) : Sub ((x, d) :: l) ρ := ⟨fun q hq => by
  rcases List.mem_cons.mp hq with rfl | hq
  · exact h
  · exact t.go q hq⟩
theorem Sub.le {l : List (Str × PyData)} {ρ : Str → Option PyData} (h : Sub l ρ) : ∀ x dx, al l x = some dx → ρ x = some dx := fun x dx e => h.go (x, dx) (PyProof.Rows.mem_of_lookup e)
section
variable {prog : Program} {w : World} {A : Around} {env : Env} {FP : Addr → Prop} {s : Shared} {n : Nat} {ρ ρ' ρ₂ : Str → Option PyData} {σ : Str → Option Value} {rest body : List Stmt} {d d1 : PyData} {e test : Expr} {x : Str} {p pos : Pos} {l : List (Str × PyData)}
theorem blk_nil : Blk prog w A env FP s n ρ σ [] ρ := ⟨fun t f E Q hQ => wpAny_execs_nil (hQ t f)⟩
theorem blk_sub (h : Sub l ρ) : Blk prog w A env FP s n ρ σ [] (al l) := ⟨fun t f E Q hQ => wpAny_execs_nil (hQ t (f.congr h.le))⟩
theorem run_sub (h : Sub l ρ) (r : Run prog w A env FP s n (al l) σ body d) : Run prog w A env FP s n ρ σ body d := ⟨fun t f => r.go t (f.congr h.le)⟩
theorem blk_from (h : Sub l ρ) (r : Blk prog w A env FP s n (al l) σ body ρ') : Blk prog w A env FP s n ρ σ body ρ' := ⟨fun t f => r.go t (f.congr h.le)⟩
theorem blk_assign (b : Bd A env FP n) (h : ∀ t, Fx s env FP n ρ σ t → Ev prog w A env FP t e d1) (hr : Blk prog w A env FP s n (put ρ x d1) σ rest ρ')
    (hk : env.kindOf x = some .local ∨ (env.kindOf x = some .cell ∧ (env.cells.lookup x).isSome = true)) (hs : swapsWith e (some (.Name x p)) pos.line env = pure false := by rfl) (hσ : σ x = none := by rfl) :
    Blk prog w A env FP s n ρ σ (.Assign [.Name x p] e pos :: rest) ρ' := ⟨fun t f E Q hQ =>
  wpAny_execs_cons (wpAny_Assign_Name ((h t f).go t (.refl t) _ _ fun v t' st r => store_name b (f.stp st) r hk hσ fun t'' f'' => hr.go t'' f'' E Q hQ) hs)⟩
theorem while_core (I : Nat → (Str → Option PyData) → Prop) {k : Nat} (h0 : I k ρ)
    (turn : ∀ k ρ', I k ρ' → ∃ c, (∀ t, Fx s env FP n ρ' σ t → Tst prog w A env t test c) ∧ (c = true → ∃ ρ'' m, m < k ∧ I m ρ'' ∧ Blk prog w A env FP s n ρ' σ body ρ'') ∧ (c = false → ρ₂ = ρ'))
    (t : Shared) (f : Fx s env FP n ρ σ t) (E : Value → Shared → Prop) (Q : Flow → Shared → Prop) (hQ : ∀ t', Fx s env FP n ρ₂ σ t' → Q .next t') : wpAny (model prog w) A (exec (.While test body [] pos) env) Q E t := by
  refine wpAny_While (codeAny_whileLoop (fun k t' => ∃ ρ', I k ρ' ∧ Fx s env FP n ρ' σ t') ?_ k ⟨ρ, h0, f⟩)
  rintro k t' ⟨ρ', hI, f'⟩
  obtain ⟨c, h1, h2, h3⟩ := turn k ρ' hI
  refine (h1 t' f').go t' (.refl t') _ _ fun t2 st => ?_
  cases c with
  | true =>
    obtain ⟨ρ'', m, hm, hI', hB⟩ := h2 rfl
    exact hB.go t2 (f'.stp st) _ _ fun t3 f3 => ⟨m, hm, ρ'', hI', f3⟩
  | false =>
    have e := h3 rfl
    subst e
    exact wpAny_execs_nil (hQ _ (f'.stp st))
theorem run_while (I : Nat → (Str → Option PyData) → Prop) {k : Nat} (h0 : I k ρ)
    (turn : ∀ k ρ', I k ρ' → ∃ c, (∀ t, Fx s env FP n ρ' σ t → Tst prog w A env t test c) ∧ (c = true → ∃ ρ'' m, m < k ∧ I m ρ'' ∧ Blk prog w A env FP s n ρ' σ body ρ'') ∧ (c = false → ρ₂ = ρ'))
    (hr : Run prog w A env FP s n ρ₂ σ rest d) : Run prog w A env FP s n ρ σ (.While test body [] pos :: rest) d := ⟨fun t f E Q hQ =>
  wpAny_execs_cons (while_core I h0 turn t f _ _ fun t' f' => hr.go t' f' E Q hQ)⟩
theorem blk_while (I : Nat → (Str → Option PyData) → Prop) {k : Nat} (h0 : I k ρ)
    (turn : ∀ k ρ', I k ρ' → ∃ c, (∀ t, Fx s env FP n ρ' σ t → Tst prog w A env t test c) ∧ (c = true → ∃ ρ'' m, m < k ∧ I m ρ'' ∧ Blk prog w A env FP s n ρ' σ body ρ'') ∧ (c = false → ρ₂ = ρ'))
    (hr : Blk prog w A env FP s n ρ₂ σ rest ρ') : Blk prog w A env FP s n ρ σ (.While test body [] pos :: rest) ρ' := ⟨fun t f E Q hQ =>
  wpAny_execs_cons (while_core I h0 turn t f _ _ fun t' f' => hr.go t' f' E Q hQ)⟩
end
end Mine
end
section
open PySem PySem.W PyProof.Rows PySem.Calls PySem.Spec PySem.SeqAt
set_option linter.unusedVariables false
namespace Mine

theorem wp_app {M : Model} {Γ : PySem.Ctx} {env : Env} {rest : List Stmt} {Q : Flow → Pos → Shared → Prop} {E : Value → Pos → Shared → Prop} : ∀ (b : List Stmt) (p : Pos) (s : Shared), Sem.wp M Γ (execs (b ++ rest) env) Q E p s →
    Sem.wp M Γ (execs b env) (fun f p' s' => match f with | .next => Sem.wp M Γ (execs rest env) Q E p' s' | f => Q f p' s') E p s
  | [], p, s, h => h
  | st :: b, p, s, h => by
    rw [List.cons_append, execs_cons, Sem.wp_bind'] at h
    rw [execs_cons, Sem.wp_bind']
    refine Sem.wp_mono M Γ _ (fun f p' s' h' => ?_) (fun _ _ _ h' => h') _ _ h
    cases f with
    | next => exact wp_app b p' s' h'
    | _ => exact h'
theorem if_app {M : Model} {A : Around} {env : Env} {test : Expr} {body orelse rest : List Stmt} {pos : Pos} {Q : Flow → Shared → Prop} {E : Value → Shared → Prop} {s : Shared}
    (h : wpAny M A (isTrue test env (eval test env)) (fun c s₂ => wpAny M A (execs ((if c then body else orelse) ++ rest) env) Q E s₂) E s) : wpAny M A (execs (.If test body orelse pos :: rest) env) Q E s := fun Γ p hΓ => by
  rw [execs_cons, Sem.wp_bind']
  simp only [exec_If, Sem.wp_bind', Sem.wp_cmd_standAt]
  refine Sem.wp_mono M Γ _ (fun b p₂ s₂ h₂ => ?_) (fun _ _ _ h' => h') _ _ (h Γ _ hΓ)
  have h3 := h₂ Γ p₂ hΓ
  cases b
  · refine Sem.wp_mono M Γ _ (fun f p' s' h' => ?_) (fun _ _ _ h' => h') _ _ (wp_app _ _ _ h3)
    cases f <;> exact h'
  · refine Sem.wp_mono M Γ _ (fun f p' s' h' => ?_) (fun _ _ _ h' => h') _ _ (wp_app _ _ _ h3)
    cases f <;> exact h'

/-- heap facts that outlive pure steps, and changes of the frame and of M -/
structure Ext (env : Env) (FP : Addr → Prop) (M : Addr → Prop) (n : Nat) (X : Heap → Prop) : Prop where
  kp : ∀ h h', X h → Kp h h' → X h'
  ch : ∀ h h' (U : Addr → Prop), X h → (∀ c, U c → c ∈ frameOf' env ∨ M c ∨ n ≤ c) → Off FP U h → (∀ c o, ¬ U c → h.get? c = some o → h'.get? c = some o) → X h'
noncomputable abbrev noM : Addr → Prop := fun _ => False
theorem Ext.and {env : Env} {FP M : Addr → Prop} {n : Nat} {X Y : Heap → Prop} (a : Ext env FP M n X) (b : Ext env FP M n Y) : Ext env FP M n (fun h => X h ∧ Y h) :=
  ⟨fun h h' x k => ⟨a.kp h h' x.1 k, b.kp h h' x.2 k⟩, fun h h' U x u o k => ⟨a.ch h h' U x.1 u o k, b.ch h h' U x.2 u o k⟩⟩
theorem Ext.le {env : Env} {FP M M' : Addr → Prop} {n n' : Nat} {X : Heap → Prop} (a : Ext env FP M n X) (h : ∀ c, M' c → M c) (hn : n ≤ n') : Ext env FP M' n' X := ⟨a.kp, fun h1 h2 U x u o k => a.ch h1 h2 U x (fun c hc => (u c hc).imp id fun z => z.imp (h c) (Nat.le_trans hn)) o k⟩
theorem Ext.true {env : Env} {FP M : Addr → Prop} {n : Nat} : Ext env FP M n (fun _ => True) := ⟨fun _ _ _ _ => trivial, fun _ _ _ _ _ _ _ => trivial⟩
/-- a list of one's own -/
noncomputable def Own (FP : Addr → Prop) (D : Addr) (ds : List PyData) (h : Heap) : Prop := ∃ ys, h.PlainList D ys ∧ Rds FP h ys.toList ds
theorem Own.ext {env : Env} {FP M : Addr → Prop} {n : Nat} {D : Addr} {ds : List PyData} (h1 : D ∉ frameOf' env) (h2 : ¬ M D) (h3 : D < n) : Ext env FP M n (Own FP D ds) where
  kp := fun h h' ⟨ys, hl, r⟩ k => ⟨ys, hl.at fun o e => k.at e (isTab_cls (n := "list") (by obtain ⟨n, e'⟩ := hl; rw [e'] at e; cases e; rfl)), r.kp k⟩
  ch := fun h h' U ⟨ys, hl, r⟩ u o k => ⟨ys, hl.at fun o' e => k D o' (fun z => (u D z).elim h1 fun z => z.elim h2 fun z => Nat.lt_irrefl _ (Nat.lt_of_lt_of_le h3 z)) e, r.chg k o⟩

structure Tr (prog : Program) (w : World) (A : Around) (env : Env) (FP : Addr → Prop) (s : Shared) (n : Nat) (X : Heap → Prop) (ρ : Str → Option PyData) (σ : Str → Option Value) (body : List Stmt) (K : Flow → Shared → Prop) (E : Value → Shared → Prop) : Prop where
  go : ∀ t, Fx s env FP n ρ σ t → X t.heap → wpAny (model prog w) A (execs body env) K E t
section
variable {prog : Program} {w : World} {A : Around} {env : Env} {FP M : Addr → Prop} {s : Shared} {n : Nat} {X Y : Heap → Prop} {ρ ρ' : Str → Option PyData} {σ : Str → Option Value} {rest body orelse : List Stmt} {d d1 : PyData} {e test : Expr} {x y : Str} {p p2 pos : Pos} {l : List (Str × PyData)} {K : Flow → Shared → Prop} {E : Value → Shared → Prop}
theorem Fx.off {t : Shared} (f : Fx s env FP n ρ σ t) (b : Bd A env FP n) : Off FP (· ∈ frameOf' env) t.heap := let ⟨_, _, a, _, _⟩ := f.ex; frame_off a b
theorem tr_nil (h : ∀ t, Fx s env FP n ρ σ t → X t.heap → K .next t) : Tr prog w A env FP s n X ρ σ [] K E := ⟨fun t f x => wpAny_execs_nil (h t f x)⟩
theorem tr_cont (h : ∀ t, Fx s env FP n ρ σ t → X t.heap → K .cont t) : Tr prog w A env FP s n X ρ σ (.Continue pos :: rest) K E := ⟨fun t f x => wpAny_execs_cons (wpAny_Continue (h t f x))⟩
theorem tr_pre (h : ∀ h, X h → Y h) (r : Tr prog w A env FP s n Y ρ σ body K E) : Tr prog w A env FP s n X ρ σ body K E := ⟨fun t f x => r.go t f (h _ x)⟩
theorem tr_sub (h : Sub l ρ) (r : Tr prog w A env FP s n X (al l) σ body K E) : Tr prog w A env FP s n X ρ σ body K E := ⟨fun t f x => r.go t (f.congr h.le) x⟩
theorem tr_ret (hX : Ext env FP M n X) (h : ∀ t, Fx s env FP n ρ σ t → X t.heap → Ev prog w A env FP t e d) (hK : ∀ v t, Fx s env FP n ρ σ t → X t.heap → Rd FP t.heap v d → K (.ret v) t) : Tr prog w A env FP s n X ρ σ (.Return (some e) pos :: rest) K E := ⟨fun t f x =>
  wpAny_execs_cons (wpAny_Return_some ((h t f x).go t (.refl t) _ _ fun v t' st r => hK v t' (f.stp st) (hX.kp _ _ x st.kp) r))⟩
theorem tr_if (c : Bool) (hX : Ext env FP M n X) (h : ∀ t, Fx s env FP n ρ σ t → X t.heap → Tst prog w A env t test c) (hr : Tr prog w A env FP s n X ρ σ ((if c then body else orelse) ++ rest) K E) : Tr prog w A env FP s n X ρ σ (.If test body orelse pos :: rest) K E := ⟨fun t f x =>
  if_app ((h t f x).go t (.refl t) _ _ fun t' st => hr.go t' (f.stp st) (hX.kp _ _ x st.kp))⟩
theorem tr_store {t : Shared} {v : Value} {Q : Unit → Shared → Prop} (hX : Ext env FP M n X) (b : Bd A env FP n) (f : Fx s env FP n ρ σ t) (x' : X t.heap) (r : Rd FP t.heap v d)
    (hk : env.kindOf x = some .local ∨ (env.kindOf x = some .cell ∧ (env.cells.lookup x).isSome = true)) (hσ : σ x = none)
    (hQ : ∀ t', Fx s env FP n (put ρ x d) σ t' → X t'.heap → Q () t') : wpAny (model prog w) A (storeName env x v) Q E t :=
  store_name' b f r hk hσ fun t' f' keep => hQ t' f' (hX.ch _ _ (· ∈ frameOf' env) x' (fun c hc => .inl hc) (f.off b) keep)
theorem tr_assign (hX : Ext env FP M n X) (b : Bd A env FP n) (h : ∀ t, Fx s env FP n ρ σ t → X t.heap → Ev prog w A env FP t e d1) (hr : Tr prog w A env FP s n X (put ρ x d1) σ rest K E)
    (hk : env.kindOf x = some .local ∨ (env.kindOf x = some .cell ∧ (env.cells.lookup x).isSome = true)) (hs : swapsWith e (some (.Name x p)) pos.line env = pure false := by rfl) (hσ : σ x = none := by rfl) :
    Tr prog w A env FP s n X ρ σ (.Assign [.Name x p] e pos :: rest) K E := ⟨fun t f x' =>
  wpAny_execs_cons (wpAny_Assign_Name ((h t f x').go t (.refl t) _ _ fun v t' st r => tr_store hX b (f.stp st) (hX.kp _ _ x' st.kp) r hk hσ fun t'' f'' x'' => hr.go t'' f'' x'') hs)⟩
theorem tr_assign2 (hX : Ext env FP M n X) (b : Bd A env FP n) (h : ∀ t, Fx s env FP n ρ σ t → X t.heap → Ev prog w A env FP t e d1) (hr : Tr prog w A env FP s n X (put (put ρ x d1) y d1) σ rest K E)
    (hk : env.kindOf x = some .local) (hk2 : env.kindOf y = some .local) (hflat : ∀ (h h' : Heap) v, Rd FP h v d1 → Rd FP h' v d1)
    (he : (assignEach [.Name x p, .Name y p2] env).map (·.2) = [assign (.Name x p) env, assign (.Name y p2) env] := by rfl)
    (hw : swappedStores [.Name x p, .Name y p2] e env = pure none := by rfl) (hσ : σ x = none := by rfl) (hσ2 : σ y = none := by rfl) :
    Tr prog w A env FP s n X ρ σ (.Assign [.Name x p, .Name y p2] e pos :: rest) K E := ⟨fun t f x' =>
  wpAny_execs_cons (wpAny_Assign_two ((h t f x').go t (.refl t) _ _ fun v t' st r => wpAny_assign_Name (tr_store hX b (f.stp st) (hX.kp _ _ x' st.kp) r (.inl hk) hσ fun t2 f2 x2 =>
    wpAny_assign_Name (tr_store hX b f2 x2 (hflat _ _ _ r) (.inl hk2) hσ2 fun t3 f3 x3 => hr.go t3 f3 x3))) he hw)⟩
theorem tr_augS {a c : Str} (hX : Ext env FP M n X) (b : Bd A env FP n) (hx : ρ x = some (.str a)) (h : ∀ t, Fx s env FP n ρ σ t → X t.heap → Ev prog w A env FP t e (.str c)) (hz : a.length + c.length ≤ sizeLine) (hr : Tr prog w A env FP s n X (put ρ x (.str (a ++ c))) σ rest K E)
    (hk : env.kindOf x = some .local) (hσ : σ x = none := by rfl) :
    Tr prog w A env FP s n X ρ σ (.AugAssign (.Name x p) .Add e pos :: rest) K E := ⟨fun t f x' => by
  refine wpAny_execs_cons (wpAny_AugAssign_Name ?_)
  obtain ⟨v, na, rv⟩ := f.sees x _ hx
  obtain ⟨tk, rfl⟩ := rv.strOpen
  have ld : ∀ {Q : Value → Shared → Prop}, Q (.str a tk) t → wpAny (model prog w) A (loadName env x) Q E t := fun hq => by
    cases na with
    | loc a b' c' => exact wpAny_loadName_local b.kind a b' c' hq
    | cell a _ _ _ => rw [hk] at a; cases a
    | free a _ _ _ => rw [hk] at a; cases a
  refine ld ((h t f x').go t (.refl t) _ _ fun v2 t2 st2 r2 => ?_)
  obtain ⟨u, rfl⟩ := r2.strOpen
  refine with_tk (PyProof.Rows.iadd_str (fun t' tk' htk => ?_) hz)
  have st3 : Stp t2 { t2 with toks := tk' } := .toks t2 _ htk
  exact tr_store hX b ((f.stp st2).stp st3) (hX.kp _ _ x' (st2.trans st3).kp) (.str _ _) (.inl hk) hσ fun t'' f'' x'' => hr.go t'' f'' x''⟩
/-- list.append on a list of one's own -/
theorem tr_push {D : Addr} {ds : List PyData} (hY : Ext env FP M n Y) (b : Bd A env FP n) (hM : M D) (hD : D ∉ frameOf' env) (hFP : ¬ FP D) (hlo : s.heap.objs.size ≤ D) (hx : σ x = some (.ref D)) (h : ∀ t, Fx s env FP n ρ σ t → Own FP D ds t.heap → Y t.heap → Ev prog w A env FP t e d)
    (hz : ds.length ≤ sizeLine) (hr : Tr prog w A env FP s n (fun h => Own FP D (ds ++ [d]) h ∧ Y h) ρ σ rest K E) {apos : Pos}
    (hdb : (x == ("__debug__" : Str)) = false := by decide) (hcd : (x == ("__classdict__" : Str)) = false := by decide) (hi : interactive env = false := by rfl) (hs : swapsWith (.Call (.Attribute (.Name x p) "append" apos) [e] [] p2) none pos.line env = pure false := by rfl)
    (hst : ∀ r, starEach (e :: r) env = (false, eval e env) :: starEach r env := by intro _; rfl)
    (hbase : attributeBase (.Name x p) "append" env (eval (.Name x p) env) = eval (.Name x p) env := by rfl) (hline : (apos.endLine == p2.line) = true := by rfl) :
    Tr prog w A env FP s n (fun h => Own FP D ds h ∧ Y h) ρ σ (.Expr (.Call (.Attribute (.Name x p) "append" apos) [e] [] p2) pos :: rest) K E := ⟨fun t f x' => by
  refine wpAny_execs_cons (wpAny_Expr_any ?_ hi hs)
  refine wpAny_Call_method_lateS hbase (by rw [hst]; rfl) hline (load_name b.kind (f.raw hx) ?_ hdb hcd)
  obtain ⟨⟨ys, hl, ry⟩, hy⟩ := x'
  refine ⟨"list", "list.append", F.plainAttrs_list, F.slot_list_append, F.type_list_append, hl.isList.typeIs, ?_, ?_⟩
  · intro a e
    cases e
    obtain ⟨m, e'⟩ := hl
    exact ⟨_, e', rfl⟩
  refine callWith_builtin (by rw [hst]; rfl) (evalArgs_all (by rw [hst]; rfl) ?_)
  refine (evAll_cons (h t f ⟨ys, hl, ry⟩ hy) evAll_nil hst).go p2 t (.refl t) _ _ fun vs t1 st1 r1 => ?_
  obtain ⟨v, rfl, rv⟩ := r1.one
  have hO1 : Ext env FP noM (D + 1) (Own FP D ds) := Own.ext hD (fun z => z) (Nat.lt_succ_self _)
  obtain ⟨ys1, hl1, ry1⟩ := hO1.kp _ _ ⟨ys, hl, ry⟩ st1.kp
  have hlen : ys1.size ≤ sizeLine := by have := ry1.length; simp at this; omega
  refine with_tk (wpAny_list_append_plain (hsz := hlen) hl1 fun h2 hl2 hs2 htk => ?_)
  have k2 : ∀ b o, ¬ b ∈ [D] → t1.heap.get? b = some o → h2.get? b = some o := fun b o hb e => hs2.extBut b o (fun z => hb (by rw [z]; exact .head _)) e
  have hsoft : ∀ o, t1.heap.get? D = some o → soft o = true ∧ ¬ tupLike o := fun o ho => by
    obtain ⟨m, e'⟩ := hl1
    rw [e'] at ho; cases ho
    exact ⟨rfl, tupLike_cls (by simp)⟩
  have off : Off FP (· ∈ [D]) t1.heap := fun b o hb ho => by
    rw [List.mem_singleton.mp hb] at ho ⊢
    exact ⟨(hsoft o ho).2, .inr hFP⟩
  have f2 : Fx s env FP n ρ σ { t1 with heap := h2 } := (f.stp st1).but (tk := t1.toks) k2 (fun b hb => by rw [List.mem_singleton.mp hb]; exact ⟨hlo, hD, fun o ho => (hsoft o ho).1⟩) off (Nat.le_of_eq hs2.1.symm) (Nat.le_refl _)
  refine hr.go _ f2 ⟨⟨ys1.push v, hl2, ?_⟩, ?_⟩
  · have : (ys1.push v).toList = ys1.toList ++ [v] := by simp
    rw [this]
    exact (ry1.chg k2 off).append (.cons (rv.chg k2 off) .nil)
  · exact hY.ch _ _ (· ∈ [D]) (hY.kp _ _ hy st1.kp) (fun c hc => .inr (.inl (by rw [List.mem_singleton.mp hc]; exact hM))) off k2⟩

/-! for loops -/
theorem Fx.lt {t : Shared} (f : Fx s env FP n ρ σ t) : ∀ b ∈ frameOf' env, b < t.heap.objs.size := by
  obtain ⟨m0, cm0, a0, _, _⟩ := f.ex
  intro b hb
  rcases List.mem_cons.mp hb with rfl | hb
  · exact a0.ns.lt
  · obtain ⟨q, hq, rfl⟩ := List.mem_map.mp hb
    exact (a0.cell q.1 q.2 (a0.look q.1 q.2 hq)).lt
theorem Bd.up {n' : Nat} (b : Bd A env FP n) (h : n ≤ n') : Bd A env FP n' := ⟨fun c hc => b.fp c (Nat.le_trans h hc), b.off, b.hh, b.un, b.kind⟩
noncomputable abbrev inLoop (prog : Program) (w : World) (A : Around) (env : Env) (E : Value → Shared → Prop) : Value → Shared → Prop := notedBy (model prog w) A env fun e s' => cameBackBy (model prog w) A env E e s'
theorem tr_for {iter : Expr} {ds : List PyData} {px : Pos} (ρs : Nat → Str → Option PyData) (Xs : Nat → Heap → Prop) (b : Bd A env FP n) (hX : ∀ i, Ext env FP noM n (Xs i)) (hM : ∀ c, M c → c < n)
    (hi : ∀ t, Fx s env FP n (ρs 0) σ t → Xs 0 t.heap → IterOf prog w A env FP t iter ds)
    (hb : ∀ i d n' Y, ds[i]? = some d → n ≤ n' → Bd A env FP n' → Ext env FP M n' Y → Tr prog w A env FP s n' (fun h => Xs i h ∧ Y h) (put (ρs i) x d) σ body
      (fun f t => (f = .next ∨ f = .cont) ∧ Fx s env FP n' (ρs (i + 1)) σ t ∧ Xs (i + 1) t.heap ∧ Y t.heap) (inLoop prog w A env E))
    (hr : Tr prog w A env FP s n (Xs ds.length) (ρs ds.length) σ rest K E)
    (hk : env.kindOf x = some .local ∨ (env.kindOf x = some .cell ∧ (env.cells.lookup x).isSome = true)) (hs : ∀ x, foldedSetIterable iter env x = pure x := by intro _; rfl) (hσ : σ x = none := by rfl) :
    Tr prog w A env FP s n (Xs 0) (ρs 0) σ (.For (.Name x px) iter body [] pos :: rest) K E := ⟨fun t f x' => by
  refine wpAny_execs_cons (wpAny_For ((hi t f x').go t (.refl t) _ _ fun it s1 s2 st1 st2 hit => ?_) hs)
  obtain ⟨I, fp, wr, P, St, rfl, W, hst, hfp, hwr, hP, hsoft, hown, hfpT, hch⟩ := hit
  have f1 : Fx s env FP n (ρs 0) σ s1 := f.stp st1
  have hn1 : n ≤ s1.heap.objs.size := f1.big
  have hn2 : n ≤ s2.heap.objs.size := Nat.le_trans hn1 st2.kp.size
  have b2 := b.up hn2
  have f2 : Fx s env FP s2.heap.objs.size (ρs 0) σ s2 := (f1.stp st2).mono (fun _ _ h => h) (Nat.le_refl _)
  have frlt : ∀ c ∈ frameOf' env, c < s1.heap.objs.size := fun c hc => f1.lt c hc
  have hnwr : ∀ c, (c ∈ frameOf' env ∨ M c ∨ s2.heap.objs.size ≤ c) → c ∉ wr := fun c hc hm => by
    have h1 := hwr c hm
    rcases hc with hc | hc | hc
    · exact Nat.lt_irrefl _ (Nat.lt_of_lt_of_le (frlt c hc) h1)
    · exact Nat.lt_irrefl _ (Nat.lt_of_lt_of_le (hM c hc) (Nat.le_trans hn1 h1))
    · exact Nat.lt_irrefl _ (Nat.lt_of_lt_of_le (hfp c (W.sub _ hm)) hc)
  have hY : ∀ i, Ext env FP M s2.heap.objs.size (St i) := fun i =>
    ⟨fun h h' hs k => W.frame _ _ _ hs fun c hc o e => k.at e (hfpT _ _ hs c hc o e), fun h h' U hs hu off keep => hch i h h' U hs (fun c hc => hnwr c (hu c hc)) off keep⟩
  have hZ : Ext env FP M s2.heap.objs.size (fun h => ∀ i v d, P i v → ds[i]? = some d → Rd FP h v d) :=
    ⟨fun h h' z k i v d hp hd => (z i v d hp hd).kp k, fun h h' U z hu off keep i v d hp hd => (z i v d hp hd).chg keep off⟩
  have z1 : ∀ i v d, P i v → ds[i]? = some d → Rd FP s1.heap v d := fun i v d hp hd => by
    obtain ⟨d', hd', r⟩ := hP i v (List.getElem?_eq_some_iff.mp hd).1 hp
    rw [hd] at hd'; cases hd'; exact r
  -- under a turn of the iterator
  have step : ∀ i (t3 : Shared) h1 tk1, Fx s env FP s2.heap.objs.size (ρs i) σ t3 → Xs i t3.heap → St i t3.heap → (∀ i v d, P i v → ds[i]? = some d → Rd FP t3.heap v d) → t3.heap.objs.size ≤ h1.objs.size → t3.toks ≤ tk1 → (∀ b o, b ∉ wr → t3.heap.get? b = some o → h1.get? b = some o) →
      Fx s env FP s2.heap.objs.size (ρs i) σ { t3 with heap := h1, toks := tk1 } ∧ Xs i h1 ∧ (∀ i v d, P i v → ds[i]? = some d → Rd FP h1 v d) := fun i t3 h1 tk1 f3 x3 hst3 z3 hz htk keep => by
    have off : Off FP (· ∈ wr) t3.heap := fun c o hc ho => let z := hsoft i _ hst3 c hc o ho; ⟨tupLike_cls z.2.1, .inl z.2.2⟩
    refine ⟨f3.but keep (fun c hc => ⟨Nat.le_trans f1.toStp.kp.size (hwr c hc), fun hm => hnwr c (.inl hm) hc, fun o ho => (hsoft i _ hst3 c hc o ho).1⟩) off hz htk, ?_, fun i v d hp hd => (z3 i v d hp hd).chg keep off⟩
    exact (hX i).ch _ _ (· ∈ wr) x3 (fun c hc => .inr (.inr (Nat.le_trans hn1 (hwr c hc)))) off keep
  refine codeAny_forLoop_any (fun k t' => ∃ i, i ≤ ds.length ∧ k = ds.length + 1 - i ∧ Fx s env FP s2.heap.objs.size (ρs i) σ t' ∧ Xs i t'.heap ∧ St i t'.heap ∧ (∀ i v d, P i v → ds[i]? = some d → Rd FP t'.heap v d)) ?_ (ds.length + 1) ⟨0, Nat.zero_le _, rfl, f2, (hX 0).kp _ _ ((hX 0).kp _ _ x' st1.kp) st2.kp, hst, fun i v d hp hd => (z1 i v d hp hd).kp st2.kp⟩
  rintro k t3 ⟨i, hi, rfl, f3, x3, hst3, z3⟩
  by_cases hlt : i < ds.length
  · refine with_size (with_tk (W.item i t3 _ _ hlt hst3 fun v h1 tk1 hPv hst1 hk1 htk1 hz1 => ?_))
    obtain ⟨d, hd, _⟩ := hP i v hlt hPv
    obtain ⟨f4, x4, z4⟩ := step i t3 h1 tk1 f3 x3 hst3 z3 hz1 htk1 hk1
    obtain ⟨oI, TI, hoI, hcI, hTI⟩ := hown (i + 1) h1 hst1
    refine letOwned_other hoI hcI hTI (wpAny_assign_Name ?_)
    have hXY := ((hX i).le (M' := noM) (fun _ h => h) hn2).and (((hY (i + 1)).and hZ).le (M' := noM) (fun _ h => nomatch h) (Nat.le_refl _))
    refine tr_store (X := fun h => Xs i h ∧ St (i + 1) h ∧ ∀ i v d, P i v → ds[i]? = some d → Rd FP h v d) hXY b2 f4 ⟨x4, hst1, z4⟩ (z4 i v d hPv hd) hk hσ fun t5 f5 x5 => ?_
    refine wpAny_mono ((hb i d _ _ hd hn2 b2 ((hY (i + 1)).and hZ)).go t5 f5 x5) (fun fl t6 h6 => ?_) fun _ _ h => h
    obtain ⟨hfl, f6, x6, st6, z6⟩ := h6
    have : ∃ m, m < ds.length + 1 - i ∧ ∃ i', i' ≤ ds.length ∧ m = ds.length + 1 - i' ∧ Fx s env FP s2.heap.objs.size (ρs i') σ t6 ∧ Xs i' t6.heap ∧ St i' t6.heap ∧ (∀ i v d, P i v → ds[i]? = some d → Rd FP t6.heap v d) := ⟨ds.length + 1 - (i + 1), by omega, i + 1, hlt, rfl, f6, x6, st6, z6⟩
    rcases hfl with rfl | rfl
    · exact this
    · exact this
  · have hin : i = ds.length := by omega
    subst hin
    refine with_size (with_tk (W.done t3 _ _ hst3 fun h1 tk1 hk1 htk1 hz1 => ?_))
    obtain ⟨f4, x4, _⟩ := step _ t3 h1 tk1 f3 x3 hst3 z3 hz1 htk1 hk1
    exact wpAny_execs_nil (hr.go _ (f4.mono (fun _ _ h => h) (Nat.le_trans hn2 f4.big)) x4)⟩

/-! tests of names -/
theorem tst_bool {c : Bool} {t : Shared} (cx : Cx A env FP t) (z : Sees env FP t.heap ρ) (hx : ρ x = some (.bool c)) (hd : (x == ("__debug__" : Str)) = false := by decide) (hn : (x == ("__classdict__" : Str)) = false := by decide) : Tst prog w A env t (.Name x p) c := ⟨fun s st E Q hQ =>
  wpAny_isTrue_value ((ev_name cx z hx hd hn).go s st _ _ fun v s1 st1 r1 => by rw [r1.boolOpen]; exact wpAny_truthy_bool (hQ s1 st1))⟩
theorem tst_str {a : Str} {t : Shared} (cx : Cx A env FP t) (z : Sees env FP t.heap ρ) (hx : ρ x = some (.str a)) (hz : a.length ≤ sizeLine) (hd : (x == ("__debug__" : Str)) = false := by decide) (hn : (x == ("__classdict__" : Str)) = false := by decide) : Tst prog w A env t (.Name x p) (decide (a.length ≠ 0)) := ⟨fun s st E Q hQ =>
  wpAny_isTrue_value ((ev_name cx z hx hd hn).go s st _ _ fun v s1 st1 r1 => by
    obtain ⟨tk, rfl⟩ := r1.strOpen
    refine P.truthy_str (by rw [sizeLine_eq] at hz; omega) ?_
    have e : ((a.length : Int) != 0) = decide (a.length ≠ 0) := by
      by_cases h : a.length = 0 <;> simp [h]
    rw [e]
    exact hQ _ (st1.trans (.toks s1 _ (Nat.le_trans (Nat.le_succ _) (Nat.le_succ _)))))⟩
end
end Mine
end
section
open PySem PySem.W PyProof.Rows PySem.Calls PySem.Spec PySem.SeqAt
set_option linter.unusedVariables false
namespace Mine
noncomputable abbrev less (FP : Addr → Prop) (D : Addr) : Addr → Prop := fun b => FP b ∧ b ≠ D
noncomputable abbrev putR (σ : Str → Option Value) (x : Str) (v : Value) : Str → Option Value := fun y => if y = x then some v else σ y
section
variable {prog : Program} {w : World} {A : Around} {env : Env} {FP M : Addr → Prop} {s : Shared} {n : Nat} {X Y : Heap → Prop} {ρ ρ' : Str → Option PyData} {σ : Str → Option Value} {rest body orelse : List Stmt} {d d1 : PyData} {e test : Expr} {x y : Str} {p p2 pos : Pos} {l : List (Str × PyData)} {K : Flow → Shared → Prop} {E : Value → Shared → Prop}
theorem Bd.less {D : Addr} {n' : Nat} (b : Bd A env FP n) (hn : n ≤ n') (hD : D < n') : Bd A env (less FP D) n' := ⟨fun c hc => ⟨b.fp c (Nat.le_trans hn hc), fun e => by subst e; exact Nat.lt_irrefl _ (Nat.lt_of_lt_of_le hD hc)⟩, fun c hc z => b.off c hc z.1, b.hh, b.un, b.kind⟩
/-- a new list of one's own -/
theorem tr_newOwn {lp : Pos} (X' : Addr → Heap → Prop) (b : Bd A env FP n) (hX' : ∀ h h' D, X h → D = h.objs.size → Kp h h' → X' D h') (hXe : ∀ D, n ≤ D → Ext env (less FP D) M (D + 1) (X' D)) (hρ : ρ x = none)
    (hr : ∀ D, n ≤ D → s.heap.objs.size ≤ D → D ∉ frameOf' env → Bd A env (less FP D) (D + 1) → Tr prog w A env (less FP D) s (D + 1) (fun h => Own (less FP D) D [] h ∧ X' D h) ρ (putR σ x (.ref D)) rest K E)
    (hk : env.kindOf x = some .local ∨ (env.kindOf x = some .cell ∧ (env.cells.lookup x).isSome = true)) (hs : swapsWith (.List [] lp) (some (.Name x p)) pos.line env = pure false := by rfl) :
    Tr prog w A env FP s n X ρ σ (.Assign [.Name x p] (.List [] lp) pos :: rest) K E := ⟨fun t f x' => by
  refine wpAny_execs_cons (wpAny_Assign_Name ?_ hs)
  refine List_ (spliced_nil (wpAny_newList ?_ (Nat.zero_le _)))
  have hDn : n ≤ t.heap.objs.size := f.big
  have hDfr : t.heap.objs.size ∉ frameOf' env := fun hm => Nat.lt_irrefl _ (f.lt _ hm)
  have b' := b.less (D := t.heap.objs.size) (n' := t.heap.objs.size + 1) (Nat.le_succ_of_le hDn) (Nat.lt_succ_self _)
  have f0 : Fx s env (less FP t.heap.objs.size) t.heap.objs.size ρ σ t := f.mono (fun c hc hf => ⟨hf, Nat.ne_of_lt hc⟩) (Nat.le_refl _)
  have f1 := (f0.stp (.push t { cls := .type "list", data := .seq ([] : List Value).toArray })).mono (FP' := less FP t.heap.objs.size) (n' := t.heap.objs.size + 1) (fun _ _ h => h) (by show _ ≤ (t.heap.push _).objs.size; rw [Heap.size_push]; exact Nat.le_refl _)
  have own : Own (less FP t.heap.objs.size) t.heap.objs.size [] (t.heap.push { cls := .type "list", data := .seq ([] : List Value).toArray }) := ⟨#[], ⟨_, Heap.get?_push_size _ rfl⟩, .nil⟩
  have hE : Ext env (less FP t.heap.objs.size) noM (t.heap.objs.size + 1) (fun h => Own (less FP t.heap.objs.size) t.heap.objs.size [] h ∧ X' t.heap.objs.size h) :=
    (Own.ext hDfr (fun z => z) (Nat.lt_succ_self _)).and ((hXe _ hDn).le (fun _ h => nomatch h) (Nat.le_refl _))
  have x1 : X' t.heap.objs.size (t.heap.push { cls := .type "list", data := .seq ([] : List Value).toArray }) := hX' _ _ _ x' rfl (.push _ _)
  refine store_any b' f1 (ρ' := ρ) (σ' := putR σ x (.ref t.heap.objs.size)) (fun y dy hy => ?_) (fun y u hy => ?_) hk fun t2 f2 keep => (hr _ hDn (Nat.le_trans f.toStp.kp.size (Nat.le_refl _)) hDfr b').go t2 f2 (hE.ch _ _ (· ∈ frameOf' env) ⟨own, x1⟩ (fun c hc => .inl hc) (f1.off b') keep)
  · by_cases e : y = x
    · rw [e, hρ] at hy; cases hy
    · exact .inr ⟨e, hy⟩
  · by_cases e : y = x
    · left
      rw [putR, if_pos e] at hy
      cases hy
      exact ⟨e, rfl⟩
    · right
      rw [putR, if_neg e] at hy
      exact ⟨e, hy⟩⟩
/-- an own list seen as data again -/
theorem Fx.unown {D : Addr} {ds : List PyData} {n' : Nat} {t : Shared} (f : Fx s env (less FP D) n' ρ σ t) (o : Own (less FP D) D ds t.heap) (hx : σ x = some (.ref D)) (hFP : FP D) (hn : n ≤ n') : Fx s env FP n (put ρ x (.list ds)) σ t := by
  have f' := f.mono (FP' := FP) (n' := n) (fun _ _ h => h.1) (Nat.le_trans hn f.big)
  obtain ⟨m, cm, a, h, g⟩ := f'.ex
  refine ⟨⟨m, cm, a, fun y dy hy => ?_, g⟩, f'.big⟩
  unfold put at hy
  split at hy
  · rename_i e
    cases hy
    obtain ⟨ys, hl, r⟩ := o
    refine ⟨.ref D, by rw [e]; exact g x _ hx, .mkList (vs := ys.toList) (by simpa using hl.isList) (r.mono fun _ _ h => h.1) hFP⟩
  · exact h y dy hy
end
end Mine
end
section
open PySem PySem.W PyProof.Rows PySem.Calls PySem.Spec PySem.SeqAt
set_option linter.unusedVariables false
namespace Mine
section
variable {prog : Program} {w : World} {A : Around} {env : Env} {FP : Addr → Prop} {s s₀ : Shared} {E : Value → Shared → Prop}
/-! ## unpacking a list -/
theorem draw_walk {I : Addr} {fp wr : List Addr} {N : Nat} {P : Nat → Value → Prop} {St : Nat → Heap → Prop} {vs : List Value} (W : Walks prog w A I fp wr N P St) (hN : vs.length = N) (hP : ∀ i v, P i v → vs[i]? = some v) :
    ∀ (n i : Nat) (s : Shared) (Q : List Value → Shared → Prop), St i s.heap → i ≤ N →
      (∀ h' tk, (i + n ≤ N → St (i + n) h') → (∀ b o, b ∉ wr → s.heap.get? b = some o → h'.get? b = some o) → s.toks ≤ tk → s.heap.objs.size ≤ h'.objs.size → Q ((vs.drop i).take n) { s with heap := h', toks := tk }) →
      wpAny (model prog w) A (draw (.ref I) n) Q E s
  | 0, i, s, Q, hst, _, hQ => by
    show wpAny _ _ (pure []) Q E s
    exact wpAny_pure (by simpa using hQ s.heap s.toks (fun _ => hst) (fun _ _ _ e => e) (Nat.le_refl _) (Nat.le_refl _))
  | n + 1, i, s, Q, hst, hi, hQ => by
    show wpAny _ _ (pyNext (.ref I) >>= _) Q E s
    by_cases hlt : i < N
    · refine wpAny_bind (with_size (with_tk (W.item i s _ _ hlt hst fun v h1 tk1 hPv hst1 hk1 htk1 hz1 => ?_)))
      have hv := hP i v hPv
      refine wpAny_bind (wpAny_holding (draw_walk W hN hP n (i + 1) _ _ hst1 hlt fun h2 tk2 hst2 hk2 htk2 hz2 => wpAny_pure ?_))
      have hd : vs.drop i = v :: vs.drop (i + 1) := by
        obtain ⟨hl, e⟩ := List.getElem?_eq_some_iff.mp hv
        rw [List.drop_eq_getElem_cons hl, e]
      have := hQ h2 tk2 (fun h => by rw [show i + (n + 1) = i + 1 + n by omega] at h ⊢; exact hst2 h) (fun b o hb e => hk2 b o hb (hk1 b o hb e)) (Nat.le_trans htk1 htk2) (Nat.le_trans hz1 hz2)
      rw [hd, List.take_succ_cons] at this
      exact this
    · have e : i = N := by omega
      subst e
      refine wpAny_bind (with_size (with_tk (W.done s _ _ hst fun h1 tk1 hk1 htk1 hz1 => wpAny_pure ?_)))
      have := hQ h1 tk1 (fun h => by omega) hk1 htk1 hz1
      rw [List.drop_eq_nil_of_le (by omega)] at this
      simpa using this
theorem unpackItems_list {a : Addr} {vs : List Value} {n : Nat} {Q : List Value → Shared → Prop} (hh : A.handled = none) (hL : s.heap.IsList a vs.toArray)
    (hQ : n = vs.length → ∀ h' tk, (∀ b o, s.heap.get? b = some o → h'.get? b = some o) → s.toks ≤ tk → s.heap.objs.size ≤ h'.objs.size → Q vs { s with heap := h', toks := tk })
    (hE : vs.length < n → ∀ h h' tk e, (∀ b o, s.heap.get? b = some o → h.get? b = some o) → s.heap.objs.size ≤ h.objs.size → Heap.NewExc h h' e "ValueError" → E (.ref e) { s with heap := h', toks := tk }) (hle : vs.length ≤ n)
    (hm : ∀ k, k < n → (Str.ofString s!"not enough values to unpack (expected {n}, got {k})").length ≤ sizeLine) :
    wpAny (model prog w) A (unpackItems (.ref a) n none) Q E s := by
  have hlt : a < s.heap.objs.size := by obtain ⟨o, ho, _⟩ := id hL; exact Heap.lt_size ho
  unfold unpackItems
  refine wpAny_bind ?_
  unfold notIterableAtAll
  refine wpAny_bind (wpAny_specialOf hL.typeIs F.slot_list_iter.lookup ?_)
  refine wpAny_pure ?_
  simp only [Bool.false_eq_true, if_false]
  refine wpAny_bind (wpAny_holding (wpAny_pyIter_list hL ?_))
  have W := Walks.list (prog := prog) (w := w) hh s.heap.objs.size a (Nat.ne_of_lt hlt) vs.toArray
  have e : vs.toArray.size = vs.length := by simp
  rw [e] at W
  have old : ∀ (h1 : Heap), (∀ b o, b ∉ [s.heap.objs.size] → (s.heap.push { cls := .type "list_iterator", data := .fields #[.ref a, .int 0 0] }).get? b = some o → h1.get? b = some o) → ∀ b o, s.heap.get? b = some o → h1.get? b = some o :=
    fun h1 k b o e => k b o (fun hm => Nat.lt_irrefl _ (by have := Heap.lt_size e; rw [List.mem_singleton.mp hm] at this; exact this)) (Heap.get?_push_of_some _ e)
  refine wpAny_bind (wpAny_holding (draw_walk W rfl (fun i v h => by simpa using h) n 0 _ _ ⟨⟨_, Heap.get?_push_size _ rfl, rfl, rfl⟩, hL.push _⟩ (Nat.zero_le _) fun h1 tk1 hst1 hk1 htk1 hz1 => ?_))
  rw [List.drop_zero, List.take_of_length_le hle]
  have hz1' : s.heap.objs.size ≤ h1.objs.size := Nat.le_trans (Nat.le_succ _) (by have : (s.heap.push { cls := .type "list_iterator", data := .fields #[.ref a, .int 0 0] }).objs.size ≤ h1.objs.size := hz1; rw [Heap.size_push] at this; exact this)
  by_cases hlt' : vs.length < n
  · rw [if_pos hlt']
    have hm' := hm _ hlt'
    generalize hmsg : s!"not enough values to unpack (expected {n}, got {vs.length})" = msg at hm' ⊢
    refine wpAny_bind (wpAny_rule (wpAny_bind ?_))
    refine raiseError_exc excClass_ValueError hh (fun h' tk e hx => ?_) hm'
    exact hE hlt' h1 h' tk e (old h1 hk1) hz1' hx
  · rw [if_neg hlt']
    have hn : n = vs.length := by omega
    subst hn
    refine wpAny_bind (wpAny_holding (with_size (with_tk (W.done { s with heap := h1, toks := tk1 } _ _ (by simpa using hst1 (by omega)) fun h2 tk2 hk2 htk2 hz2 => ?_))))
    simp only [Option.isSome_none, Bool.false_eq_true, if_false]
    exact wpAny_pure (hQ rfl h2 tk2 (fun b o e => hk2 b o (fun hm => Nat.lt_irrefl _ (by have := Heap.lt_size e; rw [List.mem_singleton.mp hm] at this; exact this)) (old h1 hk1 b o e)) (Nat.le_trans htk1 htk2) (Nat.le_trans hz1' hz2))
end
end Mine
end
section
open PySem PySem.W PyProof.Rows PySem.Calls PySem.Spec PySem.SeqAt
open Builtin Builtin.Str
set_option linter.unusedVariables false
namespace Mine
section
variable {prog : Program} {w : World} {A : Around} {env : Env} {FP : Addr → Prop} {s s₀ : Shared} {E : Value → Shared → Prop} {x y : Str} {a k : Int} {pos p p1 p2 : Pos} {e o : Expr}
theorem ev_neg (h : Ev prog w A env FP s₀ e (.int a)) : Ev prog w A env FP s₀ (.UnaryOp .USub e pos) (.int (-a)) := ⟨fun s st E Q hQ =>
  wpAny_UnaryOp (h.go s st _ _ fun v s1 st1 r1 => by
    obtain ⟨t, rfl⟩ := r1.intOpen
    exact P.neg_int (hQ _ _ (st1.trans (.toks s1 _)) (.int _ _)))⟩
theorem strs_rd {h : Heap} : ∀ (l : List (Str × Tok)), Rds FP h (strValues l) ((l.map (·.1)).map .str)
  | [] => .nil
  | q :: r => .cons (.str _ _) (strs_rd r)
theorem call_splitMax (fp : ∀ b, s₀.heap.objs.size ≤ b → FP b) (hy : (y.length == 0) = false) (hk : (decide (k < -(2 ^ 63 : Int)) || decide (k ≥ 2 ^ 63)) = false) (hsz : x.length + 2 ≤ sizeLine) :
    CallTo prog w A FP s₀ (.builtin "str.split") [.str x, .str y, .int k] (.list ((Txt.splitMax x y k).map .str)) := ⟨fun s st vs r E Q hQ => by
  obtain ⟨v1, vs1, rfl⟩ : ∃ v vs', vs = v :: vs' := by
    match vs, r.length with
    | v :: vs', _ => exact ⟨v, vs', rfl⟩
  obtain ⟨v2, v3, rfl, r2, r3⟩ := r.uncons.2.two
  obtain ⟨t, rfl⟩ := r.uncons.1.strOpen
  obtain ⟨u, rfl⟩ := r2.strOpen
  obtain ⟨v, rfl⟩ := r3.intOpen
  have hn : (partsBetween x (occurrences x y 0 x.length (limitOf x k)) y.length).length ≤ sizeLine := by
    have e1 := StrLaws.occ_length_le_len x y 0 x.length (limitOf x k)
    rw [PyProof.Rows.len_partsBetween]; omega
  have hf := fp _ st.kp.size
  have fin : ∀ (l : List (Str × Tok)) tk, l.map (·.1) = Txt.splitMax x y k → s.toks ≤ tk → Q (.ref s.heap.objs.size) { s with heap := s.heap.push { cls := .type "list", data := .seq (strValues l).toArray }, toks := tk } := fun l tk e htk => by
    have st1 : Stp s { s with heap := s.heap.push { cls := .type "list", data := .seq (strValues l).toArray }, toks := tk } := (Stp.push s _).trans (.toks _ _ htk)
    refine hQ _ _ st1 (.mkList (vs := strValues l) ⟨_, Heap.get?_push_size _ rfl, rfl, _, rfl⟩ ?_ hf)
    rw [← e]; exact strs_rd l
  cases h1 : (decide (x.length < y.length) || decide (strKind x < strKind y))
  · cases hf' : (occurrences x y 0 x.length (limitOf x k)).isEmpty
    · refine call_meets F.slot_str_split (typeIs_str _ _ _) F.entry_str_split (F.args_str_split_3 _ _ _) (meets_str_split_sep_max x y k t u v hk h1 hy hf' (by omega) hn) ?_
      show wants Q E _ { s with toks := _, heap := s.heap.push { cls := .type "list", data := .seq (strsFrom s.toks (partsBetween x (occurrences x y 0 x.length (limitOf x k)) y.length)).toArray } }
      rw [strsFrom_eq]
      exact fin (numbered s.toks _) _ ((numbered_texts _ _).trans ((if_neg (ne_true_of_eq_false h1)).trans (if_neg (ne_true_of_eq_false hf'))).symm) (Nat.le_add_right _ _)
    · exact call_meets F.slot_str_split (typeIs_str _ _ _) F.entry_str_split (F.args_str_split_3 _ _ _) (meets_str_split_max_not_found x y k t u v hk h1 hy hf')
        (fin [(x, t)] s.toks ((if_neg (ne_true_of_eq_false h1)).trans (if_pos hf')).symm (Nat.le_refl _))
  · exact call_meets F.slot_str_split (typeIs_str _ _ _) F.entry_str_split (F.args_str_split_3 _ _ _) (meets_str_split_max_cannot_occur x y k t u v hk h1)
      (fin [(x, t)] s.toks (if_pos h1).symm (Nat.le_refl _))⟩
end
end Mine
end
section
open PySem PySem.W PyProof.Rows PySem.Calls PySem.Spec PySem.SeqAt
set_option linter.unusedVariables false
namespace Mine

noncomputable abbrev K : Params → Frag := Hd.heap_39
noncomputable def P0 : Params := { strHash := fun _ => 0, shareClass := fun _ => 0, mergeTok := id, idOf := fun _ => 0, idOfShared := fun _ _ => 0, followText := fun _ => false, idOfImm := fun _ => 0 }
noncomputable def fdK (a : Addr) : FuncData := match (K P0).lookup a with
  | some ⟨_, _, .func fd, _⟩ => fd
  | _ => default
noncomputable def bodyK (a : Addr) : List Stmt := match (fdK a).body with
  | .stmts b => b
  | _ => []

/-- what the top has left -/
structure Stat (w : World) (mg mb : Str → Option Value) (h : Heap) : Prop where
  X : ∀ a o, (K w.params).lookup a = some o → h.get? a = some o
  g : h.Ns mainGlobals mg
  b : h.Ns builtinsNs mb
  lim : h.NoLimit
  bi : ∀ x : Str, x ≠ "__name__" → mb x = bootBuiltins x
  bm : ∃ bm ob, mg "__builtins__" = some (.ref bm) ∧ bm ≠ builtinsNs ∧ h.get? bm = some ob ∧ ob.cls = .type "module" ∧ ob.dict = some builtinsNs ∧ ob.data = .plain
  tab : TabInv h
theorem K_noTab : ∀ P a o, (K P).lookup a = some o → a ≠ 77 := by
  intro P a o h e
  subst e
  have : (K P).lookup 77 = none := by kernel_rfl
  rw [this] at h; cases h
theorem Stat.kp {w : World} {mg mb : Str → Option Value} {h h' : Heap} (S : Stat w mg mb h) (k : Kp h h') : Stat w mg mb h' where
  X := fun a o e => k.keep a o (S.X a o e) (.inr (K_noTab _ _ _ e))
  g := k.ns S.g
  b := k.ns S.b
  lim := let ⟨mc, n1, n2⟩ := S.lim; ⟨mc, k.ns n1, n2⟩
  bi := S.bi
  bm := let ⟨bm, ob, h1, h2, h3, h4, h5, h6⟩ := S.bm; ⟨bm, ob, h1, h2, k.at h3 (isTab_cls h4), h4, h5, h6⟩
  tab := k.tab S.tab
theorem fnAt {w : World} {mg mb : Str → Option Value} {h : Heap} (S : Stat w mg mb h) {a c : Addr} {o oc : Obj} {vs : Array Value} {t : Tok} (e1 : (K w.params).lookup a = some o) (e2 : o.data = .func (fdK a)) (e3 : (fdK a).code = .ref c)
    (e4 : (K w.params).lookup c = some oc) (e5 : oc.data = .fields vs) (e6 : vs[1]? = some (.str (fdK a).qualname t)) : FnAt h a (fdK a) :=
  ⟨⟨o, c, oc, vs, t, S.X _ _ e1, e2, e3, K_noTab _ _ _ e4, S.X _ _ e4, e5, e6⟩, S.lim⟩
theorem gl_fn {w : World} {mg mb : Str → Option Value} {h : Heap} (S : Stat w mg mb h) {env : Env} {x : Str} {a : Addr} (e : nsIn (K w.params) mainGlobals x = some (some (.ref a)))
    (hk : env.kindOf x = some .globalImplicit) (hg : env.globals = mainGlobals) : GlAt env h x (.ref a) :=
  ⟨hk, mg, by rw [hg]; exact S.g, .inl (mg_of (fun a o e => S.X a o e) S.g e)⟩
theorem gl_bi {w : World} {mg mb : Str → Option Value} {h : Heap} (S : Stat w mg mb h) {env : Env} {x : Str} {v : Value} (e : nsIn (K w.params) mainGlobals x = some none) (hv : bootBuiltins x = some v) (hn : x ≠ "__name__")
    (hk : env.kindOf x = some .globalImplicit) (hg : env.globals = mainGlobals) (hb : env.builtins = builtinsNs) : GlAt env h x v :=
  ⟨hk, mg, by rw [hg]; exact S.g, .inr ⟨mg_none_of (fun a o e => S.X a o e) S.g e, mb, by rw [hb]; exact S.b, (S.bi x hn).trans hv⟩⟩

theorem fnAt_names {w : World} {mg mb : Str → Option Value} {h : Heap} (S : Stat w mg mb h) : FnAt h 75 (fdK 75) := fnAt (c := 74) S rfl rfl rfl rfl rfl rfl
theorem fnAt_escaped {w : World} {mg mb : Str → Option Value} {h : Heap} (S : Stat w mg mb h) : FnAt h 89 (fdK 89) := fnAt (c := 88) S rfl rfl rfl rfl rfl rfl
theorem fnAt_quoted {w : World} {mg mb : Str → Option Value} {h : Heap} (S : Stat w mg mb h) : FnAt h 96 (fdK 96) := fnAt (c := 95) S rfl rfl rfl rfl rfl rfl
end Mine
end
section
open PySem PySem.W PyProof.Rows PySem.Calls PySem.Spec PySem.SeqAt
set_option linter.unusedVariables false
set_option maxRecDepth 100000
namespace Mine
noncomputable abbrev prog := PySem.Challenge.pw_pk0051_01
noncomputable def nm : List Str := [Str.ofString "A%41", Str.ofString "\"b, c\"", Str.ofString "\\", Str.ofString "'='"]

section
variable {w : World} {mg mb : Str → Option Value} {A : Around} {FP : Addr → Prop} {s₀ : Shared}
theorem names_spec (S : Stat w mg mb s₀.heap) (room : Room A 1) (fp : ∀ b, s₀.heap.objs.size ≤ b → FP b) : CallTo prog w A FP s₀ (.ref 75) [] (.list (nm.map .str)) := by
  refine callTo_def (body := bodyK 75) (fnAt_names S) room fp [] ?_ (fun vs h => by cases vs with | nil => rfl | cons => cases h) rfl
  intro s st FP' n hf b
  refine run_ret (pos := _) (rest := []) fun t f => ?_
  exact ev_list (f.cx b) (evAll_cons ev_str (evAll_cons ev_str (evAll_cons ev_str (evAll_cons ev_str evAll_nil)))) (by decide)
end
end Mine
end
section
open PySem PySem.W PyProof.Rows PySem.Calls PySem.Spec PySem.SeqAt
set_option linter.unusedVariables false
namespace Mine
/-! ## plain strings -/
noncomputable abbrev S (x : String) : Str := Str.ofString x
/-- a text of signs -/
noncomputable abbrev tx (l : List Nat) : Str := ⟨l.toArray⟩
noncomputable abbrev ls (x : Str) : List Nat := x.cps.toList
theorem tx_ls (x : Str) : tx (ls x) = x := by cases x; rfl
theorem ls_tx (l : List Nat) : ls (tx l) = l := rfl
theorem ls_app (x y : Str) : ls (x ++ y) = ls x ++ ls y := by show (x.cps ++ y.cps).toList = _; simp
theorem tx_app (x y : List Nat) : tx x ++ tx y = tx (x ++ y) := by
  apply Str.ext'; rw [Str.cps_append]; simp
theorem len_ls (x : Str) : x.length = (ls x).length := by simp [Str.length]
theorem ls_inj {x y : Str} (h : ls x = ls y) : x = y := by rw [← tx_ls x, h, tx_ls]

noncomputable def sub1 (c : Nat) (z : List Nat) (l : List Nat) : List Nat := l.flatMap fun a => if a = c then z else [a]
theorem sub1_free (c : Nat) (z : List Nat) : ∀ l : List Nat, c ∉ l → sub1 c z l = l
  | [], _ => rfl
  | k :: r, h => by
    have h1 : ¬ k = c := fun e => h (e ▸ List.mem_cons_self ..)
    have ih := sub1_free c z r fun m => h (List.mem_cons_of_mem _ m)
    unfold sub1 at ih ⊢
    rw [List.flatMap_cons, if_neg h1, ih]; rfl
theorem sub1_join (c : Nat) (z : Str) : ∀ parts : List Str, (∀ p ∈ parts, c ∉ p.cps.toList) → sub1 c (ls z) (Str.join ⟨#[c]⟩ parts).cps.toList = (Str.join z parts).cps.toList
  | [], _ => rfl
  | [p], h => sub1_free c _ _ (h p (List.mem_singleton.mpr rfl))
  | p :: q :: r, h => by
    have ih := sub1_join c z (q :: r) fun a ha => h a (List.mem_cons_of_mem _ ha)
    show sub1 c _ (p ++ ⟨#[c]⟩ ++ Str.join ⟨#[c]⟩ (q :: r)).cps.toList = (p ++ z ++ Str.join z (q :: r)).cps.toList
    simp only [Str.cps_append, Array.toList_append]
    have hp := sub1_free c (ls z) _ (h p (List.mem_cons_self ..))
    unfold sub1 at ih hp ⊢
    rw [List.flatMap_append, List.flatMap_append, ih, hp]
    simp
theorem replace_sub1 (x z : Str) (c : Nat) : Txt.replace x ⟨#[c]⟩ z = tx (sub1 c (ls z) (ls x)) := by
  refine ls_inj ?_
  rw [StrLaws.replace_one, ls_tx, ← sub1_join c z _ (StrLaws.split_free x c), StrLaws.join_split]
noncomputable def escL (l : List Nat) : List Nat := l.flatMap fun a => if a = 92 then [92, 92] else if a = 34 then [92, 34] else [a]
noncomputable def esc (x : Str) : Str := Txt.replace (Txt.replace x (S "\\") (S "\\\\")) (S "\"") (S "\\\"")
theorem esc_eq (x : Str) : esc x = tx (escL (ls x)) := by
  have h1 : S "\\" = ⟨#[92]⟩ := by decide +kernel
  have h2 : ls (S "\\\\") = [92, 92] := by decide +kernel
  have h3 : S "\"" = ⟨#[34]⟩ := by decide +kernel
  have h4 : ls (S "\\\"") = [92, 34] := by decide +kernel
  unfold esc
  rw [h1, h3, replace_sub1, replace_sub1, h2, h4, ls_tx]
  congr 1
  unfold sub1 escL
  rw [List.flatMap_assoc]
  congr 1
  congr 1
  funext a
  by_cases e : a = 92
  · simp [e]
  · by_cases e2 : a = 34
    · simp [e2]
    · simp [e, e2]
theorem escL_len : ∀ l, (escL l).length ≤ 2 * l.length
  | [] => Nat.le_refl _
  | a :: r => by
    have ih := escL_len r
    unfold escL at ih ⊢
    rw [List.flatMap_cons, List.length_append, List.length_cons]
    have : (if a = 92 then [92, 92] else if a = 34 then [92, 34] else [a]).length ≤ 2 := by
      by_cases e : a = 92
      · simp [e]
      · by_cases e2 : a = 34
        · simp [e2]
        · simp [e, e2]
    omega
theorem esc_len (x : Str) : (esc x).length ≤ 2 * x.length := by
  rw [esc_eq, len_ls, ls_tx, len_ls x]; exact escL_len _
theorem app_len (x y : Str) : (x ++ y).length = x.length + y.length := Str.length_append x y
theorem sjoin0_ls : ∀ (ys : List Str), ls (Str.join (S "") ys) = ys.flatMap ls
  | [] => rfl
  | [x] => by simp [Str.join]
  | x :: y :: r => by
    have ih := sjoin0_ls (y :: r)
    show ls (x ++ S "" ++ Str.join (S "") (y :: r)) = _
    rw [ls_app, ls_app, ih]
    have : ls (S "") = [] := by decide +kernel
    rw [this]; simp
theorem join_eq (sep : Str) (ys : List Str) : Txt.join sep ys = Str.join sep ys := StrLaws.glued_eq_join sep ys
theorem join0_ls (ys : List Str) : ls (Txt.join (S "") ys) = ys.flatMap ls := by rw [join_eq, sjoin0_ls]
theorem join0 (ys : List Str) : Txt.join (S "") ys = tx (ys.flatMap ls) := ls_inj (join0_ls ys)
theorem flat_len (ys : List Str) : (ys.flatMap ls).length = (ys.map (·.length)).sum := by
  rw [List.length_flatMap]; congr 1
theorem join0_len (ys : List Str) : (Txt.join (S "") ys).length = (ys.map (·.length)).sum := by rw [len_ls, join0_ls, flat_len]
end Mine
end
section
open PySem PySem.W PyProof.Rows PySem.Calls PySem.Spec PySem.SeqAt
set_option linter.unusedVariables false
set_option maxRecDepth 100000
namespace Mine
/-- the ground of a call -/
structure Gd (w : World) (mg mb : Str → Option Value) (A : Around) (FP : Addr → Prop) (s : Shared) (k : Nat) : Prop where
  S : Stat w mg mb s.heap
  room : Room A k
  fp : ∀ b, s.heap.objs.size ≤ b → FP b
  tk : 1 ≤ s.toks
section
variable {w : World} {mg mb : Str → Option Value} {A : Around} {FP FP' : Addr → Prop} {s₀ s : Shared} {k k' n : Nat} {env : Env} {ρ : Str → Option PyData} {σ : Str → Option Value} {x y z : Str} {p1 p2 p pos : Pos}
theorem Gd.stp (g : Gd w mg mb A FP s₀ k) (st : Stp s₀ s) : Gd w mg mb A FP s k := ⟨g.S.kp st.kp, g.room, fun b hb => g.fp b (Nat.le_trans st.kp.size hb), Nat.le_trans g.tk st.tk⟩
theorem Gd.le (g : Gd w mg mb A FP s₀ k) (h : k' ≤ k) : Gd w mg mb A FP s₀ k' := ⟨g.S, g.room.le h, g.fp, g.tk⟩
theorem Gd.comp (g : Gd w mg mb A FP s₀ k) (st : Stp s₀ s) (c : Cx A env FP' s) : Gd w mg mb A FP' s k := ⟨g.S.kp st.kp, g.room, c.fp, Nat.le_trans g.tk st.tk⟩
/-- within the body of a called def -/
theorem Gd.body (g : Gd w mg mb A FP s₀ (k + 1)) (st : Stp s₀ s) {t : Shared} (b : Bd (A.deeper env) env FP' n) (f : Fx s env FP' n ρ σ t) : Gd w mg mb (A.deeper env) FP' t k :=
  ⟨g.S.kp (st.trans f.toStp).kp, g.room.deeper env, (f.cx b).fp, Nat.le_trans g.tk (st.trans f.toStp).tk⟩

theorem ev_replace {o : Expr} {apos : Pos} (h1 : 1 ≤ s₀.toks) (ho : Ev prog w A env FP s₀ o (.str x)) (hyz : (y == z) = false) (hb : x.length + (x.length + 1) * z.length ≤ 16777216)
    (hbase : attributeBase o "replace" env (eval o env) = eval o env := by rfl) (hline : (apos.endLine == pos.line) = true := by rfl) :
    Ev prog w A env FP s₀ (.Call (.Attribute o "replace" apos) [.Constant (.str y) 0 p1, .Constant (.str z) 0 p2] [] pos) (.str (Txt.replace x y z)) := ⟨fun s st E Q hQ =>
  wpAny_Call_method_lateS hbase rfl hline (ho.go s st _ _ fun v s1 st1 r1 => by
    obtain ⟨t, rfl⟩ := r1.strOpen
    refine ⟨"str", "str.replace", F.plainAttrs_str, F.slot_str_replace, F.type_str_replace, typeIs_str _ _ _, (fun _ e => nomatch e), ?_⟩
    refine callWith_builtin rfl (evalArgs_all rfl ?_)
    show wpAny (model prog w) A (spliced [(false, eval (.Constant (.str y) 0 p1) env), (false, eval (.Constant (.str z) 0 p2) env)]) _ _ _
    refine spliced_cons (Constant_str (spliced_cons (Constant_str (spliced_nil ?_))))
    have k1 : 1 ≤ s1.toks := Nat.le_trans h1 (st.trans st1).tk
    refine with_tk (SC.replace (by show s1.toks ≠ 0; omega) (by show s1.toks + 1 ≠ 0; omega) (by show s1.toks ≠ s1.toks + 1; omega) hyz hb fun t' tk htk => ?_)
    exact hQ _ _ (st1.trans (.toks s1 _ (Nat.le_trans (Nat.le_trans (Nat.le_succ _) (Nat.le_succ _)) htk))) (.str _ _))⟩

theorem escaped_spec (g : Gd w mg mb A FP s₀ 1) (hx : x.length ≤ 1000) : CallTo prog w A FP s₀ (.ref 89) [.str x] (.str (esc x)) := by
  refine callTo_def (body := bodyK 89) (fnAt_escaped g.S) g.room g.fp ["text"] ?_ (fun vs h => by match vs, h with | [v], _ => rfl) rfl
  intro s st FP' n hf b
  refine run_ret (pos := _) (rest := []) fun t f => ?_
  have g' := g.body st b f
  refine ev_replace g'.tk (ev_replace g'.tk (ev_name (f.cx b) f.sees rfl) (by decide +kernel) ?_) (by decide +kernel) ?_
  · have : (Str.ofString "\\\\").length = 2 := by decide +kernel
    rw [this]; omega
  · have : (Str.ofString "\\\"").length = 2 := by decide +kernel
    rw [this]
    have h1 : (Txt.replace x (Mine.S "\\") (Mine.S "\\\\")).length ≤ 2 * x.length := by
      have h1 : Mine.S "\\" = ⟨#[92]⟩ := by decide +kernel
      have h2 : ls (Mine.S "\\\\") = [92, 92] := by decide +kernel
      rw [h1, replace_sub1, len_ls, ls_tx, h2, len_ls x]
      generalize ls x = l
      induction l with
      | nil => exact Nat.le_refl _
      | cons a r ih =>
        unfold sub1 at ih ⊢
        rw [List.flatMap_cons, List.length_append, List.length_cons]
        have : (if a = 92 then [92, 92] else [a]).length ≤ 2 := by by_cases e : a = 92 <;> simp [e]
        omega
    have h2 : (Txt.replace x (Str.ofString "\\") (Str.ofString "\\\\")).length ≤ 2 * x.length := h1
    omega
end
end Mine
end
section
open PySem PySem.W PyProof.Rows PySem.Calls PySem.Spec PySem.SeqAt
set_option linter.unusedVariables false
set_option maxRecDepth 100000
namespace Mine
theorem fm0 (a : Int) (b : Int) (hb : 0 < b := by decide) : 0 ≤ a.fmod b := Int.fmod_nonneg_of_pos a hb
theorem fm1 (a : Int) (b : Int) (hb : 0 < b := by decide) : a.fmod b < b := Int.fmod_lt_of_pos a hb
theorem fmN (a : Int) (b : Int) (n : Nat) (hb : b = n) (hn : 0 < n := by decide) : (a.fmod b).toNat < n := by
  have h0 := fm0 a b (by omega)
  have h1 := fm1 a b (by omega)
  omega
theorem get_strs {l : List Str} {i : Nat} (h : i < l.length) : (l.map PyData.str)[i]? = some (.str (l.getD i default)) := by
  rw [List.getElem?_map, List.getD_eq_getElem?_getD]
  simp [h]
noncomputable def seps3 : List Str := [S "", S "\t", S "\n"]
noncomputable def quoted (x : Str) (n : Int) : Str := S "\"" ++ esc x ++ S "\"" ++ seps3.getD ((n.fdiv 3).fmod 3).toNat default
theorem seps3_len (i : Nat) : (seps3.getD i default).length ≤ 1 := by
  match i with
  | 0 | 1 | 2 => decide +kernel
  | n + 3 => exact Nat.zero_le _
theorem quoted_len (x : Str) (n : Int) : (quoted x n).length ≤ 2 * x.length + 3 := by
  unfold quoted
  have h1 := esc_len x
  have h2 := seps3_len ((n.fdiv 3).fmod 3).toNat
  have h3 : (S "\"").length = 1 := by decide +kernel
  rw [app_len, app_len, app_len, h3]; omega
section
variable {w : World} {mg mb : Str → Option Value} {A : Around} {FP FP' : Addr → Prop} {s₀ s : Shared} {k k' : Nat} {env : Env} {ρ : Str → Option PyData} {σ : Str → Option Value} {x y z : Str} {p1 p2 p pos : Pos} {n : Int}
theorem call_at {f : Str} {a : Addr} {es : List Expr} {ds : List PyData} {d : PyData} (S : Stat w mg mb s₀.heap) (c : Cx A env FP s₀) (h : EvAll prog w A env FP s₀ es ds) (hc : CallTo prog w A FP s₀ (.ref a) ds d)
    (e : nsIn (K w.params) mainGlobals f = some (some (.ref a)) := by rfl) (hk : env.kindOf f = some .globalImplicit := by rfl) (hg : env.globals = mainGlobals := by rfl)
    (ho : ∃ o fd, (K w.params).lookup a = some o ∧ o.data = .func fd := by exact ⟨_, _, rfl, rfl⟩)
    (hs : (starEach es env).all (fun x => !x.1) = true := by rfl) (hx : (f == ("__debug__" : Str)) = false := by decide) : Ev prog w A env FP s₀ (.Call (.Name f p) es [] pos) d := by
  obtain ⟨o, fd, h1, h2⟩ := ho
  exact ev_call c (gl_fn S e hk hg) (S.X _ _ h1) h2 h hc hs hx
theorem quoted_spec (g : Gd w mg mb A FP s₀ 2) (hx : x.length ≤ 500) : CallTo prog w A FP s₀ (.ref 96) [.str x, .int n] (.str (quoted x n)) := by
  refine callTo_def (body := bodyK 96) (fnAt_quoted g.S) (g.room.le (by decide)) g.fp ["word", "n"] ?_ (fun vs h => by match vs, h with | [v, v'], _ => rfl) rfl
  intro s st FP' n' hf b
  refine run_ret (pos := _) (rest := []) fun t f => ?_
  have g' := g.body st b f
  have c := f.cx b
  have z := f.sees
  have l1 := esc_len x
  have h3 : (Str.ofString "\"").length = 1 := by decide +kernel
  have l2 := seps3_len ((n.fdiv 3).fmod 3).toNat
  refine ev_addS (ev_addS (ev_addS ev_str (call_at g'.S c (evAll_cons (ev_name c z rfl) evAll_nil) (escaped_spec g' (by omega))) ?_) ev_str ?_) 
    (ev_itemL (ds := seps3.map .str) (ev_list c (evAll_cons ev_str (evAll_cons ev_str (evAll_cons ev_str evAll_nil))) (by decide)) (ev_modI (ev_divI (ev_name c z rfl) ev_int) ev_int) (fm0 _ _) (Int.lt_trans (fm1 _ _) (by decide)) (get_strs (fmN _ _ 3 rfl))) ?_
  · rw [h3, sizeLine_eq]; omega
  · rw [app_len, h3, sizeLine_eq]; omega
  · rw [app_len, app_len, h3, sizeLine_eq]; omega
end
end Mine
end
section
open PySem PySem.W PyProof.Rows PySem.Calls PySem.Spec PySem.SeqAt
set_option linter.unusedVariables false
set_option maxRecDepth 100000
namespace Mine
noncomputable def onS (F : Str → PyData) : PyData → PyData := fun d => match d with | .str y => F y | d => d
noncomputable def onI (F : Int → PyData) : PyData → PyData := fun d => match d with | .int y => F y | d => d
theorem two_le : 2 ≤ sizeLine := by decide
theorem get_map {α β : Type} {l : List α} {g : α → β} {i : Nat} {d : β} (h : (l.map g)[i]? = some d) : ∃ a, l[i]? = some a ∧ d = g a := by
  rw [List.getElem?_map] at h
  cases e : l[i]? with
  | none => rw [e] at h; cases h
  | some a => rw [e] at h; cases h; exact ⟨a, rfl, rfl⟩
theorem get_map' {α β : Type} {l : List α} {g : α → β} {i : Nat} {a : α} (h : l[i]? = some a) : (l.map g)[i]? = some (g a) := by rw [List.getElem?_map, h]; rfl
/-- each sign behind a backslash -/
noncomputable def every (x : Str) : Str := Txt.join (S "") ((ls x).map fun c => S "\\" ++ ⟨#[c]⟩)
noncomputable def everyL (l : List Nat) : List Nat := l.flatMap fun c => [92, c]
theorem every_eq (x : Str) : every x = tx (everyL (ls x)) := by
  unfold every everyL
  rw [join0, List.flatMap_map]
  have : ls (S "\\") = [92] := by decide +kernel
  have e : (fun c : Nat => ls (S "\\" ++ (⟨#[c]⟩ : Str))) = fun c => [92, c] := by
    funext c
    rw [ls_app, this]; rfl
  rw [e]
theorem every_len (x : Str) : (every x).length = 2 * x.length := by
  rw [every_eq, len_ls, ls_tx, len_ls x, everyL]
  generalize ls x = l
  induction l with
  | nil => rfl
  | cons a r ih => rw [List.flatMap_cons, List.length_append, ih, List.length_cons]; simp; omega
noncomputable def barS : List Str := [S "A%41", S "\\\"b,\\ c\"", S "\\\\", S "'='"]
noncomputable def sepw : List Str := [S " ", S "\x0d", S "\n\n"]
noncomputable def nmS (a : Int) : Str := nm.getD a.toNat default
noncomputable def wordS (a n : Int) : Str := if n.fmod 3 = 0 then quoted (nmS a) n else ([every (nmS a), barS.getD a.toNat default].getD (n.fmod 3 - 1).toNat default) ++ sepw.getD ((n.fdiv 3).fmod 3).toNat default
noncomputable def drawn (n : Int) : List (Int × Int) := [((n.fdiv 3).fmod 4, n.fdiv 48), ((n.fdiv 12).fmod 4, n.fdiv 432)].take (n.fmod 3).toNat
theorem nmS_len (a : Int) : (nmS a).length ≤ 6 := by
  unfold nmS
  match a.toNat with
  | 0 | 1 | 2 | 3 => decide +kernel
  | n + 4 => exact Nat.zero_le _
theorem barS_len (a : Nat) : (barS.getD a default).length ≤ 8 := by
  match a with
  | 0 | 1 | 2 | 3 => decide +kernel
  | n + 4 => exact Nat.zero_le _
theorem sepw_len (a : Nat) : (sepw.getD a default).length ≤ 2 := by
  match a with
  | 0 | 1 | 2 => decide +kernel
  | n + 3 => exact Nat.zero_le _
theorem wordS_len (a n : Int) : (wordS a n).length ≤ 15 := by
  unfold wordS
  have h := nmS_len a
  split
  · have := quoted_len (nmS a) n; omega
  · have h1 := every_len (nmS a)
    have h2 := barS_len a.toNat
    have h3 := sepw_len ((n.fdiv 3).fmod 3).toNat
    rw [app_len]
    have : ([every (nmS a), barS.getD a.toNat default].getD (n.fmod 3 - 1).toNat default).length ≤ 12 := by
      match (n.fmod 3 - 1).toNat with
      | 0 => show (every (nmS a)).length ≤ 12; omega
      | 1 => show (barS.getD a.toNat default).length ≤ 12; omega
      | n + 2 => exact Nat.zero_le _
    omega
theorem drawn_name {n : Int} {q : Int × Int} (h : q ∈ drawn n) : 0 ≤ q.1 ∧ q.1 < 4 := by
  have := List.mem_of_mem_take h
  rcases List.mem_cons.mp this with rfl | this
  · exact ⟨fm0 _ _, fm1 _ _⟩
  · rw [List.mem_singleton.mp this]; exact ⟨fm0 _ _, fm1 _ _⟩
theorem drawn_len (n : Int) : (drawn n).length ≤ 2 := by unfold drawn; rw [List.length_take]; exact Nat.min_le_right _ _
section
variable {w : World} {mg mb : Str → Option Value} {A : Around} {FP FP' : Addr → Prop} {s₀ s : Shared} {k k' : Nat} {env : Env} {ρ : Str → Option PyData} {σ : Str → Option Value} {x y z : Str} {p1 p2 p pos : Pos} {n a : Int} {h : Heap}
theorem fnAt_word (S : Stat w mg mb h) : FnAt h 101 (fdK 101) := fnAt (c := 100) S rfl rfl rfl rfl rfl rfl
theorem fnAt_drawn (S : Stat w mg mb h) : FnAt h 108 (fdK 108) := fnAt (c := 107) S rfl rfl rfl rfl rfl rfl
theorem get_nm (h0 : 0 ≤ a) (h1 : a < 4) : (nm.map PyData.str)[a.toNat]? = some (.str (nmS a)) := get_strs (by show a.toNat < 4; omega)
theorem names_at (g : Gd w mg mb A FP s₀ 1) (c : Cx A env FP s₀) (hk : env.kindOf "_law_names" = some .globalImplicit := by rfl) (hg : env.globals = mainGlobals := by rfl) : Ev prog w A env FP s₀ (.Call (.Name "_law_names" p) [] [] pos) (.list (nm.map .str)) :=
  call_at g.S c evAll_nil (names_spec g.S g.room g.fp) rfl hk hg ⟨_, _, rfl, rfl⟩ rfl (by decide)
theorem drawn_spec (g : Gd w mg mb A FP s₀ 1) : CallTo prog w A FP s₀ (.ref 108) [.int n] (.list ((drawn n).map fun q => .tuple [.int q.1, .int q.2])) := by
  refine callTo_def (body := bodyK 108) (fnAt_drawn g.S) g.room g.fp ["n"] ?_ (fun vs h => by match vs, h with | [v], _ => rfl) rfl
  intro s st FP' n' hf b
  refine run_ret (pos := _) (rest := []) fun t f => ?_
  have c := f.cx b
  have z := f.sees
  have e : ((n.fmod 3).toNat : Int) = n.fmod 3 := by have := fm0 n 3; omega
  have u : Ev prog w _ _ FP' t (.Name "n" ⟨101, 13, 101, 14⟩) (.int n) := ev_name c z rfl
  rw [drawn, List.map_take]
  refine ev_upto c (ev_list c (evAll_cons (ev_tuple (evAll_cons (ev_modI (ev_divI (ev_name c z rfl) ev_int) ev_int) (evAll_cons (ev_divI (ev_name c z rfl) ev_int) evAll_nil)) two_le)
    (evAll_cons (ev_tuple (evAll_cons (ev_modI (ev_divI (ev_name c z rfl) ev_int) ev_int) (evAll_cons (ev_divI (ev_name c z rfl) ev_int) evAll_nil)) two_le) evAll_nil)) two_le) ?_ two_le
  rw [e]
  exact ev_modI (ev_name c z rfl) ev_int
theorem every_ev {e : Expr} {px q : Pos} {k : Nat} {scope : Scope} (c : Cx A env FP s₀) (z : Sees env FP s₀.heap ρ) (he : Ev prog w A env FP s₀ e (.str x)) (hx : x.length ≤ 1000) (hclos : closureFor scope env = pure [])
    (hcell : ∀ y ∈ scope.names, y.2 ≠ .cell := by decide) (hkind : scope.kind = .function := by rfl) (hnames : ∀ y ∈ scope.names, y.2 = .local → scope.names.lookup y.1 = some .local := by decide)
    (hxx : scope.names.lookup (Str.ofString "sign") = some .local := by rfl) (hs : ∀ x, foldedSetIterable e env x = pure x := by intro _; rfl) {p0 p3 p5 : Pos} {k5 : Nat} (hline : (p0.endLine == p3.line) = true := by rfl) :
    Ev prog w A env FP s₀ (.Call (.Attribute (.Constant (.str (Str.ofString "")) k5 p5) "join" p0) [.ListComp (.BinOp (.Constant (.str (Str.ofString "\\")) k p1) .Add (.Name "sign" p2) pos) [⟨.Name "sign" px, e, [], 0⟩] scope q] [] p3) (.str (every x)) := by
  have e1 : ((ls x).map fun c => PyData.str ⟨#[c]⟩).map (onS fun y => .str (S "\\" ++ y)) = ((ls x).map fun c => S "\\" ++ ⟨#[c]⟩).map .str := by rw [List.map_map, List.map_map]; rfl
  have hl : (ls x).length ≤ 1000 := by rw [← len_ls]; exact hx
  refine ev_join (ys := (ls x).map fun c => S "\\" ++ ⟨#[c]⟩) ev_str ?_ ?_ ?_ ?_ hline
  · rw [← e1]
    refine ev_map1 c z (iter_str c he) (by rw [List.length_map, sizeLine_eq]; exact Nat.le_trans hl (by decide)) [] _ hclos (fun y hy => nomatch hy) ?_ hcell hkind hnames hxx hs
    intro i d hd C FP' s' st hf cx zz
    obtain ⟨ch, hc, rfl⟩ := get_map hd
    refine ev_addS ev_str (ev_name cx zz ?_) ?_
    · rfl
    · have : (Str.ofString "\\").length = 1 := by decide +kernel
      rw [this]; show 1 + 1 ≤ _; decide
  · have h0 : ((((ls x).map fun c => S "\\" ++ (⟨#[c]⟩ : Str)).map (·.length)).sum) = 2 * x.length := by
      rw [← every_len, every, join0_len]
    rw [h0]
    have : (Str.ofString "").length = 0 := by decide +kernel
    rw [this]; omega
  · intro _; rfl
  · rfl
theorem word_spec (g : Gd w mg mb A FP s₀ 3) (h0 : 0 ≤ a) (h1 : a < 4) : CallTo prog w A FP s₀ (.ref 101) [.int a, .int n] (.str (wordS a n)) := by
  refine callTo_def (body := bodyK 101) (fnAt_word g.S) (g.room.le (by decide)) g.fp ["name", "n"] ?_ (fun vs h => by match vs, h with | [v, v'], _ => rfl) rfl
  intro s st FP' n' hf b
  have l0 := nmS_len a
  refine run_assign b (fun t f => ev_itemL (names_at ((g.body st b f).le (by decide)) (f.cx b)) (ev_name (f.cx b) f.sees rfl) h0 (Int.lt_trans h1 (by decide)) (get_nm h0 h1)) ?_ (.inl rfl)
  have three := fm1 n 3
  have zero := fm0 n 3
  by_cases h : n.fmod 3 = 0
  · refine run_ifT (fun t f => tst_eq (f.cx b) (ev_modI (ev_name (f.cx b) f.sees rfl) ev_int) ev_int rfl rfl (by rw [h]; rfl)) (run_ret fun t f => ?_) []
    rw [wordS, if_pos h]
    exact call_at (g.body st b f).S (f.cx b) (evAll_cons (ev_name (f.cx b) f.sees rfl) (evAll_cons (ev_name (f.cx b) f.sees rfl) evAll_nil)) (quoted_spec (g.body st b f) (by omega))
  · have he : PyData.eqv (.int (n.fmod 3)) (.int 0) = false := by
      show decide (n.fmod 3 = 0) = false
      simp [h]
    refine run_ifF (fun t f => tst_eq (f.cx b) (ev_modI (ev_name (f.cx b) f.sees rfl) ev_int) ev_int rfl rfl he) ?_
    refine run_assign b (fun t f => every_ev (f.cx b) f.sees (ev_name (f.cx b) f.sees rfl) (by omega) rfl) ?_ (.inl rfl)
    refine run_assign b (fun t f => ev_itemL (ds := barS.map .str) (ev_list (f.cx b) (evAll_cons ev_str (evAll_cons ev_str (evAll_cons ev_str (evAll_cons ev_str evAll_nil)))) (by decide)) (ev_name (f.cx b) f.sees rfl) h0 (Int.lt_trans h1 (by decide)) (get_strs (by show a.toNat < 4; omega))) ?_ (.inl rfl)
    refine run_ret fun t f => ?_
    have c := f.cx b
    have z := f.sees
    rw [wordS, if_neg h]
    refine ev_addS (ev_itemL (ds := [every (nmS a), barS.getD a.toNat default].map .str) (ev_list c (evAll_cons (ev_name c z rfl) (evAll_cons (ev_name c z rfl) evAll_nil)) two_le) (ev_subI (ev_modI (ev_name c z rfl) ev_int) ev_int) (by omega) (by omega) (get_strs (by show (n.fmod 3 - 1).toNat < 2; omega)))
      (ev_itemL (ds := sepw.map .str) (ev_list c (evAll_cons ev_str (evAll_cons ev_str (evAll_cons ev_str evAll_nil))) (by decide)) (ev_modI (ev_divI (ev_name c z rfl) ev_int) ev_int) (fm0 _ _) (Int.lt_trans (fm1 _ _) (by decide)) (get_strs (fmN _ _ 3 rfl))) ?_
    have := wordS_len a n
    rw [wordS, if_neg h, app_len] at this
    exact Nat.le_trans this (by decide)
end
end Mine
end
section
open PySem PySem.W PyProof.Rows PySem.Calls PySem.Spec PySem.SeqAt
set_option linter.unusedVariables false
set_option maxRecDepth 100000
namespace Mine
noncomputable def joined (F : Int × Int → Str) (n : Int) : Str := Txt.join (S "") ((drawn n).map F)
noncomputable def toldS : Int → Str := joined fun q => quoted (nmS q.1) q.2
noncomputable def sentS : Int → Str := joined fun q => quoted (esc (nmS q.1)) q.2
noncomputable def textS : Int → Str := joined fun q => wordS q.1 q.2
noncomputable def valueS (n m : Int) : Str × Str :=
  if m = 1 then (Txt.strip (S "'=' " ++ sentS n), Txt.strip (S "'=' " ++ toldS n))
  else if m = 2 then (sentS n ++ S "'='", toldS n ++ S "'='")
  else (S "\"" ++ [esc (textS n), every (textS n)].getD ((n.fdiv 3888).fmod 2).toNat default ++ S "\"", textS n)
noncomputable def onP (F : Int × Int → PyData) : PyData × PyData → PyData := fun q => match q with
  | (.int a, .int b) => F (a, b)
  | _ => .none
theorem sum_le {l : List Nat} {b : Nat} (h : ∀ x ∈ l, x ≤ b) : l.sum ≤ l.length * b := by
  induction l with
  | nil => simp
  | cons a r ih =>
    have h1 := h a (.head _)
    have h2 := ih fun x hx => h x (.tail _ hx)
    rw [List.sum_cons, List.length_cons, Nat.add_mul]; omega
theorem joined_len {F : Int × Int → Str} {b : Nat} (n : Int) (h : ∀ q, (F q).length ≤ b) : (joined F n).length ≤ 2 * b := by
  unfold joined
  rw [join0_len]
  refine Nat.le_trans (sum_le (b := b) ?_) ?_
  · intro x hx
    rw [List.map_map] at hx
    obtain ⟨q, _, rfl⟩ := List.mem_map.mp hx
    exact h q
  · rw [List.length_map, List.length_map]
    exact Nat.mul_le_mul_right _ (drawn_len n)
theorem told_len (n : Int) : (toldS n).length ≤ 40 := Nat.le_trans (joined_len (b := 20) n fun q => by have := quoted_len (nmS q.1) q.2; have := nmS_len q.1; omega) (by decide)
theorem sent_len (n : Int) : (sentS n).length ≤ 60 := Nat.le_trans (joined_len (b := 30) n fun q => by have := quoted_len (esc (nmS q.1)) q.2; have := esc_len (nmS q.1); have := nmS_len q.1; omega) (by decide)
theorem text_len (n : Int) : (textS n).length ≤ 30 := Nat.le_trans (joined_len (b := 15) n fun q => wordS_len q.1 q.2) (by decide)
section
variable {w : World} {mg mb : Str → Option Value} {A : Around} {FP FP' : Addr → Prop} {s₀ s : Shared} {k k' : Nat} {env : Env} {ρ : Str → Option PyData} {σ : Str → Option Value} {x y z : Str} {p1 p2 p pos : Pos} {n m a : Int} {h : Heap}
/-- names that a block sees in the cells around it -/
noncomputable abbrev Vis (env : Env) (scope : Scope) (cl : List (Str × Addr)) (vis : List Str) : Prop :=
  ∀ y ∈ vis, env.kindOf y ≠ some .local ∧ cl.lookup y = env.cells.lookup y ∧ ((relabel scope env).names.lookup y = some .cell ∨ (relabel scope env).names.lookup y = some .free)
theorem vis_nil {scope : Scope} {cl : List (Str × Addr)} : Vis env scope cl [] := fun _ h => nomatch h
theorem vis_cons {scope : Scope} {cl : List (Str × Addr)} {vis : List Str} (t : Vis env scope cl vis) (h1 : env.kindOf y = some .cell := by rfl) (h2 : cl.lookup y = env.cells.lookup y := by rfl) (h3 : (relabel scope env).names.lookup y = some .cell := by rfl) : Vis env scope cl (y :: vis) := fun y' hy => by
  rcases List.mem_cons.mp hy with rfl | hy
  · exact ⟨by rw [h1]; simp, h2, .inl h3⟩
  · exact t y' hy
theorem fnAt_value (S : Stat w mg mb h) : FnAt h 113 (fdK 113) := fnAt (c := 112) S rfl rfl rfl rfl rfl rfl
theorem drawn_at {e : Expr} (g : Gd w mg mb A FP s₀ 1) (c : Cx A env FP s₀) (he : Ev prog w A env FP s₀ e (.int n)) (hk : env.kindOf "_law_drawn" = some .globalImplicit := by rfl) (hg : env.globals = mainGlobals := by rfl)
    (hs : ∀ r, starEach (e :: r) env = (false, eval e env) :: starEach r env := by intro _; rfl) :
    Ev prog w A env FP s₀ (.Call (.Name "_law_drawn" p) [e] [] pos) (.list (((drawn n).map fun q => (PyData.int q.1, PyData.int q.2)).map fun q => .tuple [q.1, q.2])) := by
  have h := drawn_spec g (n := n)
  have e1 : ((drawn n).map fun q => (PyData.int q.1, PyData.int q.2)).map (fun q => PyData.tuple [q.1, q.2]) = (drawn n).map fun q => .tuple [.int q.1, .int q.2] := by rw [List.map_map]; rfl
  rw [e1]
  exact call_at g.S c (evAll_cons he evAll_nil hs) h rfl hk hg ⟨_, _, rfl, rfl⟩ (by rw [hs]; rfl) (by decide)
theorem joined_ev {elt e : Expr} {scope : Scope} {cl : List (Str × Addr)} {p0 p3 p5 p6 p7 p8 p9 p10 : Pos} {k5 kt : Nat} {F : Int × Int → Str} (g : Gd w mg mb A FP s₀ 1) (c : Cx A env FP s₀) (z : Sees env FP s₀.heap ρ) (he : Ev prog w A env FP s₀ e (.int n)) (vis : List Str)
    (hclos : closureFor scope env = pure cl)
    (hvis : ∀ y ∈ vis, env.kindOf y ≠ some .local ∧ cl.lookup y = env.cells.lookup y ∧ ((relabel scope env).names.lookup y = some .cell ∨ (relabel scope env).names.lookup y = some .free))
    (hF : ∀ q, (F q).length ≤ 100)
    (elts : ∀ q, 0 ≤ q.1 → q.1 < 4 → ∀ C FP' s', Stp s₀ s' → (∀ b, b < s₀.heap.objs.size → FP b → FP' b) → Cx A (compEnvC scope cl C env) FP' s' → Sees (compEnvC scope cl C env) FP' s'.heap (rhoC vis ρ [("name", .int q.1), ("way", .int q.2)]) → Ev prog w A (compEnvC scope cl C env) FP' s' elt (.str (F q)))
    (hcell : ∀ y ∈ scope.names, y.2 ≠ .cell := by decide) (hkind : scope.kind = .function := by rfl) (hnames : ∀ y ∈ scope.names, y.2 = .local → scope.names.lookup y.1 = some .local := by decide)
    (hx : scope.names.lookup (Str.ofString "name") = some .local := by rfl) (hy : scope.names.lookup (Str.ofString "way") = some .local := by rfl) 
    (hk : env.kindOf "_law_drawn" = some .globalImplicit := by rfl) (hg : env.globals = mainGlobals := by rfl)
    (hs : ∀ r, starEach (e :: r) env = (false, eval e env) :: starEach r env := by intro _; rfl)
    (hline : (p0.endLine == p3.line) = true := by rfl) :
    Ev prog w A env FP s₀ (.Call (.Attribute (.Constant (.str (Str.ofString "")) k5 p5) "join" p0) [.ListComp elt [⟨.Tuple [.Name "name" p6, .Name "way" p7] kt p8, .Call (.Name "_law_drawn" p9) [e] [] p10, [], 0⟩] scope p1] [] p3) (.str (joined F n)) := by
  have e1 : ((drawn n).map fun q => (PyData.int q.1, PyData.int q.2)).map (onP fun q => .str (F q)) = ((drawn n).map F).map .str := by rw [List.map_map, List.map_map]; rfl
  have hl := joined_len n hF
  refine ev_join (ys := (drawn n).map F) ev_str ?_ ?_ ?_ ?_ hline
  · rw [← e1]
    refine ev_map2 c z (iter_list c (drawn_at g c he hk hg hs)) (by simpa using Nat.le_trans (drawn_len n) two_le) vis _ hclos hvis ?_ (by decide) hcell hkind hnames hx hy (by intro _; rfl)
    intro i q hq C FP' s' st hf cx zz
    obtain ⟨r, hr, rfl⟩ := get_map hq
    have hn := drawn_name (List.mem_of_getElem? hr)
    exact elts r hn.1 hn.2 C FP' s' st hf cx zz
  · have h0 : (((drawn n).map F).map (·.length)).sum ≤ 200 := by
      rw [← join0_len]; exact hl
    have : (Str.ofString "").length = 0 := by decide +kernel
    rw [this]; omega
  · intro _; rfl
  · rfl
set_option maxHeartbeats 2000000 in
theorem value_spec (g : Gd w mg mb A FP s₀ 4) : CallTo prog w A FP s₀ (.ref 113) [.int n, .int m] (.tuple [.str (valueS n m).1, .str (valueS n m).2]) := by
  refine callTo_def (body := bodyK 113) (fnAt_value g.S) (g.room.le (by decide)) g.fp ["n", "manner"] ?_ (fun vs h => by match vs, h with | [v, v'], _ => rfl) rfl
  intro s st FP' n' hf b
  have l1 := told_len n
  have l2 := sent_len n
  have l3 := text_len n
  refine run_assign b (fun t f => names_at ((g.body st b f).le (by decide)) (f.cx b)) ?_ (.inr ⟨rfl, rfl⟩)
  refine run_assign b (d1 := .str (toldS n)) (fun t f => ?_) ?_ (.inl rfl)
  · refine joined_ev ((g.body st b f).le (by decide)) (f.cx b) f.sees (ev_name (f.cx b) f.sees rfl) ["names"] rfl (vis_cons vis_nil) (fun q => by have := quoted_len (nmS q.1) q.2; have := nmS_len q.1; omega) ?_
    · intro q q0 q1 C FP2 s2 st2 hf2 cx zz
      have g2 := (g.body st b f).comp st2 cx
      have := nmS_len q.1
      exact call_at g2.S cx (evAll_cons (ev_itemL (ev_name cx zz rfl) (ev_name cx zz rfl) q0 (Int.lt_trans q1 (by decide)) (get_nm q0 q1)) (evAll_cons (ev_name cx zz rfl) evAll_nil)) (quoted_spec (g2.le (by decide)) (by omega))
  refine run_assign b (d1 := .str (sentS n)) (fun t f => ?_) ?_ (.inl rfl)
  · refine joined_ev ((g.body st b f).le (by decide)) (f.cx b) f.sees (ev_name (f.cx b) f.sees rfl) ["names"] rfl (vis_cons vis_nil) (fun q => by have := quoted_len (esc (nmS q.1)) q.2; have := esc_len (nmS q.1); have := nmS_len q.1; omega) ?_
    · intro q q0 q1 C FP2 s2 st2 hf2 cx zz
      have g2 := (g.body st b f).comp st2 cx
      have := nmS_len q.1
      have := esc_len (nmS q.1)
      exact call_at g2.S cx (evAll_cons (call_at g2.S cx (evAll_cons (ev_itemL (ev_name cx zz rfl) (ev_name cx zz rfl) q0 (Int.lt_trans q1 (by decide)) (get_nm q0 q1)) evAll_nil) (escaped_spec (g2.le (by decide)) (by omega))) (evAll_cons (ev_name cx zz rfl) evAll_nil)) (quoted_spec (g2.le (by decide)) (by omega))
  have q1 : (Str.ofString "'=' ").length = 4 := by decide +kernel
  have q2 : (Str.ofString "'='").length = 3 := by decide +kernel
  have q3 : (Str.ofString "\"").length = 1 := by decide +kernel
  by_cases h1 : m = 1
  · refine run_ifT (fun t f => tst_eq (f.cx b) (ev_name (f.cx b) f.sees rfl) ev_int rfl rfl (by rw [h1]; rfl)) (run_ret fun t f => ?_) []
    have c := f.cx b
    have z := f.sees
    rw [valueS, if_pos h1]
    refine ev_tuple (evAll_cons (ev_strip (ev_addS ev_str (ev_name c z rfl) ?_) ?_) (evAll_cons (ev_strip (ev_addS ev_str (ev_name c z rfl) ?_) ?_) evAll_nil)) two_le
    · rw [q1, sizeLine_eq]; omega
    · rw [app_len, q1, sizeLine_eq]; omega
    · rw [q1, sizeLine_eq]; omega
    · rw [app_len, q1, sizeLine_eq]; omega
  · refine run_ifF (fun t f => tst_eq (f.cx b) (ev_name (f.cx b) f.sees rfl) ev_int rfl rfl (by show decide (m = 1) = false; simp [h1])) ?_
    by_cases h2 : m = 2
    · refine run_ifT (fun t f => tst_eq (f.cx b) (ev_name (f.cx b) f.sees rfl) ev_int rfl rfl (by rw [h2]; rfl)) (run_ret fun t f => ?_) []
      have c := f.cx b
      have z := f.sees
      rw [valueS, if_neg h1, if_pos h2]
      refine ev_tuple (evAll_cons (ev_addS (ev_name c z rfl) ev_str ?_) (evAll_cons (ev_addS (ev_name c z rfl) ev_str ?_) evAll_nil)) two_le
      · rw [q2, sizeLine_eq]; omega
      · rw [q2, sizeLine_eq]; omega
    · refine run_ifF (fun t f => tst_eq (f.cx b) (ev_name (f.cx b) f.sees rfl) ev_int rfl rfl (by show decide (m = 2) = false; simp [h2])) ?_
      refine run_assign b (d1 := .str (textS n)) (fun t f => ?_) ?_ (.inl rfl)
      · refine joined_ev ((g.body st b f).le (by decide)) (f.cx b) f.sees (ev_name (f.cx b) f.sees rfl) [] rfl vis_nil (fun q => Nat.le_trans (wordS_len q.1 q.2) (by decide)) ?_
        intro q q0 q1 C FP2 s2 st2 hf2 cx zz
        have g2 := (g.body st b f).comp st2 cx
        exact call_at g2.S cx (evAll_cons (ev_name cx zz rfl) (evAll_cons (ev_name cx zz rfl) evAll_nil)) (word_spec (g2.le (by decide)) q0 q1)
      refine run_assign b (fun t f => every_ev (f.cx b) f.sees (ev_name (f.cx b) f.sees rfl) (by omega) rfl) ?_ (.inl rfl)
      refine run_ret fun t f => ?_
      have c := f.cx b
      have z := f.sees
      have g2 := g.body st b f
      rw [valueS, if_neg h1, if_neg h2]
      have l4 : ([esc (textS n), every (textS n)].getD ((n.fdiv 3888).fmod 2).toNat default).length ≤ 60 := by
        have h1 := esc_len (textS n)
        have h2 := every_len (textS n)
        match ((n.fdiv 3888).fmod 2).toNat with
        | 0 => show (esc (textS n)).length ≤ 60; omega
        | 1 => show (every (textS n)).length ≤ 60; omega
        | _ + 2 => exact Nat.zero_le _
      refine ev_tuple (evAll_cons (ev_addS (ev_addS ev_str (ev_itemL (ds := [esc (textS n), every (textS n)].map .str) (ev_list c (evAll_cons (call_at g2.S c (evAll_cons (ev_name c z rfl) evAll_nil) (escaped_spec (g2.le (by decide)) (by omega))) (evAll_cons (ev_name c z rfl) evAll_nil)) two_le)
        (ev_modI (ev_divI (ev_name c z rfl) ev_int) ev_int) (fm0 _ _) (Int.lt_trans (fm1 _ _) (by decide)) (get_strs (fmN _ _ 2 rfl))) ?_) ev_str ?_) (evAll_cons (ev_name c z rfl) evAll_nil)) two_le
      · rw [q3, sizeLine_eq]; omega
      · rw [app_len, q3, sizeLine_eq]; omega
end
end Mine
end
section
open PySem PySem.W PyProof.Rows PySem.Calls PySem.Spec PySem.SeqAt
open Builtin Builtin.Str
set_option linter.unusedVariables false
namespace Mine
noncomputable abbrev sp : Nat → Bool := Unicode.isSpace
noncomputable def rtrim (l : List Nat) : List Nat := (l.reverse.dropWhile sp).reverse
noncomputable def stripL (l : List Nat) : List Nat := rtrim (l.dropWhile sp)
theorem drop_tw (l : List Nat) (p : Nat → Bool) : l.drop (l.takeWhile p).length = l.dropWhile p := by
  induction l with
  | nil => rfl
  | cons a r ih =>
    rw [List.takeWhile_cons, List.dropWhile_cons]
    split
    · simpa using ih
    · rfl
theorem take_tw (l : List Nat) (p : Nat → Bool) : l.take (l.length - (l.reverse.takeWhile p).length) = (l.reverse.dropWhile p).reverse := by
  have h := drop_tw l.reverse p
  rw [← h, List.drop_reverse, List.reverse_reverse]
theorem strip_ls (x : Str) : ls (Txt.strip x) = stripL (ls x) := by
  have key : ls (PySem.W.stripped sp true true x) = stripL (ls x) := by
    show ls (strSub x (stripLo sp true x) (stripHi sp true x (stripLo sp true x))) = _
    show (strSub x _ _).cps.toList = _
    rw [StrLaws.strSub_toList]
    simp only [stripLo, stripHi, if_true]
    have e : x.length = x.cps.toList.length := by simp [Str.length]
    rw [e]
    have hd := drop_tw x.cps.toList sp
    have hl : x.cps.toList.length - ((x.cps.toList.drop (x.cps.toList.takeWhile sp).length).reverse.takeWhile sp).length - (x.cps.toList.takeWhile sp).length
        = (x.cps.toList.dropWhile sp).length - ((x.cps.toList.dropWhile sp).reverse.takeWhile sp).length := by
      rw [hd]
      have h1 : (x.cps.toList.dropWhile sp).length = x.cps.toList.length - (x.cps.toList.takeWhile sp).length := by rw [← hd, List.length_drop]
      omega
    rw [hl, hd, take_tw]
    rfl
  rw [Txt.strip, W.stripBy_eq, key]
theorem rtrim_len (l : List Nat) : (rtrim l).length ≤ l.length := by
  unfold rtrim
  rw [List.length_reverse]
  refine Nat.le_trans (List.Sublist.length_le (List.dropWhile_sublist _)) ?_
  rw [List.length_reverse]; exact Nat.le_refl _
theorem stripL_len (l : List Nat) : (stripL l).length ≤ l.length := Nat.le_trans (rtrim_len _) (List.Sublist.length_le (List.dropWhile_sublist _))
theorem strip_len (x : Str) : (Txt.strip x).length ≤ x.length := by rw [len_ls, strip_ls, len_ls x]; exact stripL_len _
theorem join_len (sep : Str) : ∀ ys : List Str, (Txt.join sep ys).length ≤ (ys.map (·.length)).sum + ys.length * sep.length := fun ys => by
  rw [join_eq]
  induction ys with
  | nil => exact Nat.zero_le _
  | cons x r ih =>
    cases r with
    | nil => show x.length ≤ _; simp
    | cons y r =>
      show (x ++ sep ++ Str.join sep (y :: r)).length ≤ _
      rw [app_len, app_len, List.map_cons, List.sum_cons, List.length_cons (a := x), Nat.add_mul]
      omega
end Mine
end
section
open PySem PySem.W PyProof.Rows PySem.Calls PySem.Spec PySem.SeqAt
set_option linter.unusedVariables false
set_option maxRecDepth 100000
namespace Mine
theorem value_len1 (n m : Int) : (valueS n m).1.length ≤ 100 := by
  have h1 := sent_len n
  have h2 := text_len n
  have h3 := esc_len (textS n)
  have h4 := every_len (textS n)
  have q1 : (S "'=' ").length = 4 := by decide +kernel
  have q2 : (S "'='").length = 3 := by decide +kernel
  have q3 : (S "\"").length = 1 := by decide +kernel
  unfold valueS
  split
  · refine Nat.le_trans (strip_len _) ?_
    rw [app_len, q1]; omega
  · split
    · show (sentS n ++ S "'='").length ≤ 100
      rw [app_len, q2]; omega
    · show (S "\"" ++ _ ++ S "\"").length ≤ 100
      rw [app_len, app_len, q3]
      have : ([esc (textS n), every (textS n)].getD ((n.fdiv 3888).fmod 2).toNat default).length ≤ 60 := by
        match ((n.fdiv 3888).fmod 2).toNat with
        | 0 => show (esc (textS n)).length ≤ 60; omega
        | 1 => show (every (textS n)).length ≤ 60; omega
        | _ + 2 => exact Nat.zero_le _
      omega
/-- the v-th value -/
noncomputable def valAt (ns ms : List Int) (v : Int) : Str × Str := valueS (ns.getD v.toNat 0) (ms.getD v.toNat 0)
noncomputable def firstOf (head : Int) : Int := (head.fdiv 30).fmod 3
noncomputable def orderOf (head : Int) : List Int := (List.range 3).map fun (t : Nat) => (head.fdiv 90 + (t : Int)).fmod 3
noncomputable def itemsOf (head : Int) (ns ms : List Int) : List Str := [nmS (firstOf head) ++ S "=z"] ++ (orderOf head).map fun v => nmS v ++ S "=" ++ (valAt ns ms v).1
noncomputable def dueOf (head : Int) (ns ms : List Int) : List (Str × Str) := ([firstOf head] ++ (orderOf head).filter fun v => decide (v ≠ firstOf head)).map fun v => (nmS v, (valAt ns ms v).2)
noncomputable def seph : List Str := [S ",", S " ,\t", S "\n, "]
noncomputable def headerOf (head : Int) (ns ms : List Int) : Str := Txt.join (seph.getD ((head.fdiv 270).fmod 3).toNat default) (itemsOf head ns ms)
noncomputable def pairs (l : List (Str × Str)) : PyData := .list (l.map fun q => .tuple [.str q.1, .str q.2])
theorem first_lt (head : Int) : 0 ≤ firstOf head ∧ firstOf head < 3 := ⟨fm0 _ _, fm1 _ _⟩
theorem order_lt {head v : Int} (h : v ∈ orderOf head) : 0 ≤ v ∧ v < 3 := by
  obtain ⟨t, _, rfl⟩ := List.mem_map.mp h
  exact ⟨fm0 _ _, fm1 _ _⟩
theorem order_len (head : Int) : (orderOf head).length = 3 := by simp [orderOf]
theorem get_ints {l : List Int} {v : Int} (h0 : 0 ≤ v) (h1 : v < l.length) : (l.map PyData.int)[v.toNat]? = some (.int (l.getD v.toNat 0)) := by
  rw [List.getElem?_map, List.getD_eq_getElem?_getD]
  have : v.toNat < l.length := by omega
  simp [this]
theorem seph_len (i : Nat) : (seph.getD i default).length ≤ 3 := by
  match i with
  | 0 | 1 | 2 => decide +kernel
  | n + 3 => exact Nat.zero_le _
theorem items_len (head : Int) (ns ms : List Int) : ((itemsOf head ns ms).map (·.length)).sum + (itemsOf head ns ms).length * 3 ≤ 1000 := by
  have q1 : (S "=z").length = 2 := by decide +kernel
  have q2 : (S "=").length = 1 := by decide +kernel
  have h0 := nmS_len (firstOf head)
  have hl : ((orderOf head).map fun v => nmS v ++ S "=" ++ (valAt ns ms v).1).length = 3 := by rw [List.length_map, order_len]
  have hs : ((((orderOf head).map fun v => nmS v ++ S "=" ++ (valAt ns ms v).1).map (·.length))).sum ≤ 3 * 110 := by
    refine Nat.le_trans (sum_le (b := 110) ?_) (by rw [List.length_map, hl]; exact Nat.le_refl _)
    intro x hx
    rw [List.map_map] at hx
    obtain ⟨v, _, rfl⟩ := List.mem_map.mp hx
    have h1 := nmS_len v
    have h2 := value_len1 (ns.getD v.toNat 0) (ms.getD v.toNat 0)
    show (nmS v ++ S "=" ++ (valAt ns ms v).1).length ≤ 110
    rw [app_len, app_len, q2]
    unfold valAt; omega
  unfold itemsOf
  rw [List.map_append, List.sum_append, List.length_append, hl]
  have : ([nmS (firstOf head) ++ S "=z"].map (·.length)).sum = (nmS (firstOf head)).length + 2 := by
    show (nmS (firstOf head) ++ S "=z").length + 0 = _
    rw [app_len, q1]
  rw [this]
  show _ + (1 + 3) * 3 ≤ 1000
  omega
theorem header_len (head : Int) (ns ms : List Int) : (headerOf head ns ms).length ≤ 1000 := by
  refine Nat.le_trans (join_len _ _) (Nat.le_trans ?_ (items_len head ns ms))
  have := Nat.mul_le_mul_left (itemsOf head ns ms).length (seph_len ((head.fdiv 270).fmod 3).toNat)
  omega
section
variable {w : World} {mg mb : Str → Option Value} {A : Around} {FP FP' : Addr → Prop} {s₀ s : Shared} {k k' : Nat} {env : Env} {ρ : Str → Option PyData} {σ : Str → Option Value} {x y z : Str} {p1 p2 p pos : Pos} {n m a head : Int} {h : Heap} {ns ms : List Int}
theorem fnAt_header (S : Stat w mg mb h) : FnAt h 118 (fdK 118) := fnAt (c := 117) S rfl rfl rfl rfl rfl rfl
theorem range3 {kc : Nat} (S : Stat w mg mb s₀.heap) (c : Cx A env FP s₀) (n : Nat) (hn : (n : Int) < 2 ^ 62) (hk : env.kindOf "range" = some .globalImplicit := by rfl) (hg : env.globals = mainGlobals := by rfl) (hb : env.builtins = builtinsNs := by rfl) :
    IterOf prog w A env FP s₀ (.Call (.Name "range" p) [.Constant (.int n) kc p1] [] pos) ((List.range n).map fun i : Nat => PyData.int (i : Int)) :=
  iter_range c (gl_bi S rfl rfl (by decide) hk hg hb) ev_int hn
theorem three_le : 3 ≤ sizeLine := by decide
set_option maxHeartbeats 1000000 in
theorem header_spec (g : Gd w mg mb A FP s₀ 5) (hn : ns.length = 3) (hm : ms.length = 3) :
    CallTo prog w A FP s₀ (.ref 118) [.int head, .list (ns.map .int), .list (ms.map .int)] (.tuple [.str (headerOf head ns ms), pairs (dueOf head ns ms)]) := by
  refine callTo_def (body := bodyK 118) (fnAt_header g.S) (g.room.le (by decide)) g.fp ["head", "numbers", "manners"] ?_ (fun vs h => by match vs, h with | [v, v', v''], _ => rfl) rfl
  intro s st FP' n' hf b
  have q1 : (S "=z").length = 2 := by decide +kernel
  have q2 : (S "=").length = 1 := by decide +kernel
  refine run_assign b (fun t f => names_at ((g.body st b f).le (by decide)) (f.cx b)) ?_ (.inr ⟨rfl, rfl⟩)
  refine run_assign b (d1 := .int (firstOf head)) (fun t f => ev_modI (ev_divI (ev_name (f.cx b) f.sees rfl) ev_int) ev_int) ?_ (.inr ⟨rfl, rfl⟩)
  have hr3 : ∀ {i : Nat} {v : Nat}, (List.range 3)[i]? = some v → v < 3 := fun {i v} h => by
    have := List.mem_of_getElem? h
    simpa using this
  refine run_assign b (d1 := .list ((List.range 3).map fun (v : Nat) => .tuple [.str (valAt ns ms v).1, .str (valAt ns ms v).2])) (fun t f => ?_) ?_ (.inr ⟨rfl, rfl⟩)
  · have e : ((List.range 3).map fun (v : Nat) => PyData.tuple [.str (valAt ns ms v).1, .str (valAt ns ms v).2]) = ((List.range 3).map fun i : Nat => PyData.int (i : Int)).map (onI fun v => .tuple [.str (valAt ns ms v).1, .str (valAt ns ms v).2]) := by rw [List.map_map]; rfl
    rw [e]
    refine ev_map1 (f.cx b) f.sees (range3 (g.body st b f).S (f.cx b) 3 (by decide)) (by simpa using three_le) ["numbers", "manners"] _ rfl (vis_cons (vis_cons vis_nil)) ?_
    intro i d hd C FP2 s2 st2 hf2 cx zz
    obtain ⟨v, hv, rfl⟩ := get_map hd
    have hv3 := hr3 hv
    have g2 := (g.body st b f).comp st2 cx
    exact call_at g2.S cx (evAll_cons (ev_itemL (ev_name cx zz rfl) (ev_name cx zz rfl) (by omega) (by omega) (get_ints (by omega) (by omega))) (evAll_cons (ev_itemL (ev_name cx zz rfl) (ev_name cx zz rfl) (by omega) (by omega) (get_ints (by omega) (by omega))) evAll_nil)) (value_spec (g2.le (by decide)))
  refine run_assignC b (ds := (orderOf head).map .int) (fun t f => ?_) ?_ rfl
  · have e : (orderOf head).map PyData.int = ((List.range 3).map fun i : Nat => PyData.int (i : Int)).map (onI fun v => .int ((head.fdiv 90 + v).fmod 3)) := by unfold orderOf; rw [List.map_map, List.map_map]; rfl
    rw [e]
    refine co_map1 (f.cx b) f.sees (range3 (g.body st b f).S (f.cx b) 3 (by decide)) (by simpa using three_le) ["head"] _ rfl (vis_cons vis_nil) ?_
    intro i d hd C FP2 s2 st2 hf2 cx zz
    obtain ⟨v, hv, rfl⟩ := get_map hd
    exact ev_modI (ev_addI (ev_divI (ev_name cx zz rfl) ev_int) (ev_name cx zz rfl)) ev_int
  have hval : ∀ {v : Int}, 0 ≤ v → v < 3 → ((List.range 3).map fun (v : Nat) => PyData.tuple [.str (valAt ns ms v).1, .str (valAt ns ms v).2])[v.toNat]? = some (.tuple [.str (valAt ns ms v).1, .str (valAt ns ms v).2]) := fun {v} h0 h1 => by
    have e : v = (v.toNat : Int) := by omega
    have hl : (List.range 3)[v.toNat]? = some v.toNat := by rw [List.getElem?_range]; omega
    rw [get_map' hl, ← e]
  refine run_assign b (d1 := .list ((itemsOf head ns ms).map .str)) (fun t f => ?_) ?_ (.inl rfl)
  · have e : (itemsOf head ns ms).map PyData.str = [PyData.str (nmS (firstOf head) ++ S "=z")] ++ ((orderOf head).map PyData.int).map (onI fun v => .str (nmS v ++ S "=" ++ (valAt ns ms v).1)) := by
      unfold itemsOf; rw [List.map_append, List.map_map, List.map_map]; rfl
    rw [e]
    have c := f.cx b
    have z := f.sees
    have ⟨f0, f1⟩ := first_lt head
    have l0 := nmS_len (firstOf head)
    refine ev_addL c (ev_list c (evAll_cons (ev_addS (ev_itemL (ev_name c z rfl) (ev_name c z rfl) f0 (by omega) (get_nm f0 (by omega))) ev_str ?_) evAll_nil) (by show 1 ≤ sizeLine; decide)) (ev_map1 c z (iter_list c (ev_name c z rfl)) (by rw [List.length_map, order_len]; exact three_le) ["names", "values"] _ rfl (vis_cons (vis_cons vis_nil)) ?_) ?_
    · show _ + (S "=z").length ≤ _
      rw [q1, sizeLine_eq]; omega
    · intro i d hd C FP2 s2 st2 hf2 cx zz
      obtain ⟨v, hv, rfl⟩ := get_map hd
      have ⟨v0, v1⟩ := order_lt (List.mem_of_getElem? hv)
      have l1 := nmS_len v
      have l2 := value_len1 (ns.getD v.toNat 0) (ms.getD v.toNat 0)
      refine ev_addS (ev_addS (ev_itemL (ev_name cx zz rfl) (ev_name cx zz rfl) v0 (by omega) (get_nm v0 (by omega))) ev_str ?_) (ev_itemT (ev_itemL (ev_name cx zz rfl) (ev_name cx zz rfl) v0 (by omega) (hval v0 v1)) ev_int (by decide) (by decide) rfl) ?_
      · show _ + (S "=").length ≤ _
        rw [q2, sizeLine_eq]; omega
      · show (nmS v ++ S "=").length + (valAt ns ms v).1.length ≤ _
        rw [app_len, q2, sizeLine_eq]
        unfold valAt; omega
    · rw [List.length_map, List.length_map, order_len]; show 4 ≤ sizeLine; decide
  refine run_assignC b (ds := (dueOf head ns ms).map fun q => .tuple [.str q.1, .str q.2]) (fun t f => ?_) ?_ rfl
  · have c := f.cx b
    have z := f.sees
    have e0 : ([firstOf head] ++ (orderOf head).filter fun v => decide (v ≠ firstOf head)).map PyData.int = [PyData.int (firstOf head)] ++ (((orderOf head).map PyData.int).filter fun d => match d with | .int v => decide (v ≠ firstOf head) | _ => true).map id := by
      rw [List.map_append, List.filter_map, List.map_id]; rfl
    have e : ((dueOf head ns ms).map fun q => PyData.tuple [.str q.1, .str q.2]) = (([firstOf head] ++ (orderOf head).filter fun v => decide (v ≠ firstOf head)).map PyData.int).map (onI fun v => .tuple [.str (nmS v), .str (valAt ns ms v).2]) := by
      unfold dueOf; rw [List.map_map, List.map_map]; rfl
    have hlen : (([firstOf head] ++ (orderOf head).filter fun v => decide (v ≠ firstOf head)).map PyData.int).length ≤ 4 := by
      rw [List.length_map, List.length_append]
      have := List.length_filter_le (fun v => decide (v ≠ firstOf head)) (orderOf head)
      rw [order_len] at this
      show 1 + _ ≤ 4
      omega
    rw [e]
    refine co_map1 c z (iter_list c ?_) (Nat.le_trans hlen (by decide)) ["names", "values"] _ rfl (vis_cons (vis_cons vis_nil)) ?_
    · rw [e0]
      refine ev_addL c (ev_list c (evAll_cons (ev_name c z rfl) evAll_nil) (by show 1 ≤ sizeLine; decide)) (ev_comp1 c z (iter_list c (ev_name c z rfl)) (by rw [List.length_map, order_len]; exact three_le) ["first"] _ _ rfl (vis_cons vis_nil) ?_ ?_) ?_
      · intro i d hd C FP2 s2 st2 hf2 cx zz
        obtain ⟨v, hv, rfl⟩ := get_map hd
        refine tsts_one (tst_ne cx (ev_name cx zz rfl) (ev_name cx zz rfl) rfl rfl ?_)
        show (!decide (v = firstOf head)) = decide (v ≠ firstOf head)
        by_cases h : v = firstOf head <;> simp [h]
      · intro i d hd _ C FP2 s2 st2 hf2 cx zz
        exact ev_name cx zz rfl
      · rw [← List.length_append, ← e0]; exact Nat.le_trans hlen (by decide)
    · intro i d hd C FP2 s2 st2 hf2 cx zz
      obtain ⟨v, hv, rfl⟩ := get_map hd
      have hv' : 0 ≤ v ∧ v < 3 := by
        rcases List.mem_append.mp (List.mem_of_getElem? hv) with h | h
        · rw [List.mem_singleton.mp h]; exact first_lt head
        · exact order_lt (List.mem_filter.mp h).1
      exact ev_tuple (evAll_cons (ev_itemL (ev_name cx zz rfl) (ev_name cx zz rfl) hv'.1 (by omega) (get_nm hv'.1 (by omega))) (evAll_cons (ev_itemT (ev_itemL (ev_name cx zz rfl) (ev_name cx zz rfl) hv'.1 (by omega) (hval hv'.1 hv'.2)) ev_int (by decide) (by decide) rfl) evAll_nil)) two_le
  refine run_ret fun t f => ?_
  have c := f.cx b
  have z := f.sees
  have hl := items_len head ns ms
  have hs := seph_len ((head.fdiv 270).fmod 3).toNat
  have hm := Nat.mul_le_mul_left (itemsOf head ns ms).length hs
  exact ev_tuple (evAll_cons (ev_join (ev_itemL (ds := seph.map .str) (ev_list c (evAll_cons ev_str (evAll_cons ev_str (evAll_cons ev_str evAll_nil))) (by decide)) (ev_modI (ev_divI (ev_name c z rfl) ev_int) ev_int) (fm0 _ _) (Int.lt_trans (fm1 _ _) (by decide)) (get_strs (fmN _ _ 3 rfl))) (ev_name c z rfl) (by omega)) (evAll_cons (ev_name c z rfl) evAll_nil)) two_le
end
end Mine
end
section
open PySem PySem.W PyProof.Rows PySem.Calls PySem.Spec PySem.SeqAt
set_option linter.unusedVariables false
set_option maxRecDepth 100000
namespace Mine
/-- the names that come of the name a, l rounds on -/
noncomputable def lv (R : List (List Int)) : Nat → Int → List Int
  | 0, a => [a]
  | l + 1, a => (R.getD a.toNat []).flatMap (lv R l)
noncomputable def okR (R : List (List Int)) : Prop := R.length = 4 ∧ ∀ r ∈ R, r.length ≤ 3 ∧ ∀ a ∈ r, 0 ≤ a ∧ a < 4
noncomputable def rowsD (R : List (List Int)) : PyData := .list (R.map fun r => .list (r.map .int))
theorem split_at (f : Int → List Int) : ∀ (row : List Int) (p : Nat), p < (row.flatMap f).length → ∃ k a q, row[k]? = some a ∧ q < (f a).length ∧ p = ((row.take k).map fun a => (f a).length).sum + q ∧ (row.flatMap f).getD p 0 = (f a).getD q 0
  | [], p, h => by simp at h
  | b :: r, p, h => by
    rw [List.flatMap_cons, List.length_append] at h
    by_cases hp : p < (f b).length
    · refine ⟨0, b, p, rfl, hp, by simp, ?_⟩
      rw [List.flatMap_cons, List.getD_eq_getElem?_getD, List.getElem?_append_left hp, List.getD_eq_getElem?_getD]
    · obtain ⟨k, a, q, h1, h2, h3, h4⟩ := split_at f r (p - (f b).length) (by omega)
      refine ⟨k + 1, a, q, by simpa using h1, h2, ?_, ?_⟩
      · rw [List.take_succ_cons, List.map_cons, List.sum_cons]; omega
      · rw [List.flatMap_cons, List.getD_eq_getElem?_getD, List.getElem?_append_right (by omega), ← List.getD_eq_getElem?_getD, h4]
theorem row_get {R : List (List Int)} {a : Int} (h0 : 0 ≤ a) (h1 : a < R.length) : (R.map fun r => PyData.list (r.map .int))[a.toNat]? = some (.list ((R.getD a.toNat []).map .int)) := by
  rw [List.getElem?_map, List.getD_eq_getElem?_getD]
  have : a.toNat < R.length := by omega
  simp [this]
theorem row_mem {R : List (List Int)} {a : Int} (h0 : 0 ≤ a) (h1 : a < R.length) : R.getD a.toNat [] ∈ R := by
  have : a.toNat < R.length := by omega
  rw [List.getD_eq_getElem?_getD, List.getElem?_eq_getElem this]
  exact List.getElem_mem this
section
variable {w : World} {mg mb : Str → Option Value} {A : Around} {FP FP' : Addr → Prop} {s₀ s : Shared} {k k' : Nat} {env : Env} {ρ : Str → Option PyData} {σ : Str → Option Value} {x y z : Str} {p1 p2 pos : Pos} {h : Heap} {R Z : List (List Int)}
theorem fnAt_at (S : Stat w mg mb h) : FnAt h 144 (fdK 144) := fnAt (c := 143) S rfl rfl rfl rfl rfl rfl
noncomputable def atS (R Z : List (List Int)) (a : Int) (l p : Nat) : List (Str × PyData) := [("rows", rowsD R), ("sizes", rowsD Z), ("name", .int a), ("left", .int l), ("place", .int p)]
noncomputable def atK (R Z : List (List Int)) (a : Int) (l p k : Nat) : List (Str × PyData) := [("rows", rowsD R), ("sizes", rowsD Z), ("name", .int a), ("left", .int l), ("place", .int p), ("k", .int k)]
set_option maxHeartbeats 1000000 in
theorem at_spec {a : Int} {l p : Nat} (g : Gd w mg mb A FP s₀ 1) (hR : okR R) (hZ : ∀ l < 3, ∀ a : Int, 0 ≤ a → a < 4 → ∃ z, Z[l]? = some z ∧ (z.map PyData.int)[a.toNat]? = some (.int ((lv R l a).length : Int))) (h0 : 0 ≤ a) (h1 : a < 4) (hl : l ≤ 3) (hp : p < (lv R l a).length) :
    CallTo prog w A FP s₀ (.ref 144) [rowsD R, rowsD Z, .int a, .int l, .int p] (.int ((lv R l a).getD p 0)) := by
  refine callTo_def (body := bodyK 144) (fnAt_at g.S) g.room g.fp ["rows", "sizes", "name", "left", "place"] ?_ (fun vs h => by match vs, h with | [v1, v2, v3, v4, v5], _ => rfl) rfl
  intro s st FP' n' hf b
  refine run_sub (l := atS R Z a l p) (sub_cons (sub_cons (sub_cons (sub_cons (sub_cons sub_nil))))) ?_
  refine run_while (ρ₂ := al (atS R Z ((lv R l a).getD p 0) 0 0)) (fun k ρ' => ∃ a' p', 0 ≤ a' ∧ a' < 4 ∧ k ≤ 3 ∧ p' < (lv R k a').length ∧ (lv R k a').getD p' 0 = (lv R l a).getD p 0 ∧ ρ' = al (atS R Z a' k p')) (k := l) ⟨a, p, h0, h1, hl, hp, rfl, rfl⟩ ?_ (run_ret fun t f => ev_name (f.cx b) f.sees rfl)
  rintro k ρ' ⟨a', p', h0', h1', hk3, hp', hres, rfl⟩
  cases k with
  | zero =>
    refine ⟨false, fun t f => tst_gt (ev_name (f.cx b) f.sees rfl) ev_int rfl, ?_, fun _ => ?_⟩
    · intro h; cases h
    have e : p' = 0 := by
      have : p' < 1 := hp'
      omega
    subst e
    have e2 : a' = (lv R l a).getD p 0 := hres
    rw [e2]
  | succ k =>
    refine ⟨true, fun t f => tst_gt (ev_name (f.cx b) f.sees rfl) ev_int (decide_eq_true (by omega)), fun _ => ?_, ?_⟩
    rotate_left
    · intro h; cases h
    have hrow : R.getD a'.toNat [] ∈ R := row_mem h0' (by rw [hR.1]; exact h1')
    obtain ⟨ks, c, q, e1, e2, e3, e4⟩ := split_at (lv R k) (R.getD a'.toNat []) p' hp'
    have hc := (hR.2 _ hrow).2 c (List.mem_of_getElem? e1)
    refine ⟨al (atS R Z c k q), k, Nat.lt_succ_self k, ⟨c, q, hc.1, hc.2, by omega, e2, e4 ▸ hres, rfl⟩, ?_⟩
    refine blk_assign b (d1 := .int (k : Int)) (fun t f => by
      have e : ((k + 1 : Nat) : Int) - 1 = k := by omega
      rw [← e]
      exact ev_subI (ev_name (f.cx b) f.sees rfl) ev_int) ?_ (.inl rfl)
    refine blk_assign b (fun t f => ev_int) ?_ (.inl rfl)
    refine blk_from (l := atK R Z a' k p' 0) (sub_cons (sub_cons (sub_cons (sub_cons (sub_cons (sub_cons sub_nil)))))) ?_
    have hks : ks < (R.getD a'.toNat []).length := (List.getElem?_eq_some_iff.mp e1).1
    -- the row's k-th name, and its size
    have evRow : ∀ {pp j : Nat} {cj : Int}, (R.getD a'.toNat [])[j]? = some cj → ∀ t, Fx s (callEnvC (fdK 144) s.heap.objs.size 144) FP' n' (al (atK R Z a' k pp j)) noRaw t → ∀ (q1 q2 q3 q4 q5 : Pos),
        Ev prog w (A.deeper (callEnvC (fdK 144) s.heap.objs.size 144)) (callEnvC (fdK 144) s.heap.objs.size 144) FP' t (.Subscript (.Subscript (.Name "rows" q1) (.Name "name" q2) q3) (.Name "k" q4) q5) (.int cj) := fun {pp j cj} hj t f q1 q2 q3 q4 q5 => by
      refine ev_itemL (ev_itemL (ev_name (f.cx b) f.sees rfl) (ev_name (f.cx b) f.sees rfl) h0' (by omega) (row_get h0' (by rw [hR.1]; exact h1'))) (ev_name (f.cx b) f.sees rfl) (by omega) ?_ (get_map' hj)
      have := (List.getElem?_eq_some_iff.mp hj).1
      have := (hR.2 _ hrow).1
      omega
    have evSize : ∀ {pp j : Nat} {cj : Int}, (R.getD a'.toNat [])[j]? = some cj → ∀ t, Fx s (callEnvC (fdK 144) s.heap.objs.size 144) FP' n' (al (atK R Z a' k pp j)) noRaw t → ∀ (q1 q2 q3 q4 q5 q6 q7 q8 q9 : Pos),
        Ev prog w (A.deeper (callEnvC (fdK 144) s.heap.objs.size 144)) (callEnvC (fdK 144) s.heap.objs.size 144) FP' t (.Subscript (.Subscript (.Name "sizes" q6) (.Name "left" q7) q8) (.Subscript (.Subscript (.Name "rows" q1) (.Name "name" q2) q3) (.Name "k" q4) q5) q9) (.int ((lv R k cj).length : Int)) := fun {pp j cj} hj t f q1 q2 q3 q4 q5 q6 q7 q8 q9 => by
      have hcj := (hR.2 _ hrow).2 cj (List.mem_of_getElem? hj)
      obtain ⟨zr, hz1, hz2⟩ := hZ k (by omega) cj hcj.1 hcj.2
      exact ev_itemL (ds := zr.map .int) (ev_itemL (ev_name (f.cx b) f.sees rfl) (ev_name (f.cx b) f.sees rfl) (by omega) (by omega) (get_map' (g := fun r : List Int => PyData.list (r.map .int)) hz1)) (evRow hj t f q1 q2 q3 q4 q5) hcj.1 (by omega) hz2
    refine blk_while (ρ₂ := al (atK R Z a' k q ks)) (fun m ρ' => ∃ j pp, j ≤ ks ∧ m = ks - j ∧ pp = ((((R.getD a'.toNat []).drop j).take (ks - j)).map fun a => (lv R k a).length).sum + q ∧ ρ' = al (atK R Z a' k pp j)) (k := ks) ⟨0, p', Nat.zero_le _, rfl, by simpa using e3, rfl⟩ ?_ ?_
    · rintro m ρ' ⟨j, pp, hj, rfl, hpp, rfl⟩
      by_cases hjk : j < ks
      · have hjl : j < (R.getD a'.toNat []).length := Nat.lt_trans hjk hks
        have hgj : (R.getD a'.toNat [])[j]? = some ((R.getD a'.toNat [])[j]) := List.getElem?_eq_getElem hjl
        have hsum : pp = (lv R k ((R.getD a'.toNat [])[j])).length + (((((R.getD a'.toNat []).drop (j + 1)).take (ks - (j + 1))).map fun a => (lv R k a).length).sum + q) := by
          rw [hpp, List.drop_eq_getElem_cons hjl]
          have : ks - j = (ks - (j + 1)) + 1 := by omega
          rw [this, List.take_succ_cons, List.map_cons, List.sum_cons]; omega
        refine ⟨true, fun t f => tst_ge (ev_name (f.cx b) f.sees rfl) (evSize hgj t f _ _ _ _ _ _ _ _ _) (decide_eq_true (by omega)), fun _ => ?_, ?_⟩
        rotate_left
        · intro h; cases h
        refine ⟨al (atK R Z a' k (((((R.getD a'.toNat []).drop (j + 1)).take (ks - (j + 1))).map fun a => (lv R k a).length).sum + q) (j + 1)), ks - (j + 1), by omega, ⟨j + 1, _, hjk, rfl, rfl, rfl⟩, ?_⟩
        refine blk_assign b (d1 := .int ((((((R.getD a'.toNat []).drop (j + 1)).take (ks - (j + 1))).map fun a => (lv R k a).length).sum + q : Nat) : Int)) (fun t f => ?_) ?_ (.inl rfl)
        · have e : ((((((R.getD a'.toNat []).drop (j + 1)).take (ks - (j + 1))).map fun a => (lv R k a).length).sum + q : Nat) : Int) = (pp : Int) - ((lv R k ((R.getD a'.toNat [])[j])).length : Int) := by omega
          rw [e]
          exact ev_subI (ev_name (f.cx b) f.sees rfl) (evSize hgj t f _ _ _ _ _ _ _ _ _)
        refine blk_assign b (d1 := .int ((j + 1 : Nat) : Int)) (fun t f => ?_) ?_ (.inl rfl)
        · rw [show ((j + 1 : Nat) : Int) = (j : Int) + 1 by omega]
          exact ev_addI (ev_name (f.cx b) f.sees rfl) ev_int
        exact blk_sub (sub_cons (sub_cons (sub_cons (sub_cons (sub_cons (sub_cons sub_nil))))))
      · have e : j = ks := by omega
        subst e
        have : pp = q := by rw [hpp, Nat.sub_self, List.take_zero]; simp
        subst this
        refine ⟨false, fun t f => tst_ge (ev_name (f.cx b) f.sees rfl) (evSize e1 t f _ _ _ _ _ _ _ _ _) (decide_eq_false (by omega)), ?_, fun _ => rfl⟩
        intro h; cases h
    · refine blk_assign b (fun t f => evRow e1 t f _ _ _ _ _) ?_ (.inl rfl)
      exact blk_sub (sub_cons (sub_cons (sub_cons (sub_cons (sub_cons sub_nil)))))
end
end Mine
end
section
open PySem PySem.W PyProof.Rows PySem.Calls PySem.Spec PySem.SeqAt
set_option linter.unusedVariables false
set_option maxRecDepth 100000
namespace Mine
/-- the splitter's state -/
structure HS where
  out : List (List Nat)
  part : List Nat
  esc : Bool
  quote : Bool
noncomputable def hstep (st : HS) (c : Nat) : HS :=
  if st.esc = true then { st with part := st.part ++ [c], esc := false }
  else if st.quote = true then
    if c = 92 then { st with esc := true } else if c = 34 then { st with quote := false, part := st.part ++ [c] } else { st with part := st.part ++ [c] }
  else if c = 44 then { st with out := st.out ++ [st.part], part := [] }
  else if c = 34 then { st with quote := true, part := st.part ++ [c] }
  else { st with part := st.part ++ [c] }
noncomputable def hrun (l : List Nat) : HS := l.foldl hstep ⟨[], [], false, false⟩
noncomputable def hend (st : HS) : List (List Nat) := if st.part.length ≠ 0 then st.out ++ [st.part] else st.out
noncomputable def httpL (l : List Nat) : List (List Nat) := (hend (hrun l)).map stripL
theorem hstep_len (st : HS) (c : Nat) : (hstep st c).part.length ≤ st.part.length + 1 ∧ (hstep st c).out.length ≤ st.out.length + 1 := by
  unfold hstep
  repeat' split
  all_goals simp
theorem hrun_len (l : List Nat) : ∀ st : HS, (l.foldl hstep st).part.length ≤ st.part.length + l.length ∧ (l.foldl hstep st).out.length ≤ st.out.length + l.length := by
  induction l with
  | nil => intro st; exact ⟨Nat.le_refl _, Nat.le_refl _⟩
  | cons c r ih =>
    intro st
    have h1 := ih (hstep st c)
    have h2 := hstep_len st c
    rw [List.foldl_cons, List.length_cons]
    omega
noncomputable def hB (B : Nat) (st : HS) : Prop := st.part.length ≤ B ∧ ∀ y ∈ st.out, y.length ≤ B
theorem hB_step {B : Nat} {st : HS} (h : hB B st) (c : Nat) : hB (B + 1) (hstep st c) := by
  obtain ⟨h1, h2⟩ := h
  have h2' : ∀ y ∈ st.out, y.length ≤ B + 1 := fun y hy => Nat.le_succ_of_le (h2 y hy)
  unfold hstep
  repeat' split
  all_goals refine ⟨by simp; try omega, fun y hy => ?_⟩
  all_goals first | exact h2' y hy | skip
  rcases List.mem_append.mp hy with hy | hy
  · exact h2' y hy
  · rw [List.mem_singleton.mp hy]; omega
theorem hB_run (l : List Nat) : ∀ {B : Nat} {st : HS}, hB B st → hB (B + l.length) (l.foldl hstep st) := by
  induction l with
  | nil => intro B st h; exact h
  | cons c r ih =>
    intro B st h
    have := ih (hB_step h c)
    rw [List.foldl_cons, List.length_cons]
    have e : B + (r.length + 1) = B + 1 + r.length := by omega
    rw [e]; exact this
theorem strip_tx (y : List Nat) : Txt.strip (tx y) = tx (stripL y) := ls_inj (strip_ls _)
theorem eq_ch {c k : Nat} {y : Str} (h : y = ⟨#[k]⟩) : (ls (⟨#[c]⟩ : Str) == ls y) = decide (c = k) := by
  subst h
  show ([c] == [k]) = _
  by_cases e : c = k
  · subst e; simp
  · simp [e]
noncomputable def strsD (l : List (List Nat)) : List PyData := l.map fun y => .str (tx y)
noncomputable def hρ (x : Str) (st : HS) : List (Str × PyData) := [("s", .str x), ("part", .str (tx st.part)), ("escape", .bool st.esc), ("quote", .bool st.quote)]
section
variable {w : World} {mg mb : Str → Option Value} {A : Around} {FP FP' : Addr → Prop} {s₀ s : Shared} {k k' : Nat} {env : Env} {ρ : Str → Option PyData} {σ : Str → Option Value} {x y z : Str} {p1 p2 pos : Pos} {h : Heap}
theorem tst_eqS {l r : Expr} {c : Bool} (hl : Ev prog w A env FP s₀ l (.str x)) (hr : Ev prog w A env FP s₀ r (.str y)) (hc : (ls x == ls y) = c) (hm : behindInMarks .Eq r = false := by with_unfolding_all rfl) :
    Tst prog w A env s₀ (.Compare l [.Eq] [r] pos) c := tst_cmp hl hr (fun s va vb _ ra rb E Q hQ => by
    obtain ⟨t, rfl⟩ := ra.strOpen
    obtain ⟨u, rfl⟩ := rb.strOpen
    exact P.eq_str (hc ▸ hQ s (.refl s))) hm
theorem tst_neS {l r : Expr} {c : Bool} (hl : Ev prog w A env FP s₀ l (.str x)) (hr : Ev prog w A env FP s₀ r (.str y)) (hc : (ls x != ls y) = c) (hm : behindInMarks .NotEq r = false := by with_unfolding_all rfl) :
    Tst prog w A env s₀ (.Compare l [.NotEq] [r] pos) c := tst_cmp hl hr (fun s va vb _ ra rb E Q hQ => by
    obtain ⟨t, rfl⟩ := ra.strOpen
    obtain ⟨u, rfl⟩ := rb.strOpen
    exact P.ne_str (hc ▸ hQ s (.refl s))) hm
theorem fnAt_http (S : Stat w mg mb h) : FnAt h 26 (fdK 26) := fnAt (c := 25) S rfl rfl rfl rfl rfl rfl
noncomputable def httpFor : Stmt := (bodyK 26)[3]!
noncomputable def httpBody : List Stmt := match httpFor with
  | .For _ _ b _ _ => b
  | _ => []
theorem ev_bool {c : Bool} {k : Nat} : Ev prog w A env FP s₀ (.Constant (.bool c) k pos) (.bool c) := ⟨fun s st E Q hQ => Constant_bool (hQ _ _ (.refl s) (.bool _))⟩
theorem tx_snoc (l : List Nat) (c : Nat) : tx l ++ ⟨#[c]⟩ = tx (l ++ [c]) := tx_app l [c]
theorem snoc_fits {l : List Nat} (h : l.length + 1 ≤ sizeLine) (c : Nat) : (tx l).length + (⟨#[c]⟩ : Str).length ≤ sizeLine := by
  have e1 : (tx l).length = l.length := len_ls _
  rw [e1]; exact h
set_option maxHeartbeats 2000000 in
theorem http_step {FP : Addr → Prop} {D : Addr} {n' : Nat} {M : Addr → Prop} {Y : Heap → Prop} {E : Value → Shared → Prop} (L : Addr) (hY : Ext (callEnvC (fdK 26) L 26) (less FP D) M n' Y) (b : Bd A (callEnvC (fdK 26) L 26) (less FP D) n') (hD : D ∉ frameOf' (callEnvC (fdK 26) L 26)) (hM : M D) (hlo : s.heap.objs.size ≤ D) (hDn : D < n')
    (st : HS) (c : Nat) (h1 : st.part.length + 1 ≤ sizeLine) (h2 : st.out.length + 1 ≤ sizeLine) :
    Tr prog w A (callEnvC (fdK 26) L 26) (less FP D) s n' (fun h => Own (less FP D) D (strsD st.out) h ∧ Y h) (put (al (hρ x st)) "cur" (.str ⟨#[c]⟩)) (putR noRaw "res" (.ref D)) httpBody
      (fun f t => (f = .next ∨ f = .cont) ∧ Fx s (callEnvC (fdK 26) L 26) (less FP D) n' (al (hρ x (hstep st c))) (putR noRaw "res" (.ref D)) t ∧ Own (less FP D) D (strsD (hstep st c).out) t.heap ∧ Y t.heap) E := by
  have hE : ∀ ds, Ext (callEnvC (fdK 26) L 26) (less FP D) noM n' (fun h => Own (less FP D) D ds h ∧ Y h) := fun ds => (Own.ext hD (fun z => z) hDn).and (hY.le (fun _ z => nomatch z) (Nat.le_refl _))
  have q1 : Str.ofString "\\" = ⟨#[92]⟩ := by decide +kernel
  have q2 : Str.ofString "\"" = ⟨#[34]⟩ := by decide +kernel
  have q3 : Str.ofString "," = ⟨#[44]⟩ := by decide +kernel
  obtain ⟨out, part, esc, quote⟩ := st
  unfold hstep
  dsimp only at h1 h2 ⊢
  cases esc with
  | true =>
    simp only [if_true]
    refine tr_if true (hE _) (fun t f x' => tst_bool (f.cx b) f.sees rfl) ?_
    refine tr_augS (hE _) b rfl (fun t f x' => ev_name (f.cx b) f.sees rfl) (snoc_fits h1 c) ?_ rfl
    rw [tx_snoc]
    refine tr_assign (hE _) b (d1 := .bool false) (fun t f x' => ev_bool) ?_ (.inl rfl)
    exact tr_cont fun t f x' => ⟨.inr rfl, f.congr (Sub.le (sub_cons (sub_cons (sub_cons (sub_cons sub_nil))))), x'⟩
  | false =>
    simp only [Bool.false_eq_true, if_false]
    refine tr_if false (hE _) (fun t f x' => tst_bool (f.cx b) f.sees rfl) ?_
    cases quote with
    | true =>
      simp only [if_true]
      refine tr_if true (hE _) (fun t f x' => tst_bool (f.cx b) f.sees rfl) ?_
      by_cases c1 : c = 92
      · simp only [if_pos c1]
        refine tr_if true (hE _) (fun t f x' => tst_eqS (ev_name (f.cx b) f.sees rfl) ev_str ((eq_ch q1).trans (decide_eq_true c1))) ?_
        refine tr_assign (hE _) b (d1 := .bool true) (fun t f x' => ev_bool) ?_ (.inl rfl)
        exact tr_cont fun t f x' => ⟨.inr rfl, f.congr (Sub.le (sub_cons (sub_cons (sub_cons (sub_cons sub_nil))))), x'⟩
      · simp only [if_neg c1]
        refine tr_if false (hE _) (fun t f x' => tst_eqS (ev_name (f.cx b) f.sees rfl) ev_str ((eq_ch q1).trans (decide_eq_false c1))) ?_
        by_cases c2 : c = 34
        · simp only [if_pos c2]
          refine tr_if true (hE _) (fun t f x' => tst_eqS (ev_name (f.cx b) f.sees rfl) ev_str ((eq_ch q2).trans (decide_eq_true c2))) ?_
          refine tr_assign (hE _) b (d1 := .bool false) (fun t f x' => ev_bool) ?_ (.inl rfl)
          refine tr_augS (hE _) b rfl (fun t f x' => ev_name (f.cx b) f.sees rfl) (snoc_fits h1 c) ?_ rfl
          rw [tx_snoc]
          exact tr_cont fun t f x' => ⟨.inr rfl, f.congr (Sub.le (sub_cons (sub_cons (sub_cons (sub_cons sub_nil))))), x'⟩
        · simp only [if_neg c2]
          refine tr_if false (hE _) (fun t f x' => tst_eqS (ev_name (f.cx b) f.sees rfl) ev_str ((eq_ch q2).trans (decide_eq_false c2))) ?_
          refine tr_augS (hE _) b rfl (fun t f x' => ev_name (f.cx b) f.sees rfl) (snoc_fits h1 c) ?_ rfl
          rw [tx_snoc]
          exact tr_cont fun t f x' => ⟨.inr rfl, f.congr (Sub.le (sub_cons (sub_cons (sub_cons (sub_cons sub_nil))))), x'⟩
    | false =>
      simp only [Bool.false_eq_true, if_false]
      refine tr_if false (hE _) (fun t f x' => tst_bool (f.cx b) f.sees rfl) ?_
      by_cases c1 : c = 44
      · simp only [if_pos c1]
        refine tr_if true (hE _) (fun t f x' => tst_eqS (ev_name (f.cx b) f.sees rfl) ev_str ((eq_ch q3).trans (decide_eq_true c1))) ?_
        have e : strsD (out ++ [part]) = strsD out ++ [.str (tx part)] := by unfold strsD; rw [List.map_append]; rfl
        rw [e]
        refine tr_push hY b hM hD (fun z => z.2 rfl) hlo rfl (fun t f o y => ev_name (f.cx b) f.sees rfl) (by unfold strsD; rw [List.length_map]; omega) ?_
        refine tr_assign (hE _) b (d1 := .str (tx [])) (fun t f x' => ?_) ?_ (.inl rfl)
        · have e0 : tx [] = Str.ofString "" := by decide +kernel
          rw [e0]; exact ev_str
        exact tr_cont fun t f x' => ⟨.inr rfl, f.congr (Sub.le (sub_cons (sub_cons (sub_cons (sub_cons sub_nil))))), x'⟩
      · simp only [if_neg c1]
        refine tr_if false (hE _) (fun t f x' => tst_eqS (ev_name (f.cx b) f.sees rfl) ev_str ((eq_ch q3).trans (decide_eq_false c1))) ?_
        by_cases c2 : c = 34
        · simp only [if_pos c2]
          refine tr_if true (hE _) (fun t f x' => tst_eqS (ev_name (f.cx b) f.sees rfl) ev_str ((eq_ch q2).trans (decide_eq_true c2))) ?_
          refine tr_assign (hE _) b (d1 := .bool true) (fun t f x' => ev_bool) ?_ (.inl rfl)
          refine tr_augS (hE _) b rfl (fun t f x' => ev_name (f.cx b) f.sees rfl) (snoc_fits h1 c) ?_ rfl
          rw [tx_snoc]
          exact tr_nil fun t f x' => ⟨.inl rfl, f.congr (Sub.le (sub_cons (sub_cons (sub_cons (sub_cons sub_nil))))), x'⟩
        · simp only [if_neg c2]
          refine tr_if false (hE _) (fun t f x' => tst_eqS (ev_name (f.cx b) f.sees rfl) ev_str ((eq_ch q2).trans (decide_eq_false c2))) ?_
          refine tr_augS (hE _) b rfl (fun t f x' => ev_name (f.cx b) f.sees rfl) (snoc_fits h1 c) ?_ rfl
          rw [tx_snoc]
          exact tr_nil fun t f x' => ⟨.inl rfl, f.congr (Sub.le (sub_cons (sub_cons (sub_cons (sub_cons sub_nil))))), x'⟩
noncomputable def httpS (x : Str) : List Str := (httpL (ls x)).map tx
set_option maxHeartbeats 2000000 in
theorem http_spec (g : Gd w mg mb A FP s₀ 1) (hx : x.length ≤ 2000) : CallTo prog w A FP s₀ (.ref 26) [.str x] (.list ((httpS x).map .str)) := by
  refine callTo_def (body := bodyK 26) (fnAt_http g.S) g.room g.fp ["s"] ?_ (fun vs h => by match vs, h with | [v], _ => rfl) rfl
  intro s st FP' n hf b
  refine ⟨fun t f E Q hQ => ?_⟩
  have hlen : (ls x).length ≤ 2000 := by rw [← len_ls]; exact hx
  have e0 : tx [] = Str.ofString "" := by decide +kernel
  refine Tr.go (X := fun _ => True) (ρ := al [("s", .str x)]) (σ := noRaw) (FP := FP') (n := n) (s := s) ?_ t (f.congr (Sub.le (sub_cons sub_nil))) trivial
  refine tr_newOwn (M := noM) (fun _ _ => True) b (fun _ _ _ _ _ _ => trivial) (fun _ _ => .true) rfl (fun D hn hlo hD b' => ?_) (.inl rfl)
  have hE : ∀ ds, Ext (callEnvC (fdK 26) s.heap.objs.size 26) (less FP' D) noM (D + 1) (fun h => Own (less FP' D) D ds h ∧ True) := fun ds => (Own.ext hD (fun z => z) (Nat.lt_succ_self _)).and .true
  refine tr_assign (hE _) b' (d1 := .str (tx [])) (fun t f x' => by rw [e0]; exact ev_str) ?_ (.inl rfl)
  refine tr_assign2 (hE _) b' (d1 := .bool false) (fun t f x' => ev_bool) ?_ rfl rfl (fun h h' v r => by rw [r.boolOpen]; exact .bool _)
  refine tr_sub (l := hρ x ⟨[], [], false, false⟩) (sub_cons (sub_cons (sub_cons (sub_cons sub_nil)))) ?_
  have hlast : (hrun (ls x)) = ((ls x).take (((ls x).map fun c => PyData.str ⟨#[c]⟩).length)).foldl hstep ⟨[], [], false, false⟩ := by rw [List.length_map, List.take_length]; rfl
  refine tr_pre (Y := Own (less FP' D) D []) (fun h x => x.1) ?_
  have hE' : ∀ ds, Ext (callEnvC (fdK 26) s.heap.objs.size 26) (less FP' D) noM (D + 1) (Own (less FP' D) D ds) := fun ds => Own.ext hD (fun z => z) (Nat.lt_succ_self _)
  have hFPD : FP' D := b.fp D hn
  have ret : ∀ (outs : List (List Nat)) (ρ : Str → Option PyData), (∀ y ∈ outs, y.length ≤ 2000) → outs.length ≤ 2001 → outs.map stripL = httpL (ls x) → Tr prog w (A.deeper (callEnvC (fdK 26) s.heap.objs.size 26)) (callEnvC (fdK 26) s.heap.objs.size 26) (less FP' D) s (D + 1) (Own (less FP' D) D (strsD outs)) ρ (putR noRaw "res" (.ref D)) ((bodyK 26).drop 5) Q E := fun outs ρ hy hl he => ⟨fun t f o => by
    have f' := f.unown (n := n) o (x := "res") rfl hFPD (Nat.le_succ_of_le hn)
    have c := f'.cx b
    have z := f'.sees
    have er : PyData.list ((httpS x).map .str) = .list ((strsD outs).map (onS fun y => .str (Txt.strip y))) := by
      unfold httpS strsD
      rw [← he, List.map_map, List.map_map, List.map_map]
      congr 1
      apply List.map_congr_left
      intro y _
      show PyData.str (tx (stripL y)) = .str (Txt.strip (tx y))
      rw [strip_tx]
    refine wpAny_execs_cons (wpAny_Return_some ((ev_map1 c z (iter_list c (ev_name c z rfl)) (by unfold strsD; rw [List.length_map, sizeLine_eq]; omega) [] (onS fun y => .str (Txt.strip y)) rfl (fun _ h => nomatch h) ?_).go t (.refl t) _ _ fun v t' st' r => hQ v t' (f'.toStp.trans st') (er ▸ r)))
    intro i d hd C FP2 s2 st2 hf2 cx zz
    obtain ⟨y, hy', rfl⟩ := get_map hd
    have := hy y (List.mem_of_getElem? hy')
    exact ev_strip (ev_name cx zz rfl) (by rw [len_ls, ls_tx, sizeLine_eq]; omega)⟩
  have fin : ∀ st : HS, hB 2000 st → st.out.length ≤ 2000 → (hend st).map stripL = httpL (ls x) → Tr prog w (A.deeper (callEnvC (fdK 26) s.heap.objs.size 26)) (callEnvC (fdK 26) s.heap.objs.size 26) (less FP' D) s (D + 1) (Own (less FP' D) D (strsD st.out)) (al (hρ x st)) (putR noRaw "res" (.ref D)) ((bodyK 26).drop 4) Q E := fun st hb ho he => by
    have hp : (tx st.part).length = st.part.length := len_ls _
    by_cases h0 : st.part.length ≠ 0
    · refine tr_if true (hE' _) (fun t f x' => ?_) ?_
      · have := tst_str (p := ⟨34, 7, 34, 11⟩) (prog := prog) (w := w) (x := "part") (a := tx st.part) (f.cx b') f.sees rfl (by rw [hp, sizeLine_eq]; have := hb.1; omega)
        rw [hp, decide_eq_true h0] at this
        exact this
      refine tr_pre (Y := fun h => Own (less FP' D) D (strsD st.out) h ∧ True) (fun h x => ⟨x, trivial⟩) ?_
      refine tr_push (M := fun c => c = D) .true b' rfl hD (fun z => z.2 rfl) hlo rfl (fun t f o y => ev_name (f.cx b') f.sees rfl) (by unfold strsD; rw [List.length_map, sizeLine_eq]; omega) ?_
      have e : strsD st.out ++ [.str (tx st.part)] = strsD (st.out ++ [st.part]) := by unfold strsD; rw [List.map_append]; rfl
      rw [e]
      refine tr_pre (fun h x => x.1) (ret (st.out ++ [st.part]) _ ?_ (by rw [List.length_append]; show _ + 1 ≤ _; omega) ?_)
      · intro y hy
        rcases List.mem_append.mp hy with hy | hy
        · exact hb.2 y hy
        · rw [List.mem_singleton.mp hy]; exact hb.1
      · rw [← he, hend, if_pos h0]
    · refine tr_if false (hE' _) (fun t f x' => ?_) ?_
      · have := tst_str (p := ⟨34, 7, 34, 11⟩) (prog := prog) (w := w) (x := "part") (a := tx st.part) (f.cx b') f.sees rfl (by rw [hp, sizeLine_eq]; have := hb.1; omega)
        rw [hp, decide_eq_false h0] at this
        exact this
      refine ret st.out _ hb.2 (by omega) ?_
      rw [← he, hend, if_neg h0]
  refine tr_for (M := fun c => c = D) (ds := (ls x).map fun c => .str ⟨#[c]⟩) (fun i => al (hρ x (((ls x).take i).foldl hstep ⟨[], [], false, false⟩))) (fun i => Own (less FP' D) D (strsD (((ls x).take i).foldl hstep ⟨[], [], false, false⟩).out)) b' (fun i => hE' _) (fun c hc => by rw [hc]; exact Nat.lt_succ_self _)
    (fun t f x' => iter_str (f.cx b') (ev_name (f.cx b') f.sees rfl)) ?_ (fin _ ?_ ?_ ?_) (.inl rfl)
  rotate_left
  · have := hB_run ((ls x).take (((ls x).map fun c => PyData.str ⟨#[c]⟩).length)) (B := 0) (st := ⟨[], [], false, false⟩) ⟨Nat.le_refl _, fun _ h => nomatch h⟩
    rw [← hlast] at this ⊢
    rw [List.length_map, List.take_length, Nat.zero_add] at this
    exact ⟨Nat.le_trans this.1 hlen, fun y hy => Nat.le_trans (this.2 y hy) hlen⟩
  · rw [← hlast]
    have := (hrun_len (ls x) ⟨[], [], false, false⟩).2
    refine Nat.le_trans this ?_
    show 0 + _ ≤ _
    omega
  · rw [← hlast]; rfl
  intro i d n' Y hd hn' b2 hY
  obtain ⟨c, hc, rfl⟩ := get_map hd
  have et : ((ls x).take (i + 1)).foldl hstep ⟨[], [], false, false⟩ = hstep (((ls x).take i).foldl hstep ⟨[], [], false, false⟩) c := by
    rw [List.take_add_one, hc, List.foldl_append]; rfl
  have hl := hrun_len ((ls x).take i) ⟨[], [], false, false⟩
  have hli : ((ls x).take i).length ≤ 2000 := Nat.le_trans (by rw [List.length_take]; exact Nat.min_le_right _ _) hlen
  have z1 : ([] : List Nat).length = 0 := rfl
  have z2 : ([] : List (List Nat)).length = 0 := rfl
  rw [et]
  exact http_step _ hY b2 hD rfl hlo (Nat.lt_of_lt_of_le (Nat.lt_succ_self _) hn') _ c (by rw [sizeLine_eq]; dsimp only at hl; omega) (by rw [sizeLine_eq]; dsimp only at hl; omega)
end
end Mine
end
section
open PySem PySem.W PyProof.Rows PySem.Calls PySem.Spec PySem.SeqAt
open Builtin Builtin.Str
set_option linter.unusedVariables false
namespace Mine
/-- cut at the first c -/
noncomputable def cut1 (c : Nat) : List Nat → Option (List Nat × List Nat)
  | [] => none
  | a :: r => if a = c then some ([], r) else (cut1 c r).map fun q => (a :: q.1, q.2)
theorem cut1_none (c : Nat) : ∀ l : List Nat, (∀ i : Nat, l[i]? ≠ some c) → cut1 c l = none
  | [], _ => rfl
  | a :: r, h => by
    have h0 : ¬ a = c := fun e => h 0 (by simp [e])
    rw [cut1, if_neg h0, cut1_none c r fun i => by simpa using h (i + 1)]; rfl
theorem cut1_some (c : Nat) : ∀ (l : List Nat) (i : Nat), l[i]? = some c → (∀ k, k < i → l[k]? ≠ some c) → cut1 c l = some (l.take i, l.drop (i + 1))
  | [], i, h, _ => by simp at h
  | a :: r, 0, h, _ => by
    have : a = c := by simpa using h
    rw [cut1, if_pos this]; simp
  | a :: r, i + 1, h, hk => by
    have h0 : ¬ a = c := fun e => hk 0 (by omega) (by simp [e])
    rw [cut1, if_neg h0, cut1_some c r i (by simpa using h) fun k hlt => by simpa using hk (k + 1) (by omega)]
    simp
theorem splitMax1 (x : Str) (c : Nat) (hc : c < 256) : Txt.splitMax x ⟨#[c]⟩ 1 = match cut1 c (ls x) with | none => [x] | some (p, q) => [tx p, tx q] := by
  have hlim : limitOf x 1 = 1 := rfl
  have hlen := StrLaws.occ_length_le x ⟨#[c]⟩ 0 x.length 1
  have at_iff : ∀ i, StrLaws.At x ⟨#[c]⟩ x.length i ↔ (ls x)[i]? = some c := fun i => StrLaws.subAt_one x c i
  unfold Txt.splitMax
  rw [hlim]
  rcases StrLaws.occ_head x ⟨#[c]⟩ 1 (Nat.le_refl 1) with ⟨h0, hn⟩ | ⟨i, r, h0, hi, hn⟩
  · rw [h0, cut1_none c (ls x) fun i h => hn i ((at_iff i).mpr h)]
    simp
  · have hr : r = [] := by
      rw [h0] at hlen
      cases r with
      | nil => rfl
      | cons a r => simp at hlen
    subst hr
    have hci := (at_iff i).mp hi
    have hil : i < (ls x).length := (List.getElem?_eq_some_iff.mp hci).1
    have hxl : x.length = (ls x).length := len_ls x
    have h1 : (decide (x.length < (⟨#[c]⟩ : Str).length) || decide (strKind x < strKind ⟨#[c]⟩)) = false := by
      have a1 : ¬ x.length < (⟨#[c]⟩ : Str).length := by show ¬ x.length < 1; omega
      have a2 : ¬ strKind x < strKind ⟨#[c]⟩ := fun hk => StrLaws.kind_free x c hk (List.mem_of_getElem? hci)
      rw [decide_eq_false a1, decide_eq_false a2]; rfl
    rw [h1, h0, cut1_some c (ls x) i hci fun k hk h => hn k hk ((at_iff k).mpr h)]
    simp only [Bool.false_eq_true, if_false, List.isEmpty_cons]
    show partsBetween x [i] 1 = _
    show [strSub x 0 i, strSub x (i + 1) x.length] = _
    have e1 : strSub x 0 i = tx ((ls x).take i) := ls_inj (by rw [ls_tx]; show (strSub x 0 i).cps.toList = _; rw [StrLaws.strSub_toList]; simp)
    have e2 : strSub x (i + 1) x.length = tx ((ls x).drop (i + 1)) := ls_inj (by
      rw [ls_tx]; show (strSub x (i + 1) x.length).cps.toList = _
      rw [StrLaws.strSub_toList, hxl, List.take_of_length_le]
      rw [List.length_drop]; exact Nat.le_refl _)
    rw [e1, e2]
theorem cut1_len {c : Nat} : ∀ {l p q : List Nat}, cut1 c l = some (p, q) → p.length ≤ l.length ∧ q.length ≤ l.length
  | [], _, _, h => by cases h
  | a :: r, p, q, h => by
    rw [cut1] at h
    split at h
    · cases h; simp
    · cases hc : cut1 c r with
      | none => rw [hc] at h; cases h
      | some z =>
        obtain ⟨p', q'⟩ := z
        rw [hc] at h
        cases h
        have := cut1_len hc
        simp; omega
end Mine
end
section
open PySem PySem.W PyProof.Rows PySem.Calls PySem.Spec PySem.SeqAt
open Builtin Builtin.Str
set_option linter.unusedVariables false
namespace Mine
section
variable {prog : Program} {w : World} {A : Around} {env : Env} {FP : Addr → Prop} {s s₀ : Shared} {E : Value → Shared → Prop} {x y : Str} {a k : Int} {pos p p1 p2 : Pos} {e o l r : Expr}
theorem tst_andT {rest : List Expr} {c : Bool} (h1 : Tst prog w A env s₀ e true) (h2 : Tst prog w A env s₀ (.BoolOp .And rest pos) c) : Tst prog w A env s₀ (.BoolOp .And (e :: rest) pos) c := ⟨fun s st E Q hQ => by
  rw [arm_isTrue_BoolOp, arm_allTrue_cons]
  refine wpAny_bind (h1.go s st _ _ fun s1 st1 => ?_)
  have := h2.go s1 (st.trans st1) E Q fun s2 st2 => hQ s2 (st1.trans st2)
  rw [arm_isTrue_BoolOp] at this
  exact this⟩
theorem tst_andF {rest : List Expr} (h1 : Tst prog w A env s₀ e false) : Tst prog w A env s₀ (.BoolOp .And (e :: rest) pos) false := ⟨fun s st E Q hQ => by
  rw [arm_isTrue_BoolOp, arm_allTrue_cons]
  exact wpAny_bind (h1.go s st _ _ fun s1 st1 => wpAny_pure (hQ s1 st1))⟩
theorem tst_andNil : Tst prog w A env s₀ (.BoolOp .And [] pos) true := ⟨fun s _ E Q hQ => by
  rw [arm_isTrue_BoolOp, arm_allTrue_nil]
  exact wpAny_pure (hQ s (.refl s))⟩
theorem ev_itemS {i : Int} {c : Nat} (hl : Ev prog w A env FP s₀ l (.str x)) (hr : Ev prog w A env FP s₀ r (.int i)) (hi : (decide (i < -(2 ^ 63 : Int)) || decide (i ≥ 2 ^ 63)) = false) (hc : (seqIndex? i x.length).bind (x.cps[·]?) = some c) (hp : plainIx r = true := by rfl) :
    Ev prog w A env FP s₀ (.Subscript l r pos) (.str ⟨#[c]⟩) :=
  ev_sub hl hr fun s va vb _ ra rb E Q hQ => by
    obtain ⟨t, rfl⟩ := rb.intOpen
    obtain ⟨u, rfl⟩ := ra.strOpen
    exact tail_any (typeIs_str _ _ _) F.slot_str_getitem.lookup (P.getItem_str hi hc (hQ _ _ (.toks s _) (.str _ _))) (subscripted_plain hp _ _)
/-- a raise as it starts -/
noncomputable def Throws (E : Value → Shared → Prop) (s : Shared) (X : String) : Prop :=
  ∀ h h' tk e, (∀ b o, s.heap.get? b = some o → h.get? b = some o) → s.heap.objs.size ≤ h.objs.size → Heap.NewExc h h' e X → E (.ref e) { s with heap := h', toks := tk }
theorem Throws.stp' {X : String} {h : Heap} {tk : Nat} (T : Throws E s X) (k : ∀ b o, s.heap.get? b = some o → h.get? b = some o) (z : s.heap.objs.size ≤ h.objs.size) : Throws E { s with heap := h, toks := tk } X :=
  fun h1 h2 tk2 e k1 z1 x => T h1 h2 tk2 e (fun b o q => k1 b o (k b o q)) (Nat.le_trans z z1) x
theorem item_emptyS {i : Int} {t u : Tok} {Q : Value → Shared → Prop} (hh : A.handled = none) (hi : (decide (i < -(2 ^ 63 : Int)) || decide (i ≥ 2 ^ 63)) = false) (hc : (seqIndex? i x.length).bind (x.cps[·]?) = none) (hE : Throws E s "IndexError") (hp : plainIx r = true := by rfl) :
    wpAny (model prog w) A (subscriptTail l r (.str x t) (.int i u)) Q E s := by
  refine tail_any (typeIs_str _ _ _) F.slot_str_getitem.lookup ?_ (subscripted_plain hp _ _)
  refine getItem_slot (typeIs_str s x t) (by decide) F.slot_str_getitem (wpAny_call_entry F.slot_str_getitem (typeIs_str s x t) F.entry_str_getitem ?_ (F.args_str_getitem_2 _ _))
  show wpAny _ _ (if (decide (i < -(2 ^ 63 : Int)) || decide (i ≥ 2 ^ 63)) = true then _ else
          match (seqIndex? i x.length).bind (x.cps[·]?) with
          | some c => retStr ⟨#[c]⟩
          | none => _) _ _ s
  rw [hi, hc]
  simp only [Bool.false_eq_true, if_false]
  have hm : (Str.ofString "string index out of range").length ≤ sizeLine := by decide +kernel
  exact wpAny_bind (wpAny_rule (raiseError_exc (A := A.in1) (msg := "string index out of range") excClass_IndexError hh (fun h' tk e hx => hE s.heap h' tk e (fun _ _ q => q) (Nat.le_refl _) hx) hm))
theorem slice_mid (x : Str) (h : 1 ≤ x.length) : Txt.slice x (some 1) (some (-1)) = tx ((ls x).drop 1).dropLast := by
  have hl : x.length = (ls x).length := len_ls x
  have e1 : strSliceIndices (some 1) (some (-1)) 1 x.length = strSliceIndices (some 1) (some ((x.length - 1 : Nat) : Int)) 1 x.length := by
    rw [StrLaws.sliceIdx_neg_hi _ x.length (by decide) (by omega)]
    congr 2
    omega
  have hlen : (strSliceIndices (some 1) (some (-1)) 1 x.length).length ≤ x.length - 1 ∧ (strSliceIndices (some 1) (some (-1)) 1 x.length).filterMap (x.cps[·]?) = ((ls x).drop 1).dropLast := by
    rw [e1]
    by_cases h1 : x.length = 1
    · rw [h1]
      refine ⟨by decide, ?_⟩
      have : ((ls x).drop 1) = [] := List.drop_eq_nil_of_le (by omega)
      rw [this]; rfl
    · have hp := StrLaws.sliced_plain x (a := 1) (b := x.length - 1) (by omega) (by omega)
      refine ⟨?_, hp.trans ?_⟩
      · have := StrLaws.strSliceIndices_plain (a := 1) (b := x.length - 1) (len := x.length) (by omega) (by omega)
        have this : strSliceIndices (some 1) (some ((x.length - 1 : Nat) : Int)) 1 x.length = _ := this
        rw [this, List.length_map, List.length_range]; omega
      · rw [List.dropLast_eq_take, List.length_drop, hl]
  unfold Txt.slice
  have : ((1 : Int) == 1 && (strSliceIndices (some 1) (some (-1)) 1 x.length).length == x.length) = false := by
    have : ¬ (strSliceIndices (some 1) (some (-1)) 1 x.length).length = x.length := by omega
    simp [this]
  rw [this, hlen.2]
  simp
theorem ev_cutS {lo hi : Expr} {i j : Int} (hl : Ev prog w A env FP s₀ l (.str x)) (h1 : Ev prog w A env FP s₀ lo (.int i)) (h2 : Ev prog w A env FP s₀ hi (.int j)) (hz : x.length ≤ sizeLine) :
    Ev prog w A env FP s₀ (.Subscript l (.Slice (some lo) (some hi) none p) pos) (.str (Txt.slice x (some i) (some j))) := ⟨fun s st E Q hQ => by
  refine Subscript_ (hl.go s st _ _ fun va s1 st1 r1 => wpAny_Slice (wpAny_evalPart_some (h1.go s1 (st.trans st1) _ _ fun vl s2 st2 rl => wpAny_evalPart_some (h2.go s2 ((st.trans st1).trans st2) _ _ fun vu s3 st3 ru => wpAny_evalPart_none ?_))))
  obtain ⟨t, rfl⟩ := r1.strOpen
  obtain ⟨u, rfl⟩ := rl.intOpen
  obtain ⟨v, rfl⟩ := ru.intOpen
  have sAll := ((st1.trans st2).trans st3)
  refine with_size (with_tk (tail_any (typeIs_str _ _ _) F.slot_str_getitem.lookup (wpAny_getItem_str_slice (l := some (i, u)) (u := some (j, v)) (st := none) ⟨_, Heap.get?_push_size _ rfl, rfl, rfl⟩ rfl ?_) rfl))
  refine post_val_or_str ⟨Nat.le_trans (Txt.slice_le x _ _) hz, fun t' k htk hsz => ?_⟩
  refine hQ _ _ ?_ (.str _ _)
  exact (sAll.push1 _).trans ⟨.refl _, ⟨_, _, rfl⟩, htk⟩⟩
end
end Mine
end
section
open PySem PySem.W PyProof.Rows PySem.Calls PySem.Spec PySem.SeqAt
set_option linter.unusedVariables false
namespace Mine
theorem Ext.rd {env : Env} {FP M : Addr → Prop} {n : Nat} {v : Value} {d : PyData} : Ext env FP M n (fun h => Rd FP h v d) := ⟨fun _ _ r k => r.kp k, fun _ _ _ r _ off keep => r.chg keep off⟩
theorem Ext.false {env : Env} {FP M : Addr → Prop} {n : Nat} : Ext env FP M n (fun _ => False) := ⟨fun _ _ x _ => x, fun _ _ _ x _ _ _ => x⟩
section
variable {prog : Program} {w : World} {A : Around} {env : Env} {FP M : Addr → Prop} {s : Shared} {n : Nat} {X Y : Heap → Prop} {ρ ρ' : Str → Option PyData} {σ : Str → Option Value} {rest body orelse : List Stmt} {d d1 d2 : PyData} {e test : Expr} {x y : Str} {p p2 px py tp pos : Pos} {l : List (Str × PyData)} {K : Flow → Shared → Prop} {E : Value → Shared → Prop}
theorem hmsg2 : ∀ k, k < 2 → (Str.ofString s!"not enough values to unpack (expected {2}, got {k})").length ≤ sizeLine := by
  intro k hk
  match k, hk with
  | 0, _ => decide +kernel
  | 1, _ => decide +kernel
/-- a, b = a list -/
theorem tr_unpackL2 {k : Nat} (hX : Ext env FP M n X) (b : Bd A env FP n) (h : ∀ t, Fx s env FP n ρ σ t → X t.heap → Ev prog w A env FP t e (.list [d1, d2])) (hr : Tr prog w A env FP s n X (put (put ρ x d1) y d2) σ rest K E)
    (hk : env.kindOf x = some .local ∨ (env.kindOf x = some .cell ∧ (env.cells.lookup x).isSome = true)) (hk2 : env.kindOf y = some .local ∨ (env.kindOf y = some .cell ∧ (env.cells.lookup y).isSome = true))
    (hs : swapsWithSole [.Tuple [.Name x px, .Name y py] k tp] e pos.line env = pure false := by rfl) (hw : swappedStores [.Tuple [.Name x px, .Name y py] k tp] e env = pure none := by rfl) (hσ : σ x = none := by rfl) (hσ2 : σ y = none := by rfl) :
    Tr prog w A env FP s n X ρ σ (.Assign [.Tuple [.Name x px, .Name y py] k tp] e pos :: rest) K E := ⟨fun t f x' => by
  refine wpAny_execs_cons (Assign_Tuple ((h t f x').go t (.refl t) _ _ fun v t' st r => ?_) hs hw)
  obtain ⟨a, vs, rfl, hL, rv, _⟩ := r.listOpen
  obtain ⟨v1, v2, rfl, r1, r2⟩ := rv.two
  rw [arm_assign_Tuple]
  refine wpAny_bind (wpAny_standAt ?_)
  unfold unpack
  have e1 : (assignEach [.Name x px, .Name y py] env).length = 2 := rfl
  have e2 : (assignEach [.Name x px, .Name y py] env).findIdx? (·.1) = none := rfl
  rw [e1, e2]
  refine wpAny_bind (wpAny_holding (unpackItems_list b.hh hL (fun _ h' tk k htk hz => ?_) (fun hlt => absurd hlt (by simp)) (by simp) hmsg2))
  have st2 : Stp t' { t' with heap := h', toks := tk } := .mk' (.of k hz) htk
  have f2 := (f.stp st).stp st2
  have x2 := hX.kp _ _ (hX.kp _ _ x' st.kp) st2.kp
  refine wpAny_assignInOrder_more (wpAny_assign_Name (tr_store (X := fun h => X h ∧ Rd FP h v2 d2) (hX.and .rd) b f2 ⟨x2, r2.kp st2.kp⟩ (r1.kp st2.kp) hk hσ fun t3 f3 x3 => ?_))
  refine wpAny_assignInOrder_more (wpAny_assign_Name (tr_store hX b f3 x3.1 x3.2 hk2 hσ2 fun t4 f4 x4 => ?_))
  exact wpAny_assignInOrder_none (hr.go t4 f4 x4)⟩
theorem tr_unpackT2 {k : Nat} (hX : Ext env FP M n X) (b : Bd A env FP n) (h : ∀ t, Fx s env FP n ρ σ t → X t.heap → Ev prog w A env FP t e (.tuple [d1, d2])) (hr : Tr prog w A env FP s n X (put (put ρ x d1) y d2) σ rest K E)
    (hk : env.kindOf x = some .local ∨ (env.kindOf x = some .cell ∧ (env.cells.lookup x).isSome = true)) (hk2 : env.kindOf y = some .local ∨ (env.kindOf y = some .cell ∧ (env.cells.lookup y).isSome = true))
    (hs : swapsWithSole [.Tuple [.Name x px, .Name y py] k tp] e pos.line env = pure false := by rfl) (hw : swappedStores [.Tuple [.Name x px, .Name y py] k tp] e env = pure none := by rfl) (hσ : σ x = none := by rfl) (hσ2 : σ y = none := by rfl) :
    Tr prog w A env FP s n X ρ σ (.Assign [.Tuple [.Name x px, .Name y py] k tp] e pos :: rest) K E := ⟨fun t f x' => by
  refine wpAny_execs_cons (Assign_Tuple ((h t f x').go t (.refl t) _ _ fun v t' st r => ?_) hs hw)
  obtain ⟨a, vs, rfl, hL, rv⟩ := r.tupleOpen
  obtain ⟨v1, v2, rfl, r1, r2⟩ := rv.two
  rw [arm_assign_Tuple]
  refine wpAny_bind (wpAny_standAt ?_)
  unfold unpack
  have e1 : (assignEach [.Name x px, .Name y py] env).length = 2 := rfl
  have e2 : (assignEach [.Name x px, .Name y py] env).findIdx? (·.1) = none := rfl
  rw [e1, e2]
  refine wpAny_bind (wpAny_holding (with_size (wpAny_unpackItems_tuple (items := [v1, v2].toArray) b.hh hL fun h' k hz => ?_)))
  have st2 : Stp t' { t' with heap := h' } := ⟨.of (fun c o e => k c o (Nat.ne_of_lt (Heap.lt_size e)) e) hz, ⟨h', t'.toks, rfl⟩, Nat.le_refl _⟩
  have f2 := (f.stp st).stp st2
  have x2 := hX.kp _ _ (hX.kp _ _ x' st.kp) st2.kp
  refine wpAny_assignInOrder_more (wpAny_assign_Name (tr_store (X := fun h => X h ∧ Rd FP h v2 d2) (hX.and .rd) b f2 ⟨x2, r2.kp st2.kp⟩ (r1.kp st2.kp) hk hσ fun t3 f3 x3 => ?_))
  refine wpAny_assignInOrder_more (wpAny_assign_Name (tr_store hX b f3 x3.1 x3.2 hk2 hσ2 fun t4 f4 x4 => ?_))
  exact wpAny_assignInOrder_none (hr.go t4 f4 x4)⟩
/-- a, b = a list of one -/
theorem tr_unpackL1 {k : Nat} (hX : Ext env FP M n X) (b : Bd A env FP n) (h : ∀ t, Fx s env FP n ρ σ t → X t.heap → Ev prog w A env FP t e (.list [d1])) (hE : ∀ t, Fx s env FP n ρ σ t → X t.heap → Throws E t "ValueError")
    (hs : swapsWithSole [.Tuple [.Name x px, .Name y py] k tp] e pos.line env = pure false := by rfl) (hw : swappedStores [.Tuple [.Name x px, .Name y py] k tp] e env = pure none := by rfl) :
    Tr prog w A env FP s n X ρ σ (.Assign [.Tuple [.Name x px, .Name y py] k tp] e pos :: rest) K E := ⟨fun t f x' => by
  refine wpAny_execs_cons (Assign_Tuple ((h t f x').go t (.refl t) _ _ fun v t' st r => ?_) hs hw)
  obtain ⟨a, vs, rfl, hL, rv, _⟩ := r.listOpen
  obtain ⟨v1, rfl, r1⟩ := rv.one
  rw [arm_assign_Tuple]
  refine wpAny_bind (wpAny_standAt ?_)
  unfold unpack
  have e1 : (assignEach [.Name x px, .Name y py] env).length = 2 := rfl
  have e2 : (assignEach [.Name x px, .Name y py] env).findIdx? (·.1) = none := rfl
  rw [e1, e2]
  refine wpAny_bind (wpAny_holding (unpackItems_list b.hh hL (fun hn => absurd hn (by simp)) (fun hlt h h' tk e k z hx => ?_) (by simp) hmsg2))
  exact hE t' (f.stp st) (hX.kp _ _ x' st.kp) h h' tk e k z hx⟩
/-- return of a name that holds no data -/
theorem tr_retRaw {v : Value} (b : Bd A env FP n) (hx : σ x = some v) (hK : ∀ t, Fx s env FP n ρ σ t → X t.heap → K (.ret v) t) (hd : (x == ("__debug__" : Str)) = false := by decide) (hn : (x == ("__classdict__" : Str)) = false := by decide) :
    Tr prog w A env FP s n X ρ σ (.Return (some (.Name x p)) pos :: rest) K E := ⟨fun t f x' =>
  wpAny_execs_cons (wpAny_Return_some (load_name b.kind (f.raw hx) (hK t f x') hd hn))⟩
theorem tr_mono {K' : Flow → Shared → Prop} (h : Tr prog w A env FP s n X ρ σ body K E) (hK : ∀ f t, K f t → K' f t) : Tr prog w A env FP s n X ρ σ body K' E := ⟨fun t f x => wpAny_mono (h.go t f x) (fun _ _ z => hK _ _ z) fun _ _ z => z⟩
theorem tr_absurd (h : ∀ h, ¬ X h) : Tr prog w A env FP s n X ρ σ body K E := ⟨fun t f x => absurd x (h _)⟩
end
end Mine
end
section
open PySem PySem.W PyProof.Rows PySem.Calls PySem.Spec PySem.SeqAt
set_option linter.unusedVariables false
namespace Mine
/-! ## a dict of one's own, its keys and values plain strings -/
inductive SPairs : List (Str × Value) → List (Str × Str) → Prop
  | nil : SPairs [] []
  | cons (k y : Str) (t : Tok) {vs : List (Str × Value)} {ks : List (Str × Str)} : SPairs vs ks → SPairs ((k, .str y t) :: vs) ((k, y) :: ks)
noncomputable def dput (l : List (Str × Str)) (k y : Str) : List (Str × Str) := if l.any (fun q => q.1 = k) then l.map (fun q => if q.1 = k then (q.1, y) else q) else l ++ [(k, y)]
theorem SPairs.any {vs : List (Str × Value)} {ks : List (Str × Str)} (h : SPairs vs ks) (k : Str) : vs.any (fun q => q.1 = k) = ks.any (fun q => q.1 = k) := by
  induction h with
  | nil => rfl
  | cons _ _ _ _ ih => simp [ih]
theorem SPairs.map {vs : List (Str × Value)} {ks : List (Str × Str)} (h : SPairs vs ks) (k y : Str) (t : Tok) : SPairs (vs.map fun q => if q.1 = k then (q.1, .str y t) else q) (ks.map fun q => if q.1 = k then (q.1, y) else q) := by
  induction h with
  | nil => exact .nil
  | cons k' y' t' _ ih =>
    rw [List.map_cons, List.map_cons]
    by_cases e : k' = k
    · simp only [e, if_true]; exact .cons _ _ _ ih
    · simp only [e, if_false]; exact .cons _ _ _ ih
theorem SPairs.snoc {vs : List (Str × Value)} {ks : List (Str × Str)} (h : SPairs vs ks) (k y : Str) (t : Tok) : SPairs (vs ++ [(k, .str y t)]) (ks ++ [(k, y)]) := by
  induction h with
  | nil => exact .cons _ _ _ .nil
  | cons _ _ _ _ ih => exact .cons _ _ _ ih
theorem SPairs.stored {vs : List (Str × Value)} {ks : List (Str × Str)} (h : SPairs vs ks) (k y : Str) (t : Tok) : SPairs (PySem.stored vs k (.str y t)) (dput ks k y) := by
  unfold PySem.stored dput
  rw [h.any]
  split
  · exact h.map _ _ _
  · exact h.snoc _ _ _
theorem SPairs.length {vs : List (Str × Value)} {ks : List (Str × Str)} (h : SPairs vs ks) : vs.length = ks.length := by
  induction h with
  | nil => rfl
  | cons _ _ _ _ ih => simp [ih]
theorem SPairs.get {vs : List (Str × Value)} {ks : List (Str × Str)} (h : SPairs vs ks) : ∀ {i : Nat} {k : Str} {v : Value}, vs[i]? = some (k, v) → ∃ y t, v = .str y t ∧ ks[i]? = some (k, y) := by
  induction h with
  | nil => intro i k v e; simp at e
  | cons k' y' t' _ ih =>
    intro i k v e
    cases i with
    | zero => simp at e; obtain ⟨rfl, rfl⟩ := e; exact ⟨y', t', rfl, rfl⟩
    | succ i => simp at e; simpa using ih e
theorem dput_len (l : List (Str × Str)) (k y : Str) : (dput l k y).length ≤ l.length + 1 := by
  unfold dput
  split
  · rw [List.length_map]; omega
  · rw [List.length_append]; exact Nat.le_refl _
noncomputable def DOwn (prog : Program) (w : World) (D : Addr) (ks : List (Str × Str)) (h : Heap) : Prop := ∃ vs, h.DictOf (strKind prog w) D vs ∧ SPairs vs ks
section
variable {prog : Program} {w : World} {A : Around} {env : Env} {FP M : Addr → Prop} {s : Shared} {n : Nat} {X Y : Heap → Prop} {ρ ρ' : Str → Option PyData} {σ : Str → Option Value} {rest body orelse : List Stmt} {d d1 d2 : PyData} {e test : Expr} {x y : Str} {p p2 px py tp pos : Pos} {l : List (Str × PyData)} {K : Flow → Shared → Prop} {E : Value → Shared → Prop}
theorem dict_plain {h : Heap} {D : Addr} {ks : List (Str × Str)} (H : DOwn prog w D ks h) : ∀ o, h.get? D = some o → soft o = true ∧ isTab o = false ∧ ¬ tupLike o := fun o ho => by
  obtain ⟨vs, ⟨o', es, ep, ho', hc, hd, _⟩, _⟩ := H
  rw [ho'] at ho; cases ho
  exact ⟨soft_noFields (by rw [hd]; simp), isTab_data (by rw [hd]; simp), tupLike_data (by rw [hd]; simp)⟩
theorem DOwn.at {h h' : Heap} {D : Addr} {ks : List (Str × Str)} (H : DOwn prog w D ks h) (k : ∀ o, h.get? D = some o → h'.get? D = some o) : DOwn prog w D ks h' :=
  let ⟨vs, ⟨o, es, ep, ho, r⟩, p⟩ := H; ⟨vs, ⟨o, es, ep, k o ho, r⟩, p⟩
theorem DOwn.ext {D : Addr} {ks : List (Str × Str)} (h1 : D ∉ frameOf' env) (h2 : ¬ M D) (h3 : D < n) : Ext env FP M n (DOwn prog w D ks) where
  kp := fun h h' H k => H.at fun o e => k.at e (dict_plain H o e).2.1
  ch := fun h h' U H u o k => H.at fun o' e => k D o' (fun z => (u D z).elim h1 fun z => z.elim h2 fun z => Nat.lt_irrefl _ (Nat.lt_of_lt_of_le h3 z)) e
/-- x = {} -/
theorem tr_newDict {lp : Pos} (X' : Addr → Heap → Prop) (b : Bd A env FP n) (hX' : ∀ h h' D, X h → D = h.objs.size → Kp h h' → X' D h') (hXe : ∀ D, n ≤ D → Ext env (less FP D) M (D + 1) (X' D)) (hρ : ρ x = none)
    (hr : ∀ D, n ≤ D → s.heap.objs.size ≤ D → D ∉ frameOf' env → Bd A env (less FP D) (D + 1) → Tr prog w A env (less FP D) s (D + 1) (fun h => DOwn prog w D [] h ∧ X' D h) ρ (putR σ x (.ref D)) rest K E)
    (hk : env.kindOf x = some .local ∨ (env.kindOf x = some .cell ∧ (env.cells.lookup x).isSome = true)) (hs : swapsWith (.Dict [] [] lp) (some (.Name x p)) pos.line env = pure false := by rfl) :
    Tr prog w A env FP s n X ρ σ (.Assign [.Name x p] (.Dict [] [] lp) pos :: rest) K E := ⟨fun t f x' => by
  refine wpAny_execs_cons (wpAny_Assign_Name ?_ hs)
  refine wpAny_Dict_empty ?_
  have hDn : n ≤ t.heap.objs.size := f.big
  have hDfr : t.heap.objs.size ∉ frameOf' env := fun hm => Nat.lt_irrefl _ (f.lt _ hm)
  have b' := b.less (D := t.heap.objs.size) (n' := t.heap.objs.size + 1) (Nat.le_succ_of_le hDn) (Nat.lt_succ_self _)
  have f0 : Fx s env (less FP t.heap.objs.size) t.heap.objs.size ρ σ t := f.mono (fun c hc hf => ⟨hf, Nat.ne_of_lt hc⟩) (Nat.le_refl _)
  have f1 := (f0.stp (.push t { cls := .type "dict", data := .dict #[] })).mono (FP' := less FP t.heap.objs.size) (n' := t.heap.objs.size + 1) (fun _ _ h => h) (by show _ ≤ (t.heap.push _).objs.size; rw [Heap.size_push]; exact Nat.le_refl _)
  have own : DOwn prog w t.heap.objs.size [] (t.heap.push { cls := .type "dict", data := .dict #[] }) := ⟨[], .new _, .nil⟩
  have hE : Ext env (less FP t.heap.objs.size) noM (t.heap.objs.size + 1) (fun h => DOwn prog w t.heap.objs.size [] h ∧ X' t.heap.objs.size h) :=
    (DOwn.ext hDfr (fun z => z) (Nat.lt_succ_self _)).and ((hXe _ hDn).le (fun _ h => nomatch h) (Nat.le_refl _))
  have x1 : X' t.heap.objs.size (t.heap.push { cls := .type "dict", data := .dict #[] }) := hX' _ _ _ x' rfl (.push _ _)
  refine store_any b' f1 (ρ' := ρ) (σ' := putR σ x (.ref t.heap.objs.size)) (fun y dy hy => ?_) (fun y u hy => ?_) hk fun t2 f2 keep => (hr _ hDn (Nat.le_trans f.toStp.kp.size (Nat.le_refl _)) hDfr b').go t2 f2 (hE.ch _ _ (· ∈ frameOf' env) ⟨own, x1⟩ (fun c hc => .inl hc) (f1.off b') keep)
  · by_cases e : y = x
    · rw [e, hρ] at hy; cases hy
    · exact .inr ⟨e, hy⟩
  · by_cases e : y = x
    · left
      rw [putR, if_pos e] at hy
      cases hy
      exact ⟨e, rfl⟩
    · right
      rw [putR, if_neg e] at hy
      exact ⟨e, hy⟩⟩
/-- x[k] = v -/
theorem tr_setStr {D : Addr} {ks : List (Str × Str)} {k v : Expr} {ky vy : Str} {sp : Pos} (hY : Ext env FP M n Y) (b : Bd A env FP n) (hM : M D) (hD : D ∉ frameOf' env) (hFP : ¬ FP D) (hlo : s.heap.objs.size ≤ D) (hx : σ x = some (.ref D))
    (hv : ∀ t, Fx s env FP n ρ σ t → DOwn prog w D ks t.heap → Y t.heap → Ev prog w A env FP t v (.str vy)) (hk : ∀ t, Fx s env FP n ρ σ t → DOwn prog w D ks t.heap → Y t.heap → Ev prog w A env FP t k (.str ky))
    (hz : ks.length ≤ sizeLine) (hr : Tr prog w A env FP s n (fun h => DOwn prog w D (dput ks ky vy) h ∧ Y h) ρ σ rest K E)
    (hdb : (x == ("__debug__" : Str)) = false := by decide) (hcd : (x == ("__classdict__" : Str)) = false := by decide) (hs : swapsWith v (some (.Subscript (.Name x p) k sp)) pos.line env = pure false := by rfl) :
    Tr prog w A env FP s n (fun h => DOwn prog w D ks h ∧ Y h) ρ σ (.Assign [.Subscript (.Name x p) k sp] v pos :: rest) K E := ⟨fun t f x' => by
  have hE : Ext env FP noM (D + 1) (DOwn prog w D ks) := DOwn.ext hD (fun z => z) (Nat.lt_succ_self _)
  refine wpAny_execs_cons (wpAny_Assign_Subscript ((hv t f x'.1 x'.2).go t (.refl t) _ _ fun vv t1 st1 r1 => load_name b.kind ((f.stp st1).raw hx) ?_ hdb hcd) hs)
  have f1 := f.stp st1
  have o1 := hE.kp _ _ x'.1 st1.kp
  have y1 := hY.kp _ _ x'.2 st1.kp
  refine (hk t1 f1 o1 y1).go t1 (.refl t1) _ _ fun kv t2 st2 r2 => ?_
  have f2 := f1.stp st2
  obtain ⟨vs, hd, sp⟩ := hE.kp _ _ o1 st2.kp
  have y2 := hY.kp _ _ y1 st2.kp
  obtain ⟨tk, rfl⟩ := r2.strOpen
  obtain ⟨tv, rfl⟩ := r1.strOpen
  have hlen := sp.length
  refine with_size (wpAny_setItem_pairs (strKind_is _ _ _ _) hd (fun h' hd' hs' hz' => ?_) (by omega))
  have k2 : ∀ b o, ¬ b ∈ [D] → t2.heap.get? b = some o → h'.get? b = some o := fun b o hb e => hs'.extBut b o (fun z => hb (by rw [z]; exact .head _)) e
  have hpl := dict_plain (prog := prog) (w := w) ⟨vs, hd, sp⟩
  have off : Off FP (· ∈ [D]) t2.heap := fun b o hb ho => by
    rw [List.mem_singleton.mp hb] at ho ⊢
    exact ⟨(hpl o ho).2.2, .inr hFP⟩
  have f3 : Fx s env FP n ρ σ { t2 with heap := h', toks := t2.toks + 1 } := f2.but (tk := t2.toks + 1) k2 (fun b hb => by rw [List.mem_singleton.mp hb]; exact ⟨hlo, hD, fun o ho => (hpl o ho).1⟩) off hz' (Nat.le_succ _)
  exact hr.go _ f3 ⟨⟨_, hd', sp.stored _ _ _⟩, hY.ch _ _ (· ∈ [D]) y2 (fun c hc => .inr (.inl (by rw [List.mem_singleton.mp hc]; exact hM))) off k2⟩⟩
end

/-! ## what flies -/
noncomputable abbrev frs (outer : List Env) : List Addr := outer.filterMap (·.frame)
structure Flung (outer : List Env) (s s' : Shared) (e : Addr) (X : String) : Prop where
  fly : ∃ B a0, Heap.FlyingW B outer e (.type X) a0 s'.heap ∧ (∀ b o, s.heap.get? b = some o → (isTab o = false ∨ b ≠ 77) → b ∉ frs outer → B.get? b = some o) ∧ (TabInv s.heap → TabInv B)
  up : s.heap.UpToSlots s'.heap
  rest : ∃ h tk, s' = { s with heap := h, toks := tk }
theorem hidden_tab {h : Heap} {as : List Addr} (T : TabInv h) (ha : ∀ a ∈ as, ∀ o, h.get? a = some o → ∀ vs, o.data ≠ .fields vs) : TabInv (hideAll h as) := by
  have k : ∀ a o, h.get? a = some o → (∃ vs, o.data = .fields vs) → (hideAll h as).get? a = some o := fun a o e ⟨vs, hd⟩ => hideAll_get _ e fun hm => ha a hm o e vs hd
  rcases T with e | ⟨c, e, r⟩
  · exact .inl (k _ _ e ⟨_, rfl⟩)
  · refine .inr ⟨c, k _ _ e ⟨_, rfl⟩, ?_⟩
    obtain ⟨c', o, vs, t, e1, ho, hd, hv⟩ := r
    exact ⟨c', o, vs, t, e1, k _ _ ho ⟨_, hd⟩, hd, hv⟩
section
variable {M : Model} {A : Around} {env : Env} {outer : List Env} {s t : Shared} {m cm : Str → Option Value} {E : Value → Shared → Prop} {h h' : Heap} {tk : Nat} {e : Addr} {X : String}
theorem Kp.up {h h' : Heap} (k : Kp h h') : h.UpToSlots h' := fun b o ho hn => ⟨o.slots, k.at ho (isTab_data hn)⟩
theorem frames_kp {base h h' : Heap} {l : List Env} (F : h.FunFrames base l) (k : Kp h h') : h'.FunFrames base l := F.of_keeps fun b o ho hn => ⟨o, k.at ho (isTab_data hn), rfl⟩
theorem frames_own {base base' h : Heap} : ∀ {l : List Env}, h.FunFrames base l → (∀ a ∈ frs l, base'.get? a = none) → h.FunFrames base' l
  | [], _, _ => trivial
  | env :: r, ⟨hk, ⟨L, o, hf, hn, ho, hd⟩, hr⟩, hb => ⟨hk, ⟨L, o, hf, hb L (by rw [frs, List.filterMap_cons, hf]; exact .head _), ho, hd⟩, frames_own hr fun a ha => hb a (by rw [frs, List.filterMap_cons, hf]; exact .tail _ ha)⟩
theorem leave_flung {Q : Shared → Prop} (hfr : A.frames = some outer) (hff : s.heap.FunFrames (hideAll s.heap (frs outer)) outer) (a : Act s env m cm t) (hL : env.frame = some env.locals) (hk : env.scope.kind = .function)
    (k1 : ∀ b o, t.heap.get? b = some o → h.get? b = some o) (hz : t.heap.objs.size ≤ h.objs.size) (hx : Heap.NewExc h h' e X) (hQ : ∀ s', Flung outer s s' e X → Q s') :
    wpAny M (A.deeper env) (leaving env (.ref e)) (fun _ s' => Q s') E { t with heap := h', toks := tk } := by
  obtain ⟨ob, tp, he, hcls, hd⟩ := hx.there
  have hfr' : (A.deeper env).frames = some (env :: outer) := Around.frames_deeper hfr
  have kt : Kp t.heap h := .of k1 hz
  have kh : Kp s.heap h := a.kp.trans kt
  have fo : h.FunFrames (hideAll s.heap (frs outer)) outer := frames_kp hff kh
  have hfe : frs (env :: outer) = env.locals :: frs outer := by rw [frs, List.filterMap_cons, hL]
  have loc : ∃ o, h.get? env.locals = some o ∧ ∀ vs, o.data ≠ .fields vs := by
    obtain ⟨o, es, ep, ho, hdd, _⟩ := kt.ns a.ns
    exact ⟨o, ho, by rw [hdd]; simp⟩
  have hnf : ∀ a ∈ frs (env :: outer), ∀ o, h.get? a = some o → ∀ vs, o.data ≠ .fields vs := fun b hb o ho => by
    rw [hfe] at hb
    rcases List.mem_cons.mp hb with rfl | hb
    · obtain ⟨o', ho', hn⟩ := loc
      rw [ho'] at ho; cases ho; exact hn
    · obtain ⟨_, o', ho', hn⟩ := fo.mem hb
      rw [ho'] at ho; cases ho; exact hn
  have FB : h.FunFrames (hideAll h (frs (env :: outer))) (env :: outer) := by
    refine ⟨by rw [hk]; simp, ?_, frames_own fo fun b hb => hideAll_none _ (by rw [hfe]; exact .tail _ hb)⟩
    obtain ⟨o, ho, hn⟩ := loc
    exact ⟨env.locals, o, hL, hideAll_none _ (by rw [hfe]; exact .head _), ho, hn⟩
  have hen : (hideAll h (frs (env :: outer))).get? e = none := by
    cases q : (hideAll h (frs (env :: outer))).get? e with
    | none => rfl
    | some o => have := of_hideAll _ q; rw [hx.new] at this; cases this
  refine wpAny_leaving_firstW (base := hideAll h (frs (env :: outer))) (a0 := tp) hfr' (FB.of_keeps fun b o hb _ => ⟨o, hx.keeps b o hb, rfl⟩) hL he (fun b o hb => hx.keeps b o (of_hideAll _ hb)) hen hd rfl rfl fun h'' hW => ?_
  obtain ⟨w1, ⟨_, _, w2⟩, w3, w4⟩ := hW
  refine hQ _ ⟨⟨hideAll h (frs (env :: outer)), tp, ⟨w1, hen, w2, by rw [← hcls]; exact w3⟩, fun b o hb hn hf => ?_, fun T => hidden_tab (kh.tab T) hnf⟩, ?_, ?_⟩
  · refine hideAll_get _ (kh.keep b o hb hn) fun hm => ?_
    rw [hfe] at hm
    rcases List.mem_cons.mp hm with rfl | hm
    · exact Nat.lt_irrefl _ (Nat.lt_of_lt_of_le (Heap.lt_size hb) a.fresh)
    · exact hf hm
  · exact (kh.up.trans (.of_keeps hx.keeps)).trans w4
  · obtain ⟨h1, t1, rfl⟩ := a.rest
    exact ⟨h'', tk, rfl⟩
end
end Mine
end
section
open PySem PySem.W PyProof.Rows PySem.Calls PySem.Spec PySem.SeqAt
set_option linter.unusedVariables false
set_option maxRecDepth 100000
namespace Mine
noncomputable def unq (v : List Nat) : List Nat := if v.head? = some 34 ∧ v.getLast? = some 34 then (v.drop 1).dropLast else v
noncomputable def keqvItem (x : Str) : Except String (Str × Str) := match cut1 61 (ls x) with
  | none => .error "ValueError"
  | some (k, v) => if v = [] then .error "IndexError" else .ok (tx k, tx (unq v))
noncomputable def keqvGo : List Str → List (Str × Str) → Except String (List (Str × Str))
  | [], acc => .ok acc
  | x :: r, acc => match keqvItem x with
    | .error e => .error e
    | .ok q => keqvGo r (dput acc q.1 q.2)
theorem keqvGo_app : ∀ (l r : List Str) (acc : List (Str × Str)), keqvGo (l ++ r) acc = match keqvGo l acc with | .error e => .error e | .ok a => keqvGo r a
  | [], _, _ => rfl
  | x :: l, r, acc => by
    rw [List.cons_append, keqvGo, keqvGo]
    cases keqvItem x with
    | error e => rfl
    | ok q => exact keqvGo_app l r _
theorem keqvGo_len : ∀ (l : List Str) (acc ks : List (Str × Str)), keqvGo l acc = .ok ks → ks.length ≤ acc.length + l.length
  | [], acc, ks, h => by cases h; exact Nat.le_refl _
  | x :: l, acc, ks, h => by
    rw [keqvGo] at h
    cases q : keqvItem x with
    | error e => rw [q] at h; cases h
    | ok p =>
      rw [q] at h
      have h1 := keqvGo_len l _ _ h
      have h2 := dput_len acc p.1 p.2
      rw [List.length_cons]; omega
theorem keqv_err {xs : List Str} {i : Nat} {x : Str} {acc : List (Str × Str)} {e : String} (hx : xs[i]? = some x) (h : keqvGo (xs.take i) [] = .ok acc) (he : keqvItem x = .error e) : keqvGo xs [] = .error e := by
  have hd : xs = xs.take i ++ x :: xs.drop (i + 1) := by
    obtain ⟨hl, e'⟩ := List.getElem?_eq_some_iff.mp hx
    rw [← e', ← List.drop_eq_getElem_cons hl, List.take_append_drop]
  rw [hd, keqvGo_app, h]
  show keqvGo (x :: xs.drop (i + 1)) acc = _
  rw [keqvGo, he]
noncomputable def kρ (xs : List Str) : List (Str × PyData) := [("l", .list (xs.map .str))]
/-- the made dict behind i items -/
noncomputable def KX (w : World) (D : Addr) (xs : List Str) (i : Nat) (h : Heap) : Prop := match keqvGo (xs.take i) [] with
  | .ok acc => DOwn prog w D acc h
  | .error _ => False
theorem KX.ext {w : World} {env : Env} {FP M : Addr → Prop} {n : Nat} {D : Addr} {xs : List Str} (i : Nat) (h1 : D ∉ frameOf' env) (h2 : ¬ M D) (h3 : D < n) : Ext env FP M n (KX w D xs i) := by
  unfold KX
  cases keqvGo (xs.take i) [] with
  | ok acc => exact DOwn.ext h1 h2 h3
  | error _ => exact .false
section
variable {w : World} {mg mb : Str → Option Value} {A : Around} {env : Env} {FP FP' M : Addr → Prop} {s : Shared} {n : Nat} {X Y : Heap → Prop} {ρ : Str → Option PyData} {σ : Str → Option Value} {xs : List Str} {h : Heap} {rest body orelse : List Stmt} {test e : Expr} {pos p p1 p2 p3 p4 : Pos} {K : Flow → Shared → Prop} {E : Value → Shared → Prop}
theorem fnAt_keqv (S : Stat w mg mb h) : FnAt h 21 (fdK 21) := fnAt (c := 20) S rfl rfl rfl rfl rfl rfl
theorem tr_ifE (h : ∀ t, Fx s env FP n ρ σ t → X t.heap → ∀ Q, wpAny (model prog w) A (isTrue test env (eval test env)) Q E t) : Tr prog w A env FP s n X ρ σ (.If test body orelse pos :: rest) K E := ⟨fun t f x => if_app (h t f x _)⟩
theorem seqIx0 (c : Nat) (r : List Nat) : (seqIndex? 0 (tx (c :: r)).length).bind ((tx (c :: r)).cps[·]?) = some c := by
  show (seqIndex? 0 (r.length + 1)).bind _ = _
  unfold seqIndex?
  have : (decide ((0 : Int) ≤ 0) && decide ((0 : Int) < ((r.length + 1 : Nat) : Int))) = true := by simp
  simp only [show ¬ ((0 : Int) < 0) by decide, if_false, this, if_true]
  rfl
theorem seqIxE : (seqIndex? 0 (tx []).length).bind ((tx []).cps[·]?) = none := rfl
theorem seqIxN (v : List Nat) (c : Nat) (h : v.getLast? = some c) : (seqIndex? (-1) (tx v).length).bind ((tx v).cps[·]?) = some c := by
  have hl : (tx v).length = v.length := len_ls _
  cases v with
  | nil => cases h
  | cons a r =>
    rw [hl]
    unfold seqIndex?
    have e1 : (-1 : Int) + ((a :: r).length : Nat) = ((r.length : Nat) : Int) := by rw [List.length_cons]; omega
    have : (decide ((0 : Int) ≤ (r.length : Int)) && decide ((r.length : Int) < (((a :: r).length : Nat) : Int))) = true := by rw [List.length_cons]; simp; omega
    simp only [show ((-1 : Int) < 0) by decide, if_true, e1, this, Int.toNat_natCast]
    show ((a :: r).toArray)[r.length]? = _
    rw [← h, List.getLast?_eq_getElem?]
    simp
theorem split1_ev (x : Str) {FP : Addr → Prop} {t : Shared} (hx : x.length + 2 ≤ sizeLine) {o : Expr} (fp : ∀ b, t.heap.objs.size ≤ b → FP b) (ho : Ev prog w A env FP t o (.str x)) {apos : Pos}
    (hbase : attributeBase o "split" env (eval o env) = eval o env := by rfl) (hline : (apos.endLine == pos.line) = true := by rfl) :
    Ev prog w A env FP t (.Call (.Attribute o "split" apos) [.Constant (.str (Str.ofString "=")) 0 p1, .Constant (.int 1) 0 p2] [] pos) (.list ((match cut1 61 (ls x) with | none => [x] | some (k, v) => [tx k, tx v]).map .str)) := by
  have q : Str.ofString "=" = ⟨#[61]⟩ := by decide +kernel
  have h1 := call_splitMax (prog := prog) (w := w) (A := A) (FP := FP) (s₀ := t) (x := x) (y := Str.ofString "=") (k := 1) fp (by rw [q]; rfl) (by decide) hx
  have e : Txt.splitMax x (Str.ofString "=") 1 = match cut1 61 (ls x) with | none => [x] | some (k, v) => [tx k, tx v] := by rw [q]; exact splitMax1 x 61 (by decide)
  rw [e] at h1
  exact ev_meth F.slot_str_split F.type_str_split ho (evAll_cons ev_str (evAll_cons ev_int evAll_nil)) h1 hbase rfl rfl rfl hline
noncomputable def keqvBody : List Stmt := match (bodyK 21)[1]! with
  | .For _ _ b _ _ => b
  | _ => []
set_option maxHeartbeats 1000000 in
theorem keqv_turn {D : Addr} {Y : Heap → Prop} (L : Addr) (i : Nat) (x : Str) (hx : xs[i]? = some x) (hxl : x.length ≤ 2000) (hlen : xs.length ≤ 3000) (hY : Ext (callEnvC (fdK 21) L 21) (less FP D) M n Y) (b : Bd A (callEnvC (fdK 21) L 21) (less FP D) n)
    (hD : D ∉ frameOf' (callEnvC (fdK 21) L 21)) (hM : M D) (hlo : s.heap.objs.size ≤ D) (hDn : D < n)
    (hE : ∀ X, keqvGo xs [] = .error X → ∀ t ρ', Fx s (callEnvC (fdK 21) L 21) (less FP D) n ρ' (putR noRaw "parsed" (.ref D)) t → Throws E t X) :
    Tr prog w A (callEnvC (fdK 21) L 21) (less FP D) s n (fun h => KX w D xs i h ∧ Y h) (put (al (kρ xs)) "elt" (.str x)) (putR noRaw "parsed" (.ref D)) keqvBody
      (fun f t => (f = .next ∨ f = .cont) ∧ Fx s (callEnvC (fdK 21) L 21) (less FP D) n (al (kρ xs)) (putR noRaw "parsed" (.ref D)) t ∧ KX w D xs (i + 1) t.heap ∧ Y t.heap) E := by
  have ht : xs.take (i + 1) = xs.take i ++ [x] := by rw [List.take_add_one, hx]; rfl
  have hil : i < xs.length := (List.getElem?_eq_some_iff.mp hx).1
  have hxl' : x.length + 2 ≤ sizeLine := by rw [sizeLine_eq]; omega
  unfold KX
  rw [ht, keqvGo_app]
  cases hg : keqvGo (xs.take i) [] with
  | error e => exact tr_absurd fun h z => z.1
  | ok acc =>
    dsimp only
    have hacc := keqvGo_len _ _ _ hg
    have hE' : ∀ ks, Ext (callEnvC (fdK 21) L 21) (less FP D) noM n (fun h => DOwn prog w D ks h ∧ Y h) := fun ks => (DOwn.ext hD (fun z => z) hDn).and (hY.le (fun _ z => nomatch z) (Nat.le_refl _))
    have err : ∀ X, keqvItem x = .error X → keqvGo xs [] = .error X := fun X he => keqv_err hx hg he
    have hgo : keqvGo [x] acc = match keqvItem x with | .error e => .error e | .ok q => .ok (dput acc q.1 q.2) := by
      rw [keqvGo]; cases keqvItem x <;> rfl
    rw [hgo]
    have hsp : ∀ t, Fx s (callEnvC (fdK 21) L 21) (less FP D) n (put (al (kρ xs)) "elt" (.str x)) (putR noRaw "parsed" (.ref D)) t → _ := fun t f => split1_ev (w := w) (A := A) (env := callEnvC (fdK 21) L 21) (FP := less FP D) (t := t) (o := .Name "elt" ⟨5, 15, 5, 18⟩) (apos := ⟨5, 15, 5, 24⟩) (pos := ⟨5, 15, 5, 32⟩) (p1 := ⟨5, 25, 5, 28⟩) (p2 := ⟨5, 30, 5, 31⟩) x hxl' (f.cx b).fp (ev_name (f.cx b) f.sees rfl)
    unfold keqvItem at err ⊢
    cases hc : cut1 61 (ls x) with
    | none =>
      simp only [hc] at hsp err ⊢
      exact tr_unpackL1 (hE' _) b (fun t f x' => hsp t f) (fun t f x' => hE _ (err _ rfl) t _ f)
    | some kv =>
      obtain ⟨k, v⟩ := kv
      have hkv := cut1_len hc
      have hls : (ls x).length ≤ 2000 := by rw [← len_ls]; exact hxl
      simp only [hc] at hsp err ⊢
      refine tr_unpackL2 (hE' _) b (fun t f x' => hsp t f) ?_ (.inl rfl) (.inl rfl)
      cases v with
      | nil =>
        simp only [if_true] at err
        refine tr_ifE fun t f x' Q => ?_
        rw [arm_isTrue_BoolOp, arm_allTrue_cons]
        refine wpAny_bind (wpAny_isTrue_Compare1 ?_ (by with_unfolding_all rfl))
        refine Subscript_ ((ev_name (f.cx b) f.sees rfl : Ev prog w A _ (less FP D) t (.Name "v" _) (.str (tx []))).go t (.refl t) _ _ fun v1 t1 st1 r1 => (ev_int : Ev prog w A _ (less FP D) t1 _ _).go t1 (.refl t1) _ _ fun v2 t2 st2 r2 => ?_)
        obtain ⟨tk, rfl⟩ := r1.strOpen
        obtain ⟨tk2, rfl⟩ := r2.intOpen
        exact item_emptyS b.hh (by decide) seqIxE (hE _ (err _ rfl) t2 _ ((f.stp st1).stp st2))
      | cons c r =>
        simp only [reduceCtorEq, if_false] at err ⊢
        have hvl : (tx (c :: r)).length ≤ 2000 := by rw [len_ls]; exact Nat.le_trans hkv.2 hls
        have q34 : Str.ofString "\"" = ⟨#[34]⟩ := by decide +kernel
        obtain ⟨z, hz⟩ : ∃ z, (c :: r).getLast? = some z := ⟨_, List.getLast?_eq_some_getLast (by simp)⟩
        have t1 : ∀ t, Fx s (callEnvC (fdK 21) L 21) (less FP D) n (put (put (put (al (kρ xs)) "elt" (.str x)) "k" (.str (tx k))) "v" (.str (tx (c :: r)))) (putR noRaw "parsed" (.ref D)) t → Tst prog w A (callEnvC (fdK 21) L 21) t (.Compare (.Subscript (.Name "v" ⟨6, 11, 6, 12⟩) (.Constant (.int 0) 0 ⟨6, 13, 6, 14⟩) ⟨6, 11, 6, 15⟩) [.Eq] [.Constant (.str (Str.ofString "\"")) 0 ⟨6, 19, 6, 22⟩] ⟨6, 11, 6, 22⟩) (decide (c = 34)) := fun t f =>
          tst_eqS (ev_itemS (ev_name (f.cx b) f.sees rfl) ev_int (by decide) (seqIx0 c r)) ev_str (eq_ch q34)
        have t2 : ∀ t, Fx s (callEnvC (fdK 21) L 21) (less FP D) n (put (put (put (al (kρ xs)) "elt" (.str x)) "k" (.str (tx k))) "v" (.str (tx (c :: r)))) (putR noRaw "parsed" (.ref D)) t → Tst prog w A (callEnvC (fdK 21) L 21) t (.Compare (.Subscript (.Name "v" ⟨6, 27, 6, 28⟩) (.UnaryOp .USub (.Constant (.int 1) 0 ⟨6, 30, 6, 31⟩) ⟨6, 29, 6, 31⟩) ⟨6, 27, 6, 32⟩) [.Eq] [.Constant (.str (Str.ofString "\"")) 0 ⟨6, 36, 6, 39⟩] ⟨6, 27, 6, 39⟩) (decide (z = 34)) := fun t f =>
          tst_eqS (ev_itemS (ev_name (f.cx b) f.sees rfl) (ev_neg ev_int) (by decide) (seqIxN _ z hz)) ev_str (eq_ch q34)
        have fin : ∀ (ρ : Str → Option PyData) (vv : List Nat), ρ "l" = al (kρ xs) "l" → ρ "k" = some (.str (tx k)) → ρ "v" = some (.str (tx vv)) → vv = unq (c :: r) → Tr prog w A (callEnvC (fdK 21) L 21) (less FP D) s n (fun h => DOwn prog w D acc h ∧ Y h) ρ (putR noRaw "parsed" (.ref D)) (keqvBody.drop 2)
            (fun f t => (f = .next ∨ f = .cont) ∧ Fx s (callEnvC (fdK 21) L 21) (less FP D) n (al (kρ xs)) (putR noRaw "parsed" (.ref D)) t ∧ DOwn prog w D (dput acc (tx k) (tx (unq (c :: r)))) t.heap ∧ Y t.heap) E := fun ρ vv e1 e2 e3 e4 => by
          refine tr_setStr hY b hM hD (fun z => z.2 rfl) hlo rfl (fun t f o y => ev_name (f.cx b) f.sees e3) (fun t f o y => ev_name (f.cx b) f.sees e2) ?_ ?_
          · rw [sizeLine_eq]; simp at hacc; omega
          · refine tr_nil fun t f x' => ⟨.inl rfl, f.congr (Sub.le (sub_cons sub_nil e1)), ?_, x'.2⟩
            rw [← e4]; exact x'.1
        by_cases h1 : c = 34
        · by_cases h2 : z = 34
          · refine tr_if true (hE' _) (fun t f x' => tst_andT (by simpa [h1] using t1 t f) (tst_andT (by simpa [h2] using t2 t f) tst_andNil)) ?_
            refine tr_assign (hE' _) b (d1 := .str (tx (unq (c :: r)))) (fun t f x' => ?_) ?_ (.inl rfl)
            · have e : tx (unq (c :: r)) = Txt.slice (tx (c :: r)) (some 1) (some (-1)) := by
                rw [slice_mid _ (by rw [len_ls]; simp)]
                unfold unq
                rw [if_pos ⟨by simp [h1], by rw [hz, h2]⟩]
              rw [e]
              exact ev_cutS (ev_name (f.cx b) f.sees rfl) ev_int (ev_neg ev_int) (by rw [sizeLine_eq]; omega)
            · exact fin _ _ rfl rfl rfl rfl
          · refine tr_if false (hE' _) (fun t f x' => tst_andT (by simpa [h1] using t1 t f) (tst_andF (by simpa [h2] using t2 t f))) ?_
            refine fin _ _ rfl rfl rfl ?_
            unfold unq
            rw [if_neg]
            rintro ⟨_, q⟩
            rw [hz] at q; cases q; exact h2 rfl
        · refine tr_if false (hE' _) (fun t f x' => tst_andF (by simpa [h1] using t1 t f)) ?_
          refine fin _ _ rfl rfl rfl ?_
          unfold unq
          rw [if_neg]
          rintro ⟨q, _⟩
          simp at q; exact h1 q
set_option maxHeartbeats 1000000 in
theorem keqv_spec {outer : List Env} (g : Gd w mg mb A FP s 1) (hxl : ∀ x ∈ xs, x.length ≤ 2000) (hlen : xs.length ≤ 3000) (hfr : A.frames = some outer) (hff : s.heap.FunFrames (hideAll s.heap (frs outer)) outer) {v : Value} (r : Rd FP s.heap v (.list (xs.map .str)))
    {Q : Value → Shared → Prop} (hok : ∀ ks, keqvGo xs [] = .ok ks → ∀ D s', Stp s s' → s.heap.objs.size ≤ D → DOwn prog w D ks s'.heap → Q (.ref D) s')
    (herr : ∀ X, keqvGo xs [] = .error X → ∀ e s', Flung outer s s' e X → E (.ref e) s') : wpAny (model prog w) A (call (.ref 21) [v]) Q E s := by
  refine enter_def (body := bodyK 21) (FP := FP) (fnAt_keqv g.S) g.room g.fp ["l"] [v] rfl (al (kρ xs)) noRaw (fun x d hx => ?_) (fun x v e => nomatch e) ?_ rfl
  · unfold al kρ at hx
    rw [List.lookup_cons] at hx
    cases hb : x == ("l" : Str) with
    | true => rw [hb] at hx; cases hx; exact ⟨v, by rw [beq_iff_eq.mp hb]; exact .head _, r⟩
    | false => rw [hb] at hx; cases hx
  intro FP' n s1 hf _ hn b f old
  refine Tr.go (X := fun _ => True) (ρ := al (kρ xs)) (σ := noRaw) (FP := FP') (n := n) (s := s) ?_ s1 f trivial
  refine tr_newDict (M := noM) (fun _ _ => True) b (fun _ _ _ _ _ _ => trivial) (fun _ _ => .true) rfl (fun D hDn hlo hD b' => ?_) (.inl rfl)
  refine tr_pre (Y := KX w D xs 0) (fun h x => by unfold KX; rw [List.take_zero]; exact x.1) ?_
  refine tr_for (M := fun c => c = D) (ds := xs.map .str) (fun _ => al (kρ xs)) (KX w D xs) b' (fun i => KX.ext i hD (fun z => z) (Nat.lt_succ_self _)) (fun c hc => by rw [hc]; exact Nat.lt_succ_self _)
    (fun t f x' => iter_list (f.cx b') (ev_name (f.cx b') f.sees rfl)) ?_ ?_ (.inl rfl)
  · intro i d n' Y hd hn' b2 hY
    obtain ⟨x, hx, rfl⟩ := get_map hd
    refine keqv_turn _ i x hx (hxl x (List.mem_of_getElem? hx)) hlen hY b2 hD rfl hlo (Nat.lt_of_lt_of_le (Nat.lt_succ_self _) hn') ?_
    intro X hX t ρ' f' h h' tk e k z hx'
    refine PassesOwn.leaving _ _ ?_
    obtain ⟨m, cm, a, _, _⟩ := f'.ex
    exact leave_flung hfr hff a rfl rfl k z hx' fun s' fl => herr X hX e s' fl
  · refine tr_retRaw b' rfl fun t f x' => ?_
    rw [List.length_map] at x'
    unfold KX at x'
    rw [List.take_length] at x'
    cases hg : keqvGo xs [] with
    | error e => rw [hg] at x'; exact x'.elim
    | ok ks => rw [hg] at x'; exact hok ks hg D t f.toStp hlo x'
end
end Mine
end
section
open PySem PySem.W PyProof.Rows PySem.Calls PySem.Spec PySem.SeqAt
set_option linter.unusedVariables false
set_option maxRecDepth 100000
namespace Mine
theorem keqvItem_err {x : Str} {X : String} (h : keqvItem x = .error X) : X = "ValueError" ∨ X = "IndexError" := by
  unfold keqvItem at h
  split at h
  · cases h; exact .inl rfl
  · split at h
    · cases h; exact .inr rfl
    · cases h
theorem keqvGo_err : ∀ (l : List Str) (acc : List (Str × Str)) {X : String}, keqvGo l acc = .error X → X = "ValueError" ∨ X = "IndexError"
  | [], _, _, h => by cases h
  | x :: r, acc, X, h => by
    rw [keqvGo] at h
    cases q : keqvItem x with
    | error e => rw [q] at h; cases h; exact keqvItem_err q
    | ok p => rw [q] at h; exact keqvGo_err r _ h
/-- what _law_read tells -/
noncomputable def readS (x : Str) : PyData := match keqvGo (httpS x) [] with
  | .ok ks => pairs ks
  | .error X => .str (Str.ofString X)
theorem httpS_len (x : Str) (hx : x.length ≤ 2000) : (∀ y ∈ httpS x, y.length ≤ 2000) ∧ (httpS x).length ≤ 3000 := by
  have hlen : (ls x).length ≤ 2000 := by rw [← len_ls]; exact hx
  have hb : hB (ls x).length (hrun (ls x)) := by
    have := hB_run (ls x) (B := 0) (st := ⟨[], [], false, false⟩) ⟨Nat.le_refl _, fun _ h => nomatch h⟩
    rw [Nat.zero_add] at this; exact this
  have ho := (hrun_len (ls x) ⟨[], [], false, false⟩).2
  have ho' : (hrun (ls x)).out.length ≤ (ls x).length := by
    refine Nat.le_trans ho ?_
    show 0 + _ ≤ _; omega
  refine ⟨fun y hy => ?_, ?_⟩
  · unfold httpS httpL at hy
    obtain ⟨z, hz, rfl⟩ := List.mem_map.mp hy
    obtain ⟨u, hu, rfl⟩ := List.mem_map.mp hz
    have e : (tx (stripL u)).length = (stripL u).length := len_ls _
    rw [e]
    refine Nat.le_trans (stripL_len u) (Nat.le_trans ?_ hlen)
    unfold hend at hu
    split at hu
    · rcases List.mem_append.mp hu with h | h
      · exact hb.2 u h
      · rw [List.mem_singleton.mp h]; exact hb.1
    · exact hb.2 u hu
  · unfold httpS httpL
    rw [List.length_map, List.length_map]
    unfold hend
    split
    · rw [List.length_append]; show _ + 1 ≤ _; omega
    · omega
section
variable {w : World} {mg mb : Str → Option Value} {A : Around} {env : Env} {FP FP' M : Addr → Prop} {s s' : Shared} {n : Nat} {ρ : Str → Option PyData} {σ : Str → Option Value} {h h0 : Heap} {rest body orelse : List Stmt} {test e : Expr} {pos p p1 p2 p3 p4 : Pos} {E : Value → Shared → Prop} {x : Str} {outer : List Env}
theorem fnAt_read (S : Stat w mg mb h) : FnAt h 125 (fdK 125) := fnAt (c := 124) S rfl rfl rfl rfl rfl rfl
theorem Rds.of_get {vs : List Value} {ds : List PyData} (hl : vs.length = ds.length) (h' : ∀ (i : Nat) v d, vs[i]? = some v → ds[i]? = some d → Rd FP h v d) : Rds FP h vs ds := by
  induction vs generalizing ds with
  | nil => cases ds with | nil => exact .nil | cons => simp at hl
  | cons v vs ih =>
    cases ds with
    | nil => simp at hl
    | cons d ds => exact .cons (h' 0 v d rfl rfl) (ih (by simpa using hl) fun i v' d' e1 e2 => h' (i + 1) v' d' (by simpa using e1) (by simpa using e2))
theorem sysMod (S : Stat w mg mb h) {D : Addr} (hD : h.objs.size ≤ D) : (D == sysModules) = false := by
  have h1 : 125 < h.objs.size := by
    obtain ⟨o, c, oc, vs, t, h1, _⟩ := (fnAt_read S).ex
    exact Heap.lt_size h1
  have : D ≠ sysModules := by show D ≠ 1; intro e; subst e; exact Nat.lt_irrefl _ (Nat.lt_of_lt_of_le (Nat.lt_trans (by decide : 1 < 125) h1) hD)
  exact beq_eq_false_iff_ne.mpr this
/-- list(D.items()) -/
theorem items_list {V D : Addr} {ks : List (Str × Str)} {Q : Value → Shared → Prop} (hh : A.handled = none) (hD : DOwn prog w D ks s.heap) (hz : ks.length ≤ sizeLine) (hv : s.heap.IsItemsView V D) (fp : FP s.heap.objs.size)
    (hQ : ∀ v s', Stp s s' → Rd FP s'.heap v (pairs ks) → Q v s') : wpAny (model prog w) A (call (.type "list") [.ref V]) Q E s := by
  obtain ⟨vs, ⟨o, es, ep, ho, r⟩, sp⟩ := hD
  have hl := sp.length
  refine with_size (with_tk (kdx_call (knd := strKind prog w) (kvs := vs) (ep := ep) hh hv ⟨o, es, ho, r⟩ (by omega) fun h' tk acc c as keep hB hal hG hacc htk hsz => ?_))
  refine hQ _ _ (.mk' (.of keep hsz) htk) ?_
  unfold pairs
  have ea : acc = (as.map Value.ref).toArray := by rw [← hacc, Array.toArray_toList]
  refine .mkList (vs := as.map Value.ref) ⟨_, hB, rfl, c, by rw [ea]⟩ (.of_get (by rw [List.length_map, List.length_map, hal, hl]) fun i v d hv' hd' => ?_) fp
  rw [List.getElem?_map] at hv' hd'
  obtain ⟨a, ha, rfl⟩ := Option.map_eq_some_iff.mp hv'
  obtain ⟨q, hq, rfl⟩ := Option.map_eq_some_iff.mp hd'
  obtain ⟨key, k, u, e1, e2, e3⟩ := hG.pairs i a ha
  obtain ⟨y, t, rfl, e4⟩ := sp.get e1
  rw [hq] at e4; cases e4
  obtain ⟨t', rfl⟩ := Value.isStrOf_shape e2
  exact .mkTuple (vs := [.str k t', .str y t]) ⟨_, e3, rfl, 0, rfl⟩ (.cons (.str _ _) (.cons (.str _ _) .nil))
/-- what a call that may catch asks of the stack -/
structure Fly0 (w : World) (mg mb : Str → Option Value) (A : Around) (outer : List Env) (h0 : Heap) (s : Shared) : Prop where
  S0 : Stat w mg mb h0
  k0 : Kp h0 s.heap
  lo : ∀ a ∈ frs outer, h0.objs.size ≤ a
  fr : A.frames = some outer
  ff : s.heap.FunFrames (hideAll s.heap (frs outer)) outer
theorem frs_cons (hL : env.frame = some env.locals) : frs (env :: outer) = env.locals :: frs outer := by rw [frs, List.filterMap_cons, hL]
theorem Fly0.in_ {t : Shared} {m cm : Str → Option Value} (F : Fly0 w mg mb A outer h0 s) (a : Act s env m cm t) (hL : env.frame = some env.locals) (hk : env.scope.kind = .function) : Fly0 w mg mb (A.deeper env) (env :: outer) h0 t where
  S0 := F.S0
  k0 := F.k0.trans a.kp
  lo := fun b hb => by
    rw [frs_cons hL] at hb
    rcases List.mem_cons.mp hb with rfl | hb
    · exact Nat.le_trans F.k0.size a.fresh
    · exact F.lo b hb
  fr := Around.frames_deeper F.fr
  ff := by
    have fo : t.heap.FunFrames (hideAll s.heap (frs outer)) outer := frames_kp F.ff a.kp
    refine ⟨by rw [hk]; simp, ?_, frames_own fo fun b hb => hideAll_none _ (by rw [frs_cons hL]; exact .tail _ hb)⟩
    obtain ⟨o, es, ep, ho, hdd, _⟩ := a.ns
    exact ⟨env.locals, o, hL, hideAll_none _ (by rw [frs_cons hL]; exact .head _), ho, by rw [hdd]; simp⟩
/-- the first ground lives on, whatever flew -/
theorem Fly0.kp0 {B h' : Heap} (F : Fly0 w mg mb A outer h0 s) (hB : ∀ b o, s.heap.get? b = some o → (isTab o = false ∨ b ≠ 77) → b ∉ frs outer → B.get? b = some o) (T : TabInv s.heap → TabInv B) (st : B.StaysIn h') (hz : h0.objs.size ≤ h'.objs.size) : Kp h0 h' :=
  ⟨fun b o e n => st _ _ (hB b o (F.k0.keep b o e n) n fun hm => Nat.lt_irrefl _ (Nat.lt_of_lt_of_le (Heap.lt_size e) (F.lo b hm))), fun t => (T (F.k0.tab t)).keeps st, hz⟩
theorem Flying_size {B h' : Heap} {l : List Env} {L : Addr} (f : h'.FunFrames B l) (hL : L ∈ frs l) : L < h'.objs.size := by
  obtain ⟨_, o, ho, _⟩ := f.mem hL
  exact Heap.lt_size ho
/-- an except clause of a built-in class -/
theorem handle_builtin {T X : String} {c : Bool} {y : Str} {np q : Pos} {b₀ : Stmt} {suite : List Stmt} {cl : List ExceptHandler} {a0 : Value} {eA : Addr} {B : Heap} {l : List Env} {Q : Flow → Shared → Prop} {E' : Value → Shared → Prop}
    (hk : env.scope.kind = .function) (fl : Heap.FlyingW B l eA (.type X) a0 s.heap) (S : Stat w mg mb s.heap)
    (e1 : nsIn (K w.params) mainGlobals y = some none) (hv : bootBuiltins y = some (.type T)) (hn : y ≠ "__name__") (hky : env.kindOf y = some .globalImplicit) (hg : env.globals = mainGlobals) (hb : env.builtins = builtinsNs)
    (hexc : isSubtype (.type T) (.type "BaseException") = pure true) (hnt : isSubtype (.type ((Manifest.find? T).elim "type" fun x => x.metatype)) (.type "tuple") = pure false) (hsub : isSubtype (.type X) (.type T) = pure c)
    (hT : c = true → ∀ h', Heap.FlyingW B l eA (.type X) a0 h' → s.heap.UpToSlots h' → wpAny (model prog w) (A.mark (some (.ref eA))) (execs (b₀ :: suite) env) Q (notedBy (model prog w) (A.mark (some (.ref eA))) env (cameBackBy (model prog w) A env E')) { s with heap := h' })
    (hF : c = false → wpAny (model prog w) A (handleBy (.ref eA) env cl) Q E' s) (hd : (y == ("__debug__" : Str)) = false := by decide) :
    wpAny (model prog w) A (handleBy (.ref eA) env (.ExceptHandler (some (.Name y np)) none (b₀ :: suite) q :: cl)) Q E' s := by
  obtain ⟨ob, hob, hobc⟩ := fl.there
  refine wpAny_handleBy_builtin (X := X) (T := T) (b := c) hexc hnt hsub (load_gl hk (gl_bi S e1 hv hn hky hg hb) ⟨rfl, ⟨ob, hob, hobc⟩, ?_⟩ hd)
  cases c with
  | false => simpa using hF rfl
  | true =>
    simp only [if_true]
    exact lands_againW fl fun h6 f6 u6 => hT rfl h6 f6 u6
set_option maxHeartbeats 1000000 in
theorem read_spec (F : Fly0 w mg mb A outer h0 s) (g : Gd w mg mb A FP s 3) (hx : x.length ≤ 2000) {v : Value} (r : Rd FP s.heap v (.str x)) {Q : Value → Shared → Prop}
    (hQ : ∀ v h' tk, (∀ b o, s.heap.get? b = some o → (isTab o = false ∨ b ≠ 77) → b ∉ frs outer → h'.get? b = some o) → (TabInv s.heap → TabInv h') → s.heap.UpToSlots h' → s.heap.objs.size ≤ h'.objs.size → s.toks ≤ tk → Rd FP h' v (readS x) → Q v { s with heap := h', toks := tk }) :
    wpAny (model prog w) A (call (.ref 125) [v]) Q E s := by
  have okStp : ∀ v s', Stp s s' → Rd FP s'.heap v (readS x) → Q v s' := fun v s' st rv => by
    have hsz := st.kp.size
    have htk := st.tk
    have k := st.kp
    obtain ⟨h1, t1, rfl⟩ := st.rest
    exact hQ v h1 t1 (fun b o e n _ => k.keep b o e n) k.tab k.up hsz htk rv
  refine with_size (with_tk (enter_def (body := bodyK 125) (FP := FP) (fnAt_read g.S) (g.room.le (by decide)) g.fp ["header"] [v] rfl (al [("header", .str x)]) noRaw (fun y d hy => ?_) (fun x v e => nomatch e) ?_ rfl))
  · unfold al at hy
    rw [List.lookup_cons] at hy
    cases hb : y == ("header" : Str) with
    | true => rw [hb] at hy; cases hy; exact ⟨v, by rw [beq_iff_eq.mp hb]; exact .head _, r⟩
    | false => rw [hb] at hy; cases hy
  intro FP' n s1 hf _ hn b f old
  have g1 := g.body (.refl s) b f
  have c1 := f.cx b
  have z1 := f.sees
  obtain ⟨m, cm, a1, _, _⟩ := f.ex
  have st1 := f.toStp
  have F1 := F.in_ a1 rfl rfl
  have ⟨hyl, hys⟩ := httpS_len x hx
  refine wpAny_execs_cons (wpAny_Try_except ?_)
  refine wpAny_execs_cons (wpAny_Return_some ?_)
  refine wpAny_Call_NameR (load_gl c1.kind (gl_bi (v := .type "list") g1.S rfl rfl (by decide) rfl rfl rfl) ?_ (by decide))
  refine PySem.callWith_type rfl (evalArgs_all rfl ?_)
  refine spliced_cons (wpAny_Call_method_lateS rfl rfl rfl ?_)
  refine wpAny_Call_NameR (load_gl c1.kind (gl_fn (a := 21) g1.S rfl rfl rfl) ?_ (by decide))
  have ho21 : ∃ o fd, (K w.params).lookup 21 = some o ∧ o.data = .func fd := ⟨_, _, rfl, rfl⟩
  obtain ⟨o21, fd21, hk21, hd21⟩ := ho21
  refine callWith_function (o := o21) (fd := fd21) (evalArgs_all rfl ((evAll_cons (call_at g1.S c1 (evAll_cons (ev_name c1 z1 rfl) evAll_nil) (http_spec (g1.le (by decide)) hx)) evAll_nil).go _ s1 (.refl s1) _ _ fun vs s2 st2 r2 => ⟨⟨(g1.S.kp st2.kp).X _ _ hk21, hd21⟩, ?_⟩))
  obtain ⟨v2, rfl, rv2⟩ := r2.one
  have g2 := g1.stp st2
  have F2 := F.in_ (a1.stp st2) rfl rfl
  refine keqv_spec (g2.le (by decide)) hyl hys F2.fr F2.ff rv2 (fun ks hks D s3 st3 hD hown => ?_) (fun X hX e s3 fl => ?_)
  · -- the dict is made
    have hDo := hown
    obtain ⟨vs3, hdict, _⟩ := hown
    refine ⟨"dict", "dict.items", PySem.F.plainAttrs_dict, PySem.F.slot_dict_items, PySem.F.type_dict_items, hdict.typeIs, hdict.mapOf.noDict, ?_⟩
    refine callWith_builtin rfl (evalArgs_all rfl (spliced_nil ?_))
    refine call_meetsIn PySem.F.slot_dict_items hdict.typeIs PySem.F.entry_dict_items (PySem.F.args_dict_items_1 _) (meets_dict_items (strKind prog w) D (sysMod g2.S hD)) ⟨⟨vs3, hdict⟩, ?_⟩
    refine spliced_nil ?_
    have st4 : Stp s3 { s3 with heap := s3.heap.push { cls := .type "dict_items", data := .fields #[.ref D] } } := .push _ _
    have st14 := ((st2.trans st3).trans st4)
    refine items_list (ks := ks) (FP := FP') g1.room.hh (hDo.at fun o e => Heap.get?_push_of_some _ e) ?_ ⟨_, Heap.get?_push_size _ rfl, rfl, rfl⟩ (b.fp _ (Nat.le_trans f.big st14.kp.size)) fun v5 s5 st5 r5 => ?_
    · have := keqvGo_len _ _ _ hks
      rw [sizeLine_eq]; simp at this; omega
    · refine fun htk hsz => okStp _ _ (st1.trans (st14.trans st5)) (Rd.mono ?_ fun b _ hb => hf b hb)
      unfold readS
      rw [hks]; exact r5
  · -- caught
    obtain ⟨⟨B, a0, hfl, hB, hT⟩, hup, hrest⟩ := fl
    have hfr : (A.deeper (callEnvC (fdK 125) s.heap.objs.size 125)).frames = some (callEnvC (fdK 125) s.heap.objs.size 125 :: outer) := F2.fr
    refine wpAny_looks_onW hfr rfl hfl fun h4 held4 u4 => ?_
    refine wpAny_landsW held4 fun h5 fl5 u5 => ?_
    have lo5 : ∀ h', Heap.FlyingW B (callEnvC (fdK 125) s.heap.objs.size 125 :: outer) e (.type X) a0 h' → h0.objs.size ≤ h'.objs.size := fun h' f' => Nat.le_of_lt (Nat.lt_of_le_of_lt (Nat.le_trans F.k0.size a1.fresh) (Flying_size f'.2.2.1 (by rw [frs_cons rfl]; exact .head _)))
    have S5 : Stat w mg mb h5 := F.S0.kp (F2.kp0 hB hT fl5.1 (lo5 _ fl5))
    have last : ∀ h6, Heap.FlyingW B (callEnvC (fdK 125) s.heap.objs.size 125 :: outer) e (.type X) a0 h6 → h5.UpToSlots h6 → ∀ {A' : Around} {E' : Value → Shared → Prop} {pos p : Pos} {k : Nat} {K : Flow → Shared → Prop}, (∀ v s', (s.toks ≤ s'.toks → s.heap.objs.size ≤ s'.heap.objs.size → Q v s') → K (.ret v) s') → wpAny (model prog w) A' (execs [.Return (some (.Constant (.str (Str.ofString X)) k p)) pos] (callEnvC (fdK 125) s.heap.objs.size 125)) K E' { s3 with heap := h6 } := fun h6 f6 u6 A' E' pos p k K hK => by
      refine wpAny_execs_cons (wpAny_Return_some (Constant_str (hK _ _ fun htk hsz => ?_)))
      obtain ⟨h3, t3, rfl⟩ := hrest
      obtain ⟨h2, t2, rfl⟩ := st2.rest
      obtain ⟨h1, t1, rfl⟩ := st1.rest
      have k12 : Kp s.heap h2 := st1.kp.trans st2.kp
      refine hQ _ h6 _ (fun b o e n hb => f6.1 _ _ (hB b o (k12.keep b o e n) n fun hm => ?_)) (fun T => (hT (k12.tab T)).keeps f6.1) (((k12.up.trans hup).trans (u4.trans u5)).trans u6) hsz htk ?_
      · rw [frs_cons rfl] at hm
        rcases List.mem_cons.mp hm with rfl | hm
        · exact Nat.lt_irrefl _ (Nat.lt_of_lt_of_le (Heap.lt_size e) a1.fresh)
        · exact hb hm
      · unfold readS
        rw [hX]; exact .str _ _
    refine handle_builtin (env := callEnvC (fdK 125) s.heap.objs.size 125) (s := { s3 with heap := h5 }) (T := "ValueError") (c := decide (X = "ValueError")) rfl fl5 S5 rfl PyProof.Rows.Boot.«ValueError» (by decide) rfl rfl rfl PySem.F.isExc_ValueError PySem.F.notTuple_ValueError ?_ ?_ ?_
    · rcases keqvGo_err _ _ hX with rfl | rfl
      · rw [isSubtype_type]; kernel_rfl
      · rw [isSubtype_type]; kernel_rfl
    · intro hc h6 f6 u6
      have := of_decide_eq_true hc
      subst this
      exact last h6 f6 u6 fun v s' h => h
    · intro hc
      have hX' : X = "IndexError" := by
        rcases keqvGo_err _ _ hX with rfl | rfl
        · simp at hc
        · rfl
      subst hX'
      refine handle_builtin (env := callEnvC (fdK 125) s.heap.objs.size 125) (s := { s3 with heap := h5 }) (T := "IndexError") (c := true) rfl fl5 S5 rfl PyProof.Rows.Boot.«IndexError» (by decide) rfl rfl rfl PySem.F.isExc_IndexError PySem.F.notTuple_IndexError (by rw [isSubtype_type]; kernel_rfl) (fun _ h6 f6 u6 => ?_) (fun hc => by cases hc)
      exact last h6 f6 u6 fun v s' h => h
end
end Mine
end
section
open PySem PySem.W PyProof.Rows PySem.Calls PySem.Spec PySem.SeqAt
set_option linter.unusedVariables false
set_option maxRecDepth 100000
namespace Mine
/-! ## instances of the lexer's class -/
noncomputable def NsZ (h : Heap) (a : Addr) (m : Str → Option Value) (z : Nat) : Prop := ∃ o es ep, h.get? a = some o ∧ o.data = .dict es ep ∧ StrKeys es ∧ (∀ name, nsFind es name = m name) ∧ es.size ≤ z
theorem NsZ.ns {h : Heap} {a : Addr} {m : Str → Option Value} {z : Nat} (n : NsZ h a m z) : h.Ns a m := let ⟨o, es, ep, a, b, c, d, _⟩ := n; ⟨o, es, ep, a, b, c, d⟩
theorem NsZ.at {h h' : Heap} {a : Addr} {m : Str → Option Value} {z : Nat} (n : NsZ h a m z) (k : ∀ o, h.get? a = some o → h'.get? a = some o) : NsZ h' a m z := let ⟨o, es, ep, a, r⟩ := n; ⟨o, es, ep, k _ a, r⟩
theorem noRef {es : Array DictEntry} (hk : StrKeys es) : es.any (·.refKey) = false := by
  rw [Array.any_eq_false']; intro e he; obtain ⟨n, t, h⟩ := hk e he; simp [DictEntry.refKey, h]
theorem look_ns {o : Obj} {es : Array DictEntry} {ep : Nat} {m : Str → Option Value} (hd : o.data = .dict es ep) (hk : StrKeys es) (hm : ∀ name, nsFind es name = m name) (name : Str) : lookIn name o = some (m name) := by
  unfold lookIn
  rw [hd]
  dsimp only
  rw [← hm name, nsFind, findBy, ← Array.find?_toList]
  cases hf : es.toList.find? (·.key.isStr name) with
  | some e => rfl
  | none =>
    have := noRef hk
    rw [← Array.any_toList] at this
    simp [this]
section
variable {w : World} {mg mb : Str → Option Value} {A : Around} {E : Value → Shared → Prop} {s : Shared} {x dx f : Addr} {m : Str → Option Value} {name : Str} {v : Value} {z : Nat} {expr : Bool}
theorem inst_at (hx : s.heap.get? x = some (instObj 64 dx)) (n : s.heap.Ns dx m) : ∃ od, InstAt s.heap x (instObj 64 dx) 64 (some od) ∧ ∀ name, lookIn name od = some (m name) := by
  obtain ⟨o, es, ep, ho, hd, hk, hm⟩ := n
  exact ⟨o, ⟨hx, rfl, rfl, ho⟩, look_ns hd hk hm⟩
theorem cls_plain (w : World) (name : Str) : plainGet (K w.params) 64 name = true := by
  have : plainGet (K w.params) 64 "lineno" = true := by kernel_rfl
  exact this
theorem cls_dict (w : World) : hasDictIn (K w.params) 64 = true := by kernel_rfl
theorem get_inst {Q : Value → Shared → Prop} (X : (K w.params).In s.heap) (hx : s.heap.get? x = some (instObj 64 dx)) (n : s.heap.Ns dx m) (hm : m name = some v) (ha : findIn (K w.params) (.ref 64) name = some none) (hv : handedIn v = true)
    (h : Q v { s with toks := s.toks + 1 }) : wpAny (model prog w) A (getAttr (.ref x) name expr) Q E s := by
  obtain ⟨od, I, hl⟩ := inst_at hx n
  exact get_value X I (plainGet_of (cls_plain w name)).1 (findObj_own (cls_dict w) ha rfl (by rw [hl, hm])) hv h
theorem get_bound {Q : Value → Shared → Prop} (X : (K w.params).In s.heap) (hx : s.heap.get? x = some (instObj 64 dx)) (n : s.heap.Ns dx m) (hm : m name = none) (ha : findIn (K w.params) (.ref 64) name = some (some (.ref f))) (hf : isFn (K w.params) (.ref f) = true)
    (hgf : specialIn (K w.params) (.ref f) "__get__" = some (some (.builtin "function.__get__"))) (ht : takesIn (K w.params) (.ref f) = some false) (hc : copiedNames.contains name = false)
    (h : Q (.ref s.heap.objs.size) { s with heap := s.heap.push (methodObj (.ref f) (.ref x)), toks := s.toks + 1 }) : wpAny (model prog w) A (getAttr (.ref x) name expr) Q E s := by
  obtain ⟨od, I, hl⟩ := inst_at hx n
  exact get_bind X I (plainGet_of (cls_plain w name)).1 (findObj_fn (cls_dict w) ha hgf ht hc (by rw [hl, hm])) (plainGet_of (cls_plain w name)).2
    (wpAny_call (fn_get (s := { s with toks := s.toks + 1 }) X (beq_iff_eq.mp hf) (handed_on rfl h)))
theorem meth_inst {pl : Sem Bool} {Q : Value × List Value → Shared → Prop} (X : (K w.params).In s.heap) (hx : s.heap.get? x = some (instObj 64 dx)) (n : s.heap.Ns dx m) (hm : m name = none) (ha : findIn (K w.params) (.ref 64) name = some (some (.ref f))) (hf : isFn (K w.params) (.ref f) = true)
    (h : Q (.ref f, [.ref x]) s) : wpAny (model prog w) A (getMethod (.ref x) name pl) Q E s := by
  obtain ⟨od, I, hl⟩ := inst_at hx n
  exact method_fn X I (plainGet_of (cls_plain w name)).1 (plainGet_of (cls_plain w name)).2 ha (beq_iff_eq.mp hf) (by show (lookIn name od).map _ = _; rw [hl, hm]; rfl) h
theorem meth_val {pl : Sem Bool} {Q : Value × List Value → Shared → Prop} (X : (K w.params).In s.heap) (hx : s.heap.get? x = some (instObj 64 dx)) (n : s.heap.Ns dx m) (hm : m name = some v) (ha : findIn (K w.params) (.ref 64) name = some none) (hv : handedIn v = true)
    (h : Q (v, []) { s with toks := s.toks + 1 }) : wpAny (model prog w) A (getMethod (.ref x) name pl) Q E s := by
  obtain ⟨od, I, hl⟩ := inst_at hx n
  exact method_usual X I (plainGet_of (cls_plain w name)).1 (plainGet_of (cls_plain w name)).2 ha rfl (get_inst X hx n hm ha hv h)
theorem put_nsZ {h : Heap} {a : Addr} {o : Obj} {es : Array DictEntry} {ep : Nat} (ho : h.get? a = some o) (hd : o.data = .dict es ep) (hk : StrKeys es) (hm : ∀ name, nsFind es name = m name) (hz : es.size ≤ z) (hash : Int) (tk : Tok) :
    NsZ (h.update a (Obj.putName name hash (.str name tk) v)) a (fun y => if y = name then some v else m y) (if (m name).isSome then z else z + 1) := by
  have found : (es.findIdx? (·.key.isStr name)).isSome = (m name).isSome := by
    rw [← hm name, nsFind, findBy, Option.isSome_map]
    cases hi : es.findIdx? (·.key.isStr name) with
    | some i =>
      have := Array.findIdx?_eq_some_iff_getElem.mp hi
      obtain ⟨hlt, hp, _⟩ := this
      cases hf : es.find? (·.key.isStr name) with
      | some e => rfl
      | none => exact absurd hp (by simpa using Array.find?_eq_none.mp hf es[i] (Array.getElem_mem hlt))
    | none =>
      have := Array.findIdx?_eq_none_iff.mp hi
      have hf : es.find? (·.key.isStr name) = none := by
        rw [Array.find?_eq_none]; intro e he; simpa using this e he
      rw [hf]; rfl
  obtain ⟨c, d, dt, sl⟩ := o
  subst hd
  cases hi : es.findIdx? (·.key.isStr name) with
  | some i =>
    rw [hi] at found
    rw [← found]
    refine ⟨_, _, ep, Heap.get?_update_self _ ho (by simp only [Obj.putName_eq, Obj.putNameByArray, hi]; rfl), by simp only [Obj.putName_eq, Obj.putNameByArray, hi]; rfl, hk.modify _ _, fun x => ?_, by simpa using hz⟩
    show _ = if x = name then some v else m x
    rw [← hm]; exact findBy_modify (fun n v => v.isStr n) Value.isStr_inj es name x v i hi
  | none =>
    rw [hi] at found
    rw [← found]
    refine ⟨_, _, ep + 1, Heap.get?_update_self _ ho (by simp only [Obj.putName_eq, Obj.putNameByArray, hi]; rfl), by simp only [Obj.putName_eq, Obj.putNameByArray, hi]; rfl, hk.push _ _ _ _, fun x => ?_, by simpa using hz⟩
    show _ = if x = name then some v else m x
    rw [← hm]
    exact findBy_push (fun n v => v.isStr n) es name x _ _ v (fun y => by
      show (name == y) = decide (y = name)
      by_cases h : y = name
      · subst h; simp
      · have : ¬ name = y := fun e => h e.symm
        simp [h, this]) hi
theorem osa_inst {R : Result → Shared → Prop} {tk : Tok} (X : (K w.params).In s.heap) (hx : s.heap.get? x = some (instObj 64 dx)) (n : NsZ s.heap dx m z) (hz : z ≤ 100) (ht : takerIn (K w.params) 64 name = some none)
    (h : ∀ h', NsZ h' dx (fun y => if y = name then some v else m y) (if (m name).isSome then z else z + 1) → Heap.SameBut dx s.heap h' → R (.ok (.ret .none)) { s with heap := h', toks := s.toks + 1 }) :
    codeAny (model prog w) A (.call (.builtin "object.__setattr__") ⟨[.ref x, .str name tk, v], []⟩) R s := by
  have hp : plainOver (K w.params) 64 = true := by kernel_rfl
  obtain ⟨od, I, hl⟩ := inst_at hx n.ns
  obtain ⟨o, es, ep, ho, hd, hk, hm, hsz⟩ := n
  refine osa_open X I hp ht fun b => ?_
  obtain ⟨cd, hc, hd'⟩ := any_some (cls_dict w)
  refine wpAny_bind (wpAny_pure (wpAny_bind (wpAny_bind (wpAny_loadPart hx (wpAny_bind ((looks_clsIn X hc).here ?_))))))
  rw [hd']
  refine wpAny_pure (a := some dx) (wpAny_bind (wpAny_pure (wpAny_bind ?_)))
  unfold nsSet
  refine wpAny_bind (wpAny_bind (wpAny_askSetting (wpAny_pure (wpAny_bind (wpAny_mkText (wpAny_bind (wpAny_loadPart ho ?_)))))))
  rw [hd]
  dsimp only
  rw [aRefKeyMayBeTheName_at, noRef hk, Bool.and_false]
  refine wpAny_updatePart ho ?_
  have hput := put_nsZ (name := name) (v := v) ho hd hk hm hsz (PyData.keyHash w.params name) s.toks
  obtain ⟨o', es', ep', ho', hd2, hr⟩ := id hput
  have hz' : es'.size ≤ 101 := by
    have := hr.2.2
    split at this <;> omega
  refine wpAny_bind (wpAny_lookBehind ho' (by rw [hd2]; exact pastItsLine_dict (by rw [sizeLine_eq]; omega)) ?_)
  exact wpAny_pure (h _ hput (Heap.SameBut.update ..))
/-- x.name = v -/
theorem set_inst {Q : Unit → Shared → Prop} (X : (K w.params).In s.heap) (hx : s.heap.get? x = some (instObj 64 dx)) (n : NsZ s.heap dx m z) (hz : z ≤ 100) (ht : takerIn (K w.params) 64 name = some none)
    (h : ∀ h', NsZ h' dx (fun y => if y = name then some v else m y) (if (m name).isSome then z else z + 1) → Heap.SameBut dx s.heap h' → Q () { s with heap := h', toks := s.toks + 2 }) :
    wpAny (model prog w) A (setAttr (.ref x) name v) Q E s := by
  have hs : findIn (K w.params) (.ref 64) "__setattr__" = some (some (.builtin "object.__setattr__")) := by kernel_rfl
  obtain ⟨od, I, hl⟩ := inst_at hx n.ns
  exact set_plain X I hs (osa_inst (s := { s with toks := s.toks + 1 }) X hx n hz ht h)
end
end Mine
end
section
open PySem PySem.W PyProof.Rows PySem.Calls PySem.Spec PySem.SeqAt
set_option linter.unusedVariables false
set_option maxRecDepth 100000
namespace Mine
/-! ## a lexer on the heap -/
structure LA where
  T : Addr
  dT : Addr
  L : Addr
  dL : Addr
  P : Addr
  S : Addr
  C : Addr
  F : Addr
  K : Addr
noncomputable abbrev LA.mut (a : LA) : List Addr := [a.dL, a.P, a.S]
noncomputable abbrev LA.all (a : LA) : List Addr := [a.T, a.dT, a.L, a.dL, a.P, a.S, a.C, a.F, a.K]
noncomputable def lamE : Expr := match (bodyK 82)[2]! with
  | .Assign _ e _ => e
  | _ => default
noncomputable def lamParams : Arguments := match lamE with | .Lambda p _ _ _ => p | _ => default
noncomputable def lamBody : Expr := match lamE with | .Lambda _ b _ _ => b | _ => default
noncomputable def lamScope : Scope := match lamE with | .Lambda _ _ s _ => s | _ => default
noncomputable abbrev lamFd (a : LA) (pm ct : Value) : FuncData := kla_fn "<lambda>" lamQual lamParams lamBody lamScope [("signs", a.C)] pm (.ref a.K) ct
noncomputable abbrev wsS : Str := Str.ofString "\n\t\x0d "
noncomputable def sgn (l : List Nat) : List Str := l.map fun c => ⟨#[c]⟩
structure Lex (a : LA) (text : List Nat) (pb : List Str) (h : Heap) : Prop where
  L : h.get? a.L = some (instObj 64 a.dL)
  dL : ∃ m, NsZ h a.dL m 10 ∧ (∃ i t, m "lineno" = some (.int i t)) ∧ m "instream" = some (.ref a.T) ∧ (∃ t, m "whitespace" = some (.str wsS t)) ∧ m "pushback" = some (.ref a.P) ∧ m "get_token" = none ∧ m "_read_char" = none ∧ m "push_token" = none
  T : h.get? a.T = some (instObj 64 a.dT)
  dT : ∃ m, NsZ h a.dT m 10 ∧ m "read" = some (.ref a.F)
  P : ∃ vs, h.PlainList a.P vs.toArray ∧ StrsAre vs pb
  S : ∃ vs, h.PlainList a.S vs.toArray ∧ StrsAre vs (sgn text)
  C : ∃ o, h.get? a.C = some o ∧ o.data = .cell (some (.ref a.S))
  F : ∃ pm ct, h.get? a.F = some { cls := .type "function", data := .func (lamFd a pm ct) }
  K : a.K ≠ 77 ∧ ∃ oc vs t, h.get? a.K = some oc ∧ oc.data = .fields vs ∧ vs[1]? = some (.str lamQual t)
  ne : a.dL ∉ [a.T, a.dT, a.L, a.P, a.S, a.C, a.F, a.K] ∧ a.P ∉ [a.T, a.dT, a.L, a.S, a.C, a.F, a.K] ∧ a.S ∉ [a.T, a.dT, a.L, a.C, a.F, a.K]
theorem NsZ.notab {h : Heap} {a : Addr} {m : Str → Option Value} {z : Nat} (n : NsZ h a m z) : ∀ o, h.get? a = some o → isTab o = false ∧ soft o = true ∧ ¬ tupLike o := fun o ho => by
  obtain ⟨o', es, ep, ho', hd, _⟩ := n
  rw [ho'] at ho; cases ho
  exact ⟨isTab_data (by rw [hd]; simp), soft_noFields (by rw [hd]; simp), tupLike_data (by rw [hd]; simp)⟩
theorem plain_notab {h : Heap} {a : Addr} {ys : Array Value} (n : h.PlainList a ys) : ∀ o, h.get? a = some o → isTab o = false ∧ soft o = true ∧ ¬ tupLike o := fun o ho => by
  obtain ⟨m, e⟩ := n
  rw [e] at ho; cases ho
  exact ⟨rfl, rfl, tupLike_cls (by simp)⟩
section
variable {a : LA} {text : List Nat} {pb : List Str} {h h' : Heap}
theorem Lex.at (x : Lex a text pb h) (k : ∀ b ∈ a.all, ∀ o, h.get? b = some o → (isTab o = false ∨ b ≠ 77) → h'.get? b = some o) : Lex a text pb h' where
  L := k a.L (by simp) _ x.L (.inl rfl)
  dL := let ⟨m, n, r⟩ := x.dL; ⟨m, n.at fun o e => k a.dL (by simp) o e (.inl (n.notab o e).1), r⟩
  T := k a.T (by simp) _ x.T (.inl rfl)
  dT := let ⟨m, n, r⟩ := x.dT; ⟨m, n.at fun o e => k a.dT (by simp) o e (.inl (n.notab o e).1), r⟩
  P := let ⟨vs, n, r⟩ := x.P; ⟨vs, n.at fun o e => k a.P (by simp) o e (.inl (plain_notab n o e).1), r⟩
  S := let ⟨vs, n, r⟩ := x.S; ⟨vs, n.at fun o e => k a.S (by simp) o e (.inl (plain_notab n o e).1), r⟩
  C := let ⟨o, e, d⟩ := x.C; ⟨o, k a.C (by simp) o e (.inl (isTab_data (by rw [d]; simp))), d⟩
  F := let ⟨pm, ct, e⟩ := x.F; ⟨pm, ct, k a.F (by simp) _ e (.inl rfl)⟩
  K := let ⟨n, oc, vs, t, e, r⟩ := x.K; ⟨n, oc, vs, t, k a.K (by simp) oc e (.inr n), r⟩
  ne := x.ne
theorem Lex.kp (x : Lex a text pb h) (k : Kp h h') : Lex a text pb h' := x.at fun b _ o e n => k.keep b o e n
theorem Lex.ext {env : Env} {FP M : Addr → Prop} {n : Nat} (hA : ∀ b ∈ a.all, b ∉ frameOf' env ∧ ¬ M b ∧ b < n) : Ext env FP M n (Lex a text pb) where
  kp := fun _ _ x k => x.kp k
  ch := fun h h' U x u _ k => x.at fun b hb o e _ => k b o (fun z => (u b z).elim (hA b hb).1 fun z => z.elim (hA b hb).2.1 fun z => Nat.lt_irrefl _ (Nat.lt_of_lt_of_le (hA b hb).2.2 z)) e
theorem Lex.soft (x : Lex a text pb h) : ∀ b ∈ a.mut, ∀ o, h.get? b = some o → isTab o = false ∧ soft o = true ∧ ¬ tupLike o := fun b hb o ho => by
  rcases List.mem_cons.mp hb with rfl | hb
  · obtain ⟨m, n, _⟩ := x.dL; exact n.notab o ho
  · rcases List.mem_cons.mp hb with rfl | hb
    · obtain ⟨vs, n, _⟩ := x.P; exact plain_notab n o ho
    · rw [List.mem_singleton.mp hb] at ho
      obtain ⟨vs, n, _⟩ := x.S; exact plain_notab n o ho
theorem Lex.lt (x : Lex a text pb h) : ∀ b ∈ a.all, b < h.objs.size := fun b hb => by
  simp only [LA.all, List.mem_cons, List.not_mem_nil, or_false] at hb
  rcases hb with rfl | rfl | rfl | rfl | rfl | rfl | rfl | rfl | rfl
  · exact Heap.lt_size x.T
  · obtain ⟨m, n, _⟩ := x.dT; exact n.ns.lt
  · exact Heap.lt_size x.L
  · obtain ⟨m, n, _⟩ := x.dL; exact n.ns.lt
  · obtain ⟨vs, ⟨n, e⟩, _⟩ := x.P; exact Heap.lt_size e
  · obtain ⟨vs, ⟨n, e⟩, _⟩ := x.S; exact Heap.lt_size e
  · obtain ⟨o, e, _⟩ := x.C; exact Heap.lt_size e
  · obtain ⟨pm, ct, e⟩ := x.F; exact Heap.lt_size e
  · obtain ⟨_, oc, vs, t, e, _⟩ := x.K; exact Heap.lt_size e
end
/-! ## a step that changes U alone -/
structure Kept (U : List Addr) (h h' : Heap) : Prop where
  keep : ∀ b o, b ∉ U → h.get? b = some o → (isTab o = false ∨ b ≠ 77) → h'.get? b = some o
theorem Kept.kp {U : List Addr} {h h' h'' : Heap} (x : Kept U h h') (k : Kp h' h'') : Kept U h h'' := ⟨fun b o hb e n => k.keep b o (x.keep b o hb e n) n⟩
theorem Kept.of {U : List Addr} {h h' : Heap} (k : Kp h h') : Kept U h h' := ⟨fun b o _ e n => k.keep b o e n⟩
theorem Kept.trans {U : List Addr} {h h' h'' : Heap} (x : Kept U h h') (y : Kept U h' h'') : Kept U h h'' := ⟨fun b o hb e n => y.keep b o hb (x.keep b o hb e n) n⟩
theorem Kept.ext {env : Env} {FP M : Addr → Prop} {n : Nat} {U : List Addr} {h0 : Heap} (hf : ∀ b ∈ frameOf' env, h0.objs.size ≤ b) (hM : ∀ b, M b → b ∈ U ∨ h0.objs.size ≤ b) (hn : h0.objs.size ≤ n) : Ext env FP M n (Kept U h0) where
  kp := fun _ _ x k => x.kp k
  ch := fun h h' V x u _ k => ⟨fun b o hb e nt => k b o (fun z => by
    have lt := Heap.lt_size e
    rcases u b z with z | z | z
    · exact Nat.lt_irrefl _ (Nat.lt_of_lt_of_le lt (hf b z))
    · rcases hM b z with z | z
      · exact hb z
      · exact Nat.lt_irrefl _ (Nat.lt_of_lt_of_le lt z)
    · exact Nat.lt_irrefl _ (Nat.lt_of_lt_of_le lt (Nat.le_trans hn z))) (x.keep b o hb e nt)⟩
section
variable {s s₀ t t' : Shared} {env : Env} {FP : Addr → Prop} {n : Nat} {ρ : Str → Option PyData} {σ : Str → Option Value} {m cm : Str → Option Value} {U : List Addr}
theorem Act.rebase (a : Act s env m cm t) (st : Stp s₀ s) : Act s₀ env m cm t := ⟨st.kp.trans a.kp, (st.trans a.toStp).rest, a.ns, a.cell, a.apart, a.above, Nat.le_trans st.kp.size a.fresh, a.look, Nat.le_trans st.tk a.tk⟩
theorem Fx.rebase (f : Fx s env FP n ρ σ t) (st : Stp s₀ s) : Fx s₀ env FP n ρ σ t := let ⟨m, cm, a, r⟩ := f.ex; ⟨⟨m, cm, a.rebase st, r⟩, f.big⟩
/-- another's change of U -/
theorem Fx.chg (f : Fx s env FP n ρ σ t) (st : Stp s t') (k : Kept U t.heap t'.heap) (hU : ∀ b ∈ U, b ∉ frameOf' env) (off : Off FP (· ∈ U) t.heap) (hz : t.heap.objs.size ≤ t'.heap.objs.size) (htk : t.toks ≤ t'.toks) : Fx s env FP n ρ σ t' := by
  obtain ⟨m, cm, a, h, g⟩ := f.ex
  have k' : ∀ b o, ¬ (b ∈ U ∨ ∃ o, t.heap.get? b = some o ∧ isTab o = true) → t.heap.get? b = some o → t'.heap.get? b = some o := fun b o hb e => by
    refine k.keep b o (fun z => hb (.inl z)) e (.inl ?_)
    cases q : isTab o with
    | false => rfl
    | true => exact absurd (.inr ⟨o, e, q⟩) hb
  have off' : Off FP (fun b => b ∈ U ∨ ∃ o, t.heap.get? b = some o ∧ isTab o = true) t.heap := fun b o hb ho => by
    rcases hb with hb | ⟨o', ho', q⟩
    · exact off b o hb ho
    · rw [ho] at ho'; cases ho'
      have hc : o.cls = .none := by
        unfold isTab at q
        split at q
        · rename_i e _; exact e
        · cases q
      exact ⟨tupLike_cls (by rw [hc]; simp), .inl ⟨by rw [hc]; simp, by rw [hc]; simp⟩⟩
  refine ⟨⟨m, cm, ⟨st.kp, st.rest, ?_, ?_, a.apart, a.above, a.fresh, a.look, st.tk⟩, ?_, g⟩, Nat.le_trans f.big hz⟩
  · obtain ⟨o, es, ep, ho, hd, r⟩ := a.ns
    exact ⟨o, es, ep, k.keep _ _ (fun hm => hU _ hm (.head _)) ho (.inl (isTab_data (by rw [hd]; simp))), hd, r⟩
  · intro y c e
    obtain ⟨o, ho, hd⟩ := a.cell y c e
    exact ⟨o, k.keep _ _ (fun hm => hU _ hm (List.mem_cons_of_mem _ (List.mem_map.mpr ⟨(y, c), PySem.mem_of_lookup e, rfl⟩))) ho (.inl (isTab_data (by rw [hd]; simp))), hd⟩
  · intro x d e
    obtain ⟨v, kk, r⟩ := h x d e
    exact ⟨v, kk, r.chg k' off'⟩
end
/-! ## pop(0) -/
theorem seqIx00 (n : Nat) (h : 0 < n) : seqIndex? 0 n = some 0 := by
  unfold seqIndex?
  have : (decide ((0 : Int) ≤ 0) && decide ((0 : Int) < (n : Int))) = true := by simp; omega
  simp only [show ¬ ((0 : Int) < 0) by decide, if_false, this, if_true]; rfl
section
variable {prog : Program} {w : World} {A : Around} {E : Value → Shared → Prop} {s : Shared}
theorem pop_first {D : Addr} {y : Value} {vs : List Value} {u : Tok} {Q : Value → Shared → Prop} (hl : s.heap.PlainList D (y :: vs).toArray) (hz : (y :: vs).length ≤ sizeLine) (h : ∀ h', h'.PlainList D vs.toArray → Heap.SameBut D s.heap h' → Q y { s with heap := h' }) :
    wpAny (model prog w) A (call (.builtin "list.pop") [.ref D, .int 0 u]) Q E s := by
  obtain ⟨n, hn⟩ := hl
  have hi : seqIndex? 0 (y :: vs).toArray.size = some 0 := seqIx00 _ (by simp)
  have hg : (y :: vs).toArray[0]? = some y := by simp
  have q := PySem.IsL.update hn (fun xs => xs.eraseIdxIfInBounds 0)
  have e : (y :: vs).toArray.eraseIdxIfInBounds 0 = vs.toArray := kl_erase [] vs y
  rw [e] at q
  exact call_meets PySem.F.slot_list_pop ⟨_, hn, rfl⟩ PySem.F.entry_list_pop (PySem.F.args_list_pop_2 _ _) (PySem.MeetsSeq.list_pop_at D _ n 0 u 0 y (by decide) hi hg (by simpa using hz)) ⟨hn, h _ ⟨_, q⟩ (Heap.SameBut.update ..)⟩
end
end Mine
end
section
open PySem PySem.W PyProof.Rows PySem.Calls PySem.Spec PySem.SeqAt
set_option linter.unusedVariables false
set_option maxRecDepth 100000
namespace Mine
/-! ## what a call has left -/
structure After (sb s : Shared) (U : List Addr) (s' : Shared) : Prop where
  st : Stp sb s'
  kept : Kept U s.heap s'.heap
  size : s.heap.objs.size ≤ s'.heap.objs.size
  tk : s.toks ≤ s'.toks
section
variable {sb s t t' : Shared} {U V : List Addr}
theorem After.start (st : Stp sb s) : After sb s U s := ⟨st, .of (.refl _), Nat.le_refl _, Nat.le_refl _⟩
theorem After.stp (x : After sb s U t) (st : Stp t t') : After sb s U t' := ⟨x.st.trans st, x.kept.kp st.kp, Nat.le_trans x.size st.kp.size, Nat.le_trans x.tk st.tk⟩
theorem After.trans (x : After sb s U t) (y : After sb t U t') : After sb s U t' := ⟨y.st, x.kept.trans y.kept, Nat.le_trans x.size y.size, Nat.le_trans x.tk y.tk⟩
theorem Kept.mono {h h' : Heap} (x : Kept U h h') (hU : ∀ b ∈ U, b ∈ V) : Kept V h h' := ⟨fun b o hb e n => x.keep b o (fun z => hb (hU b z)) e n⟩
theorem After.mono (x : After sb s U t) (hU : ∀ b ∈ U, b ∈ V) : After sb s V t := ⟨x.st, x.kept.mono hU, x.size, x.tk⟩
/-- one object changes: one of U, or a new one -/
theorem After.step (x : After sb s U t) {D : Addr} {h' : Heap} {tk : Nat} (k : ∀ b o, b ≠ D → t.heap.get? b = some o → h'.get? b = some o) (hz : t.heap.objs.size ≤ h'.objs.size) (htk : t.toks ≤ tk) (hD : D ∈ U ∨ s.heap.objs.size ≤ D) (hb : sb.heap.objs.size ≤ D)
    (hs : ∀ o, t.heap.get? D = some o → soft o = true) : After sb s U { t with heap := h', toks := tk } := by
  have k' : ∀ b o, b ∉ [D] → t.heap.get? b = some o → h'.get? b = some o := fun b o hb e => k b o (fun z => hb (by rw [z]; exact .head _)) e
  refine ⟨⟨x.st.kp.but k' (fun b hm => by rw [List.mem_singleton.mp hm]; exact hb) (fun b hm o ho => by rw [List.mem_singleton.mp hm] at ho; exact hs o ho) (Nat.le_trans x.st.kp.size hz), ?_, Nat.le_trans x.st.tk htk⟩, ⟨fun b o hbU e n => ?_⟩, Nat.le_trans x.size hz, Nat.le_trans x.tk htk⟩
  · obtain ⟨h1, t1, rfl⟩ := x.st.rest
    exact ⟨h', tk, rfl⟩
  · refine k b o (fun z => ?_) (x.kept.keep b o hbU e n)
    subst z
    rcases hD with hD | hD
    · exact absurd hD (by assumption)
    · exact Nat.lt_irrefl _ (Nat.lt_of_lt_of_le (Heap.lt_size e) hD)
end
theorem iter_soft {h : Heap} {I ad : Addr} {i : Nat} (x : h.IsListIter I ad i) : ∀ o, h.get? I = some o → soft o = true := fun o ho => by
  obtain ⟨o', ho', hc, hd⟩ := x
  rw [ho'] at ho; cases ho
  exact soft_iter (k := i) (t := 0) hc hd rfl
theorem ns_soft {h : Heap} {C : Addr} {m : Str → Option Value} (x : h.Ns C m) : ∀ o, h.get? C = some o → soft o = true := fun o ho => by
  obtain ⟨o', es, ep, ho', hd, _⟩ := x
  rw [ho'] at ho; cases ho
  exact soft_noFields (by rw [hd]; simp)
theorem list_soft {h : Heap} {D : Addr} {ys : Array Value} (x : h.PlainList D ys) : ∀ o, h.get? D = some o → soft o = true := fun o ho => (plain_notab x o ho).2.1
section
variable {prog : Program} {w : World} {A : Around} {E : Value → Shared → Prop} {s : Shared} {env : Env} {FP : Addr → Prop} {x : Str} {v : Value} {d : PyData} {pos : Pos}
theorem ev_nameAt (hk : env.scope.kind = .function) (n : NameAt env s.heap x v) (r : Rd FP s.heap v d) (hd : (x == ("__debug__" : Str)) = false := by decide) (hn : (x == ("__classdict__" : Str)) = false := by decide) : Ev prog w A env FP s (.Name x pos) d := ⟨fun s' st _ _ h =>
  load_name hk (n.kp st.kp) (h v s' (.refl s') (r.kp st.kp)) hd hn⟩
theorem strs_rds {h : Heap} {vs : List Value} {ys : List Str} (x : StrsAre vs ys) : Rds FP h vs (ys.map .str) := by
  induction x with
  | nil => exact .nil
  | cons y t _ ih => exact .cons (.str _ _) ih
/-- a cut of a list of strs is a new list -/
theorem ev_uptoS {FP2 : Addr → Prop} {l hi : Expr} {xs : List Str} {n : Nat} {p : Pos} (fp2 : ∀ b, s.heap.objs.size ≤ b → FP2 b) (hl : Ev prog w A env FP s l (.list (xs.map .str))) (h2 : Ev prog w A env FP s hi (.int n)) (hz : xs.length ≤ sizeLine) :
    Ev prog w A env FP2 s (.Subscript l (.Slice none (some hi) none p) pos) (.list ((xs.map .str).take n)) := ⟨fun s0 st E Q hQ => by
  refine Subscript_ (hl.go s0 st _ _ fun va s1 st1 r1 => wpAny_Slice (wpAny_evalPart_none (wpAny_evalPart_some (h2.go s1 (st.trans st1) _ _ fun vu s3 st3 ru => wpAny_evalPart_none ?_))))
  obtain ⟨tu, rfl⟩ := ru.intOpen
  have r3 := (r1.kp st3.kp).kp (.push s3.heap { cls := .type "slice", data := .fields #[.none, .int n tu, .none] })
  obtain ⟨a, vs, rfl, hL, rv, _⟩ := r3.listOpen
  have hlen : vs.toArray.size ≤ sizeLine := by have := rv.length; simp at this; simpa [this] using hz
  have sAll : Stp s0 { s3 with heap := s3.heap.push { cls := .type "slice", data := .fields #[.none, .int n tu, .none] } } := (st1.trans st3).push1 _
  refine tail_any hL.typeIs slot_list_getitem.lookup (wpAny_getItem_list_slice hL (Heap.IsSliceOf.new ..) .none (.int _ _) .none (by simp) ?_ hlen) rfl
  have hsz := Nat.le_trans st.kp.size sAll.kp.size
  generalize hS : ({ s3 with heap := s3.heap.push { cls := .type "slice", data := .fields #[.none, .int n tu, .none] } } : Shared) = S at *
  have hH : s3.heap.push { cls := .type "slice", data := .fields #[.none, .int n tu, .none] } = S.heap := by rw [← hS]
  rw [hH] at rv
  have hs := rv.strs
  have rs : Rds FP2 S.heap vs (xs.map .str) := strs_rds hs
  refine hQ _ _ (sAll.push1 _) (.mkList (vs := (slicePick vs.toArray none (some (n : Int)) none).toList) ⟨_, Heap.get?_push_size _ rfl, rfl, 0, by rw [Array.toArray_toList]⟩ ?_ (fp2 _ hsz))
  rw [slicePick_upto']
  simpa using (rs.take n).kp (.push _ _)⟩
end
section
variable {w : World} {mg mb : Str → Option Value} {A : Around} {E : Value → Shared → Prop} {sb s : Shared} {a : LA} {text : List Nat} {pb : List Str}
noncomputable def lamComp : Expr := match lamBody with | .Call _ (c :: _) _ _ => c | _ => default
noncomputable def lamElt : Expr := match lamComp with | .ListComp e _ _ _ => e | _ => default
noncomputable def lamCS : Scope := match lamComp with | .ListComp _ _ s _ => s | _ => default
noncomputable def lamGens : List Comprehension := match lamComp with | .ListComp _ g _ _ => g | _ => []
noncomputable def lamCPos : Pos := match lamComp with | .ListComp _ _ _ p => p | _ => default
noncomputable def lamIter : Expr := match lamGens with | g :: _ => g.iter | _ => default
noncomputable def lamPx : Pos := match lamGens with | ⟨.Name _ p, _, _, _⟩ :: _ => p | _ => default
noncomputable abbrev lamEnv (a : LA) (L : Addr) : Env := newEnv lamScope L mainGlobals [("signs", a.C)] (lamQual ++ ".<locals>.") (some a.F) (.ref a.K) none builtinsNs
theorem Lex.popS {c : Nat} {h h' : Heap} {vs : List Value} (x : Lex a (c :: text) pb h) (hl : h'.PlainList a.S vs.toArray) (hv : StrsAre vs (sgn text)) (k : ∀ b o, b ≠ a.S → h.get? b = some o → h'.get? b = some o) : Lex a text pb h' := by
  have ne := x.ne
  have off : ∀ b ∈ [a.T, a.dT, a.L, a.C, a.F, a.K], b ≠ a.S := fun b hb e => ne.2.2 (e ▸ hb)
  refine ⟨k _ _ (off _ (by simp)) x.L, ?_, k _ _ (off _ (by simp)) x.T, ?_, ?_, ⟨vs, hl, hv⟩, ?_, ?_, ?_, ne⟩
  · obtain ⟨m, n, r⟩ := x.dL
    exact ⟨m, n.at fun o e => k _ o (fun q => ne.1 (by rw [q]; simp)) e, r⟩
  · obtain ⟨m, n, r⟩ := x.dT
    exact ⟨m, n.at fun o e => k _ o (off _ (by simp)) e, r⟩
  · obtain ⟨vs, n, r⟩ := x.P
    exact ⟨vs, n.at fun o e => k _ o (fun q => ne.2.1 (by rw [q]; simp)) e, r⟩
  · obtain ⟨o, e, d⟩ := x.C
    exact ⟨o, k _ _ (off _ (by simp)) e, d⟩
  · obtain ⟨pm, ct, e⟩ := x.F
    exact ⟨pm, ct, k _ _ (off _ (by simp)) e⟩
  · obtain ⟨n, oc, vs, t, e, r⟩ := x.K
    exact ⟨n, oc, vs, t, k _ _ (off _ (by simp)) e, r⟩
theorem strs_cons {vs : List Value} {y : Str} {ys : List Str} (x : StrsAre vs (y :: ys)) : ∃ t ws, vs = .str y t :: ws ∧ StrsAre ws ys := by
  cases x with
  | cons y t r => exact ⟨t, _, rfl, r⟩
theorem strs_snoc {vs : List Value} {ys : List Str} {y : Str} {t : Tok} (x : StrsAre vs ys) : StrsAre (vs ++ [.str y t]) (ys ++ [y]) := by
  induction x with
  | nil => exact .cons _ _ .nil
  | cons _ _ _ ih => exact .cons _ _ ih
theorem strs_nil {vs : List Value} (x : StrsAre vs []) : vs = [] := by cases x; rfl
set_option maxHeartbeats 2000000 in
theorem lam_comp {tk : Tok} {s2 : Shared} {L : Addr} {A' : Around} {Q : Value → Shared → Prop} (hh : A'.handled = none) (hun : A'.units + 200 < cLine) (af2 : After sb s [a.S] s2) (hb : sb.heap.objs.size ≤ a.S) (x2 : Lex a text pb s2.heap) (hall : ∀ b ∈ a.all, b < s.heap.objs.size) (hz : text.length ≤ 4000)
    (nmz : NameAt (lamEnv a L) s2.heap "size" (.int 1 tk))
    (hQ : ∀ D s', After sb s [a.S] s' → Lex a (text.drop 1) pb s'.heap → Rd (fun _ => True) s'.heap (.ref D) (.list ((sgn (text.take 1)).map .str)) → Q (.ref D) s') :
    wpAny (model prog w) A' (eval lamComp (lamEnv a L)) Q E s2 := by
  obtain ⟨svs, hS1, hsv⟩ := x2.S
  obtain ⟨oc1, hC1, hCd1⟩ := x2.C
  have hsS : sb.heap.objs.size ≤ s.heap.objs.size := Nat.le_trans hb (Nat.le_of_lt (hall a.S (by simp)))
  have nm : NameAt (lamEnv a L) s2.heap "signs" (.ref a.S) := .free rfl rfl hC1 hCd1
  have rS : Rd (fun _ => True) s2.heap (.ref a.S) (.list ((sgn text).map .str)) := .mkList hS1.isList (strs_rds hsv) trivial
  have cx : Cx A' (lamEnv a L) (fun _ => True) s2 := ⟨fun _ _ => trivial, hh, hun, rfl⟩
  show wpAny _ _ (comprehension (.ListComp lamElt [⟨.Name "sign" lamPx, lamIter, [], 0⟩] lamCS lamCPos) lamCS (lamEnv a L) (firstIterPos [⟨.Name "sign" lamPx, lamIter, [], 0⟩] lamCPos) (newList []) (firstAsync [⟨.Name "sign" lamPx, lamIter, [], 0⟩]) (firstIter [⟨.Name "sign" lamPx, lamIter, [], 0⟩] (lamEnv a L)) none) _ _ _
  refine wpAny_comprehension_free (use := none) (cl := [("signs", a.C)]) rfl (fun _ => rfl) rfl rfl (by show ∀ x ∈ lamCS.names, x.2 = .local → lamCS.names.lookup x.1 = some .local; decide) ?_
  have hut : Ev prog w A' (lamEnv a L) (fun b => s2.heap.objs.size ≤ b) s2 (.Subscript (.Name "signs" ⟨87, 63, 87, 68⟩) (.Slice none (some (.Name "size" ⟨87, 70, 87, 74⟩)) none ⟨87, 69, 87, 74⟩) ⟨87, 63, 87, 75⟩) (.list (((sgn text).map .str).take 1)) :=
    ev_uptoS (n := 1) (fun _ h => h) (ev_nameAt rfl nm rS) (ev_nameAt rfl nmz (.int _ _)) (by unfold sgn; rw [List.length_map, sizeLine_eq]; omega)
  refine hut.go s2 (.refl s2) _ _ fun v3 s3 st3 r3 => ?_
  obtain ⟨ad, its, rfl, hL3, rits, hadNew⟩ := r3.listOpen
  refine wpAny_pyIter_list hL3 ?_
  have st4 : Stp s3 { s3 with heap := s3.heap.push { cls := .type "list_iterator", data := .fields #[.ref ad, .int 0 0] } } := .push _ _
  have hI4 : Heap.IsListIter (s3.heap.push { cls := .type "list_iterator", data := .fields #[.ref ad, .int 0 0] }) s3.heap.objs.size ad 0 := ⟨_, Heap.get?_push_size _ rfl, rfl, rfl⟩
  have hA4 : (s3.heap.push { cls := .type "list_iterator", data := .fields #[.ref ad, .int 0 0] }).IsList ad its.toArray := hL3.push _
  have hadlt : ad < s3.heap.objs.size := by obtain ⟨o, ho, _⟩ := hL3; exact Heap.lt_size ho
  generalize hs4 : ({ s3 with heap := s3.heap.push { cls := .type "list_iterator", data := .fields #[.ref ad, .int 0 0] } } : Shared) = s4 at st4
  have hs4h : s3.heap.push { cls := .type "list_iterator", data := .fields #[.ref ad, .int 0 0] } = s4.heap := by rw [← hs4]
  rw [hs4h] at hI4 hA4
  have hz4 : s4.heap.objs.size = s3.heap.objs.size + 1 := by rw [← hs4h, Heap.size_push]
  generalize hI : s3.heap.objs.size = I at hI4 hadlt hz4
  refine wpAny_newList ?_ (Nat.zero_le _)
  have st5 : Stp s4 { s4 with heap := s4.heap.push { cls := .type "list", data := .seq ([] : List Value).toArray } } := .push _ _
  have hD5 : (s4.heap.push { cls := .type "list", data := .seq ([] : List Value).toArray }).PlainList s4.heap.objs.size #[] := ⟨_, Heap.get?_push_size _ rfl⟩
  generalize hs5 : ({ s4 with heap := s4.heap.push { cls := .type "list", data := .seq ([] : List Value).toArray } } : Shared) = s5 at st5
  have hs5h : s4.heap.push { cls := .type "list", data := .seq ([] : List Value).toArray } = s5.heap := by rw [← hs5]
  rw [hs5h] at hD5
  have hz5 : s5.heap.objs.size = s4.heap.objs.size + 1 := by rw [← hs5h, Heap.size_push]
  generalize hD : s4.heap.objs.size = D at hD5 hz5 hz4
  refine with_size (with_tk (wpAny_newFunctionEnv (by show ∀ x ∈ lamCS.names, x.2 ≠ .cell; decide) (by intro x hx; nomatch hx) (fun h6 hns hsb htk hsz => ?_) rfl))
  have k6 : ∀ b o, s5.heap.get? b = some o → h6.get? b = some o := fun b o e => hsb.extBut b o (Nat.ne_of_lt (Heap.lt_size e)) (Heap.get?_push_of_some _ e)
  have st6 : Stp s5 { s5 with heap := h6, toks := s5.toks + ([] : List (Str × Value)).length } := ⟨.of k6 hsz, ⟨_, _, rfl⟩, htk⟩
  generalize hs6 : ({ s5 with heap := h6, toks := s5.toks + ([] : List (Str × Value)).length } : Shared) = s6 at st6
  have hns6 : s6.heap.Ns s5.heap.objs.size (fun y => ([] : List (Str × Value)).reverse.lookup y) := by rw [← hs6]; exact hns
  clear hs6 hns hsb k6 hsz htk
  generalize hC : s5.heap.objs.size = C at hns6 hz5
  have hI6 : s6.heap.IsListIter I ad 0 := hI4.at fun o e => st6.kp.at (st5.kp.at e (by obtain ⟨o', ho', hc', hd'⟩ := hI4; rw [ho'] at e; cases e; exact isTab_cls hc')) (by obtain ⟨o', ho', hc', hd'⟩ := hI4; rw [ho'] at e; cases e; exact isTab_cls hc')
  have hA6 : s6.heap.IsList ad its.toArray := hA4.at fun o e => st6.kp.at (st5.kp.at e (by obtain ⟨o', ho', hc', hd'⟩ := hA4; rw [ho'] at e; cases e; exact isTab_cls hc')) (by obtain ⟨o', ho', hc', hd'⟩ := hA4; rw [ho'] at e; cases e; exact isTab_cls hc')
  have hD6 : s6.heap.PlainList D #[] := hD5.at fun o e => st6.kp.at e (plain_notab hD5 o e).1
  have af6 := (((af2.stp st3).stp st4).stp st5).stp st6
  have x6 := (((x2.kp st3.kp).kp st4.kp).kp st5.kp).kp st6.kp
  have W := Walks.list (prog := prog) (w := w) (A := A') hh I ad (Nat.ne_of_lt hadlt) its.toArray
  have hsI : s.heap.objs.size ≤ I := by rw [← hI]; exact (af2.stp st3).size
  have hsD : s.heap.objs.size ≤ D := by omega
  have hsC : s.heap.objs.size ≤ C := by omega
  have hit : its.length = (text.take 1).length := by have := rits.length; unfold sgn at this; rw [this]; simp
  have hle : its.length ≤ text.length := by rw [hit, List.length_take]; exact Nat.min_le_right _ _
  have hneI : I ≠ D ∧ I ≠ C ∧ D ≠ C := by omega
  have hadD : ad ≠ D := Nat.ne_of_lt (Nat.lt_of_lt_of_le hadlt (by omega))
  have hadC : ad ≠ C := Nat.ne_of_lt (Nat.lt_of_lt_of_le hadlt (by omega))
  have hnew : ∀ b ∈ a.all, ∀ X, s.heap.objs.size ≤ X → b ≠ X := fun b hb X hX e => Nat.lt_irrefl _ (Nat.lt_of_lt_of_le (e ▸ hall b hb) hX)
  -- the end of the block
  have fin : ∀ s' ys, After sb s [a.S] s' → Lex a (text.drop 1) pb s'.heap → s'.heap.PlainList D ys.toArray → StrsAre ys (sgn (text.take 1)) → (∃ m, s'.heap.Ns C m) →
      compPost (model prog w) A' E none Q (.ref D) C (.ok .next) s' := fun s' ys af xL hl hys ⟨m, hm⟩ => by
    refine ⟨m, hm, fun h' hs' => ?_⟩
    have af' : After sb s [a.S] { s' with heap := h' } := af.step (tk := s'.toks) (D := C) (fun b o hb e => hs'.extBut b o hb e) (Nat.le_of_eq hs'.1.symm) (Nat.le_refl _) (.inr hsC) (Nat.le_trans hsS hsC) (ns_soft hm)
    have xL' : Lex a (text.drop 1) pb h' := xL.at fun b hb o e _ => hs'.extBut b o (hnew b hb C hsC) e
    have hl' : h'.PlainList D ys.toArray := hl.at fun o e => hs'.extBut D o hneI.2.2 e
    exact hQ D _ af' xL' (.mkList hl'.isList (strs_rds hys) trivial)
  have loop : ∀ s', s' = s6 → codeAny (model prog w) A' (.compLoop (.ListComp lamElt [⟨.Name "sign" lamPx, lamIter, [], 0⟩] lamCS lamCPos) 0 (.ref I) (.ref D) (compEnvC lamCS [("signs", a.C)] C (lamEnv a L))) (compPost (model prog w) A' E none Q (.ref D) C) s' := fun s' hs' => by
    refine compLoop_any (fun k t => ∃ i, i ≤ its.length ∧ k = its.length + 1 - i ∧ After sb s [a.S] t ∧ Lex a (text.drop i) pb t.heap ∧ t.heap.IsListIter I ad i ∧ t.heap.IsList ad its.toArray ∧ (∃ ys : List Value, t.heap.PlainList D ys.toArray ∧ StrsAre ys (sgn (text.take i))) ∧ ∃ m, t.heap.Ns C m) ?_ (its.length + 1)
      ⟨0, Nat.zero_le _, rfl, hs' ▸ af6, hs' ▸ x6, hs' ▸ hI6, hs' ▸ hA6, ⟨[], hs' ▸ hD6, .nil⟩, _, hs' ▸ hns6⟩
    rintro k t ⟨i, hi, rfl, af, xL, hI', hA', ⟨ys, hl, hys⟩, m, hm⟩
    have hadI : ∀ {h h' : Heap}, h.IsList ad its.toArray → (∀ b o, b ≠ I → h.get? b = some o → h'.get? b = some o) → h'.IsList ad its.toArray := fun hx k => hx.at fun o e => k ad o (Nat.ne_of_lt hadlt) e
    by_cases hlt : i < its.length
    · refine with_size (with_tk (W.item i t _ _ (by simpa using hlt) ⟨hI', hA'⟩ fun v h1 tk1 hv hst1 hk1 htk1 hz1 => ?_))
      have k1 : ∀ b o, b ≠ I → t.heap.get? b = some o → h1.get? b = some o := fun b o hb e => hk1 b o (fun z => hb (List.mem_singleton.mp z)) e
      have af1 := af.step k1 hz1 htk1 (.inr hsI) (Nat.le_trans hsS hsI) (iter_soft hI')
      have xL1 : Lex a (text.drop i) pb h1 := xL.at fun b hb o e _ => k1 b o (hnew b hb I hsI) e
      have hl1 := hl.at fun o e => k1 D o (Ne.symm hneI.1) e
      have hm1 := hm.at' fun o e => k1 C o (Ne.symm hneI.2.1) e
      obtain ⟨hI1, hA1⟩ := hst1
      obtain ⟨oI, hoI, hcI, hdI⟩ := id hI1
      refine letOwned_other hoI hcI (by decide) ?_
      refine with_size (with_tk (wpAny_assign_Name (wpAny_storeName_local (env := compEnvC lamCS [("signs", a.C)] C (lamEnv a L)) (lookup_relabel_local rfl) hm1 (fun h2 hm2 hs2 htk2 hz2 => ?_) rfl)))
      have k2 : ∀ b o, b ≠ C → h1.get? b = some o → h2.get? b = some o := fun b o hb e => hs2.extBut b o hb e
      have af2' := af1.step (tk := tk1 + 1) k2 hz2 htk2 (.inr hsC) (Nat.le_trans hsS hsC) (ns_soft hm1)
      have xL2 : Lex a (text.drop i) pb h2 := xL1.at fun b hb o e _ => k2 b o (hnew b hb C hsC) e
      have hl2 := hl1.at fun o e => k2 D o hneI.2.2 e
      have hI2 : h2.IsListIter I ad (i + 1) := hI1.at fun o e => k2 I o hneI.2.1 e
      have hA2 : h2.IsList ad its.toArray := hA1.at fun o e => k2 ad o hadC e
      refine wpAny_tests_nil ?_
      simp only [if_true]
      have hlt' : i < text.length := Nat.lt_of_lt_of_le hlt hle
      have hdrop : text.drop i = text[i] :: text.drop (i + 1) := List.drop_eq_getElem_cons hlt'
      rw [hdrop] at xL2
      obtain ⟨oC2, hC2, hCd2⟩ := xL2.C
      obtain ⟨sv2, hS2, hsv2⟩ := xL2.S
      obtain ⟨ts, ws, rfl, hws⟩ := strs_cons hsv2
      have nm2 : NameAt (compEnvC lamCS [("signs", a.C)] C (lamEnv a L)) h2 "signs" (.ref a.S) := .free rfl rfl hC2 hCd2
      refine wpAny_Call_method_lateS rfl rfl rfl (load_name rfl nm2 ?_ (by decide) (by decide))
      obtain ⟨nS, hnS⟩ := id hS2
      refine ⟨"list", "list.pop", PySem.F.plainAttrs_list, PySem.F.slot_list_pop, PySem.F.type_list_pop, hS2.isList.typeIs, (fun b e => by cases e; exact ⟨_, hnS, rfl⟩), ?_⟩
      refine callWith_builtin rfl (evalArgs_all rfl ((evAll_cons ev_int evAll_nil : EvAll prog w A' _ (fun _ => True) _ _ [.int 0]).go _ _ (.refl _) _ _ fun vs s3 st3' r3' => ?_))
      obtain ⟨v0, rfl, r0⟩ := r3'.one
      obtain ⟨t0, rfl⟩ := r0.intOpen
      have af3 := af2'.stp st3'
      have xL3 := xL2.kp st3'.kp
      have hS3 := hS2.at fun o e => st3'.kp.at e (plain_notab hS2 o e).1
      have hl3 := hl2.at fun o e => st3'.kp.at e (plain_notab hl2 o e).1
      have hI3 : s3.heap.IsListIter I ad (i + 1) := hI2.at fun o e => st3'.kp.at e (by obtain ⟨o', ho', hc', hd'⟩ := hI2; rw [ho'] at e; cases e; exact isTab_cls hc')
      have hA3 : s3.heap.IsList ad its.toArray := hA2.at fun o e => st3'.kp.at e (by obtain ⟨o', ho', hc', hd'⟩ := hA2; rw [ho'] at e; cases e; exact isTab_cls hc')
      have hm3 := hm2.at' fun o e => st3'.kp.at e (by obtain ⟨o', es, ep, ho', hd', _⟩ := hm2; rw [ho'] at e; cases e; exact isTab_data (by rw [hd']; simp))
      have hSz : (Value.str ⟨#[text[i]]⟩ ts :: ws).length ≤ sizeLine := by
        have := strs_rds (FP := fun _ => True) (h := h2) hsv2
        have := this.length
        unfold sgn at this
        rw [this, List.length_map, List.length_map, List.length_cons, List.length_drop, sizeLine_eq]; omega
      refine with_size (pop_first hS3 hSz fun h4 hS4 hs4' hz4' => ?_)
      have k4 : ∀ b o, b ≠ a.S → s3.heap.get? b = some o → h4.get? b = some o := fun b o hb e => hs4'.extBut b o hb e
      have hne4 : ∀ X, s.heap.objs.size ≤ X → X ≠ a.S := fun X hX e => Nat.lt_irrefl _ (Nat.lt_of_lt_of_le (hall a.S (by simp)) (e ▸ hX))
      have af4 := af3.step (D := a.S) (tk := s3.toks) k4 hz4' (Nat.le_refl _) (.inl (.head _)) hb (list_soft hS3)
      have xL4 : Lex a (text.drop (i + 1)) pb h4 := xL3.popS hS4 hws k4
      have hl4 := hl3.at fun o e => k4 D o (hne4 D hsD) e
      have hI4' : h4.IsListIter I ad (i + 1) := hI3.at fun o e => k4 I o (hne4 I hsI) e
      have hm4 := hm3.at' fun o e => k4 C o (hne4 C hsC) e
      have hadS : ad ≠ a.S := fun z => Nat.lt_irrefl _ (Nat.lt_of_lt_of_le (x2.lt a.S (by simp)) (z ▸ hadNew))
      have hA4' : h4.IsList ad its.toArray := hA3.at fun o e => k4 ad o hadS e
      have hyz : ys.toArray.size ≤ sizeLine := by
        have := strs_rds (FP := fun _ => True) (h := h2) hys
        have := this.length
        unfold sgn at this
        simp at this
        rw [List.size_toArray, this, sizeLine_eq]; omega
      refine with_size (wpAny_list_append_plain (hsz := hyz) hl4 fun h5 hl5 hs5' hz5' => ?_)
      have k5 : ∀ b o, b ≠ D → h4.get? b = some o → h5.get? b = some o := fun b o hb e => hs5'.extBut b o hb e
      refine ⟨its.length + 1 - (i + 1), by omega, i + 1, hlt, rfl, af4.step (D := D) (tk := s3.toks) k5 hz5' (Nat.le_refl _) (.inr hsD) (Nat.le_trans hsS hsD) (list_soft hl4), xL4.at fun b hb o e _ => k5 b o (hnew b hb D hsD) e,
        hI4'.at fun o e => k5 I o hneI.1 e, hA4'.at fun o e => k5 ad o hadD e, ⟨ys ++ [.str ⟨#[text[i]]⟩ ts], by simpa using hl5, ?_⟩, _, hm4.at' fun o e => k5 C o (Ne.symm hneI.2.2) e⟩
      rw [List.take_add_one, List.getElem?_eq_getElem hlt']
      unfold sgn at hys ⊢
      rw [List.map_append]
      exact strs_snoc hys
    · have hin : i = its.length := by omega
      subst hin
      refine with_size (with_tk (W.done t _ _ (by simpa using ⟨hI', hA'⟩) fun h1 tk1 hk1 htk1 hz1 => ?_))
      have k1 : ∀ b o, b ≠ I → t.heap.get? b = some o → h1.get? b = some o := fun b o hb e => hk1 b o (fun z => hb (List.mem_singleton.mp z)) e
      have e1 : text.take its.length = text.take 1 := by
        rw [hit, List.length_take]
        by_cases h : 1 ≤ text.length
        · rw [Nat.min_eq_left h]
        · rw [Nat.min_eq_right (by omega), List.take_of_length_le (Nat.le_refl _), List.take_of_length_le (by omega)]
      have e2 : text.drop its.length = text.drop 1 := by
        rw [hit, List.length_take]
        by_cases h : 1 ≤ text.length
        · rw [Nat.min_eq_left h]
        · rw [Nat.min_eq_right (by omega), List.drop_eq_nil_of_le (Nat.le_refl _), List.drop_eq_nil_of_le (by omega)]
      rw [e2] at xL
      rw [e1] at hys
      exact fin _ ys (af.step k1 hz1 htk1 (.inr hsI) (Nat.le_trans hsS hsI) (iter_soft hI')) (xL.at fun b hb o e _ => k1 b o (hnew b hb I hsI) e) (hl.at fun o e => k1 D o (Ne.symm hneI.1) e) hys ⟨m, hm.at' fun o e => k1 C o (Ne.symm hneI.2.1) e⟩
  exact codeAny_compStart_list (loop s6 rfl) (W.self 0 _ _ _ ⟨hI6, hA6⟩ (loop s6 rfl))
set_option maxHeartbeats 1000000 in
theorem lam_call {tk : Tok} (S : Stat w mg mb s.heap) (room : Room A 1) (st : Stp sb s) (hb : sb.heap.objs.size ≤ a.S) (x : Lex a text pb s.heap) (hz : text.length ≤ 4000) {Q : Value → Shared → Prop}
    (hQ : ∀ t s', After sb s [a.S] s' → Lex a (text.drop 1) pb s'.heap → Q (.str (tx (text.take 1)) t) s') : wpAny (model prog w) A (call (.ref a.F) [.int 1 tk]) Q E s := by
  obtain ⟨pm, ct, hF⟩ := x.F
  obtain ⟨hK, oc, kvs, kt, hoc, hocd, hocv⟩ := x.K
  refine wpAny_call (kla_callFunE (by have := room.dp; omega) hF rfl rfl rfl rfl ⟨a.K, oc, kvs, kt, rfl, hoc, hocd, hocv⟩ ?_)
  have hbind : bindArgs (lamFd a pm ct) ⟨[.int 1 tk], []⟩ = pure [(Str.ofString "size", Value.int 1 tk)] := rfl
  rw [hbind]
  refine wpAny_pure (with_size (with_tk (wpAny_newFunctionEnv (by show ∀ x ∈ lamScope.names, x.2 ≠ .cell; decide) (by intro x hx; rw [List.mem_singleton.mp hx]; rfl) (fun h₁ hns hsb htk hsz => ?_) rfl)))
  have k1 : ∀ b o, s.heap.get? b = some o → h₁.get? b = some o := fun b o e => hsb.extBut b o (Nat.ne_of_lt (Heap.lt_size e)) (Heap.get?_push_of_some _ e)
  have st1 : Stp s { s with heap := h₁, toks := s.toks + [(Str.ofString "size", Value.int 1 tk)].length } := ⟨.of k1 hsz, ⟨_, _, rfl⟩, htk⟩
  generalize hs1 : ({ s with heap := h₁, toks := s.toks + [(Str.ofString "size", Value.int 1 tk)].length } : Shared) = s1 at st1
  have hns1 : s1.heap.Ns s.heap.objs.size (fun y => [(Str.ofString "size", Value.int 1 tk)].reverse.lookup y) := by rw [← hs1]; exact hns
  refine ⟨(S.kp st1.kp).lim, ?_⟩
  clear hs1 hns hsb k1 hsz htk
  show codeAny (model prog w) A (.expr lamBody (lamEnv a s.heap.objs.size)) _ s1
  have af1 : After sb s [a.S] s1 := (After.start st).stp st1
  have x1 := x.kp st1.kp
  have hall := x.lt
  have hh : (A.deeper (lamEnv a s.heap.objs.size)).handled = none := room.hh
  refine kla_codeExpr ?_
  refine wpAny_Call_method_lateS rfl rfl rfl ?_
  refine (ev_str (FP := fun _ => True) : Ev prog w _ _ _ s1 _ _).go s1 (.refl s1) _ _ fun v0 s2 st2 r0 => ?_
  obtain ⟨t0, rfl⟩ := r0.strOpen
  refine ⟨"str", "str.join", F.plainAttrs_str, F.slot_str_join, F.type_str_join, typeIs_str _ _ _, (fun _ e => nomatch e), ?_⟩
  refine callWith_builtin rfl (evalArgs_all rfl ?_)
  refine spliced_cons ?_
  show wpAny _ _ (eval lamComp (lamEnv a s.heap.objs.size)) _ _ _
  refine lam_comp (sb := sb) (s := s) hh (by show A.units + 3 + 200 < _; have := room.un; omega) (af1.stp st2) hb (x1.kp st2.kp) hall hz ((NameAt.loc rfl hns1 rfl : NameAt (lamEnv a s.heap.objs.size) s1.heap "size" (.int 1 tk)).kp st2.kp) fun D s' af' xL' rD => spliced_nil ?_
  have e0 : Txt.join (Str.ofString "") (sgn (text.take 1)) = tx (text.take 1) := by
    have := join0 (sgn (text.take 1))
    rw [this]
    unfold sgn
    rw [List.flatMap_map]
    congr 1
    exact List.flatMap_singleton' _
  refine (call_joinL (prog := prog) (w := w) (A := A.deeper (lamEnv a s.heap.objs.size)) (FP := fun _ => True) (s₀ := s') (sep := Str.ofString "") (ys := sgn (text.take 1)) ?_).go _ (.refl _) [.str (Str.ofString "") t0, .ref D] (.cons (.str _ _) (.cons rD .nil)) _ _ fun v s'' st'' r'' => ?_
  · have h1 := join0_len (sgn (text.take 1))
    have h2 : (Txt.join (Mine.S "") (sgn (text.take 1))).length ≤ 1 := by
      have e1 : Txt.join (Mine.S "") (sgn (text.take 1)) = tx (text.take 1) := e0
      rw [e1, len_ls, ls_tx, List.length_take]; exact Nat.min_le_left _ _
    have h3 : (sgn (text.take 1)).length ≤ 1 := by unfold sgn; rw [List.length_map, List.length_take]; exact Nat.min_le_left _ _
    have h4 : (Str.ofString "").length = 0 := by decide +kernel
    rw [h4, ← h1]; omega
  · obtain ⟨t, rfl⟩ := r''.strOpen
    rw [e0]
    exact hQ t s'' (af'.stp st'') (xL'.kp st''.kp)
end
end Mine
end
section
open PySem PySem.W PyProof.Rows PySem.Calls PySem.Spec PySem.SeqAt
set_option linter.unusedVariables false
set_option maxRecDepth 100000
namespace Mine
/-- an expression that may act: the frame's facts stay, the heap fact goes from X to X' -/
structure Evx (prog : Program) (w : World) (A : Around) (env : Env) (FP : Addr → Prop) (s : Shared) (n : Nat) (X : Heap → Prop) (ρ : Str → Option PyData) (σ : Str → Option Value) (e : Expr) (X' : Heap → Prop) (d : PyData) : Prop where
  go : ∀ t, Fx s env FP n ρ σ t → X t.heap → ∀ (E : Value → Shared → Prop) (Q : Value → Shared → Prop), (∀ v t', Fx s env FP n ρ σ t' → X' t'.heap → Rd FP t'.heap v d → Q v t') → wpAny (model prog w) A (eval e env) Q E t
section
variable {prog : Program} {w : World} {A : Around} {env : Env} {FP M : Addr → Prop} {s t t' : Shared} {n : Nat} {X X' Y : Heap → Prop} {ρ ρ' : Str → Option PyData} {σ : Str → Option Value} {rest body orelse : List Stmt} {d d1 d2 : PyData} {e test : Expr} {x y : Str} {p p2 px py tp pos : Pos} {l : List (Str × PyData)} {K : Flow → Shared → Prop} {E : Value → Shared → Prop} {U : List Addr}
theorem tr_assignX (hX' : Ext env FP M n X') (b : Bd A env FP n) (h : Evx prog w A env FP s n X ρ σ e X' d1) (hr : Tr prog w A env FP s n X' (put ρ x d1) σ rest K E)
    (hk : env.kindOf x = some .local ∨ (env.kindOf x = some .cell ∧ (env.cells.lookup x).isSome = true)) (hs : swapsWith e (some (.Name x p)) pos.line env = pure false := by rfl) (hσ : σ x = none := by rfl) :
    Tr prog w A env FP s n X ρ σ (.Assign [.Name x p] e pos :: rest) K E := ⟨fun t f x' =>
  wpAny_execs_cons (wpAny_Assign_Name (h.go t f x' _ _ fun v t' f' x'' r => tr_store hX' b f' x'' r hk hσ fun t'' f'' x3 => hr.go t'' f'' x3) hs)⟩
theorem Fx.after (f : Fx s env FP n ρ σ t) (af : After s t U t') (hf : ∀ b ∈ U, b ∉ frameOf' env) (hU : ∀ b ∈ U, ¬ FP b ∧ ∀ o, t.heap.get? b = some o → ¬ tupLike o) : Fx s env FP n ρ σ t' :=
  f.chg af.st af.kept hf (fun b o hb ho => ⟨(hU b hb).2 o ho, .inr (hU b hb).1⟩) af.size af.tk
end
section
variable {w : World} {mg mb : Str → Option Value} {A : Around} {E : Value → Shared → Prop} {sb s t : Shared} {a : LA} {text : List Nat} {pb : List Str} {env : Env} {FP : Addr → Prop} {x : Str} {pos p : Pos} {m : Str → Option Value} {z : Nat} {v : Value}
/-- self.x -/
theorem get_self {expr : Bool} {Q : Value → Shared → Prop} (S : Stat w mg mb s.heap) (xL : Lex a text pb s.heap) (n : s.heap.Ns a.dL m) (hm : m x = some v) (ha : findIn (K w.params) (.ref 64) x = some none := by kernel_rfl) (hv : handedIn v = true := by rfl)
    (h : Q v { s with toks := s.toks + 1 }) : wpAny (model prog w) A (getAttr (.ref a.L) x expr) Q E s := get_inst (fun b o e => S.X b o e) xL.L n hm ha hv h
theorem fnAt_rc {h : Heap} (S : Stat w mg mb h) : FnAt h 47 (fdK 47) := fnAt (c := 46) S rfl rfl rfl rfl rfl rfl
theorem fnAt_gt {h : Heap} (S : Stat w mg mb h) : FnAt h 54 (fdK 54) := fnAt (c := 53) S rfl rfl rfl rfl rfl rfl
theorem fnAt_pt {h : Heap} (S : Stat w mg mb h) : FnAt h 61 (fdK 61) := fnAt (c := 60) S rfl rfl rfl rfl rfl rfl
theorem fnAt_init {h : Heap} (S : Stat w mg mb h) : FnAt h 40 (fdK 40) := fnAt (c := 39) S rfl rfl rfl rfl rfl rfl
/-- the ground of a lexer's call -/
structure LG (w : World) (mg mb : Str → Option Value) (A : Around) (sb s : Shared) (a : LA) (text : List Nat) (pb : List Str) (k : Nat) : Prop where
  Sb : Stat w mg mb sb.heap
  room : Room A k
  st : Stp sb s
  low : ∀ b ∈ a.mut, sb.heap.objs.size ≤ b
  x : Lex a text pb s.heap
  len : text.length ≤ 4000
theorem LG.S {k : Nat} (g : LG w mg mb A sb s a text pb k) : Stat w mg mb s.heap := g.Sb.kp g.st.kp
noncomputable abbrev FPm (a : LA) : Addr → Prop := fun b => b ∉ a.mut
noncomputable abbrev LX (a : LA) (text : List Nat) (pb : List Str) (h0 : Heap) : Heap → Prop := fun h => Lex a text pb h ∧ Kept a.mut h0 h
theorem mut_all {b : Addr} (h : b ∈ a.mut) : b ∈ a.all := by
  simp only [LA.mut, LA.all, List.mem_cons, List.not_mem_nil, or_false] at h ⊢
  rcases h with h | h | h <;> simp [h]
theorem lexX {n : Nat} (hall : ∀ b ∈ a.all, b < s.heap.objs.size) (hf : ∀ b ∈ frameOf' env, s.heap.objs.size ≤ b) (hn : s.heap.objs.size ≤ n) : Ext env FP noM n (LX a text pb s.heap) :=
  (Lex.ext fun b hb => ⟨fun z => Nat.lt_irrefl _ (Nat.lt_of_lt_of_le (hall b hb) (hf b z)), fun z => z, Nat.lt_of_lt_of_le (hall b hb) hn⟩).and (Kept.ext hf (fun _ z => nomatch z) hn)
/-- what a method of the lexer leaves -/
noncomputable def lexK (sb s : Shared) (a : LA) (Q : Value → Shared → Prop) (fl : Flow) (t : Shared) : Prop := Stp sb t ∧ Kept a.mut s.heap t.heap ∧ (After sb s a.mut t → Q (match fl with | .ret v => v | _ => .none) t)
/-- entering a method of the lexer -/
theorem enter_lexC {k : Nat} {f : Addr} {fd : FuncData} {body : List Stmt} {vs : List Value} {params : List Str} {ρ : Str → Option PyData} {σ : Str → Option Value} {Q : Value → Shared → Prop} (g : LG w mg mb A sb s a text pb (k + 1)) (F : FnAt s.heap f fd) (hlen' : vs.length = params.length)
    (hρ : ∀ x d, ρ x = some d → ∃ v, (x, v) ∈ params.zip vs ∧ Rd (FPm a) s.heap v d) (hσ : ∀ x v, σ x = some v → (x, v) ∈ params.zip vs)
    (run : ∀ (FP' : Addr → Prop) (n : Nat), (∀ b, FP' b → FPm a b) → s.heap.objs.size ≤ n → (∀ b ∈ frameOf' (callEnvC fd s.heap.objs.size f), s.heap.objs.size ≤ b) →
      Bd (A.deeper (callEnvC fd s.heap.objs.size f)) (callEnvC fd s.heap.objs.size f) FP' n → ∀ (E' : Value → Shared → Prop),
      Tr prog w (A.deeper (callEnvC fd s.heap.objs.size f)) (callEnvC fd s.heap.objs.size f) FP' sb n (LX a text pb s.heap) ρ σ body (lexK sb s a Q) E')
    (hbind : bindArgs fd ⟨vs, []⟩ = pure (params.zip vs) := by rfl)
    (hbody : fd.body = .stmts body := by rfl) (hclo : fd.closure = [] := by rfl)
    (hkind : ∀ x ∈ params, fd.scope.names.lookup x = some .local ∨ (fd.scope.names.lookup x = some .cell ∧ ((cellsFrom 0 fd.scope.names []).map (·.1)).contains x = true) := by decide)
    (hnd : ((cellsFrom 0 fd.scope.names []).map (·.1)).Nodup := by decide) (hpn : params.Nodup := by decide)
    (hco : fd.scope.isCoroutine = false := by rfl) (hgen : fd.scope.isGenerator = false := by rfl) (hk : fd.scope.kind = .function := by rfl) :
    codeAny (model prog w) A (.call (.ref f) ⟨vs, []⟩) (retR Q E) s := by
  have hall := g.x.lt
  refine code_size (code_tk (enter_defC (FP := FPm a) F (g.room.le (by omega)) (fun b hb hm => Nat.lt_irrefl _ (Nat.lt_of_lt_of_le (hall b (mut_all hm)) hb)) params vs hlen' ρ σ hρ hσ ?_ hbind hbody hclo hkind hnd hpn hco hgen hk))
  intro FP' n s1 hf _ hn b fx old
  obtain ⟨m, cm, act, _, _⟩ := fx.ex
  have fsb := fx.rebase g.st
  refine wpAny_mono ((run FP' n hf hn (frame_lo act) b _).go s1 fsb ⟨g.x.kp act.kp, .of act.kp⟩) (fun fl t' h htk hsz => ?_) fun _ _ h => h
  exact h.2.2 ⟨h.1, h.2.1, hsz, htk⟩
theorem enter_lex {k : Nat} {f : Addr} {fd : FuncData} {body : List Stmt} {vs : List Value} {params : List Str} {ρ : Str → Option PyData} {σ : Str → Option Value} {Q : Value → Shared → Prop} (g : LG w mg mb A sb s a text pb (k + 1)) (F : FnAt s.heap f fd) (hlen' : vs.length = params.length)
    (hρ : ∀ x d, ρ x = some d → ∃ v, (x, v) ∈ params.zip vs ∧ Rd (FPm a) s.heap v d) (hσ : ∀ x v, σ x = some v → (x, v) ∈ params.zip vs)
    (run : ∀ (FP' : Addr → Prop) (n : Nat), (∀ b, FP' b → FPm a b) → s.heap.objs.size ≤ n → (∀ b ∈ frameOf' (callEnvC fd s.heap.objs.size f), s.heap.objs.size ≤ b) →
      Bd (A.deeper (callEnvC fd s.heap.objs.size f)) (callEnvC fd s.heap.objs.size f) FP' n → ∀ (E' : Value → Shared → Prop),
      Tr prog w (A.deeper (callEnvC fd s.heap.objs.size f)) (callEnvC fd s.heap.objs.size f) FP' sb n (LX a text pb s.heap) ρ σ body (lexK sb s a Q) E')
    (hbind : bindArgs fd ⟨vs, []⟩ = pure (params.zip vs) := by rfl)
    (hbody : fd.body = .stmts body := by rfl) (hclo : fd.closure = [] := by rfl)
    (hkind : ∀ x ∈ params, fd.scope.names.lookup x = some .local ∨ (fd.scope.names.lookup x = some .cell ∧ ((cellsFrom 0 fd.scope.names []).map (·.1)).contains x = true) := by decide)
    (hnd : ((cellsFrom 0 fd.scope.names []).map (·.1)).Nodup := by decide) (hpn : params.Nodup := by decide)
    (hco : fd.scope.isCoroutine = false := by rfl) (hgen : fd.scope.isGenerator = false := by rfl) (hk : fd.scope.kind = .function := by rfl) :
    wpAny (model prog w) A (call (.ref f) vs) Q E s := wpAny_call (enter_lexC g F hlen' hρ hσ run hbind hbody hclo hkind hnd hpn hco hgen hk)
theorem get_wordL (xL : Lex a text pb t.heap) {Q : Value → Shared → Prop} {expr : Bool} (S : Stat w mg mb t.heap) (h : Q (.ref a.T) { t with toks := t.toks + 1 }) : wpAny (model prog w) A (getAttr (.ref a.L) "instream" expr) Q E t := by
  obtain ⟨m, n, _, h2, _⟩ := xL.dL
  exact get_self S xL n.ns h2 (by kernel_rfl) rfl h
theorem LX.notup {h0 h : Heap} (x : LX a text pb h0 h) : ∀ b ∈ a.mut, ∀ o, h.get? b = some o → ¬ tupLike o := fun b hb o ho => (x.1.soft b hb o ho).2.2
theorem Lex.setL {m' : Str → Option Value} {h h' : Heap} {z' : Nat} (x : Lex a text pb h) (n : NsZ h' a.dL m' z') (hz : z' ≤ 10) (k : ∀ b o, b ≠ a.dL → h.get? b = some o → h'.get? b = some o) (h1 : ∃ i t, m' "lineno" = some (.int i t)) (h2 : m' "instream" = some (.ref a.T)) (h3 : ∃ t, m' "whitespace" = some (.str wsS t))
    (h4 : m' "pushback" = some (.ref a.P)) (h5 : m' "get_token" = none) (h6 : m' "_read_char" = none) (h7 : m' "push_token" = none) : Lex a text pb h' := by
  have ne := x.ne
  have off : ∀ b ∈ [a.T, a.dT, a.L, a.P, a.S, a.C, a.F, a.K], b ≠ a.dL := fun b hb e => ne.1 (e ▸ hb)
  refine ⟨k _ _ (off _ (by simp)) x.L, ⟨m', let ⟨o, es, ep, q1, q2, q3, q4, q5⟩ := n; ⟨o, es, ep, q1, q2, q3, q4, Nat.le_trans q5 hz⟩, h1, h2, h3, h4, h5, h6, h7⟩, k _ _ (off _ (by simp)) x.T, ?_, ?_, ?_, ?_, ?_, ?_, ne⟩
  · obtain ⟨m, n, r⟩ := x.dT
    exact ⟨m, n.at fun o e => k _ o (off _ (by simp)) e, r⟩
  · obtain ⟨vs, n, r⟩ := x.P
    exact ⟨vs, n.at fun o e => k _ o (off _ (by simp)) e, r⟩
  · obtain ⟨vs, n, r⟩ := x.S
    exact ⟨vs, n.at fun o e => k _ o (off _ (by simp)) e, r⟩
  · obtain ⟨o, e, d⟩ := x.C
    exact ⟨o, k _ _ (off _ (by simp)) e, d⟩
  · obtain ⟨pm, ct, e⟩ := x.F
    exact ⟨pm, ct, k _ _ (off _ (by simp)) e⟩
  · obtain ⟨n, oc, vs, t, e, r⟩ := x.K
    exact ⟨n, oc, vs, t, k _ _ (off _ (by simp)) e, r⟩
set_option maxHeartbeats 1000000 in
theorem rc_code (g : LG w mg mb A sb s a text pb 2) {Q : Value → Shared → Prop} (hQ : ∀ t s', After sb s a.mut s' → Lex a (text.drop 1) pb s'.heap → Q (.str (tx (text.take 1)) t) s') :
    codeAny (model prog w) A (.call (.ref 47) ⟨[.ref a.L], []⟩) (retR Q E) s := by
  refine enter_lexC (body := bodyK 47) (params := ["self"]) (ρ := fun _ => none) (σ := putR noRaw "self" (.ref a.L)) g (fnAt_rc g.S) rfl (fun x d h => nomatch h) (fun x v h => ?_) ?_
  · unfold putR at h
    split at h
    · rename_i e; cases h; subst e; exact .head _
    · cases h
  intro FP' n hf hn hlo b E'
  have hS : ∀ t, Stp sb t → Stat w mg mb t.heap := fun t st => g.Sb.kp st.kp
  have hall := g.x.lt
  have hX : ∀ text, Ext (callEnvC (fdK 47) s.heap.objs.size 47) FP' noM n (LX a text pb s.heap) := fun text => lexX hall hlo hn
  have hfr : ∀ b ∈ a.mut, b ∉ frameOf' (callEnvC (fdK 47) s.heap.objs.size 47) := fun b hb z => Nat.lt_irrefl _ (Nat.lt_of_lt_of_le (hall b (mut_all hb)) (hlo b z))
  refine tr_assignX (X' := LX a (text.drop 1) pb s.heap) (d1 := .str (tx (text.take 1))) (hX _) b ⟨fun t f x E Q hQ => ?_⟩ ?_ (.inl rfl)
  · -- self.instream.read(1)
    have S := hS t f.toStp
    refine MethodCall_ (pl := _) (Attribute_name (load_name b.kind (f.raw rfl) (get_wordL x.1 S ?_) (by decide) (by decide))) rfl
    have st1 : Stp t { t with toks := t.toks + 1 } := .toks _ _
    have x1 := (hX _).kp _ _ x st1.kp
    obtain ⟨mT, nT, hTr⟩ := x1.1.dT
    refine meth_val (fun b o e => (S.kp st1.kp).X b o e) x1.1.T nT.ns hTr (by kernel_rfl) rfl ?_
    have st2 : Stp t { t with toks := t.toks + 1 + 1 } := .toks _ _ (Nat.le_trans (Nat.le_succ _) (Nat.le_succ _))
    have f2 := f.stp st2
    have x2 := (hX _).kp _ _ x st2.kp
    obtain ⟨pm, ct, hF⟩ := x2.1.F
    refine callWith_function (o := { cls := .type "function", data := .func (lamFd a pm ct) }) (fd := lamFd a pm ct) (evalArgs_all rfl ((evAll_cons ev_int evAll_nil : EvAll prog w _ _ (fun _ => True) _ _ [.int 1]).go _ _ (.refl _) _ _ fun vs t3 st3 r3 => ?_))
    obtain ⟨v0, rfl, r0⟩ := r3.one
    obtain ⟨t0, rfl⟩ := r0.intOpen
    have f3 := f2.stp st3
    have x3 := (hX _).kp _ _ x2 st3.kp
    refine ⟨⟨st3.kp.at hF rfl, rfl⟩, ?_⟩
    refine lam_call (sb := sb) (hS t3 f3.toStp) ((g.room.deeper _).le (by decide)) f3.toStp (g.low _ (by simp)) x3.1 g.len fun t4 s4 af4 xL4 => ?_
    have af4' : After sb t3 a.mut s4 := af4.mono (fun b hb => by rw [List.mem_singleton.mp hb]; simp)
    exact hQ _ _ (f3.after af4' hfr fun b hb => ⟨fun z => hf b z hb, x3.notup b hb⟩) ⟨xL4, x3.2.trans af4'.kept⟩ (.str _ _)
  have q10 : Str.ofString "\n" = ⟨#[10]⟩ := by decide +kernel
  have ret : ∀ t, Fx sb (callEnvC (fdK 47) s.heap.objs.size 47) FP' n (put (fun _ => none) "ch" (.str (tx (text.take 1)))) (putR noRaw "self" (.ref a.L)) t → LX a (text.drop 1) pb s.heap t.heap → ∀ v, Rd FP' t.heap v (.str (tx (text.take 1))) → lexK sb s a Q (.ret v) t := fun t f x v r => ⟨f.toStp, x.2, fun af => by
    obtain ⟨tt, rfl⟩ := r.strOpen
    exact hQ _ _ af x.1⟩
  refine tr_if (decide (text.take 1 = [10])) (hX _) (fun t f x => tst_eqS (ev_name (f.cx b) f.sees rfl) ev_str (by rw [q10]; show (text.take 1 == [10]) = _; by_cases h : text.take 1 = [10] <;> simp [h])) ?_
  by_cases h : text.take 1 = [10]
  · rw [decide_eq_true h]
    simp only [if_true]
    refine ⟨fun t f x => wpAny_execs_cons (wpAny_AugAssign_AttributeAny (load_name b.kind (f.raw rfl) ?_ (by decide) (by decide)))⟩
    have S := hS t f.toStp
    obtain ⟨mL, nL, ⟨i, ti, hi⟩, h2, ⟨tw, h3⟩, h4, h5, h6, h7⟩ := x.1.dL
    refine get_self S x.1 nL.ns hi (by kernel_rfl) rfl ?_
    have st1 : Stp t { t with toks := t.toks + 1 } := .toks _ _
    refine (ev_int (FP := FP') : Ev prog w _ _ FP' _ _ (.int 1)).go _ (.refl _) _ _ fun v1 t2 st2 r2 => ?_
    obtain ⟨t1, rfl⟩ := r2.intOpen
    refine iadd_int ?_
    have st3 : Stp t { t2 with toks := t2.toks + 1 } := (st1.trans st2).trans (.toks _ _)
    have f3 := f.stp st3
    have x3 := (hX _).kp _ _ x st3.kp
    have nL3 : NsZ t2.heap a.dL mL 10 := nL.at fun o e => st3.kp.at e (nL.notab o e).1
    refine with_size (set_inst (s := { t2 with toks := t2.toks + 1 }) (fun b o e => (S.kp st3.kp).X b o e) x3.1.L nL3 (by decide) (by kernel_rfl) fun h' n' hs' hz' => ?_)
    have k' : ∀ b o, b ≠ a.dL → t2.heap.get? b = some o → h'.get? b = some o := fun b o hb e => hs'.extBut b o hb e
    rw [hi] at n'
    simp only [Option.isSome_some, if_true] at n'
    have xL4 : Lex a (text.drop 1) pb h' := x3.1.setL n' (Nat.le_refl _) k' ⟨_, _, if_pos rfl⟩ ((if_neg (by decide)).trans h2) ⟨tw, (if_neg (by decide)).trans h3⟩ ((if_neg (by decide)).trans h4) ((if_neg (by decide)).trans h5) ((if_neg (by decide)).trans h6) ((if_neg (by decide)).trans h7)
    have af : After sb { t2 with toks := t2.toks + 1 } a.mut { t2 with heap := h', toks := t2.toks + 1 + 2 } := (After.start f3.toStp).step (D := a.dL) (tk := t2.toks + 1 + 2) k' hz' (by show t2.toks + 1 ≤ _; omega) (.inl (.head _)) (g.low _ (.head _)) (fun o e => (nL3.notab o e).2.1)
    have f4 := f3.after af hfr fun b hb => ⟨fun z => hf b z hb, x3.notup b hb⟩
    exact (tr_ret (hX _) (fun t f x => ev_name (f.cx b) f.sees rfl) (fun v t f x r => ret t f x v r)).go _ f4 ⟨xL4, x3.2.trans af.kept⟩
  · rw [decide_eq_false h]
    simp only [Bool.false_eq_true, if_false]
    exact tr_ret (hX _) (fun t f x => ev_name (f.cx b) f.sees rfl) (fun v t f x r => ret t f x v r)
theorem rc_spec (g : LG w mg mb A sb s a text pb 2) {Q : Value → Shared → Prop} (hQ : ∀ t s', After sb s a.mut s' → Lex a (text.drop 1) pb s'.heap → Q (.str (tx (text.take 1)) t) s') :
    wpAny (model prog w) A (call (.ref 47) [.ref a.L]) Q E s := wpAny_call (rc_code g hQ)
end
end Mine
end
section
open PySem PySem.W PyProof.Rows PySem.Calls PySem.Spec PySem.SeqAt
set_option linter.unusedVariables false
set_option maxRecDepth 100000
namespace Mine
/-! ## iter(f, sentinel) -/
theorem slot_ci_next : Slot "callable_iterator" "__next__" "callable_iterator.__next__" :=
  .of (owner := "callable_iterator") (n := "__next__") (by rw [typeLookup_type, builtinLookup_eq_fast]; kernel_rfl) (by decide +kernel) (by decide +kernel) (by decide +kernel)
    (by first | exact .inl (by decide +kernel) | exact .inr (by decide +kernel)) (by rw [isSubtype_type]; kernel_rfl)
theorem entry_ci_next : entryFor table "callable_iterator.__next__" = some Builtin.«callable_iterator.__next__» := entryFor_of_tree (by kernel_rfl)
theorem args_ci_next (a : Value) : argsOk "callable_iterator.__next__" ⟨[a], []⟩ := by unfold argsOk; kernel_rfl
theorem slot_ci_iter : Slot "callable_iterator" "__iter__" "callable_iterator.__iter__" :=
  .of (owner := "callable_iterator") (n := "__iter__") (by rw [typeLookup_type, builtinLookup_eq_fast]; kernel_rfl) (by decide +kernel) (by decide +kernel) (by decide +kernel)
    (by first | exact .inl (by decide +kernel) | exact .inr (by decide +kernel)) (by rw [isSubtype_type]; kernel_rfl)
theorem args_ci_iter (a : Value) : argsOk "callable_iterator.__iter__" ⟨[a], []⟩ := by unfold argsOk; kernel_rfl
theorem entry_ci_iter : entryFor table "callable_iterator.__iter__" = some Builtin.«dict_keyiterator.__iter__» :=
  entryFor_alias (id' := "dict_keyiterator.__iter__") (by kernel_rfl) rfl (by decide +kernel) (by kernel_rfl)
noncomputable abbrev ciObj (v sen e : Value) : Obj := { cls := .type "callable_iterator", data := .fields #[v, sen, e] }
/-- an iterator over the lexer's signs -/
noncomputable def CI (I q : Addr) (a : LA) (h : Heap) : Prop := (∃ t, h.get? I = some (ciObj (.ref q) (.str (Str.ofString "") t) (.bool false))) ∧ h.get? q = some (methodObj (.ref 47) (.ref a.L))
/-- an iterator that has ended -/
noncomputable def CE (I : Addr) (h : Heap) : Prop := h.get? I = some (ciObj .none .none (.bool true))
section
variable {w : World} {mg mb : Str → Option Value} {A : Around} {E : Value → Shared → Prop} {sb s t : Shared} {a : LA} {text : List Nat} {pb : List Str} {I q : Addr}
theorem Room.in1 {k : Nat} (r : Room A (k + 1)) : Room A.in1 k := ⟨r.hh, by show A.depth + k < _; have := r.dp; omega, by show A.units + 1 + 200 + 20 * k < _; have := r.un; omega⟩
theorem LG.in1 {k : Nat} (g : LG w mg mb A sb s a text pb (k + 1)) : LG w mg mb A.in1 sb s a text pb k := ⟨g.Sb, g.room.in1, g.st, g.low, g.x, g.len⟩
theorem borrows_fn {M : Model} {b : Addr} {o : Obj} {fd : FuncData} {self : Value} {Q : Bool → Shared → Prop} (hq : s.heap.get? q = some (methodObj (.ref b) self)) (hb : s.heap.get? b = some o) (hd : o.data = .func fd) (h : Q true s) : wpAny M A (borrowsExactly (.ref q)) Q E s := by
  unfold borrowsExactly
  refine wpAny_bind (wpAny_load hq ?_)
  show wpAny M A (if ((Value.type "method") == Value.type "method") = true then _ else _) Q E s
  rw [if_pos (by simp)]
  show wpAny M A (do match (← load b).data with | .func _ => pure true | _ => pure false) Q E s
  refine wpAny_bind (wpAny_load hb ?_)
  rw [hd]
  exact wpAny_pure h
theorem call_borrowed {M : Model} {f : Value} {pos : List Value} {Q : Value → Shared → Prop} (h : wpAny M A (call f pos) Q E s) : wpAny M A (callBorrowed f pos) Q E s := fun Γ p hΓ => by
  have h1 := h Γ p hΓ
  rw [Sem.wp_cmd_call] at h1
  unfold callBorrowed
  obtain ⟨r, s', hr, hR⟩ := h1
  refine ⟨r, s', hr, ?_⟩
  rcases r with e | (v | _ | _ | _) <;> first | exact hR | exact hR.elim
theorem ci_raise {α : Type} {Q : α → Shared → Prop} {E : Value → Shared → Prop} (hh : A.handled = none) (h : ∀ h' e, (∀ b o, s.heap.get? b = some o → h'.get? b = some o) → s.heap.objs.size ≤ h'.objs.size → Shared.TypeIs { s with heap := h' } (.ref e) "StopIteration" → E (.ref e) { s with heap := h' }) :
    wpAny (model prog w) A (raiseNew (α := α) =<< newExc (.type "StopIteration") []) Q E s := by
  refine wpAny_bind ?_
  simp only [newExc, newTuple]
  refine wpAny_bind (wpAny_newObj_type ?_ (by size_fits))
  refine wpAny_bind (m := firstArgMember _ _) (wpAny_of_eq (a := Value.none) (by first | rfl | (simp only [firstArgMember]; rfl)) ?_)
  refine wpAny_newObj_type ?_ (by size_fits)
  simp only [raiseNew]
  refine wpAny_bind (wpAny_handled ?_)
  rw [hh]
  refine wpAny_bind (wpAny_pure (wpAny_throw ?_))
  exact h _ _ (fun b o e => Heap.get?_push_of_some _ (Heap.get?_push_of_some _ e)) (by simp only [Heap.size_push]; omega) ⟨_, Heap.get?_push_size _ rfl, rfl⟩
/-- the walk of an ended iterator -/
theorem ce_next {Q : Option Value → Shared → Prop} (hh : A.handled = none) (hI : CE I s.heap) (hQ : ∀ h', Stp s { s with heap := h' } → Q none { s with heap := h' }) : wpAny (model prog w) A (pyNext (.ref I)) Q E s := by
  have hT : s.TypeIs (.ref I) "callable_iterator" := ⟨_, hI, rfl⟩
  unfold pyNext
  refine wpAny_bind (wpAny_attempt (wpAny_callSpecial?_slot (name := Str.ofString "__next__") hT slot_ci_next (wpAny_call_entry slot_ci_next hT entry_ci_next ?_ (args_ci_next _))))
  unfold Builtin.«callable_iterator.__next__»
  refine wpAny_bind (wpAny_pure ?_)
  refine wpAny_bind (wpAny_field hI rfl (x := .bool true) rfl ?_)
  rw [if_pos (show (Value.bool true == Value.bool true) = true from by simp)]
  refine wpAny_bind (wpAny_rule (wpAny_bind ?_))
  refine ci_raise (A := A.in1) hh fun h' e k hz hTe => ?_
  refine wpAny_bind (wpAny_isInstance hTe isSubtype_stop ?_)
  exact wpAny_pure (hQ h' ⟨.of k hz, ⟨_, _, rfl⟩, Nat.le_refl _⟩)
/-- the walk of an iterator over the lexer's signs -/
theorem ci_next {Q : Option Value → Shared → Prop} (g : LG w mg mb A sb s a text pb 3) (ci : CI I q a s.heap) (hI : I ∉ a.all) (hIb : sb.heap.objs.size ≤ I) (hq : q ∉ a.all) (hIq : I ≠ q)
    (h1 : ∀ c r t s', text = c :: r → After sb s a.mut s' → Lex a r pb s'.heap → CI I q a s'.heap → Q (some (.str ⟨#[c]⟩ t)) s')
    (h2 : ∀ s', text = [] → After sb s (I :: a.mut) s' → Lex a [] pb s'.heap → CE I s'.heap → Q none s') : wpAny (model prog w) A (pyNext (.ref I)) Q E s := by
  obtain ⟨⟨t0, hI0⟩, hq0⟩ := ci
  have hT : s.TypeIs (.ref I) "callable_iterator" := ⟨_, hI0, rfl⟩
  unfold pyNext
  refine with_size (with_tk (wpAny_bind (wpAny_attempt (wpAny_callSpecial?_slot (name := Str.ofString "__next__") hT slot_ci_next (wpAny_call_entry slot_ci_next hT entry_ci_next ?_ (args_ci_next _))))))
  unfold Builtin.«callable_iterator.__next__»
  refine wpAny_bind (wpAny_pure ?_)
  refine wpAny_bind (wpAny_field hI0 rfl (x := .bool false) rfl ?_)
  rw [if_neg (show ¬ (Value.bool false == Value.bool true) = true from by simp)]
  refine wpAny_bind (wpAny_field hI0 rfl (x := .ref q) rfl ?_)
  unfold callOutOfASlot
  have g1 := g.in1
  obtain ⟨o47, c47, oc47, vs47, t47, f1, f2, _⟩ := (fnAt_rc g1.S).ex
  refine wpAny_bind (wpAny_attempt (wpAny_bind (borrows_fn hq0 f1 f2 ?_)))
  simp only [if_true]
  refine call_borrowed (wpAny_call (method_call hq0 ?_))
  refine rc_code g1 fun tk1 s1 af1 xL1 => ?_
  have hIm : I ∉ a.mut := fun z => hI (mut_all z)
  have hqm : q ∉ a.mut := fun z => hq (mut_all z)
  have hI1 := af1.kept.keep I _ hIm hI0 (.inl rfl)
  have hq1 := af1.kept.keep q _ hqm hq0 (.inl rfl)
  refine wpAny_bind (wpAny_field hI1 rfl (x := .bool false) rfl ?_)
  rw [if_neg (show ¬ (Value.bool false == Value.bool true) = true from by simp)]
  refine wpAny_bind (wpAny_field hI1 rfl (x := .str (Str.ofString "") t0) rfl ?_)
  refine wpAny_bind (wpAny_holding (eqBool_str ?_))
  have e0 : Str.ofString "" = tx [] := by decide +kernel
  cases text with
  | cons c r =>
    have hne : (Str.ofString "" == tx (List.take 1 (c :: r))) = false := by
      rw [e0, beq_eq_false_iff_ne]
      intro e
      have := congrArg ls e
      simp [ls_tx] at this
    rw [hne]
    rw [if_pos (by rfl)]
    exact wpAny_pure ⟨_, rfl, wpAny_pure fun _ _ => h1 c r _ s1 rfl af1 xL1 ⟨⟨t0, hI1⟩, hq1⟩⟩
  | nil =>
    have hne : (Str.ofString "" == tx (List.take 1 ([] : List Nat))) = true := by rw [e0]; simp
    rw [hne]
    rw [if_neg (by simp)]
    refine wpAny_bind (wpAny_rule ?_)
    refine wpAny_bind (wpAny_bind (m := field (.ref I) 0) (wpAny_field hI1 rfl (x := .ref q) rfl ?_))
    refine wpAny_bind (m := slotLetsGo _ (.ref q) _) ?_
    unfold slotLetsGo
    have S1 := g1.Sb.kp af1.st.kp
    obtain ⟨o47', c47', oc47', vs47', t47', f1', f2', _⟩ := (fnAt_rc S1).ex
    refine wpAny_bind (borrows_fn hq1 f1' f2' ?_)
    simp only [if_true]
    refine wpAny_pure ?_
    refine wpAny_bind (wpAny_setField_rec hI1 (by simp) fun h3 hI3 hs3 => ?_)
    refine wpAny_bind (wpAny_setField_rec hI3 (by simp) fun h4 hI4 hs4 => ?_)
    refine wpAny_setField_rec hI4 (by simp) fun h5 hI5 hs5 => ?_
    refine ci_raise (A := A.in1) g.room.hh fun h6 e k6 hz6 hTe => ?_
    refine wpAny_bind (wpAny_isInstance hTe isSubtype_stop ?_)
    refine wpAny_pure fun htk hsz => ?_
    have hs35 : Heap.SameBut I s1.heap h5 := (hs3.trans hs4).trans hs5
    have k5 : ∀ b o, b ≠ I → s1.heap.get? b = some o → h6.get? b = some o := fun b o hb e => k6 b o (hs35.extBut b o hb e)
    have hz5 : s1.heap.objs.size ≤ h6.objs.size := by have := hs35.1; exact Nat.le_trans (Nat.le_of_eq this.symm) hz6
    have af6 : After sb s (I :: a.mut) { s1 with heap := h6 } := (af1.mono fun b hb => List.mem_cons_of_mem _ hb).step (tk := s1.toks) k5 hz5 (Nat.le_refl _) (.inl (.head _)) hIb (fun o ho => by rw [hI1] at ho; cases ho; show (Str.ofString "" != lamQual) = true; decide +kernel)
    refine h2 _ rfl af6 (xL1.at fun b hb o e _ => k5 b o (fun z => hI (z ▸ hb)) e) ?_
    exact k6 _ _ hI5
end
end Mine
end
section
open PySem PySem.W PyProof.Rows PySem.Calls PySem.Spec PySem.SeqAt
set_option linter.unusedVariables false
set_option maxRecDepth 100000
namespace Mine
/-- the lexer under the iterator: signs left, or an ended iterator -/
noncomputable def Lv (I q : Addr) (a : LA) (h0 : Heap) (o : Option (List Nat)) (h : Heap) : Prop := match o with
  | some r => LX a r [] h0 h ∧ CI I q a h
  | none => LX a [] [] h0 h ∧ CE I h
noncomputable def lvM : Option (List Nat) → Nat := fun o => o.elim 0 fun r => r.length + 1
section
variable {w : World} {mg mb : Str → Option Value} {A : Around} {E : Value → Shared → Prop} {sb s t : Shared} {a : LA} {text : List Nat} {pb : List Str} {I q : Addr} {env : Env} {FP M : Addr → Prop} {n : Nat} {ρ : Str → Option PyData} {σ : Str → Option Value} {rest body : List Stmt} {x y : Str} {px p pos : Pos} {K : Flow → Shared → Prop}
theorem CI.ext (hI : I ∉ frameOf' env ∧ I < n) (hq : q ∉ frameOf' env ∧ q < n) : Ext env FP noM n (CI I q a) where
  kp := fun h h' ⟨⟨t, e1⟩, e2⟩ k => ⟨⟨t, k.at e1 rfl⟩, k.at e2 rfl⟩
  ch := fun h h' U ⟨⟨t, e1⟩, e2⟩ u _ k => ⟨⟨t, k _ _ (fun z => (u I z).elim hI.1 fun z => z.elim (fun z => z) fun z => Nat.lt_irrefl _ (Nat.lt_of_lt_of_le hI.2 z)) e1⟩, k _ _ (fun z => (u q z).elim hq.1 fun z => z.elim (fun z => z) fun z => Nat.lt_irrefl _ (Nat.lt_of_lt_of_le hq.2 z)) e2⟩
theorem CE.ext (hI : I ∉ frameOf' env ∧ I < n) : Ext env FP noM n (CE I) where
  kp := fun h h' e1 k => k.at e1 rfl
  ch := fun h h' U e1 u _ k => k _ _ (fun z => (u I z).elim hI.1 fun z => z.elim (fun z => z) fun z => Nat.lt_irrefl _ (Nat.lt_of_lt_of_le hI.2 z)) e1
/-- the ground of the walk of a token -/
structure GT (w : World) (mg mb : Str → Option Value) (A : Around) (env : Env) (FP : Addr → Prop) (sb s : Shared) (n : Nat) (a : LA) (I q : Addr) : Prop where
  Sb : Stat w mg mb sb.heap
  room : Room A 4
  low : ∀ b ∈ a.mut, sb.heap.objs.size ≤ b
  all : ∀ b ∈ a.all, b < s.heap.objs.size
  fr : ∀ b ∈ frameOf' env, s.heap.objs.size ≤ b
  hn : s.heap.objs.size ≤ n
  hf : ∀ b, FP b → FPm a b
  b : Bd A env FP n
  I1 : I ∉ a.all ∧ sb.heap.objs.size ≤ I ∧ s.heap.objs.size ≤ I ∧ I ∉ frameOf' env ∧ I < n
  q1 : q ∉ a.all ∧ q ∉ frameOf' env ∧ q < n
  ne : I ≠ q
theorem GT.ext (G : GT w mg mb A env FP sb s n a I q) (o : Option (List Nat)) : Ext env FP noM n (Lv I q a s.heap o) := by
  unfold Lv
  cases o with
  | some r => exact (lexX G.all G.fr G.hn).and (CI.ext ⟨G.I1.2.2.2.1, G.I1.2.2.2.2⟩ ⟨G.q1.2.1, G.q1.2.2⟩)
  | none => exact (lexX G.all G.fr G.hn).and (CE.ext ⟨G.I1.2.2.2.1, G.I1.2.2.2.2⟩)
theorem GT.frm (G : GT w mg mb A env FP sb s n a I q) : ∀ b ∈ a.mut, b ∉ frameOf' env := fun b hb z => Nat.lt_irrefl _ (Nat.lt_of_lt_of_le (G.all b (mut_all hb)) (G.fr b z))
theorem GT.lg (G : GT w mg mb A env FP sb s n a I q) (f : Fx sb env FP n ρ σ t) (hx : Lex a text pb t.heap) (hz : text.length ≤ 4000) : LG w mg mb A sb t a text pb 4 := ⟨G.Sb, G.room, f.toStp, G.low, hx, hz⟩
/-- a call on the lexer, from within -/
theorem GT.after {t' : Shared} (G : GT w mg mb A env FP sb s n a I q) (f : Fx sb env FP n ρ σ t) (hx : Lex a text pb t.heap) (af : After sb t a.mut t') : Fx sb env FP n ρ σ t' :=
  f.after af G.frm fun b hb => ⟨fun z => G.hf b z hb, fun o ho => (hx.soft b hb o ho).2.2⟩
theorem GT.afterI {t' : Shared} (G : GT w mg mb A env FP sb s n a I q) (f : Fx sb env FP n ρ σ t) (hx : Lex a text pb t.heap) (hI : ∃ v u e, t.heap.get? I = some (ciObj v u e)) (af : After sb t (I :: a.mut) t') : Fx sb env FP n ρ σ t' :=
  f.chg af.st af.kept (fun b hb => (List.mem_cons.mp hb).elim (fun e => e ▸ G.I1.2.2.2.1) (G.frm b)) (fun b o hb ho => by
    rcases List.mem_cons.mp hb with rfl | hb
    · obtain ⟨v, u, e, hI⟩ := hI
      rw [hI] at ho; cases ho
      exact ⟨tupLike_cls (by simp), .inl ⟨by simp, by simp⟩⟩
    · exact ⟨(hx.soft b hb o ho).2.2, .inr fun z => G.hf b z hb⟩) af.size af.tk
/-- for x in the iterator -/
theorem tr_forCI (G : GT w mg mb A env FP sb s n a I q) (Inv : Option (List Nat) → (Str → Option PyData) → Prop) (o : Option (List Nat)) (h0 : Inv o ρ) (ho : ∀ r, o = some r → r.length ≤ 4000) (hy : σ y = some (.ref I)) (hσ : σ x = none)
    (hk : env.kindOf x = some .local)
    (step : ∀ c r ρ', r.length < 4000 → Inv (some (c :: r)) ρ' → ∀ E', Tr prog w A env FP sb n (Lv I q a s.heap (some r)) (put ρ' x (.str ⟨#[c]⟩)) σ body (fun f t => ((f = .next ∨ f = .cont) ∧ ∃ o' ρ'', lvM o' ≤ r.length + 1 ∧ Inv o' ρ'' ∧ Fx sb env FP n ρ'' σ t ∧ Lv I q a s.heap o' t.heap) ∨ ∃ v, f = .ret v ∧ K (.ret v) t) E')
    (hr : ∀ ρ', (Inv none ρ' ∨ Inv (some []) ρ') → Tr prog w A env FP sb n (Lv I q a s.heap none) ρ' σ rest K E)
    (hd : (y == ("__debug__" : Str)) = false := by decide) (hcd : (y == ("__classdict__" : Str)) = false := by decide) :
    Tr prog w A env FP sb n (Lv I q a s.heap o) ρ σ (.For (.Name x px) (.Name y p) body [] pos :: rest) K E := ⟨fun t f x0 => by
  have hTI : ∀ (t : Shared) o, Lv I q a s.heap o t.heap → t.TypeIs (.ref I) "callable_iterator" := fun t o x => by
    cases o with
    | some r => obtain ⟨⟨tk, e⟩, _⟩ := x.2; exact ⟨_, e, rfl⟩
    | none => exact ⟨_, x.2, rfl⟩
  refine wpAny_execs_cons (wpAny_For (load_name G.b.kind (f.raw hy) ?_ hd hcd) (by intro _; rfl))
  refine wpAny_pyIter_slot (hTI t o x0) slot_ci_iter (wpAny_call_entry slot_ci_iter (hTI t o x0) entry_ci_iter ?_ (args_ci_iter _))
  show wpAny _ _ (ret (.ref I)) _ _ _
  refine wpAny_pure ⟨_, rfl, "callable_iterator", _, hTI t o x0, slot_ci_next.lookup, ?_⟩
  refine codeAny_forLoop_any (fun k t' => ∃ o ρ', k = lvM o ∧ (∀ r, o = some r → r.length ≤ 4000) ∧ Inv o ρ' ∧ Fx sb env FP n ρ' σ t' ∧ Lv I q a s.heap o t'.heap) ?_ (lvM o) ⟨o, ρ, rfl, ho, h0, f, x0⟩
  rintro k t1 ⟨o, ρ', rfl, hlen, hinv, f1, x1⟩
  cases o with
  | none =>
    refine ce_next G.room.hh x1.2 fun h' st => ?_
    exact wpAny_execs_nil ((hr ρ' (.inl hinv)).go _ (f1.stp st) ((G.ext none).kp _ _ x1 st.kp))
  | some r0 =>
    have g := G.lg f1 x1.1.1 (hlen r0 rfl)
    refine ci_next (⟨g.Sb, g.room.le (by decide), g.st, g.low, g.x, g.len⟩) x1.2 G.I1.1 G.I1.2.1 G.q1.1 G.ne (fun c r tk t2 e af xL ci => ?_) (fun t2 e af xL ce => ?_)
    · subst e
      have f2 := G.after f1 x1.1.1 af
      have x2 : Lv I q a s.heap (some r) t2.heap := ⟨⟨xL, x1.1.2.trans af.kept⟩, ci⟩
      obtain ⟨⟨tk2, eI⟩, _⟩ := ci
      refine letOwned_other eI rfl (by decide) (wpAny_assign_Name ?_)
      refine tr_store (G.ext _) G.b f2 x2 (.str _ tk) (.inl hk) hσ fun t3 f3 x3 => ?_
      refine wpAny_mono ((step c r ρ' (by have := hlen _ rfl; simp at this; omega) hinv _).go t3 f3 x3) (fun fl t4 h4 => ?_) fun _ _ h => h
      rcases h4 with ⟨hfl, o', ρ'', hm, hinv', f4, x4⟩ | ⟨v, rfl, hK⟩
      · have : ∃ m, m < lvM (some (c :: r)) ∧ ∃ o ρ', m = lvM o ∧ (∀ r, o = some r → r.length ≤ 4000) ∧ Inv o ρ' ∧ Fx sb env FP n ρ' σ t4 ∧ Lv I q a s.heap o t4.heap := by
          refine ⟨lvM o', ?_, o', ρ'', rfl, fun r' e => ?_, hinv', f4, x4⟩
          · show _ < (c :: r).length + 1
            rw [List.length_cons]; omega
          · subst e
            have := hlen _ rfl
            simp [lvM] at hm this
            omega
        rcases hfl with rfl | rfl
        · exact this
        · exact this
      · exact hK
    · subst e
      obtain ⟨⟨tk2, eI⟩, _⟩ := x1.2
      have f2 := G.afterI f1 x1.1.1 ⟨_, _, _, eI⟩ af
      have k2 : Kept a.mut s.heap t2.heap := ⟨fun b o hb e nt => af.kept.keep b o (fun z => (List.mem_cons.mp z).elim (fun z => by subst z; exact Nat.lt_irrefl _ (Nat.lt_of_lt_of_le (Heap.lt_size e) G.I1.2.2.1)) hb) (x1.1.2.keep b o hb e nt) nt⟩
      exact wpAny_execs_nil ((hr ρ' (.inr hinv)).go _ f2 ⟨⟨xL, k2⟩, ce⟩)⟩
end
end Mine
end
section
open PySem PySem.W PyProof.Rows PySem.Calls PySem.Spec PySem.SeqAt
set_option linter.unusedVariables false
set_option maxRecDepth 100000
namespace Mine
/-! ## a token -/
inductive TM where | sk | q | qe | b | be
noncomputable def ws (c : Nat) : Bool := c == 10 || c == 9 || c == 13 || c == 32
noncomputable def tokR : TM → List Nat → List Nat → List Nat × List Nat
  | _, [], tk => (tk, [])
  | .sk, c :: r, tk => if ws c = true then tokR .sk r tk else if c = 34 then tokR .q r tk else if c = 92 then tokR .be r tk else tokR .b r (tk ++ [c])
  | .q, c :: r, tk => if c = 34 then (tk, r) else if c = 92 then tokR .qe r tk else tokR .q r (tk ++ [c])
  | .qe, c :: r, tk => tokR .q r (tk ++ [c])
  | .b, c :: r, tk => if ws c = true then (tk, r) else if c = 92 then tokR .be r tk else tokR .b r (tk ++ [c])
  | .be, c :: r, tk => tokR .b r (tk ++ [c])
noncomputable def tok (l : List Nat) : List Nat × List Nat := tokR .sk l []
theorem tok_qe (r tk : List Nat) : tokR .qe r tk = tokR .q (r.drop 1) (tk ++ r.take 1) := by cases r <;> simp [tokR]
theorem tok_be (r tk : List Nat) : tokR .be r tk = tokR .b (r.drop 1) (tk ++ r.take 1) := by cases r <;> simp [tokR]
noncomputable abbrev gtEnv (L : Addr) : Env := callEnvC (fdK 54) L 54
noncomputable abbrev gtσ (a : LA) (I : Addr) : Str → Option Value := putR (putR noRaw "self" (.ref a.L)) "fiter" (.ref I)
noncomputable def gρ (tk ch : List Nat) : List (Str × PyData) := [("token", .str (tx tk)), ("ch", .str (tx ch))]
section
variable {w : World} {mg mb : Str → Option Value} {A : Around} {E : Value → Shared → Prop} {sb s t : Shared} {a : LA} {I q L0 : Addr} {FP : Addr → Prop} {n : Nat} {ρ : Str → Option PyData} {rest body : List Stmt} {p p1 p2 p3 p4 p5 pos : Pos} {K : Flow → Shared → Prop}
theorem evx_rc {text : List Nat} (G : GT w mg mb A (gtEnv L0) FP sb s n a I q) (hz : text.length ≤ 4000) {pl : Sem Bool} (he : eval (.Call (.Attribute (.Name "self" p1) "_read_char" p2) [] [] p3) (gtEnv L0) = (do
      let ov ← eval (.Name "self" p1) (gtEnv L0)
      standAt p2.atName
      let (f, first) ← holding [ov] (getMethod ov "_read_char" pl)
      callWith p3 f first (backTo p3 (starEach [] (gtEnv L0))) []) := by rfl) :
    Evx prog w A (gtEnv L0) FP sb n (Lv I q a s.heap (some text)) ρ (gtσ a I) (.Call (.Attribute (.Name "self" p1) "_read_char" p2) [] [] p3) (Lv I q a s.heap (some (text.drop 1))) (.str (tx (text.take 1))) := ⟨fun t f x E Q hQ => by
  have g := G.lg f x.1.1 hz
  obtain ⟨m, nL, h1, h2, h3, h4, h5, h6, h7⟩ := x.1.1.dL
  refine MethodCall_ (pl := pl) (load_name G.b.kind (f.raw rfl) (meth_inst (fun b o e => g.S.X b o e) x.1.1.L nL.ns h6 (f := 47) (by kernel_rfl) (by kernel_rfl) ?_) (by decide) (by decide)) he
  obtain ⟨o47, c47, oc47, vs47, t47, f1, f2, _⟩ := (fnAt_rc g.S).ex
  refine callWith_function (o := o47) (fd := fdK 47) (evalArgs_all rfl (spliced_nil ⟨⟨f1, f2⟩, ?_⟩))
  refine rc_spec ⟨g.Sb, g.room.le (by decide), g.st, g.low, g.x, g.len⟩ fun tk s' af xL => ?_
  have ci := x.2
  obtain ⟨⟨tI, eI⟩, eq⟩ := ci
  have hIm : I ∉ a.mut := fun z => G.I1.1 (mut_all z)
  have hqm : q ∉ a.mut := fun z => G.q1.1 (mut_all z)
  exact hQ _ _ (G.after f x.1.1 af) ⟨⟨xL, x.1.2.trans af.kept⟩, ⟨tI, af.kept.keep I _ hIm eI (.inl rfl)⟩, af.kept.keep q _ hqm eq (.inl rfl)⟩ (.str _ _)⟩
theorem eq_tx {l : List Nat} {c : Nat} {y : Str} (h : y = ⟨#[c]⟩) : (ls (tx l) == ls y) = decide (l = [c]) := by
  subst h
  show (l == [c]) = _
  by_cases e : l = [c] <;> simp [e]
theorem tx_len (l : List Nat) : (tx l).length = l.length := len_ls _
theorem tr_esc {r tk : List Nat} {c : Nat} (G : GT w mg mb A (gtEnv L0) FP sb s n a I q) (hz : tk.length + r.length + 1 ≤ 4001) (hρ : Sub (gρ tk [c]) ρ)
    (h1 : c = 92 → Tr prog w A (gtEnv L0) FP sb n (Lv I q a s.heap (some (r.drop 1))) (al (gρ (tk ++ r.take 1) (r.take 1))) (gtσ a I) rest K E)
    (h2 : c ≠ 92 → Tr prog w A (gtEnv L0) FP sb n (Lv I q a s.heap (some r)) (al (gρ (tk ++ [c]) [c])) (gtσ a I) rest K E) {q1 q2 q3 q4 q5 q6 q7 q8 q9 q10 q11 : Pos} {pl : Sem Bool} (he : eval (.Call (.Attribute (.Name "self" q5) "_read_char" q6) [] [] q7) (gtEnv L0) = (do
      let ov ← eval (.Name "self" q5) (gtEnv L0)
      standAt q6.atName
      let (f, first) ← holding [ov] (getMethod ov "_read_char" pl)
      callWith q7 f first (backTo q7 (starEach [] (gtEnv L0))) []) := by rfl)
    (hs : swapsWith (.Call (.Attribute (.Name "self" q5) "_read_char" q6) [] [] q7) (some (.Name "ch" q4)) q8.line (gtEnv L0) = pure false := by rfl) :
    Tr prog w A (gtEnv L0) FP sb n (Lv I q a s.heap (some r)) ρ (gtσ a I)
      (.If (.Compare (.Name "ch" q1) [.Eq] [.Constant (.str (Str.ofString "\\")) 0 q2] q3) [.Assign [.Name "ch" q4] (.Call (.Attribute (.Name "self" q5) "_read_char" q6) [] [] q7) q8] [] q9 :: .AugAssign (.Name "token" q10) .Add (.Name "ch" q11) pos :: rest) K E := by
  refine tr_sub hρ ?_
  have q92 : Str.ofString "\\" = ⟨#[92]⟩ := by decide +kernel
  have b := G.b
  refine tr_if (decide ([c] = [92])) (G.ext _) (fun t f x => tst_eqS (ev_name (f.cx b) f.sees rfl) ev_str (eq_tx q92)) ?_
  by_cases h : c = 92
  · subst h
    simp only [decide_true, if_true]
    refine tr_assignX (G.ext _) b (evx_rc G (by omega) he) ?_ (.inl rfl) hs
    refine tr_augS (G.ext _) b (a := tx tk) (c := tx (r.take 1)) rfl (fun t f x => ev_name (f.cx b) f.sees rfl) ?_ ?_ rfl
    · rw [tx_len, tx_len, List.length_take, sizeLine_eq]; omega
    · rw [tx_app]
      exact tr_sub (sub_cons (sub_cons sub_nil)) (h1 rfl)
  · have hd : decide ([c] = [92]) = false := by simp [h]
    rw [hd]
    simp only [Bool.false_eq_true, if_false]
    refine tr_augS (G.ext _) b (a := tx tk) (c := tx [c]) rfl (fun t f x => ev_name (f.cx b) f.sees rfl) ?_ ?_ rfl
    · rw [tx_len, tx_len, sizeLine_eq]; simp; omega
    · rw [tx_app]
      exact tr_sub (sub_cons (sub_cons sub_nil)) (h2 h)
theorem in_one (x : Str) (c : Nat) : (!(Builtin.Str.occurrences x ⟨#[c]⟩ 0 x.length 1).isEmpty) = decide (c ∈ ls x) := by
  have at_iff : ∀ i, StrLaws.At x ⟨#[c]⟩ x.length i ↔ (ls x)[i]? = some c := fun i => StrLaws.subAt_one x c i
  rcases StrLaws.occ_head x ⟨#[c]⟩ 1 (Nat.le_refl 1) with ⟨h0, hn⟩ | ⟨i, r, h0, hi, hn⟩
  · rw [h0]
    have : ¬ c ∈ ls x := fun hm => by
      obtain ⟨i, hi⟩ := List.mem_iff_getElem?.mp hm
      exact hn i ((at_iff i).mpr hi)
    simp [this]
  · rw [h0]
    have : c ∈ ls x := List.mem_of_getElem? ((at_iff i).mp hi)
    simp [this]
theorem ws_mem (c : Nat) : decide (c ∈ ls wsS) = ws c := by
  have : ls wsS = [10, 9, 13, 32] := by decide +kernel
  rw [this]
  unfold ws
  by_cases h1 : c = 10
  · simp [h1]
  · by_cases h2 : c = 9
    · simp [h2]
    · by_cases h3 : c = 13
      · simp [h3]
      · by_cases h4 : c = 32
        · simp [h4]
        · simp [h1, h2, h3, h4]
theorem ev_wsA {text : List Nat} {pb : List Str} (G : GT w mg mb A (gtEnv L0) FP sb s n a I q) (f : Fx sb (gtEnv L0) FP n ρ (gtσ a I) t) (x : Lex a text pb t.heap) : Ev prog w A (gtEnv L0) FP t (.Attribute (.Name "self" p1) "whitespace" p2) (.str wsS) := ⟨fun s' st E Q hQ => by
  have x' := x.kp st.kp
  obtain ⟨m, nL, h1, h2, ⟨tw, h3⟩, _⟩ := x'.dL
  refine Attribute_name (load_name G.b.kind ((f.stp st).raw rfl) ?_ (by decide) (by decide))
  exact get_self (G.Sb.kp (f.stp st).toStp.kp) x' nL.ns h3 (by kernel_rfl) rfl (hQ _ _ (.toks _ _) (.str _ _))⟩
theorem tst_ws {text : List Nat} {pb : List Str} {c : Nat} {e : Expr} (G : GT w mg mb A (gtEnv L0) FP sb s n a I q) (f : Fx sb (gtEnv L0) FP n ρ (gtσ a I) t) (x : Lex a text pb t.heap) (he : Ev prog w A (gtEnv L0) FP t e (.str (tx [c]))) :
    Tst prog w A (gtEnv L0) t (.Compare e [.In] [.Attribute (.Name "self" p1) "whitespace" p2] pos) (ws c) := tst_cmp he (ev_wsA G f x) (fun s va vb _ ra rb E Q hQ => by
    obtain ⟨t1, rfl⟩ := ra.strOpen
    obtain ⟨u1, rfl⟩ := rb.strOpen
    refine P.in_str ?_
    have : (!(Builtin.Str.occurrences wsS (tx [c]) 0 wsS.length 1).isEmpty) = ws c := (in_one wsS c).trans (ws_mem c)
    rw [this]
    exact hQ s (.refl s)) (by rfl)
end
end Mine
end
section
open PySem PySem.W PyProof.Rows PySem.Calls PySem.Spec PySem.SeqAt
set_option linter.unusedVariables false
set_option maxRecDepth 100000
namespace Mine
noncomputable def gtFor : Stmt := (bodyK 54)[3]!
noncomputable def gtFBody : List Stmt := match gtFor with | .For _ _ b _ _ => b | _ => []
noncomputable def gtIf2 : Stmt := gtFBody[1]!
noncomputable def gtQFor : Stmt := match gtIf2 with | .If _ (f :: _) _ _ => f | _ => default
noncomputable def gtQBody : List Stmt := match gtQFor with | .For _ _ b _ _ => b | _ => []
noncomputable def gtElse : List Stmt := match gtIf2 with | .If _ _ e _ => e | _ => []
noncomputable def gtBFor : Stmt := gtElse[2]!
noncomputable def gtBBody : List Stmt := match gtBFor with | .For _ _ b _ _ => b | _ => []
section
variable {w : World} {mg mb : Str → Option Value} {A : Around} {E : Value → Shared → Prop} {sb s t : Shared} {a : LA} {I q L0 : Addr} {FP : Addr → Prop} {n : Nat} {ρ : Str → Option PyData} {rest body : List Stmt} {p p1 p2 p3 p4 p5 pos : Pos} {K : Flow → Shared → Prop} {R : List Nat × List Nat}
/-- within an inner loop -/
noncomputable def InvT (m : TM) (R : List Nat × List Nat) (o : Option (List Nat)) (ρ : Str → Option PyData) : Prop := ∃ tk, Sub [("token", .str (tx tk))] ρ ∧ match o with
  | some r => tokR m r tk = R ∧ tk.length + r.length ≤ 4000
  | none => (tk, []) = R ∧ tk.length ≤ 4000
noncomputable abbrev RetT (sb s : Shared) (a : LA) (R : List Nat × List Nat) (K : Flow → Shared → Prop) : Prop := ∀ v t, Stp sb t → LX a R.2 [] s.heap t.heap → (∃ k, v = .str (tx R.1) k) → K (.ret v) t
theorem eq_tx1 {c k : Nat} {y : Str} (h : y = ⟨#[k]⟩) : (ls (tx [c]) == ls y) = decide (c = k) := by
  subst h
  show ([c] == [k]) = _
  by_cases e : c = k <;> simp [e]
set_option maxHeartbeats 1000000 in
theorem tr_innerQ {r tk : List Nat} (G : GT w mg mb A (gtEnv L0) FP sb s n a I q) (hR : tokR .q r tk = R) (hz : tk.length + r.length ≤ 4000) (hρ : Sub [("token", .str (tx tk))] ρ) (hret : RetT sb s a R K)
    (hrest : ∀ ρ tk', (tk', []) = R → tk'.length ≤ 4000 → Sub [("token", .str (tx tk'))] ρ → Tr prog w A (gtEnv L0) FP sb n (Lv I q a s.heap none) ρ (gtσ a I) rest K E) :
    Tr prog w A (gtEnv L0) FP sb n (Lv I q a s.heap (some r)) ρ (gtσ a I) (gtQFor :: rest) K E := by
  have b := G.b
  refine tr_forCI G (body := gtQBody) (InvT .q R) (some r) ⟨tk, hρ, hR, hz⟩ (fun r' e => by cases e; omega) rfl rfl rfl ?_ ?_
  · intro c r0 ρ' hl ⟨tk0, hρ0, hR0, hz0⟩ E'
    rw [tokR] at hR0
    simp only [List.length_cons] at hz0
    have q34 : Str.ofString "\"" = ⟨#[34]⟩ := by decide +kernel
    refine tr_sub (l := gρ tk0 [c]) (sub_cons (sub_cons sub_nil (by simp [put])) (hρ0.go _ (.head _) : ρ' "token" = _)) ?_
    refine tr_if (decide (c = 34)) (G.ext _) (fun t f x => tst_eqS (ev_name (f.cx b) f.sees rfl) ev_str (eq_tx1 q34)) ?_
    by_cases h : c = 34
    · rw [if_pos h] at hR0
      simp only [decide_eq_true h, if_true]
      subst hR0
      refine tr_ret (G.ext _) (fun t f x => ev_name (f.cx b) f.sees rfl) fun v t f x rv => .inr ⟨v, rfl, hret v t f.toStp x.1 ?_⟩
      obtain ⟨k, rfl⟩ := rv.strOpen
      exact ⟨k, rfl⟩
    · rw [if_neg h] at hR0
      simp only [decide_eq_false h, Bool.false_eq_true, if_false]
      refine tr_esc (tk := tk0) G (by omega) (sub_cons (sub_cons sub_nil)) (fun h2 => ?_) (fun h2 => ?_)
      · rw [if_pos h2, tok_qe] at hR0
        refine tr_nil fun t f x => .inl ⟨.inl rfl, some (r0.drop 1), _, ?_, ⟨_, sub_cons sub_nil, hR0, ?_⟩, f, x⟩
        · show (r0.drop 1).length + 1 ≤ _
          rw [List.length_drop]; omega
        · rw [List.length_append, List.length_take, List.length_drop]; omega
      · rw [if_neg h2] at hR0
        refine tr_nil fun t f x => .inl ⟨.inl rfl, some r0, _, Nat.le_refl _, ⟨_, sub_cons sub_nil, hR0, ?_⟩, f, x⟩
        rw [List.length_append]; simp; omega
  · rintro ρ' (⟨tk', hs, h1, h2⟩ | ⟨tk', hs, h1, h2⟩)
    · exact hrest ρ' tk' h1 h2 hs
    · refine hrest ρ' tk' ?_ (by simpa using h2) hs
      rw [← h1]; simp [tokR]
set_option maxHeartbeats 1000000 in
theorem tr_innerB {r tk : List Nat} (G : GT w mg mb A (gtEnv L0) FP sb s n a I q) (hR : tokR .b r tk = R) (hz : tk.length + r.length ≤ 4000) (hρ : Sub [("token", .str (tx tk))] ρ) (hret : RetT sb s a R K)
    (hrest : ∀ ρ tk', (tk', []) = R → tk'.length ≤ 4000 → Sub [("token", .str (tx tk'))] ρ → Tr prog w A (gtEnv L0) FP sb n (Lv I q a s.heap none) ρ (gtσ a I) rest K E) :
    Tr prog w A (gtEnv L0) FP sb n (Lv I q a s.heap (some r)) ρ (gtσ a I) (gtBFor :: rest) K E := by
  have b := G.b
  refine tr_forCI G (body := gtBBody) (InvT .b R) (some r) ⟨tk, hρ, hR, hz⟩ (fun r' e => by cases e; omega) rfl rfl rfl ?_ ?_
  · intro c r0 ρ' hl ⟨tk0, hρ0, hR0, hz0⟩ E'
    rw [tokR] at hR0
    simp only [List.length_cons] at hz0
    refine tr_sub (l := gρ tk0 [c]) (sub_cons (sub_cons sub_nil (by simp [put])) (hρ0.go _ (.head _) : ρ' "token" = _)) ?_
    refine tr_if (ws c) (G.ext _) (fun t f x => tst_ws G f x.1.1 (ev_name (f.cx b) f.sees rfl)) ?_
    cases h : ws c with
    | true =>
      rw [if_pos h] at hR0
      simp only [if_true]
      subst hR0
      refine tr_ret (G.ext _) (fun t f x => ev_name (f.cx b) f.sees rfl) fun v t f x rv => .inr ⟨v, rfl, hret v t f.toStp x.1 ?_⟩
      obtain ⟨k, rfl⟩ := rv.strOpen
      exact ⟨k, rfl⟩
    | false =>
      rw [if_neg (by simp [h])] at hR0
      simp only [Bool.false_eq_true, if_false]
      refine tr_esc (tk := tk0) G (by omega) (sub_cons (sub_cons sub_nil)) (fun h2 => ?_) (fun h2 => ?_)
      · rw [if_pos h2, tok_be] at hR0
        refine tr_nil fun t f x => .inl ⟨.inl rfl, some (r0.drop 1), _, ?_, ⟨_, sub_cons sub_nil, hR0, ?_⟩, f, x⟩
        · show (r0.drop 1).length + 1 ≤ _
          rw [List.length_drop]; omega
        · rw [List.length_append, List.length_take, List.length_drop]; omega
      · rw [if_neg h2] at hR0
        refine tr_nil fun t f x => .inl ⟨.inl rfl, some r0, _, Nat.le_refl _, ⟨_, sub_cons sub_nil, hR0, ?_⟩, f, x⟩
        rw [List.length_append]; simp; omega
  · rintro ρ' (⟨tk', hs, h1, h2⟩ | ⟨tk', hs, h1, h2⟩)
    · exact hrest ρ' tk' h1 h2 hs
    · refine hrest ρ' tk' ?_ (by simpa using h2) hs
      rw [← h1]; simp [tokR]
/-- within the outer loop -/
noncomputable def InvO (R : List Nat × List Nat) (o : Option (List Nat)) (ρ : Str → Option PyData) : Prop := match o with
  | some r => Sub [("token", .str (tx []))] ρ ∧ tokR .sk r [] = R ∧ r.length ≤ 4000
  | none => ∃ tk, Sub [("token", .str (tx tk))] ρ ∧ (tk, []) = R ∧ tk.length ≤ 4000
set_option maxHeartbeats 1000000 in
theorem tr_outer {r : List Nat} (G : GT w mg mb A (gtEnv L0) FP sb s n a I q) (hR : tok r = R) (hz : r.length ≤ 4000) (hρ : Sub [("token", .str (tx []))] ρ) (hret : RetT sb s a R K) :
    Tr prog w A (gtEnv L0) FP sb n (Lv I q a s.heap (some r)) ρ (gtσ a I) ((bodyK 54).drop 3) K E := by
  have b := G.b
  refine tr_forCI G (body := gtFBody) (InvO R) (some r) ⟨hρ, hR, hz⟩ (fun r' e => by cases e; omega) rfl rfl rfl ?_ ?_
  · intro c r0 ρ' hl ⟨hρ0, hR0, hz0⟩ E'
    rw [tokR] at hR0
    simp only [List.length_cons] at hz0
    have q34 : Str.ofString "\"" = ⟨#[34]⟩ := by decide +kernel
    refine tr_sub (l := gρ [] [c]) (sub_cons (sub_cons sub_nil (by simp [put])) (hρ0.go _ (.head _) : ρ' "token" = _)) ?_
    refine tr_if (ws c) (G.ext _) (fun t f x => tst_ws G f x.1.1 (ev_name (f.cx b) f.sees rfl)) ?_
    have ret' : RetT sb s a R (fun f t => ((f = .next ∨ f = .cont) ∧ ∃ o' ρ'', lvM o' ≤ r0.length + 1 ∧ InvO R o' ρ'' ∧ Fx sb (gtEnv L0) FP n ρ'' (gtσ a I) t ∧ Lv I q a s.heap o' t.heap) ∨ ∃ v, f = .ret v ∧ K (.ret v) t) := fun v t st x e => .inr ⟨v, rfl, hret v t st x e⟩
    have rest' : ∀ ρ tk', (tk', []) = R → tk'.length ≤ 4000 → Sub [("token", .str (tx tk'))] ρ → Tr prog w A (gtEnv L0) FP sb n (Lv I q a s.heap none) ρ (gtσ a I) [] (fun f t => ((f = .next ∨ f = .cont) ∧ ∃ o' ρ'', lvM o' ≤ r0.length + 1 ∧ InvO R o' ρ'' ∧ Fx sb (gtEnv L0) FP n ρ'' (gtσ a I) t ∧ Lv I q a s.heap o' t.heap) ∨ ∃ v, f = .ret v ∧ K (.ret v) t) E' := fun ρ tk' h1 h2 hs =>
      tr_nil fun t f x => .inl ⟨.inl rfl, none, ρ, Nat.zero_le _, ⟨tk', hs, h1, h2⟩, f, x⟩
    cases h : ws c with
    | true =>
      rw [if_pos h] at hR0
      simp only [if_true]
      exact tr_cont fun t f x => .inl ⟨.inr rfl, some r0, _, Nat.le_refl _, ⟨sub_cons sub_nil, hR0, by omega⟩, f, x⟩
    | false =>
      rw [if_neg (by simp [h])] at hR0
      simp only [Bool.false_eq_true, if_false]
      refine tr_if (decide (c = 34)) (G.ext _) (fun t f x => tst_eqS (ev_name (f.cx b) f.sees rfl) ev_str (eq_tx1 q34)) ?_
      by_cases h3 : c = 34
      · rw [if_pos h3] at hR0
        simp only [decide_eq_true h3, if_true]
        exact tr_innerQ G hR0 (by simp; omega) (sub_cons sub_nil) ret' rest'
      · rw [if_neg h3] at hR0
        simp only [decide_eq_false h3, Bool.false_eq_true, if_false]
        refine tr_esc (tk := []) G (by simp; omega) (sub_cons (sub_cons sub_nil)) (fun h2 => ?_) (fun h2 => ?_)
        · rw [if_pos h2, tok_be] at hR0
          exact tr_innerB G hR0 (by rw [List.length_append, List.length_take, List.length_drop]; simp; omega) (sub_cons sub_nil) ret' rest'
        · rw [if_neg h2] at hR0
          exact tr_innerB G hR0 (by rw [List.length_append]; simp; omega) (sub_cons sub_nil) ret' rest'
  · have fin : ∀ ρ' tk, Sub [("token", .str (tx tk))] ρ' → (tk, []) = R → Tr prog w A (gtEnv L0) FP sb n (Lv I q a s.heap none) ρ' (gtσ a I) ((bodyK 54).drop 4) K E := fun ρ' tk hs e => by
      refine tr_sub hs (tr_ret (G.ext _) (fun t f x => ev_name (f.cx b) f.sees rfl) fun v t f x rv => hret v t f.toStp ?_ ?_)
      · rw [← e]; exact x.1
      · obtain ⟨k, rfl⟩ := rv.strOpen
        rw [← e]; exact ⟨k, rfl⟩
    rintro ρ' (⟨tk', hs, h1, h2⟩ | ⟨hs, h1, h2⟩)
    · exact fin ρ' tk' hs h1
    · exact fin ρ' [] hs (by rw [← h1]; simp [tokR])
end
end Mine
end
section
open PySem PySem.W PyProof.Rows PySem.Calls PySem.Spec PySem.SeqAt
set_option linter.unusedVariables false
set_option maxRecDepth 100000
namespace Mine
noncomputable def getTok (text : List Nat) (pb : List Str) : Str × List Nat × List Str := match pb with
  | p :: r => (p, text, r)
  | [] => (tx (tok text).1, (tok text).2, [])
section
variable {w : World} {mg mb : Str → Option Value} {A : Around} {E : Value → Shared → Prop} {sb s t : Shared} {a : LA} {I q L0 : Addr} {FP : Addr → Prop} {n : Nat} {ρ : Str → Option PyData} {σ : Str → Option Value} {rest body : List Stmt} {p p1 p2 p3 p4 p5 pos : Pos} {K : Flow → Shared → Prop} {R : List Nat × List Nat} {text : List Nat} {pb : List Str} {env : Env}
theorem Lex.popP {y : Str} {h h' : Heap} {vs : List Value} (x : Lex a text (y :: pb) h) (hl : h'.PlainList a.P vs.toArray) (hv : StrsAre vs pb) (k : ∀ b o, b ≠ a.P → h.get? b = some o → h'.get? b = some o) : Lex a text pb h' := by
  have ne := x.ne
  have off : ∀ b ∈ [a.T, a.dT, a.L, a.S, a.C, a.F, a.K], b ≠ a.P := fun b hb e => ne.2.1 (e ▸ hb)
  refine ⟨k _ _ (off _ (by simp)) x.L, ?_, k _ _ (off _ (by simp)) x.T, ?_, ⟨vs, hl, hv⟩, ?_, ?_, ?_, ?_, ne⟩
  · obtain ⟨m, n, r⟩ := x.dL
    exact ⟨m, n.at fun o e => k _ o (fun q => ne.1 (by rw [q]; simp)) e, r⟩
  · obtain ⟨m, n, r⟩ := x.dT
    exact ⟨m, n.at fun o e => k _ o (off _ (by simp)) e, r⟩
  · obtain ⟨vs, n, r⟩ := x.S
    exact ⟨vs, n.at fun o e => k _ o (off _ (by simp)) e, r⟩
  · obtain ⟨o, e, d⟩ := x.C
    exact ⟨o, k _ _ (off _ (by simp)) e, d⟩
  · obtain ⟨pm, ct, e⟩ := x.F
    exact ⟨pm, ct, k _ _ (off _ (by simp)) e⟩
  · obtain ⟨n, oc, vs, t, e, r⟩ := x.K
    exact ⟨n, oc, vs, t, k _ _ (off _ (by simp)) e, r⟩
theorem Lex.pushP {y : Str} {h h' : Heap} {vs : List Value} (x : Lex a text pb h) (hl : h'.PlainList a.P vs.toArray) (hv : StrsAre vs (pb ++ [y])) (k : ∀ b o, b ≠ a.P → h.get? b = some o → h'.get? b = some o) : Lex a text (pb ++ [y]) h' := by
  have ne := x.ne
  have off : ∀ b ∈ [a.T, a.dT, a.L, a.S, a.C, a.F, a.K], b ≠ a.P := fun b hb e => ne.2.1 (e ▸ hb)
  refine ⟨k _ _ (off _ (by simp)) x.L, ?_, k _ _ (off _ (by simp)) x.T, ?_, ⟨vs, hl, hv⟩, ?_, ?_, ?_, ?_, ne⟩
  · obtain ⟨m, n, r⟩ := x.dL
    exact ⟨m, n.at fun o e => k _ o (fun q => ne.1 (by rw [q]; simp)) e, r⟩
  · obtain ⟨m, n, r⟩ := x.dT
    exact ⟨m, n.at fun o e => k _ o (off _ (by simp)) e, r⟩
  · obtain ⟨vs, n, r⟩ := x.S
    exact ⟨vs, n.at fun o e => k _ o (off _ (by simp)) e, r⟩
  · obtain ⟨o, e, d⟩ := x.C
    exact ⟨o, k _ _ (off _ (by simp)) e, d⟩
  · obtain ⟨pm, ct, e⟩ := x.F
    exact ⟨pm, ct, k _ _ (off _ (by simp)) e⟩
  · obtain ⟨n, oc, vs, t, e, r⟩ := x.K
    exact ⟨n, oc, vs, t, k _ _ (off _ (by simp)) e, r⟩
theorem strs_len {vs : List Value} {ys : List Str} (x : StrsAre vs ys) : vs.length = ys.length := by
  induction x with
  | nil => rfl
  | cons _ _ _ ih => simp [ih]
/-- self.pushback -/
theorem eval_pb {Q : Value → Shared → Prop} (hk : env.scope.kind = .function) (S : Stat w mg mb t.heap) (x : Lex a text pb t.heap) (f : NameAt env t.heap "self" (.ref a.L)) (h : Q (.ref a.P) { t with toks := t.toks + 1 }) :
    wpAny (model prog w) A (eval (.Attribute (.Name "self" p1) "pushback" p2) env) Q E t := by
  obtain ⟨m, nL, h1, h2, h3, h4, h5, h6, h7⟩ := x.dL
  exact Attribute_name (load_name hk f (get_self S x nL.ns h4 (by kernel_rfl) rfl h) (by decide) (by decide))
theorem ci_call {tk : Tok} {Q : Value → Shared → Prop} (hq : s.heap.get? q = some (methodObj (.ref 47) (.ref a.L))) (h : Q (.ref s.heap.objs.size) { s with heap := s.heap.push (ciObj (.ref q) (.str (Str.ofString "") tk) (.bool false)) }) :
    wpAny (model prog w) A (call (.builtin "iter") [.ref q, .str (Str.ofString "") tk]) Q E s := by
  have hl : typeLookup (.type "method") "__call__" = pure (some (.builtin "method.__call__")) := by rw [typeLookup_type, builtinLookup_eq_fast]; kernel_rfl
  refine call_function_entry (id := "iter") (by decide +kernel) (by decide +kernel) (entryFor_of_tree (by kernel_rfl) : entryFor table "iter" = some Builtin.«iter») (by unfold argsOk; kernel_rfl) ?_
  unfold Builtin.«iter»
  refine wpAny_bind (wpAny_of_eq (a := [.ref q, .str (Str.ofString "") tk]) (by first | rfl | kernel_rfl) ?_)
  dsimp only
  refine wpAny_bind (wpAny_specialOf (T := "method") ⟨_, hq, rfl⟩ hl ?_)
  rw [if_neg (by simp)]
  refine wpAny_bind (wpAny_rule (wpAny_bind ?_))
  unfold newFields
  refine wpAny_newObj_type (wpAny_pure ⟨_, rfl, ?_⟩) (by size_fits)
  exact h
theorem tst_pb (hk : env.scope.kind = .function) (S : Stat w mg mb t.heap) (x : Lex a text pb t.heap) (hz : pb.length ≤ 100000) (f : NameAt env t.heap "self" (.ref a.L)) : Tst prog w A env t (.Attribute (.Name "self" p1) "pushback" p2) (decide (pb ≠ [])) := ⟨fun s' st E Q hQ => by
  refine wpAny_isTrue_value (eval_pb hk (S.kp st.kp) (x.kp st.kp) (f.kp st.kp) ?_)
  obtain ⟨vs, hl, hv⟩ := (x.kp st.kp).P
  have hlen := strs_len hv
  refine wpAny_truthy_list hl.isList (by rw [List.size_toArray]; omega) ?_
  have e : (!(vs.toArray).isEmpty) = decide (pb ≠ []) := by
    cases hv with
    | nil => rfl
    | cons _ _ _ => simp
  rw [e]
  exact hQ _ (.toks _ _ (by show s'.toks ≤ s'.toks + 1 + 1 + 1; omega))⟩
set_option maxHeartbeats 2000000 in
theorem gt_spec (g : LG w mg mb A sb s a text pb 5) (hz : pb.length ≤ 100000) {Q : Value → Shared → Prop} (hQ : ∀ t s', After sb s a.mut s' → Lex a (getTok text pb).2.1 (getTok text pb).2.2 s'.heap → Q (.str (getTok text pb).1 t) s') :
    wpAny (model prog w) A (call (.ref 54) [.ref a.L]) Q E s := by
  refine enter_lex (body := bodyK 54) (params := ["self"]) (ρ := fun _ => none) (σ := putR noRaw "self" (.ref a.L)) g (fnAt_gt g.S) rfl (fun x d h => nomatch h) (fun x v h => ?_) ?_
  · unfold putR at h
    split at h
    · rename_i e; cases h; subst e; exact .head _
    · cases h
  intro FP' n hf hn hlo b E'
  have hall := g.x.lt
  have hS : ∀ t, Stp sb t → Stat w mg mb t.heap := fun t st => g.Sb.kp st.kp
  have hX : ∀ text pb n, s.heap.objs.size ≤ n → Ext (gtEnv s.heap.objs.size) FP' noM n (LX a text pb s.heap) := fun text pb n hn => lexX hall hlo hn
  have hfr : ∀ b ∈ a.mut, b ∉ frameOf' (gtEnv s.heap.objs.size) := fun b hb z => Nat.lt_irrefl _ (Nat.lt_of_lt_of_le (hall b (mut_all hb)) (hlo b z))
  refine tr_if (decide (pb ≠ [])) (hX _ _ _ hn) (fun t f x => tst_pb b.kind (hS t f.toStp) x.1 hz (f.raw rfl)) ?_
  cases pb with
  | cons y r =>
    rw [decide_eq_true (by simp)]
    simp only [if_true]
    refine ⟨fun t f x => wpAny_execs_cons (wpAny_Return_some (wpAny_Call_method_lateS rfl rfl rfl (eval_pb b.kind (hS t f.toStp) x.1 (f.raw rfl) ?_)))⟩
    obtain ⟨vs, hl, hv⟩ := x.1.P
    obtain ⟨ty, ws, rfl, hws⟩ := strs_cons hv
    obtain ⟨nP, hnP⟩ := id hl
    refine ⟨"list", "list.pop", PySem.F.plainAttrs_list, PySem.F.slot_list_pop, PySem.F.type_list_pop, hl.isList.typeIs, (fun b e => by cases e; exact ⟨_, hnP, rfl⟩), ?_⟩
    refine callWith_builtin rfl (evalArgs_all rfl ((evAll_cons ev_int evAll_nil : EvAll prog w _ _ (fun _ => True) _ _ [.int 0]).go _ _ (.refl _) _ _ fun vs0 s3 st3 r3 => ?_))
    obtain ⟨v0, rfl, r0⟩ := r3.one
    obtain ⟨t0, rfl⟩ := r0.intOpen
    have st03 : Stp t s3 := (Stp.toks t (t.toks + 1)).trans st3
    have hl3 := hl.at fun o e => st3.kp.at e (plain_notab hl o e).1
    have x3 := (hX _ _ _ hn).kp _ _ x st03.kp
    have f3 := f.stp st03
    have hPz : (Value.str y ty :: ws).length ≤ sizeLine := by have := strs_len hv; rw [this, sizeLine_eq]; exact Nat.le_trans hz (by decide)
    refine with_size (pop_first hl3 hPz fun h4 hl4 hs4 hz4 => ?_)
    have k4 : ∀ b o, b ≠ a.P → s3.heap.get? b = some o → h4.get? b = some o := fun b o hb e => hs4.extBut b o hb e
    have af4 : After sb s3 a.mut { s3 with heap := h4 } := (After.start f3.toStp).step (D := a.P) (tk := s3.toks) k4 hz4 (Nat.le_refl _) (.inl (by simp)) (g.low _ (by simp)) (list_soft hl3)
    exact ⟨af4.st, x3.2.trans af4.kept, fun af => hQ _ _ af (x3.1.popP hl4 hws k4)⟩
  | nil =>
    rw [decide_eq_false (by simp)]
    simp only [Bool.false_eq_true, if_false]
    have e0 : Str.ofString "" = tx [] := by decide +kernel
    refine tr_assign (hX _ _ _ hn) b (d1 := .str (tx [])) (fun t f x => by rw [← e0]; exact ev_str) ?_ (.inl rfl)
    refine ⟨fun t f x => wpAny_execs_cons (wpAny_Assign_Name (wpAny_Call_NameR (load_gl b.kind (gl_bi (v := .builtin "iter") (hS t f.toStp) rfl (by decide +kernel) (by decide) rfl rfl rfl) ?_ (by decide))) rfl)⟩
    refine callWith_builtin rfl (evalArgs_all rfl (spliced_cons (Attribute_name (load_name b.kind (f.raw rfl) ?_ (by decide) (by decide)))))
    obtain ⟨m, nL, h1, h2, h3, h4, h5, h6, h7⟩ := x.1.dL
    refine get_bound (fun b o e => (hS t f.toStp).X b o e) x.1.L nL.ns h6 (f := 47) (by kernel_rfl) (by kernel_rfl) (by kernel_rfl) (by kernel_rfl) (by decide +kernel) ?_
    have hqn : t.heap.objs.size ∉ a.all := fun z => Nat.lt_irrefl _ (x.1.lt _ z)
    have hqf : t.heap.objs.size ∉ frameOf' (gtEnv s.heap.objs.size) := fun z => Nat.lt_irrefl _ (f.lt _ z)
    have st1 : Stp t { t with heap := t.heap.push (methodObj (.ref 47) (.ref a.L)), toks := t.toks + 1 } := (Stp.push t _).trans (.toks _ _)
    have hq1 : (t.heap.push (methodObj (.ref 47) (.ref a.L))).get? t.heap.objs.size = some (methodObj (.ref 47) (.ref a.L)) := Heap.get?_push_size _ rfl
    generalize hs1 : ({ t with heap := t.heap.push (methodObj (.ref 47) (.ref a.L)), toks := t.toks + 1 } : Shared) = s1 at st1
    have hs1h : t.heap.push (methodObj (.ref 47) (.ref a.L)) = s1.heap := by rw [← hs1]
    rw [hs1h] at hq1
    have hq1l : t.heap.objs.size < s1.heap.objs.size := Heap.lt_size hq1
    refine (evAll_cons ev_str evAll_nil : EvAll prog w _ _ (fun _ => True) s1 _ [.str (Str.ofString "")]).go _ s1 (.refl _) _ _ fun vs0 s2 st2 r2 => ?_
    obtain ⟨v0, rfl, r0⟩ := r2.one
    obtain ⟨t0, rfl⟩ := r0.strOpen
    have hq2 := st2.kp.at hq1 rfl
    refine ci_call (a := a) hq2 ?_
    have st3 : Stp s2 { s2 with heap := s2.heap.push (ciObj (.ref t.heap.objs.size) (.str (Str.ofString "") t0) (.bool false)) } := .push _ _
    have hI3 : (s2.heap.push (ciObj (.ref t.heap.objs.size) (.str (Str.ofString "") t0) (.bool false))).get? s2.heap.objs.size = some (ciObj (.ref t.heap.objs.size) (.str (Str.ofString "") t0) (.bool false)) := Heap.get?_push_size _ rfl
    have hIn : s2.heap.objs.size ∉ a.all := fun z => Nat.lt_irrefl _ (((x.1.kp st1.kp).kp st2.kp).lt _ z)
    have f2 := (f.stp st1).stp st2
    have hIf : s2.heap.objs.size ∉ frameOf' (gtEnv s.heap.objs.size) := fun z => Nat.lt_irrefl _ (f2.lt _ z)
    have hIq : t.heap.objs.size < s2.heap.objs.size := Nat.lt_of_lt_of_le hq1l st2.kp.size
    generalize hs3 : ({ s2 with heap := s2.heap.push (ciObj (.ref t.heap.objs.size) (.str (Str.ofString "") t0) (.bool false)) } : Shared) = s3 at st3
    have hs3h : s2.heap.push (ciObj (.ref t.heap.objs.size) (.str (Str.ofString "") t0) (.bool false)) = s3.heap := by rw [← hs3]
    rw [hs3h] at hI3
    have hI3l : s2.heap.objs.size < s3.heap.objs.size := Heap.lt_size hI3
    have stA : Stp t s3 := (st1.trans st2).trans st3
    have f3 := (f.stp stA).mono (FP' := FP') (n' := s3.heap.objs.size) (fun _ _ h => h) (Nat.le_refl _)
    have x3 := (hX _ _ _ hn).kp _ _ x stA.kp
    have hts : s.heap.objs.size ≤ t.heap.objs.size := Nat.le_trans hn f.big
    have G : GT w mg mb (A.deeper (gtEnv s.heap.objs.size)) (gtEnv s.heap.objs.size) FP' sb s s3.heap.objs.size a s2.heap.objs.size t.heap.objs.size :=
      ⟨g.Sb, g.room.deeper _, g.low, hall, hlo, Nat.le_trans hts stA.kp.size, hf, b.up (Nat.le_trans f.big stA.kp.size), ⟨hIn, Nat.le_trans f2.toStp.kp.size (Nat.le_refl _), Nat.le_trans hts (Nat.le_of_lt hIq), hIf, hI3l⟩, ⟨hqn, hqf, Nat.lt_trans hIq hI3l⟩, Nat.ne_of_gt hIq⟩
    have lv3 : Lv s2.heap.objs.size t.heap.objs.size a s.heap (some text) s3.heap := ⟨x3, ⟨t0, hI3⟩, st3.kp.at hq2 rfl⟩
    refine store_any (ρ' := put (fun _ => none) "token" (.str (tx []))) (σ' := gtσ a s2.heap.objs.size) G.b f3 (fun y dy hy => ?_) (fun y u hy => ?_) (.inl rfl) fun t4 f4 keep => ?_
    · by_cases e : y = Str.ofString "fiter"
      · subst e; unfold put at hy; rw [if_neg (by decide)] at hy; cases hy
      · exact .inr ⟨e, hy⟩
    · by_cases e : y = Str.ofString "fiter"
      · left; unfold gtσ putR at hy; rw [if_pos e] at hy; cases hy; exact ⟨e, rfl⟩
      · right; unfold gtσ at hy; rw [putR, if_neg e] at hy; exact ⟨e, hy⟩
    · refine (tr_outer (R := tok text) G rfl g.len (sub_cons sub_nil) fun v t st x5 ⟨k, hv⟩ => ⟨st, x5.2, fun af => ?_⟩).go t4 f4 ((G.ext _).ch _ _ (· ∈ frameOf' (gtEnv s.heap.objs.size)) lv3 (fun c hc => .inl hc) (f3.off G.b) keep)
      subst hv
      exact hQ _ _ af x5.1
end
end Mine
end
section
open PySem PySem.W PyProof.Rows PySem.Calls PySem.Spec PySem.SeqAt
set_option linter.unusedVariables false
set_option maxRecDepth 100000
namespace Mine
section
variable {w : World} {mg mb : Str → Option Value} {A : Around} {E : Value → Shared → Prop} {sb s t : Shared} {a : LA} {FP : Addr → Prop} {n : Nat} {ρ : Str → Option PyData} {σ : Str → Option Value} {text : List Nat} {pb : List Str} {env : Env} {y : Str}
theorem strs_snoc' {vs : List Value} {ys : List Str} {y : Str} {t : Tok} (x : StrsAre vs ys) : StrsAre (vs ++ [.str y t]) (ys ++ [y]) := strs_snoc x
theorem pt_spec {ty : Tok} (g : LG w mg mb A sb s a text pb 2) (hz : pb.length ≤ 100000) {Q : Value → Shared → Prop} (hQ : ∀ s', After sb s a.mut s' → Lex a text (pb ++ [y]) s'.heap → Q .none s') :
    wpAny (model prog w) A (call (.ref 61) [.ref a.L, .str y ty]) Q E s := by
  refine enter_lex (body := bodyK 61) (params := ["self", "token"]) (ρ := al [("token", .str y)]) (σ := putR noRaw "self" (.ref a.L)) g (fnAt_pt g.S) rfl (fun x d h => ?_) (fun x v h => ?_) ?_
  · unfold al at h
    rw [List.lookup_cons] at h
    cases hb : x == ("token" : Str) with
    | true => rw [hb] at h; cases h; exact ⟨.str y ty, by rw [beq_iff_eq.mp hb]; exact .tail _ (.head _), .str _ _⟩
    | false => rw [hb] at h; cases h
  · unfold putR at h
    split at h
    · rename_i e; cases h; subst e; exact .head _
    · cases h
  intro FP' n hf hn hlo b E'
  have hall := g.x.lt
  have hS : ∀ t, Stp sb t → Stat w mg mb t.heap := fun t st => g.Sb.kp st.kp
  have hX : ∀ text pb n, s.heap.objs.size ≤ n → Ext (callEnvC (fdK 61) s.heap.objs.size 61) FP' noM n (LX a text pb s.heap) := fun text pb n hn => lexX hall hlo hn
  refine ⟨fun t f x => wpAny_execs_cons (wpAny_Expr_any (wpAny_Call_method_lateS rfl rfl rfl (eval_pb b.kind (hS t f.toStp) x.1 (f.raw rfl) ?_)) rfl rfl)⟩
  obtain ⟨vs, hl, hv⟩ := x.1.P
  obtain ⟨nP, hnP⟩ := id hl
  refine ⟨"list", "list.append", PySem.F.plainAttrs_list, PySem.F.slot_list_append, PySem.F.type_list_append, hl.isList.typeIs, (fun b e => by cases e; exact ⟨_, hnP, rfl⟩), ?_⟩
  have st1 : Stp t { t with toks := t.toks + 1 } := .toks _ _
  refine callWith_builtin rfl (evalArgs_all rfl ((evAll_cons (ev_name ((f.stp st1).cx b) (f.stp st1).sees rfl) evAll_nil : EvAll prog w _ _ FP' _ _ [.str y]).go _ _ (.refl _) _ _ fun vs0 s3 st3 r3 => ?_))
  obtain ⟨v0, rfl, r0⟩ := r3.one
  obtain ⟨t0, rfl⟩ := r0.strOpen
  have st03 := st1.trans st3
  have hl3 := hl.at fun o e => st3.kp.at e (plain_notab hl o e).1
  have x3 := (hX _ _ _ hn).kp _ _ x st03.kp
  have f3 := f.stp st03
  have hPz : vs.toArray.size ≤ sizeLine := by have := strs_len hv; rw [List.size_toArray, this, sizeLine_eq]; exact Nat.le_trans hz (by decide)
  refine with_size (wpAny_list_append_plain (hsz := hPz) hl3 fun h4 hl4 hs4 hz4 => ?_)
  have k4 : ∀ b o, b ≠ a.P → s3.heap.get? b = some o → h4.get? b = some o := fun b o hb e => hs4.extBut b o hb e
  have af4 : After sb s3 a.mut { s3 with heap := h4 } := (After.start f3.toStp).step (D := a.P) (tk := s3.toks) k4 hz4 (Nat.le_refl _) (.inl (by simp)) (g.low _ (by simp)) (list_soft hl3)
  have hl4' : h4.PlainList a.P (vs ++ [Value.str y t0]).toArray := by simpa using hl4
  exact wpAny_execs_nil ⟨af4.st, x3.2.trans af4.kept, fun af => hQ _ af (x3.1.pushP hl4' (strs_snoc hv) k4)⟩
theorem Room.under {k : Nat} {args : List Value} (r : Room A (k + 1)) : Room (A.under (.builtin "type.__call__" ⟨.ref 64 :: args, []⟩)) k := by
  have e1 : (Code.builtin "type.__call__" ⟨.ref 64 :: args, []⟩).weight ≤ 1 := by
    have : (Code.builtin "type.__call__" ⟨.ref 64 :: args, []⟩).weight = 1 := by
      unfold Code.weight Code.isCreation Code.isGuard Code.isCaller Code.frames
      rfl
    omega
  have e2 : (Code.builtin "type.__call__" ⟨.ref 64 :: args, []⟩).cUnits = 1 := rfl
  exact ⟨r.hh, by show A.depth + Code.weight _ + k < _; have := r.dp; omega, by show A.units + Code.cUnits _ + 200 + 20 * k < _; rw [e2]; have := r.un; omega⟩
theorem store_self {x dx : Addr} {m : Str → Option Value} {z : Nat} {name : Str} {v : Value} {pp : Pos} {Q : Unit → Shared → Prop} (b : Bd A env FP n) (f : Fx s env FP n ρ σ t) (S : Stat w mg mb t.heap) (hself : σ "self" = some (.ref x)) (hx : t.heap.get? x = some (instObj 64 dx)) (nz : NsZ t.heap dx m z) (hz : z ≤ 9)
    (ht : takerIn (K w.params) 64 name = some none) (hd : s.heap.objs.size ≤ dx ∧ dx ∉ frameOf' env ∧ ¬ FP dx) (hne : x ≠ dx)
    (h : ∀ t', Fx s env FP n ρ σ t' → t'.heap.get? x = some (instObj 64 dx) → NsZ t'.heap dx (fun y => if y = name then some v else m y) (z + 1) → (∀ b o, b ≠ dx → t.heap.get? b = some o → t'.heap.get? b = some o) → Q () t') :
    wpAny (model prog w) A (eval (.Name "self" pp) env) (fun ov s₂ => wpAny (model prog w) A (setAttr ov name v) Q E s₂) E t := by
  refine load_name b.kind (f.raw hself) ?_ (by decide) (by decide)
  refine with_size (set_inst (fun b o e => S.X b o e) hx nz (by omega) ht fun h' n' hs' hz' => ?_)
  have k' : ∀ b o, b ≠ dx → t.heap.get? b = some o → h'.get? b = some o := fun b o hb e => hs'.extBut b o hb e
  have f' : Fx s env FP n ρ σ { t with heap := h', toks := t.toks + 2 } := f.but (U := [dx]) (tk := t.toks + 2) (fun b o hb e => k' b o (fun q => hb (by rw [q]; exact .head _)) e) (fun b hb => by rw [List.mem_singleton.mp hb]; exact ⟨hd.1, hd.2.1, fun o ho => (nz.notab o ho).2.1⟩)
    (fun b o hb ho => by rw [List.mem_singleton.mp hb] at ho ⊢; exact ⟨(nz.notab o ho).2.2, .inr hd.2.2⟩) hz' (by omega)
  refine h _ f' (k' _ _ hne hx) ?_ k'
  obtain ⟨o, es, ep, q1, q2, q3, q4, q5⟩ := n'
  exact ⟨o, es, ep, q1, q2, q3, q4, by split at q5 <;> omega⟩
noncomputable abbrev iniM (v : Value) (t1 t2 : Tok) (P : Addr) : Str → Option Value := fun y => if y = "pushback" then some (.ref P) else if y = "whitespace" then some (.str wsS t2) else if y = "instream" then some v else if y = "lineno" then some (.int 1 t1) else none
set_option maxHeartbeats 1000000 in
theorem make_inst {v : Value} (S : Stat w mg mb s.heap) (room : Room A 3) {Q : Value → Shared → Prop}
    (hQ : ∀ x dx P t1 t2 s', Stp s s' → s.heap.objs.size ≤ dx → dx < x → x < P → P < s'.heap.objs.size → s'.heap.get? x = some (instObj 64 dx) → NsZ s'.heap dx (iniM v t1 t2 P) 4 → s'.heap.PlainList P #[] → Q (.ref x) s') :
    wpAny (model prog w) A (call (.ref 64) [v]) Q E s := by
  refine with_tk (wpAny_call ?_)
  obtain ⟨h, gg, dd, tt, os⟩ := s
  have X : (K w.params).In h := fun b o e => S.X b o e
  refine make_core (C := 64) (makes_of X (by kernel_rfl)) (looks_findIn X (by kernel_rfl : findIn (K w.params) (.ref 64) "__init__" = some (some (.ref 40)))) (fun self => bind_fn X self (by kernel_rfl)) (.inl rfl) ?_
  have st1 : Stp ⟨h, gg, dd, tt, os⟩ ⟨(h.push emptyDict).push (instObj 64 h.objs.size), gg, dd, tt, os⟩ := (Stp.push ⟨h, gg, dd, tt, os⟩ emptyDict).trans (.push ⟨h.push emptyDict, gg, dd, tt, os⟩ _)
  have hx1 : ((h.push emptyDict).push (instObj 64 h.objs.size)).get? (h.objs.size + 1) = some (instObj 64 h.objs.size) := by
    have := Heap.get?_push_size (h.push emptyDict) (o := instObj 64 h.objs.size) rfl
    rw [Heap.size_push] at this; exact this
  have hd1 : ((h.push emptyDict).push (instObj 64 h.objs.size)).get? h.objs.size = some emptyDict := Heap.get?_push_of_some _ (Heap.get?_push_size h rfl)
  have hsz1 : ((h.push emptyDict).push (instObj 64 h.objs.size)).objs.size = h.objs.size + 2 := by rw [Heap.size_push, Heap.size_push]
  generalize hs1 : (⟨(h.push emptyDict).push (instObj 64 h.objs.size), gg, dd, tt, os⟩ : Shared) = s1 at st1
  have hs1h : (h.push emptyDict).push (instObj 64 h.objs.size) = s1.heap := by rw [← hs1]
  rw [hs1h] at hx1 hd1 hsz1
  generalize hs0 : (⟨h, gg, dd, tt, os⟩ : Shared) = s0 at *
  have hs0h : h = s0.heap := by rw [← hs0]
  subst hs0h
  generalize hdx : s0.heap.objs.size = dx at *
  have n1 : NsZ s1.heap dx (fun _ => none) 0 := ⟨_, #[], 0, hd1, rfl, fun _ he => by simp at he, fun _ => rfl, Nat.le_refl _⟩
  refine codeAny_mono (enter_defC (s := s1) (body := bodyK 40) (Q := fun v' s' => v' = .none ∧ (s0.toks ≤ s'.toks → Q (.ref (dx + 1)) s')) (E := E) (FP := fun b => b ≠ dx) (fnAt_init (S.kp st1.kp)) (room.under.le (by decide)) (fun b hb e => Nat.lt_irrefl dx (Nat.lt_of_lt_of_le (by rw [hsz1]; exact Nat.lt_succ_of_lt (Nat.lt_succ_self _)) (e ▸ hb))) ["self", "fp"] [.ref (dx + 1), v] rfl (fun _ => none) (putR (putR noRaw "self" (.ref (dx + 1))) "fp" v) (fun x d h => nomatch h) (fun x u hh => ?_) ?_ rfl) (fun r s' hr => ?_)
  · unfold putR at hh
    split at hh
    · rename_i e; cases hh; subst e; exact .tail _ (.head _)
    · split at hh
      · rename_i e; cases hh; subst e; exact .head _
      · cases hh
  · intro FP' n s2 hf _ hn b f2 _
    obtain ⟨m0, cm0, act, _, _⟩ := f2.ex
    have hfr : dx ∉ frameOf' (callEnvC (fdK 40) s1.heap.objs.size 40) := fun z => by have := frame_lo act dx z; rw [hsz1] at this; omega
    have hd : s0.heap.objs.size ≤ dx ∧ dx ∉ frameOf' (callEnvC (fdK 40) s1.heap.objs.size 40) ∧ ¬ FP' dx := ⟨Nat.le_of_eq hdx, hfr, fun z => hf dx z rfl⟩
    have hS : ∀ t, Stp s0 t → Stat w mg mb t.heap := fun t st => S.kp st.kp
    have f2 := f2.rebase st1
    have hx2 := act.kp.at hx1 rfl
    have n2 : NsZ s2.heap dx (fun _ => none) 0 := n1.at fun o e => act.kp.at e (n1.notab o e).1
    -- self.lineno = 1
    refine wpAny_execs_cons (plainObj_wpAny_Assign_Attribute ((ev_int (FP := FP') : Ev prog w _ _ FP' s2 _ (.int 1)).go s2 (.refl _) _ _ fun v1 t1 st1' r1 => ?_) rfl)
    obtain ⟨k1, rfl⟩ := r1.intOpen
    refine store_self b (f2.stp st1') (hS _ (f2.stp st1').toStp) rfl (st1'.kp.at hx2 rfl) (n2.at fun o e => st1'.kp.at e (n2.notab o e).1) (by decide) (by kernel_rfl) hd (Nat.succ_ne_self dx) fun t2 f3 hx3 n3 _ => ?_
    -- self.instream = fp
    refine wpAny_execs_cons (plainObj_wpAny_Assign_Attribute (load_name b.kind (f3.raw (x := "fp") rfl) ?_ (by decide) (by decide)) rfl)
    refine store_self b f3 (hS _ f3.toStp) rfl hx3 n3 (by decide) (by kernel_rfl) hd (Nat.succ_ne_self dx) fun t3 f4 hx4 n4 _ => ?_
    -- self.whitespace = ..
    refine wpAny_execs_cons (plainObj_wpAny_Assign_Attribute ((ev_str (FP := FP') : Ev prog w _ _ FP' t3 _ (.str wsS)).go t3 (.refl _) _ _ fun v4 t4 st4 r4 => ?_) rfl)
    obtain ⟨k4, rfl⟩ := r4.strOpen
    refine store_self b (f4.stp st4) (hS _ (f4.stp st4).toStp) rfl (st4.kp.at hx4 rfl) (n4.at fun o e => st4.kp.at e (n4.notab o e).1) (by decide) (by kernel_rfl) hd (Nat.succ_ne_self dx) fun t5 f5 hx5 n5 _ => ?_
    -- self.pushback = []
    refine wpAny_execs_cons (plainObj_wpAny_Assign_Attribute (List_ (spliced_nil (wpAny_newList ?_ (Nat.zero_le _)))) rfl)
    have st6 : Stp t5 { t5 with heap := t5.heap.push { cls := .type "list", data := .seq ([] : List Value).toArray } } := .push _ _
    have hP6 : (t5.heap.push { cls := .type "list", data := .seq ([] : List Value).toArray }).PlainList t5.heap.objs.size #[] := ⟨_, Heap.get?_push_size _ rfl⟩
    have hxlt : dx + 1 < t5.heap.objs.size := Heap.lt_size hx5
    refine store_self b (f5.stp st6) (hS _ (f5.stp st6).toStp) rfl (st6.kp.at hx5 rfl) (n5.at fun o e => st6.kp.at e (n5.notab o e).1) (by decide) (by kernel_rfl) hd (Nat.succ_ne_self dx) fun t7 f7 hx7 n7 k7 => ?_
    refine wpAny_execs_nil ⟨rfl, fun htk => ?_⟩
    have hP7 : t7.heap.PlainList t5.heap.objs.size #[] := hP6.at fun o e => k7 _ o (Nat.ne_of_gt (Nat.lt_of_succ_lt hxlt)) e
    exact hQ (dx + 1) dx t5.heap.objs.size k1 k4 t7 f7.toStp (Nat.le_refl _) (Nat.lt_succ_self _) hxlt (by obtain ⟨nn, e⟩ := hP7; exact Heap.lt_size e) hx7 n7 hP7
  · rcases r with e | (v' | _ | _ | _) <;> first | exact hr | skip
end
end Mine
end
section
open PySem PySem.W PyProof.Rows PySem.Calls PySem.Spec PySem.SeqAt
set_option linter.unusedVariables false
set_option maxRecDepth 100000
namespace Mine
section
variable {w : World} {mg mb : Str → Option Value} {A : Around} {E : Value → Shared → Prop} {s t : Shared} {a : LA} {FP : Addr → Prop} {n : Nat} {ρ : Str → Option PyData} {σ : Str → Option Value} {env : Env} {x : Str}
theorem fnAt_lexer {h : Heap} (S : Stat w mg mb h) : FnAt h 82 (fdK 82) := fnAt (c := 81) S rfl rfl rfl rfl rfl rfl
theorem lexHd {h : Heap} (S : Stat w mg mb h) : CodeHd h 81 77 := codeHd_of_K (K := K w.params) (fun b o e => S.X b o e) (by kernel_rfl)
noncomputable abbrev lxEnv (L : Addr) : Env := callEnvC (fdK 82) L 82
theorem lx_qual (L : Addr) : (lxEnv L).qual ++ "<lambda>" = lamQual := by
  have : (fdK 82).qualname ++ Str.ofString ".<locals>." ++ Str.ofString "<lambda>" = lamQual := by decide +kernel
  exact this
noncomputable def lamPosE : Pos := match lamE with | .Lambda _ _ _ p => p | _ => default
theorem tab77 {h : Heap} (T : TabInv h) : ∃ ps, h.get? 77 = some (tabObj ps) := by
  rcases T with e | ⟨c, e, _⟩
  · exact ⟨_, e⟩
  · exact ⟨_, e⟩
theorem bmain {h : Heap} (S : Stat w mg mb h) : h.BuiltinsAt mg 77 := by
  obtain ⟨bm, ob, h1, h2, h3, h4, h5, h6⟩ := S.bm
  obtain ⟨ps, e⟩ := tab77 S.tab
  refine ⟨bm, ob, h1, h2, fun q => ?_, fun q => ?_, h3, h4, h5, h6⟩
  · obtain ⟨o, es, ep, ho, hd, _⟩ := S.g
    rw [← q, h3] at ho; cases ho; rw [h6] at hd; cases hd
  · rw [q, e] at h3; cases h3; cases h4
/-- the lambda is made -/
theorem lam_make {L : Addr} {Q : Value → Shared → Prop} (S : Stat w mg mb t.heap)
    (hQ : ∀ F K pm ct t', Stp t t' → t.heap.objs.size ≤ F → t'.heap.get? F = some { cls := .type "function", data := .func (kla_fn "<lambda>" lamQual lamParams lamBody lamScope [("signs", L + 1)] pm (.ref K) ct) } → K ≠ 77 → t'.heap.CodeRec (.ref K) lamQual → Q (.ref F) t') :
    wpAny (model prog w) A (eval lamE (lxEnv L)) Q E t := by
  show wpAny _ _ (eval (.Lambda lamParams lamBody lamScope lamPosE) (lxEnv L)) _ _ _
  refine kla_eval rfl ?_
  rw [lx_qual]
  have hcl : closureFor lamScope (lxEnv L) = pure [((Str.ofString "signs"), L + 1)] := rfl
  have hb := bmain S
  have hgP : mainGlobals ≠ 77 := by decide
  have ne77 : ∀ {c : Addr} {h : Heap} {q : Str}, h.CodeRec (.ref c) q → ∀ ps, h.get? 77 = some (tabObj ps) → (∀ x, ps[1]? ≠ some (.str q x)) → c ≠ 77 := fun {c h q} r ps e hn z => by
    obtain ⟨c', o, vs, t, e1, ho, hd, hv⟩ := r
    cases e1
    rw [z, e] at ho; cases ho; cases hd
    exact hn _ hv
  refine with_tk ?_
  rcases S.tab with e | ⟨c, e, r⟩
  · refine kla_makeFunction (c := 81) (P := 77) (ps := #[]) (clos := [((Str.ofString "signs"), L + 1)]) hcl rfl S.g rfl (lexHd S) e trivial rfl hgP hb fun c' ctv h' tk hx hge hlt hrec htb htk => ?_
    have hsz : t.heap.objs.size ≤ h'.objs.size := Nat.le_of_lt (Nat.lt_of_le_of_lt hge hlt)
    have htb' : h'.get? 77 = some (tabObj #[rawInt 87, rawInt 16, .ref c']) := htb
    have kp : Kp t.heap (h'.push (kla_obj "<lambda>" lamQual lamParams lamBody lamScope [((Str.ofString "signs"), L + 1)] ((mg "__name__").getD .none) c' ctv)) := by
      refine ⟨fun b o e1 hn => Heap.get?_push_of_some _ (hx b o (fun z => ?_) e1), fun _ => .inr ⟨c', Heap.get?_push_of_some _ htb', hrec.push _⟩, ?_⟩
      · subst z
        rw [e] at e1; cases e1
        rcases hn with hn | hn
        · cases hn
        · exact hn rfl
      · rw [Heap.size_push]; omega
    refine hQ _ c' _ ctv _ ⟨kp, ⟨_, _, rfl⟩, htk⟩ hsz (Heap.get?_push_size _ rfl) ?_ (hrec.push _)
    exact ne77 hrec _ htb fun x => by simp [rawInt]
  · refine kla_makeFunctionHit (c := 81) (P := 77) (cv := .ref c) (clos := [((Str.ofString "signs"), L + 1)]) hcl rfl S.g rfl (lexHd S) e trivial ?_ hb fun ctv h' tk k hsz htk => ?_
    · rfl
    · have st : Stp t { t with heap := h'.push { cls := .type "function", data := .func (kla_fn "<lambda>" lamQual lamParams lamBody lamScope [((Str.ofString "signs"), L + 1)] ((mg "__name__").getD .none) (.ref c) ctv) }, toks := tk } :=
        ⟨(Kp.of k hsz).trans (.push _ _), ⟨_, _, rfl⟩, htk⟩
      refine hQ _ c _ ctv _ st hsz (Heap.get?_push_size _ rfl) ?_ ((r.keeps k).push _)
      exact ne77 r _ e fun x => by simp [rawInt]
end
end Mine
end
section
open PySem PySem.W PyProof.Rows PySem.Calls PySem.Spec PySem.SeqAt
set_option linter.unusedVariables false
set_option maxRecDepth 100000
namespace Mine
section
variable {w : World} {mg mb : Str → Option Value} {A : Around} {E : Value → Shared → Prop} {sb s t : Shared} {a : LA} {FP : Addr → Prop} {n : Nat} {ρ : Str → Option PyData} {σ : Str → Option Value} {env : Env} {x : Str}
noncomputable abbrev LA.made (a : LA) : List Addr := [a.T, a.dT, a.L, a.dL, a.P, a.S, a.C, a.F]
theorem mut_made {a : LA} {b : Addr} (h : b ∈ a.mut) : b ∈ a.made := by
  simp only [LA.mut, LA.made, List.mem_cons, List.not_mem_nil, or_false] at h ⊢
  rcases h with h | h | h <;> simp [h]
theorem NsZ.le {h : Heap} {a : Addr} {m : Str → Option Value} {z z' : Nat} (n : NsZ h a m z) (hz : z ≤ z') : NsZ h a m z' := let ⟨o, es, ep, a, b, c, d, e⟩ := n; ⟨o, es, ep, a, b, c, d, Nat.le_trans e hz⟩
theorem Fx.fp {FP' : Addr → Prop} {n' : Nat} (f : Fx s env FP n (fun _ => none) σ t) (hn : n' ≤ t.heap.objs.size) : Fx s env FP' n' (fun _ => none) σ t := by
  obtain ⟨m, cm, a, h, g⟩ := f.ex
  exact ⟨⟨m, cm, a, (fun x d e => nomatch e), g⟩, hn⟩
theorem signs_strs {y : Str} {acc : Array Value} (h : ItemsOf (SignAt y) acc y.cps.size) : StrsAre acc.toList (sgn y.cps.toList) := by
  obtain ⟨h1, h2⟩ := h
  have : ∀ (vs : List Value) (l : List Nat), vs.length = l.length → (∀ (j : Nat) v, vs[j]? = some v → ∃ c u, l[j]? = some c ∧ v = .str ⟨#[c]⟩ u) → StrsAre vs (sgn l) := by
    intro vs
    induction vs with
    | nil => intro l e _; cases l with
      | nil => exact .nil
      | cons _ _ => cases e
    | cons v vs ih => intro l e k; cases l with
      | nil => cases e
      | cons c l =>
        obtain ⟨c', u, e1, rfl⟩ := k 0 v rfl
        simp at e1; subst e1
        exact .cons _ _ (ih l (by simpa using e) fun j v hv => by simpa using k (j + 1) v (by simpa using hv))
  refine this _ _ (by simpa using h1) fun j v hv => ?_
  obtain ⟨c, u, e1, e2⟩ := h2 j v (by simpa using hv)
  exact ⟨c, u, by simpa using e1, e2⟩
set_option maxHeartbeats 2000000 in
theorem lexer_spec {y : Str} {ty : Tok} (S : Stat w mg mb s.heap) (room : Room A 4) (hy : y.cps.size ≤ 4000) {Q : Value → Shared → Prop}
    (hQ : ∀ a s', Stp s s' → (∀ b ∈ a.made, s.heap.objs.size ≤ b) → Lex a y.cps.toList [] s'.heap → Q (.ref a.L) s') :
    wpAny (model prog w) A (call (.ref 82) [.str y ty]) Q E s := by
  refine enter_def (body := bodyK 82) (FP := fun _ => True) (fnAt_lexer S) (room.le (by decide)) (fun _ _ => trivial) ["text"] [.str y ty] rfl (fun _ => none) (putR noRaw "text" (.str y ty)) (fun x d h => nomatch h) (fun x u h => ?_) ?_ rfl
  · unfold putR at h
    split at h
    · rename_i e; cases h; subst e; exact .head _
    · cases h
  intro FP' n s1 hf _ hn b f1 _
  have hS : ∀ t, Stp s t → Stat w mg mb t.heap := fun t st => S.kp st.kp
  have r3 : Room (A.deeper (callEnvC (fdK 82) s.heap.objs.size 82)) 3 := room.deeper _
  -- signs = list(text)
  refine wpAny_execs_cons (wpAny_Assign_Name (wpAny_Call_NameR (load_gl b.kind (gl_bi (v := .type "list") (hS _ f1.toStp) rfl rfl (by decide) rfl rfl rfl) ?_ (by decide))) rfl)
  refine PySem.callWith_type rfl (evalArgs_all rfl (spliced_cons (load_name b.kind (f1.raw (x := "text") rfl) (spliced_nil ?_) (by decide) (by decide))))
  refine with_size (with_tk (call_list_str r3.hh y ty (fun h2 tk2 acc c2 k2 hl2 hit htk hsz => ?_) (by rw [sizeLine_eq]; omega)))
  have st2 : Stp s1 { s1 with heap := h2, toks := tk2 } := .mk' (.of k2 hsz) htk
  have hl2' : h2.PlainList s1.heap.objs.size acc.toList.toArray := ⟨c2, by rw [Array.toArray_toList]; exact hl2⟩
  generalize hs2 : ({ s1 with heap := h2, toks := tk2 } : Shared) = s2 at st2
  have hs2h : h2 = s2.heap := by rw [← hs2]
  rw [hs2h] at hl2'
  have hstr := signs_strs hit
  generalize hSg : s1.heap.objs.size = Sg at hl2'
  have hSlo : s.heap.objs.size ≤ Sg := by rw [← hSg]; exact f1.toStp.kp.size
  clear hl2 k2 hsz htk
  have f2 := f1.stp st2
  have hSfr : Sg ∉ frameOf' (callEnvC (fdK 82) s.heap.objs.size 82) := fun z => Nat.lt_irrefl Sg (by have := f1.lt Sg z; rw [hSg] at this; exact this)
  refine store_any (ρ' := fun _ => none) (σ' := putR noRaw "signs" (.ref Sg)) b f2 (fun y dy hy => nomatch hy) (fun y u hy => ?_) (.inr ⟨rfl, rfl⟩) fun s3 f3 keep3 => ?_
  · unfold putR at hy; split at hy
    · rename_i e; cases hy; exact .inl ⟨e, rfl⟩
    · cases hy
  have hl3 : s3.heap.PlainList Sg acc.toList.toArray := hl2'.at fun o e => keep3 _ o hSfr e
  -- tape = _netrclex(None)
  refine wpAny_execs_cons (wpAny_Assign_Name (wpAny_Call_NameR (load_gl b.kind (gl_fn (a := 64) (hS _ f3.toStp) rfl rfl rfl) ?_ (by decide))) rfl)
  refine callWith_K (K := K w.params) (h₀ := s3.heap) (fun b o e => (hS _ f3.toStp).X b o e) (by kernel_rfl) (spliced_cons (wpAny_Constant_none (k := 0) (pos := ⟨86, 21, 86, 25⟩) (spliced_nil ⟨fun b o e => (hS _ f3.toStp).X b o e, ?_⟩)))
  refine make_inst (hS _ f3.toStp) r3 fun x1 d1 P1 u1 u2 s4 st4 hd1 hdx1 hxP1 hP1s hx4 n4 hP4 => ?_
  have f4 := f3.stp st4
  have hx1fr : ∀ X, s3.heap.objs.size ≤ X → X ∉ frameOf' (callEnvC (fdK 82) s.heap.objs.size 82) := fun X hX z => Nat.lt_irrefl _ (Nat.lt_of_lt_of_le (f3.lt X z) hX)
  have hd1fr := hx1fr d1 hd1
  have hx1fr' := hx1fr x1 (Nat.le_trans hd1 (Nat.le_of_lt hdx1))
  refine store_any (ρ' := fun _ => none) (σ' := putR (putR noRaw "signs" (.ref Sg)) "tape" (.ref x1)) b f4 (fun y dy hy => nomatch hy) (fun y u hy => ?_) (.inl rfl) fun s5 f5 keep5 => ?_
  · unfold putR at hy; split at hy
    · rename_i e; cases hy; exact .inl ⟨e, rfl⟩
    · rename_i e; exact .inr ⟨e, hy⟩
  have hl5 : s5.heap.PlainList Sg acc.toList.toArray := (hl3.at fun o e => st4.kp.at e (plain_notab hl3 o e).1).at fun o e => keep5 _ o hSfr e
  have hx5 : s5.heap.get? x1 = some (instObj 64 d1) := keep5 _ _ hx1fr' hx4
  have n5 : NsZ s5.heap d1 (iniM .none u1 u2 P1) 4 := n4.at fun o e => keep5 _ o hd1fr e
  -- tape.read = lambda
  refine wpAny_execs_cons (plainObj_wpAny_Assign_Attribute (lam_make (hS _ f5.toStp) fun F K pm ct s6 st6 hF6 hFn hK77 hrec => ?_) rfl)
  have f6 := f5.stp st6
  refine load_name b.kind (f6.raw (x := "tape") rfl) ?_ (by decide) (by decide)
  have hx6 := st6.kp.at hx5 rfl
  have n6 : NsZ s6.heap d1 (iniM .none u1 u2 P1) 4 := n5.at fun o e => st6.kp.at e (n5.notab o e).1
  refine with_size (set_inst (fun b o e => (hS _ f6.toStp).X b o e) hx6 n6 (by decide) (by kernel_rfl) fun h7 n7 hs7 hz7 => ?_)
  have k7 : ∀ b o, b ≠ d1 → s6.heap.get? b = some o → h7.get? b = some o := fun b o hb e => hs7.extBut b o hb e
  have hd1s : s.heap.objs.size ≤ d1 := Nat.le_trans f3.toStp.kp.size hd1
  have hd1lt : d1 < s6.heap.objs.size := n6.ns.lt
  have f6' : Fx s (callEnvC (fdK 82) s.heap.objs.size 82) (fun b => b ≠ d1) s6.heap.objs.size (fun _ => none) _ s6 := f6.fp (Nat.le_refl _)
  have f7 : Fx s (callEnvC (fdK 82) s.heap.objs.size 82) (fun b => b ≠ d1) s6.heap.objs.size (fun _ => none) _ { s6 with heap := h7, toks := s6.toks + 2 } := f6'.but (U := [d1]) (tk := s6.toks + 2) (fun b o hb e => k7 b o (fun q => hb (by rw [q]; exact .head _)) e) (fun b hb => by rw [List.mem_singleton.mp hb]; exact ⟨hd1s, hd1fr, fun o ho => (n6.notab o ho).2.1⟩)
    (fun b o hb ho => by rw [List.mem_singleton.mp hb] at ho ⊢; exact ⟨(n6.notab o ho).2.2, .inr fun z => z rfl⟩) hz7 (by omega)
  generalize hs7' : ({ s6 with heap := h7, toks := s6.toks + 2 } : Shared) = s7 at f7
  have hs7h : h7 = s7.heap := by rw [← hs7']
  rw [hs7h] at n7 k7
  have ltd : ∀ {X : Addr} {o : Obj}, s6.heap.get? X = some o → X < s6.heap.objs.size := fun e => Heap.lt_size e
  have hx7 : s7.heap.get? x1 = some (instObj 64 d1) := k7 _ _ (Nat.ne_of_gt hdx1) hx6
  have hSd1 : Sg < d1 := Nat.lt_of_lt_of_le (by obtain ⟨n, e⟩ := hl3; exact Heap.lt_size e) hd1
  have hl6 : s6.heap.PlainList Sg acc.toList.toArray := hl5.at fun o e => st6.kp.at e (plain_notab hl5 o e).1
  have hl7 : s7.heap.PlainList Sg acc.toList.toArray := hl6.at fun o e => k7 _ o (Nat.ne_of_lt hSd1) e
  have hd1F : d1 < F := Nat.lt_of_lt_of_le n5.ns.lt hF6
  have hF7 := k7 _ _ (Nat.ne_of_gt hd1F) hFn
  obtain ⟨K', oc, kvs, kt, eK, hK6, hKd, hKv⟩ := hrec
  cases eK
  have hKd1 : K ≠ d1 := fun e => by
    obtain ⟨o, es, ep, ho, hd, _⟩ := n6
    rw [e, ho] at hK6; cases hK6; rw [hd] at hKd; cases hKd
  have hK7 := k7 _ _ hKd1 hK6
  -- return _netrclex(tape)
  refine wpAny_execs_cons (wpAny_Return_some (wpAny_Call_NameR (load_gl b.kind (gl_fn (a := 64) (hS _ f7.toStp) rfl rfl rfl) ?_ (by decide))))
  refine callWith_K (K := Mine.K w.params) (h₀ := s7.heap) (fun b o e => (hS _ f7.toStp).X b o e) (by kernel_rfl) (spliced_cons (load_name b.kind (f7.raw (x := "tape") rfl) (spliced_nil ⟨fun b o e => (hS _ f7.toStp).X b o e, ?_⟩) (by decide) (by decide)))
  refine make_inst (hS _ f7.toStp) r3 fun x2 d2 P2 w1 w2 s8 st8 hd2 hdx2 hxP2 hP2s hx8 n8 hP8 => ?_
  have f8 := f7.stp st8
  have hcell : ∃ o, s8.heap.get? (s.heap.objs.size + 1) = some o ∧ o.data = .cell (some (.ref Sg)) := by
    have := f8.raw (x := "signs") (v := .ref Sg) rfl
    cases this with
    | loc a _ _ => exact absurd a (by show (fdK 82).scope.names.lookup (Str.ofString "signs") ≠ _; decide)
    | free a _ _ _ => exact absurd a (by show (fdK 82).scope.names.lookup (Str.ofString "signs") ≠ _; decide)
    | cell a b c d =>
      have : (callEnvC (fdK 82) s.heap.objs.size 82).cells.lookup (Str.ofString "signs") = some (s.heap.objs.size + 1) := rfl
      rw [this] at b; cases b
      exact ⟨_, c, d⟩
  have e8 : s6.heap.objs.size ≤ s7.heap.objs.size := by rw [← hs7h]; exact hz7
  have lt7 : ∀ {X : Addr} {o : Obj}, s7.heap.get? X = some o → X < d2 := fun e => Nat.lt_of_lt_of_le (Heap.lt_size e) hd2
  have hCd2 : s.heap.objs.size + 1 < d2 := by
    refine Nat.lt_of_lt_of_le (f7.lt _ ?_) hd2
    exact .tail _ (.head _)
  have hCS : Sg ≠ s.heap.objs.size + 1 := fun e => hSfr (by rw [e]; exact .tail _ (.head _))
  have hS7 : Sg < d2 := by obtain ⟨n, e⟩ := hl7; exact lt7 e
  have hx1d2 := lt7 hx7
  have hd1d2 : d1 < d2 := Nat.lt_trans hdx1 hx1d2
  have hFd2 := lt7 hF7
  have hKd2 := lt7 hK7
  have hSF : Sg < F := Nat.lt_trans hSd1 hd1F
  have hSK : Sg ≠ K := fun e => by
    obtain ⟨n, e'⟩ := hl7
    rw [e, hK7] at e'; cases e'; cases hKd
  have hK8 := st8.kp.keep _ _ hK7 (.inr hK77)
  refine hQ ⟨x1, d1, x2, d2, P2, Sg, s.heap.objs.size + 1, F, K⟩ s8 f8.toStp (fun b hb => ?_) ⟨hx8, ⟨_, n8.le (by decide), ⟨_, _, rfl⟩, rfl, ⟨_, rfl⟩, rfl, rfl, rfl, rfl⟩, st8.kp.at hx7 rfl, ⟨_, (n7.at fun o e => st8.kp.at e (n7.notab o e).1).le ?_, if_pos rfl⟩, ⟨[], hP8, .nil⟩, ⟨_, hl7.at fun o e => st8.kp.at e (plain_notab hl7 o e).1, hstr⟩, hcell, ⟨pm, ct, st8.kp.at hF7 rfl⟩, ⟨hK77, oc, kvs, kt, hK8, hKd, hKv⟩, ?_⟩
  · simp only [LA.made, List.mem_cons, List.not_mem_nil, or_false] at hb
    have h2 : s.heap.objs.size ≤ d2 := Nat.le_trans hSlo (Nat.le_of_lt hS7)
    rcases hb with rfl | rfl | rfl | rfl | rfl | rfl | rfl | rfl
    · exact Nat.le_trans hd1s (Nat.le_of_lt hdx1)
    · exact hd1s
    · exact Nat.le_trans h2 (Nat.le_of_lt hdx2)
    · exact h2
    · exact Nat.le_trans h2 (Nat.le_of_lt (Nat.lt_trans hdx2 hxP2))
    · exact hSlo
    · exact Nat.le_succ _
    · exact Nat.le_trans hd1s (Nat.le_of_lt hd1F)
  · split <;> decide
  · simp only [List.mem_cons, List.not_mem_nil, or_false, not_or]
    have gt := fun {a b : Nat} (h : a < b) => Nat.ne_of_gt h
    have hP2 := Nat.lt_trans hdx2 hxP2
    exact ⟨⟨gt hx1d2, gt hd1d2, Nat.ne_of_lt hdx2, Nat.ne_of_lt hP2, gt hS7, gt hCd2, gt hFd2, gt hKd2⟩, ⟨gt (Nat.lt_trans hx1d2 hP2), gt (Nat.lt_trans hd1d2 hP2), gt hxP2, gt (Nat.lt_trans hS7 hP2), gt (Nat.lt_trans hCd2 hP2), gt (Nat.lt_trans hFd2 hP2), gt (Nat.lt_trans hKd2 hP2)⟩,
      ⟨Nat.ne_of_lt (Nat.lt_trans hSd1 hdx1), Nat.ne_of_lt hSd1, Nat.ne_of_lt (Nat.lt_trans hS7 hdx2), hCS, Nat.ne_of_lt hSF, hSK⟩⟩
end
end Mine
end
section
open PySem PySem.W PyProof.Rows PySem.Calls PySem.Spec PySem.SeqAt
set_option linter.unusedVariables false
set_option maxRecDepth 100000
namespace Mine
theorem tokR_len (m : TM) (l tk : List Nat) : (tokR m l tk).2.length ≤ l.length := by
  induction l generalizing m tk with
  | nil => cases m <;> simp [tokR]
  | cons c r ih =>
    cases m <;> simp only [tokR, List.length_cons]
    · have h1 := ih .sk tk; have h2 := ih .q tk; have h3 := ih .be tk; have h4 := ih .b (tk ++ [c])
      split
      · omega
      · split
        · omega
        · split <;> omega
    · have h1 := ih .qe tk; have h2 := ih .q (tk ++ [c])
      split
      · simp
      · split <;> omega
    · have h1 := ih .q (tk ++ [c]); omega
    · have h1 := ih .be tk; have h2 := ih .b (tk ++ [c])
      split
      · simp
      · split <;> omega
    · have h1 := ih .b (tk ++ [c]); omega
theorem tok_nil : tok [] = ([], []) := rfl
theorem tok_lt {l : List Nat} (h : l ≠ []) : (tok l).2.length < l.length := by
  cases l with
  | nil => exact absurd rfl h
  | cons c r =>
    have h1 := tokR_len .sk r []; have h2 := tokR_len .q r []; have h3 := tokR_len .be r []; have h4 := tokR_len .b r ([] ++ [c])
    simp only [tok, tokR, List.length_cons]
    split
    · omega
    · split
      · omega
      · split <;> omega
/-- the words from the last word read and the text left -/
noncomputable def wordsR : Nat → List Nat → List Nat → List (List Nat)
  | 0, _, _ => []
  | k + 1, last, text => if last = [] then [] else last :: wordsR k (tok text).1 (tok text).2
noncomputable def wordsOf (text : List Nat) : List (List Nat) := wordsR 4001 (tok text).1 (tok text).2
theorem wordsR_nil (k : Nat) (t : List Nat) : wordsR k [] t = [] := by cases k <;> simp [wordsR]
section
variable {w : World} {mg mb : Str → Option Value} {A : Around} {E : Value → Shared → Prop} {sb s t : Shared} {a : LA} {FP : Addr → Prop} {n : Nat} {ρ : Str → Option PyData} {σ : Str → Option Value} {env : Env} {x : Str} {text : List Nat} {pb : List Str} {p1 p2 p3 p4 : Pos}
/-- x.get_token() -/
theorem eval_gt {Q : Value → Shared → Prop} {pl : Sem Bool} (hk : env.scope.kind = .function) (f : NameAt env t.heap x (.ref a.L)) (g : LG w mg mb A sb t a text pb 5) (hz : pb.length ≤ 100000)
    (hQ : ∀ tk t', After sb t a.mut t' → Lex a (getTok text pb).2.1 (getTok text pb).2.2 t'.heap → Q (.str (getTok text pb).1 tk) t')
    (hd : (x == ("__debug__" : Str)) = false := by decide) (hn : (x == ("__classdict__" : Str)) = false := by decide)
    (he : eval (.Call (.Attribute (.Name x p1) "get_token" p2) [] [] p3) env = (do
      let ov ← eval (.Name x p1) env
      standAt p2.atName
      let (f, first) ← holding [ov] (getMethod ov "get_token" pl)
      callWith p3 f first (backTo p3 (starEach [] env)) []) := by rfl) :
    wpAny (model prog w) A (eval (.Call (.Attribute (.Name x p1) "get_token" p2) [] [] p3) env) Q E t := by
  obtain ⟨m, nL, h1, h2, h3, h4, h5, h6, h7⟩ := g.x.dL
  refine MethodCall_ (pl := pl) (load_name hk f (meth_inst (fun b o e => g.S.X b o e) g.x.L nL.ns h5 (f := 54) (by kernel_rfl) (by kernel_rfl) ?_) hd hn) he
  obtain ⟨o, c, oc, vs, tt, f1, f2, _⟩ := (fnAt_gt g.S).ex
  exact callWith_function (o := o) (fd := fdK 54) (evalArgs_all rfl (spliced_nil ⟨⟨f1, f2⟩, gt_spec g hz hQ⟩))
/-- x.push_token(e) -/
theorem eval_pt {Q : Value → Shared → Prop} {pl : Sem Bool} {e : Expr} {y : Str} (hk : env.scope.kind = .function) (f : NameAt env t.heap x (.ref a.L)) (g : LG w mg mb A sb t a text pb 2) (hz : pb.length ≤ 100000) (hv : Ev prog w A env (fun _ => True) t e (.str y))
    (hQ : ∀ t', After sb t a.mut t' → Lex a text (pb ++ [y]) t'.heap → Q .none t')
    (hd : (x == ("__debug__" : Str)) = false := by decide) (hn : (x == ("__classdict__" : Str)) = false := by decide)
    (hs : (starEach [e] env).all (fun x => !x.1) = true := by rfl) (hst : ∀ r, starEach (e :: r) env = (false, eval e env) :: starEach r env := by intro _; rfl)
    (he : eval (.Call (.Attribute (.Name x p1) "push_token" p2) [e] [] p3) env = (do
      let ov ← eval (.Name x p1) env
      standAt p2.atName
      let (f, first) ← holding [ov] (getMethod ov "push_token" pl)
      callWith p3 f first (backTo p3 (starEach [e] env)) []) := by rfl) :
    wpAny (model prog w) A (eval (.Call (.Attribute (.Name x p1) "push_token" p2) [e] [] p3) env) Q E t := by
  obtain ⟨m, nL, h1, h2, h3, h4, h5, h6, h7⟩ := g.x.dL
  refine MethodCall_ (pl := pl) (load_name hk f (meth_inst (fun b o e => g.S.X b o e) g.x.L nL.ns h7 (f := 61) (by kernel_rfl) (by kernel_rfl) ?_) hd hn) he
  refine callWith_function (o := (fnAt_pt g.S).ex.choose) (fd := fdK 61) (evalArgs_all hs ?_)
  have hev : EvAll prog w A env (fun _ => True) t [e] [.str y] := evAll_cons hv evAll_nil hst
  refine hev.go _ t (.refl t) _ _ fun vs t1 st1 r1 => ?_
  obtain ⟨v, rfl, rv⟩ := r1.one
  obtain ⟨tk, rfl⟩ := rv.strOpen
  have g1 : LG w mg mb A sb t1 a text pb 2 := ⟨g.Sb, g.room, g.st.trans st1, g.low, g.x.kp st1.kp, g.len⟩
  obtain ⟨c, oc, vs', tt, f1, f2, _⟩ := (fnAt_pt g.S).ex.choose_spec
  refine ⟨⟨st1.kp.at f1 (isTab_data (by rw [f2]; simp)), f2⟩, ?_⟩
  refine pt_spec g1 hz fun s' af x' => hQ s' (((After.start g.st).stp st1).trans af) x'
/-! ## frames that hold no data -/
noncomputable abbrev Fr (s : Shared) (env : Env) (σ : Str → Option Value) (t : Shared) : Prop := Fx s env (fun _ => True) 0 (fun _ => none) σ t
structure Gr (A : Around) (env : Env) : Prop where
  hh : A.handled = none
  un : A.units + 200 < cLine
  kind : env.scope.kind = .function
theorem Gr.cx (c : Gr A env) : Cx A env (fun _ => True) s := ⟨fun _ _ => trivial, c.hh, c.un, c.kind⟩
theorem store_free {v : Value} {Q : Unit → Shared → Prop} (c : Gr A env) (f : Fr s env σ t)
    (hk : env.kindOf x = some .local ∨ (env.kindOf x = some .cell ∧ (env.cells.lookup x).isSome = true))
    (hQ : ∀ t', Fr s env (putR σ x v) t' → (∀ c o, c ∉ frameOf' env → t.heap.get? c = some o → t'.heap.get? c = some o) → Q () t') :
    wpAny (model prog w) A (storeName env x v) Q E t := by
  have f' : Fx s env (fun b => b ∉ frameOf' env) t.heap.objs.size (fun _ => none) σ t := f.fp (Nat.le_refl _)
  refine store_any (ρ' := fun _ => none) (σ' := putR σ x v) ⟨fun b hb z => Nat.lt_irrefl _ (Nat.lt_of_lt_of_le (f.lt b z) hb), fun b hb h => h hb, c.hh, c.un, c.kind⟩ f' (fun y dy hy => nomatch hy) (fun y u hy => ?_) hk fun t' f'' keep => hQ t' (f''.fp (Nat.zero_le _)) keep
  unfold putR at hy; split at hy
  · rename_i e; cases hy; exact .inl ⟨e, rfl⟩
  · rename_i e; exact .inr ⟨e, hy⟩
theorem Fr.after {U : List Addr} {t' : Shared} (f : Fr s env σ t) (af : After s t U t') (hf : ∀ b ∈ U, b ∉ frameOf' env) (hU : ∀ b ∈ U, ∀ o, t.heap.get? b = some o → ¬ tupLike o) : Fr s env σ t' :=
  ((f.fp (FP' := fun b => b ∉ U) (Nat.zero_le _)).after af hf fun b hb => ⟨fun z => z hb, hU b hb⟩).fp (Nat.zero_le _)
theorem frame_obj {y : Addr} {o : Obj} (f : Fx s env FP n ρ σ t) (hy : y ∈ frameOf' env) (e : t.heap.get? y = some o) : ∀ vs, o.data ≠ .fields vs := by
  obtain ⟨m, cm, a, _, _⟩ := f.ex
  rcases List.mem_cons.mp hy with rfl | hy
  · obtain ⟨o', es, ep, ho, hd, _⟩ := a.ns
    rw [ho] at e; cases e; rw [hd]; simp
  · obtain ⟨q, hq, rfl⟩ := List.mem_map.mp hy
    obtain ⟨o', ho, hd⟩ := a.cell q.1 q.2 (a.look q.1 q.2 hq)
    rw [ho] at e; cases e; rw [hd]; simp
theorem lex_off {m : Nat} (xl : Lex a text pb t.heap) (f : Fx s env FP n ρ σ t) (low : ∀ b ∈ a.made, m ≤ b) (hm : ∀ b ∈ frameOf' env, b < m) : ∀ b ∈ a.all, b ∉ frameOf' env := fun b hb z => by
  have no : ∀ c ∈ a.made, b ≠ c := fun c hc e => Nat.lt_irrefl _ (Nat.lt_of_lt_of_le (hm b z) (e ▸ low c hc))
  simp only [LA.all, List.mem_cons, List.not_mem_nil, or_false] at hb
  obtain ⟨_, oc, vs, tt, e1, e2, _⟩ := xl.K
  rcases hb with e | e | e | e | e | e | e | e | e
  · exact no a.T (by simp) e
  · exact no a.dT (by simp) e
  · exact no a.L (by simp) e
  · exact no a.dL (by simp) e
  · exact no a.P (by simp) e
  · exact no a.S (by simp) e
  · exact no a.C (by simp) e
  · exact no a.F (by simp) e
  · exact frame_obj f (e ▸ z) e1 _ e2
noncomputable abbrev wdEnv (L : Addr) : Env := callEnvC (fdK 132) L 132
theorem fnAt_words {h : Heap} (S : Stat w mg mb h) : FnAt h 132 (fdK 132) := fnAt (c := 131) S rfl rfl rfl rfl rfl rfl
theorem getTok0 (text : List Nat) : getTok text [] = (tx (tok text).1, (tok text).2, []) := rfl
theorem emp_tx : Str.ofString "" = tx [] := by decide +kernel
theorem nottup (xl : Lex a text pb t.heap) : ∀ b ∈ a.mut, ∀ o, t.heap.get? b = some o → ¬ tupLike o := fun b hb o ho => (xl.soft b hb o ho).2.2
set_option maxHeartbeats 2000000 in
theorem words_spec {y : Str} (g : Gd w mg mb A FP s 6) (hy : y.cps.size ≤ 4000) : CallTo prog w A FP s (.ref 132) [.str y] (.list ((wordsOf y.cps.toList).map fun l => .str (tx l))) := ⟨fun s0 st0 vs0 r0 E Q hQ => by
  obtain ⟨v0, rfl, rv0⟩ := r0.one
  obtain ⟨ty, rfl⟩ := rv0.strOpen
  have g0 := g.stp st0
  refine enter_def (body := bodyK 132) (FP := FP) (fnAt_words g0.S) (g0.room.le (by decide)) g0.fp ["text"] [.str y ty] rfl (fun _ => none) (putR noRaw "text" (.str y ty)) (fun x d h => nomatch h) (fun x u h => ?_) ?_ rfl
  · unfold putR at h
    split at h
    · rename_i e; cases h; subst e; exact .head _
    · cases h
  intro FP' n s1 hf _ hn b f1 _
  have f1 : Fr s0 (wdEnv s0.heap.objs.size) _ s1 := f1.fp (Nat.zero_le _)
  have c : Gr (A.deeper (wdEnv s0.heap.objs.size)) (wdEnv s0.heap.objs.size) := ⟨b.hh, b.un, b.kind⟩
  have hS : ∀ t, Stp s0 t → Stat w mg mb t.heap := fun t st => g0.S.kp st.kp
  have r5 : Room (A.deeper (wdEnv s0.heap.objs.size)) 5 := g0.room.deeper _
  -- lexer = _law_lexer(text)
  refine wpAny_execs_cons (wpAny_Assign_Name (wpAny_Call_NameR (load_gl c.kind (gl_fn (a := 82) (hS _ f1.toStp) rfl rfl rfl) ?_ (by decide))) rfl)
  obtain ⟨o8, c8, oc8, vs8, t8, e8, d8, _⟩ := (fnAt_lexer (hS _ f1.toStp)).ex
  refine callWith_function (o := o8) (fd := fdK 82) (evalArgs_all rfl (spliced_cons (load_name c.kind (f1.raw (x := "text") rfl) (spliced_nil ⟨⟨e8, d8⟩, ?_⟩) (by decide) (by decide))))
  refine lexer_spec (hS _ f1.toStp) (r5.le (by decide)) hy fun a s2 st2 hlow x2 => ?_
  have f2 := f1.stp st2
  have hoff := lex_off x2 f2 hlow f1.lt
  have hmf : ∀ b ∈ a.mut, b ∉ frameOf' (wdEnv s0.heap.objs.size) := fun b hb => hoff b (mut_all hb)
  have hlo : ∀ b ∈ a.mut, s0.heap.objs.size ≤ b := fun b hb => Nat.le_trans f1.toStp.kp.size (hlow b (mut_made hb))
  refine store_free c f2 (.inl rfl) fun s3 f3 keep3 => ?_
  have x3 : Lex a y.cps.toList [] s3.heap := x2.at fun b hb o e _ => keep3 b o (hoff b hb) e
  have lg : ∀ {t : Shared} {text : List Nat} {σ}, Fr s0 (wdEnv s0.heap.objs.size) σ t → Lex a text [] t.heap → text.length ≤ 4000 → LG w mg mb (A.deeper (wdEnv s0.heap.objs.size)) s0 t a text [] 5 := fun f x hz => ⟨g0.S, r5, f.toStp, hlo, x, hz⟩
  -- words = [lexer.get_token()]
  refine wpAny_execs_cons (wpAny_Assign_Name (List_ (spliced_cons (eval_gt c.kind (f3.raw (x := "lexer") rfl) (lg f3 x3 (by simpa using hy)) (Nat.zero_le _) fun tk4 s4 af4 x4 => spliced_nil (wpAny_newList ?_ ?_)))) rfl)
  rotate_left
  · show 1 ≤ sizeLine
    rw [sizeLine_eq]; omega
  rw [getTok0] at x4 ⊢
  have f4 := f3.after af4 hmf (nottup x3)
  have st5 : Stp s4 { s4 with heap := s4.heap.push { cls := .type "list", data := .seq ([.str (tx (tok y.cps.toList).1) tk4] : List Value).toArray } } := .push _ _
  have hD5 : (s4.heap.push { cls := .type "list", data := .seq ([.str (tx (tok y.cps.toList).1) tk4] : List Value).toArray }).PlainList s4.heap.objs.size ([.str (tx (tok y.cps.toList).1) tk4] : List Value).toArray := ⟨_, Heap.get?_push_size _ rfl⟩
  have hDall : s4.heap.objs.size ∉ a.all := fun z => Nat.lt_irrefl _ (x4.lt _ z)
  have hDfr : s4.heap.objs.size ∉ frameOf' (wdEnv s0.heap.objs.size) := fun z => Nat.lt_irrefl _ (f4.lt _ z)
  have hDlo : s0.heap.objs.size ≤ s4.heap.objs.size := f4.toStp.kp.size
  have f5 := f4.stp st5
  have x5 := x4.kp st5.kp
  generalize hs5 : ({ s4 with heap := s4.heap.push { cls := .type "list", data := .seq ([.str (tx (tok y.cps.toList).1) tk4] : List Value).toArray } } : Shared) = s5 at f5 x5
  have hs5h : s4.heap.push { cls := .type "list", data := .seq ([.str (tx (tok y.cps.toList).1) tk4] : List Value).toArray } = s5.heap := by rw [← hs5]
  rw [hs5h] at hD5
  clear hs5 hs5h st5
  generalize hD : s4.heap.objs.size = D at hD5 hDall hDfr hDlo
  refine store_free c f5 (.inl rfl) fun s6 f6 keep6 => ?_
  have x6 : Lex a (tok y.cps.toList).2 [] s6.heap := x5.at fun b hb o e _ => keep6 b o (hoff b hb) e
  have hD6 : s6.heap.PlainList D _ := hD5.at fun o e => keep6 _ o hDfr e
  -- while
  refine wpAny_execs_cons (wpAny_While (codeAny_whileLoop (fun k t => ∃ wsd last text, Fr s0 (wdEnv s0.heap.objs.size) (putR (putR (putR noRaw "text" (.str y ty)) "lexer" (.ref a.L)) "words" (.ref D)) t ∧ Lex a text [] t.heap ∧ (∃ vs : List Value, t.heap.PlainList D vs.toArray ∧ StrsAre vs ((wsd ++ [last]).map tx)) ∧
    wordsOf y.cps.toList = wsd ++ wordsR k last text ∧ (last = [] ∨ text.length < k) ∧ wsd.length + k ≤ 4001 ∧ text.length ≤ 4000) ?_ 4001 ⟨[], _, _, f6, x6, ⟨_, hD6, .cons _ _ .nil⟩, rfl, .inr ?_, by decide, ?_⟩))
  rotate_left
  · have := tokR_len .sk y.cps.toList []
    have e : y.cps.toList.length = y.cps.size := by simp
    unfold tok; omega
  · have := tokR_len .sk y.cps.toList []
    have e : y.cps.toList.length = y.cps.size := by simp
    unfold tok; omega
  rintro k t ⟨wsd, last, text, f, xl, ⟨vs, hl, hv⟩, hw, hk, hz, hzt⟩
  have hvl := strs_len hv
  rw [List.length_map, List.length_append, List.length_singleton] at hvl
  have rD : ∀ {FP : Addr → Prop}, FP D → Rd FP t.heap (.ref D) (.list (((wsd ++ [last]).map tx).map .str)) := fun fd => .mkList hl.isList (strs_rds hv) fd
  have hlen : (((wsd ++ [last]).map tx).map PyData.str).length = wsd.length + 1 := by simp
  refine (tst_neS (c := decide (last ≠ [])) (ev_itemN (FP := fun _ => True) (ev_nameAt (x := "words") c.kind (f.raw rfl) (rD trivial)) (ev_neg ev_int) (by decide) (by decide) ?_ (d := .str (tx last)) ?_) ev_str ?_ : Tst prog w _ _ t _ _).go t (.refl t) _ _ fun t2 st2 => ?_
  · rw [hlen]; omega
  · rw [hlen]
    have : ((-1 : Int) + ((wsd.length + 1 : Nat) : Int)).toNat = wsd.length := by omega
    rw [this]; simp
  · rw [emp_tx]
    show (last != []) = _
    cases last <;> simp
  have f' := f.stp st2
  have xl' := xl.kp st2.kp
  have hl' := hl.at fun o e => st2.kp.at e (plain_notab hl o e).1
  by_cases hlast : last = []
  · rw [decide_eq_false (by simpa using hlast)]
    refine wpAny_execs_nil ?_
    subst hlast
    rw [wordsR_nil, List.append_nil] at hw
    have rD2 : Rd FP t2.heap (.ref D) (.list (((wsd ++ [[]]).map tx).map .str)) := .mkList hl'.isList (strs_rds hv) (g0.fp _ hDlo)
    refine wpAny_execs_cons (wpAny_Return_some ((ev_butLast (FP := FP) (n := 1) ⟨fun b hb => g0.fp _ (Nat.le_trans f'.toStp.kp.size hb), c.hh, c.un, c.kind⟩ (ev_nameAt (x := "words") c.kind (f'.raw rfl) rD2) (ev_neg ev_int) (Nat.le_refl _) ?_ : Ev prog w _ _ FP t2 _ _).go t2 (.refl t2) _ _ fun v t3 st3 r3 => ?_))
    · rw [hlen, sizeLine_eq]; omega
    · refine hQ v t3 (f'.toStp.trans st3) ?_
      rw [hw]
      rw [hlen] at r3
      simpa [Function.comp_def] using r3
  · rw [decide_eq_true hlast]
    have hk' : text.length < k := hk.resolve_left hlast
    obtain ⟨k, rfl⟩ : ∃ j, k = j + 1 := ⟨k - 1, by omega⟩
    obtain ⟨nD, hnD⟩ := id hl'
    refine wpAny_execs_cons (wpAny_Expr_any (wpAny_Call_method_lateS rfl rfl rfl (load_name c.kind (f'.raw (x := "words") rfl) ?_ (by decide) (by decide))) rfl rfl)
    refine ⟨"list", "list.append", PySem.F.plainAttrs_list, PySem.F.slot_list_append, PySem.F.type_list_append, hl'.isList.typeIs, (fun b e => by cases e; exact ⟨_, hnD, rfl⟩), ?_⟩
    refine callWith_builtin rfl (evalArgs_all rfl (spliced_cons (eval_gt c.kind (f'.raw (x := "lexer") rfl) (lg f' xl' hzt) (Nat.zero_le _) fun tk7 s7 af7 x7 => spliced_nil ?_)))
    rw [getTok0] at x7 ⊢
    have f7 := Fr.after f' af7 hmf (nottup xl')
    have hl7 := hl'.at fun o e => af7.kept.keep D o (fun z => hDall (mut_all z)) e (.inl (plain_notab hl' o e).1)
    have hsz7 : vs.toArray.size ≤ sizeLine := by rw [List.size_toArray, hvl, sizeLine_eq]; omega
    refine with_size (wpAny_list_append_plain (hsz := hsz7) hl7 fun h8 hl8 hs8 hz8 => ?_)
    have k8 : ∀ b o, b ≠ D → s7.heap.get? b = some o → h8.get? b = some o := fun b o hb e => hs8.extBut b o hb e
    have af8 : After s0 s7 [D] { s7 with heap := h8 } := (After.start f7.toStp).step (D := D) (tk := s7.toks) k8 hz8 (Nat.le_refl _) (.inl (.head _)) hDlo (list_soft hl7)
    have f8 := Fr.after f7 af8 (fun b hb => by rw [List.mem_singleton.mp hb]; exact hDfr) (fun b hb o ho => by rw [List.mem_singleton.mp hb] at ho; exact (plain_notab hl7 o ho).2.2)
    have x8 : Lex a (tok text).2 [] h8 := x7.at fun b hb o e _ => k8 b o (fun z => hDall (z ▸ hb)) e
    have hlt := tokR_len .sk text []
    refine wpAny_execs_nil ⟨k, Nat.lt_succ_self k, wsd ++ [last], (tok text).1, (tok text).2, f8, x8, ⟨vs ++ [.str (tx (tok text).1) tk7], by simpa using hl8, ?_⟩, ?_, ?_, by rw [List.length_append]; simp; omega, by unfold tok; omega⟩
    · have := strs_snoc (y := tx (tok text).1) (t := tk7) hv
      simpa using this
    · rw [hw, wordsR, if_neg hlast, List.append_assoc]; rfl
    · by_cases ht : text = []
      · left; rw [ht]; rfl
      · right; have := tok_lt ht; omega⟩
end
end Mine
end
section
open PySem PySem.W PyProof.Rows PySem.Calls PySem.Spec PySem.SeqAt
set_option linter.unusedVariables false
set_option maxRecDepth 100000
namespace Mine
theorem Ext.up {env : Env} {FPi FP M : Addr → Prop} {n : Nat} {X : Heap → Prop} (x : Ext env FPi M n X) (hsub : ∀ b, FPi b → FP b) : Ext env FP M n X :=
  ⟨x.kp, fun h h' U y u off k => x.ch h h' U y u (fun b o hb ho => ⟨(off b o hb ho).1, (off b o hb ho).2.imp id fun z q => z (hsub b q)⟩) k⟩
section
variable {prog : Program} {w : World} {A : Around} {env : Env} {FP M : Addr → Prop} {s : Shared} {n : Nat} {X Y : Heap → Prop} {ρ ρ' : Str → Option PyData} {σ : Str → Option Value} {rest body orelse : List Stmt} {d d1 : PyData} {e test : Expr} {x y : Str} {p p2 pos : Pos} {l : List (Str × PyData)} {K : Flow → Shared → Prop} {E : Value → Shared → Prop}
theorem tr_forI {FPi : Addr → Prop} {iter : Expr} {ds : List PyData} {px : Pos} (ρs : Nat → Str → Option PyData) (Xs : Nat → Heap → Prop) (b : Bd A env FP n) (hX : ∀ i, Ext env FP noM n (Xs i)) (hM : ∀ c, M c → c < n)
    (hi : ∀ t, Fx s env FP n (ρs 0) σ t → Xs 0 t.heap → IterOf prog w A env FPi t iter ds) (hsub : ∀ b, FPi b → FP b)
    (hb : ∀ i d n' Y, ds[i]? = some d → n ≤ n' → Bd A env FP n' → Ext env FPi M n' Y → Tr prog w A env FP s n' (fun h => Xs i h ∧ Y h) (put (ρs i) x d) σ body
      (fun f t => (f = .next ∨ f = .cont) ∧ Fx s env FP n' (ρs (i + 1)) σ t ∧ Xs (i + 1) t.heap ∧ Y t.heap) (inLoop prog w A env E))
    (hr : Tr prog w A env FP s n (Xs ds.length) (ρs ds.length) σ rest K E)
    (hk : env.kindOf x = some .local ∨ (env.kindOf x = some .cell ∧ (env.cells.lookup x).isSome = true)) (hs : ∀ x, foldedSetIterable iter env x = pure x := by intro _; rfl) (hσ : σ x = none := by rfl) :
    Tr prog w A env FP s n (Xs 0) (ρs 0) σ (.For (.Name x px) iter body [] pos :: rest) K E := ⟨fun t f x' => by
  refine wpAny_execs_cons (wpAny_For ((hi t f x').go t (.refl t) _ _ fun it s1 s2 st1 st2 hit => ?_) hs)
  obtain ⟨I, fp, wr, P, St, rfl, W, hst, hfp, hwr, hP, hsoft, hown, hfpT, hch⟩ := hit
  have f1 : Fx s env FP n (ρs 0) σ s1 := f.stp st1
  have hn1 : n ≤ s1.heap.objs.size := f1.big
  have hn2 : n ≤ s2.heap.objs.size := Nat.le_trans hn1 st2.kp.size
  have b2 := b.up hn2
  have f2 : Fx s env FP s2.heap.objs.size (ρs 0) σ s2 := (f1.stp st2).mono (fun _ _ h => h) (Nat.le_refl _)
  have frlt : ∀ c ∈ frameOf' env, c < s1.heap.objs.size := fun c hc => f1.lt c hc
  have hnwr : ∀ c, (c ∈ frameOf' env ∨ M c ∨ s2.heap.objs.size ≤ c) → c ∉ wr := fun c hc hm => by
    have h1 := hwr c hm
    rcases hc with hc | hc | hc
    · exact Nat.lt_irrefl _ (Nat.lt_of_lt_of_le (frlt c hc) h1)
    · exact Nat.lt_irrefl _ (Nat.lt_of_lt_of_le (hM c hc) (Nat.le_trans hn1 h1))
    · exact Nat.lt_irrefl _ (Nat.lt_of_lt_of_le (hfp c (W.sub _ hm)) hc)
  have hY : ∀ i, Ext env FPi M s2.heap.objs.size (St i) := fun i =>
    ⟨fun h h' hs k => W.frame _ _ _ hs fun c hc o e => k.at e (hfpT _ _ hs c hc o e), fun h h' U hs hu off keep => hch i h h' U hs (fun c hc => hnwr c (hu c hc)) off keep⟩
  have hZ : Ext env FPi M s2.heap.objs.size (fun h => ∀ i v d, P i v → ds[i]? = some d → Rd FPi h v d) :=
    ⟨fun h h' z k i v d hp hd => (z i v d hp hd).kp k, fun h h' U z hu off keep i v d hp hd => (z i v d hp hd).chg keep off⟩
  have z1 : ∀ i v d, P i v → ds[i]? = some d → Rd FPi s1.heap v d := fun i v d hp hd => by
    obtain ⟨d', hd', r⟩ := hP i v (List.getElem?_eq_some_iff.mp hd).1 hp
    rw [hd] at hd'; cases hd'; exact r
  -- under a turn of the iterator
  have step : ∀ i (t3 : Shared) h1 tk1, Fx s env FP s2.heap.objs.size (ρs i) σ t3 → Xs i t3.heap → St i t3.heap → (∀ i v d, P i v → ds[i]? = some d → Rd FPi t3.heap v d) → t3.heap.objs.size ≤ h1.objs.size → t3.toks ≤ tk1 → (∀ b o, b ∉ wr → t3.heap.get? b = some o → h1.get? b = some o) →
      Fx s env FP s2.heap.objs.size (ρs i) σ { t3 with heap := h1, toks := tk1 } ∧ Xs i h1 ∧ (∀ i v d, P i v → ds[i]? = some d → Rd FPi h1 v d) := fun i t3 h1 tk1 f3 x3 hst3 z3 hz htk keep => by
    have off : ∀ {FP : Addr → Prop}, Off FP (· ∈ wr) t3.heap := fun c o hc ho => let z := hsoft i _ hst3 c hc o ho; ⟨tupLike_cls z.2.1, .inl z.2.2⟩
    refine ⟨f3.but keep (fun c hc => ⟨Nat.le_trans f1.toStp.kp.size (hwr c hc), fun hm => hnwr c (.inl hm) hc, fun o ho => (hsoft i _ hst3 c hc o ho).1⟩) off hz htk, ?_, fun i v d hp hd => (z3 i v d hp hd).chg keep off⟩
    exact (hX i).ch _ _ (· ∈ wr) x3 (fun c hc => .inr (.inr (Nat.le_trans hn1 (hwr c hc)))) off keep
  refine codeAny_forLoop_any (fun k t' => ∃ i, i ≤ ds.length ∧ k = ds.length + 1 - i ∧ Fx s env FP s2.heap.objs.size (ρs i) σ t' ∧ Xs i t'.heap ∧ St i t'.heap ∧ (∀ i v d, P i v → ds[i]? = some d → Rd FPi t'.heap v d)) ?_ (ds.length + 1) ⟨0, Nat.zero_le _, rfl, f2, (hX 0).kp _ _ ((hX 0).kp _ _ x' st1.kp) st2.kp, hst, fun i v d hp hd => (z1 i v d hp hd).kp st2.kp⟩
  rintro k t3 ⟨i, hi, rfl, f3, x3, hst3, z3⟩
  by_cases hlt : i < ds.length
  · refine with_size (with_tk (W.item i t3 _ _ hlt hst3 fun v h1 tk1 hPv hst1 hk1 htk1 hz1 => ?_))
    obtain ⟨d, hd, _⟩ := hP i v hlt hPv
    obtain ⟨f4, x4, z4⟩ := step i t3 h1 tk1 f3 x3 hst3 z3 hz1 htk1 hk1
    obtain ⟨oI, TI, hoI, hcI, hTI⟩ := hown (i + 1) h1 hst1
    refine letOwned_other hoI hcI hTI (wpAny_assign_Name ?_)
    have hXY := ((hX i).le (M' := noM) (fun _ h => h) hn2).and ((((hY (i + 1)).and hZ).up hsub).le (M' := noM) (fun _ h => nomatch h) (Nat.le_refl _))
    refine tr_store (X := fun h => Xs i h ∧ St (i + 1) h ∧ ∀ i v d, P i v → ds[i]? = some d → Rd FPi h v d) hXY b2 f4 ⟨x4, hst1, z4⟩ ((z4 i v d hPv hd).mono fun b _ hb => hsub b hb) hk hσ fun t5 f5 x5 => ?_
    refine wpAny_mono ((hb i d _ _ hd hn2 b2 ((hY (i + 1)).and hZ)).go t5 f5 x5) (fun fl t6 h6 => ?_) fun _ _ h => h
    obtain ⟨hfl, f6, x6, st6, z6⟩ := h6
    have : ∃ m, m < ds.length + 1 - i ∧ ∃ i', i' ≤ ds.length ∧ m = ds.length + 1 - i' ∧ Fx s env FP s2.heap.objs.size (ρs i') σ t6 ∧ Xs i' t6.heap ∧ St i' t6.heap ∧ (∀ i v d, P i v → ds[i]? = some d → Rd FPi t6.heap v d) := ⟨ds.length + 1 - (i + 1), by omega, i + 1, hlt, rfl, f6, x6, st6, z6⟩
    rcases hfl with rfl | rfl
    · exact this
    · exact this
  · have hin : i = ds.length := by omega
    subst hin
    refine with_size (with_tk (W.done t3 _ _ hst3 fun h1 tk1 hk1 htk1 hz1 => ?_))
    obtain ⟨f4, x4, _⟩ := step _ t3 h1 tk1 f3 x3 hst3 z3 hz1 htk1 hk1
    exact wpAny_execs_nil (hr.go _ (f4.mono (fun _ _ h => h) (Nat.le_trans hn2 f4.big)) x4)⟩

end
end Mine
end
section
open PySem PySem.W PyProof.Rows PySem.Calls PySem.Spec PySem.SeqAt
set_option linter.unusedVariables false
set_option maxRecDepth 100000
namespace Mine
section
variable {prog : Program} {w : World} {A : Around} {env : Env} {FP FP' M : Addr → Prop} {s t t' s₀ : Shared} {n : Nat} {X X' X1 X1' Y : Heap → Prop} {ρ ρ' : Str → Option PyData} {σ σ' : Str → Option Value} {rest body orelse : List Stmt} {d d1 : PyData} {e test iter : Expr} {x y : Str} {p p1 p2 p3 pos : Pos} {l : List (Str × PyData)} {K : Flow → Shared → Prop} {E : Value → Shared → Prop} {ds : List PyData}
theorem iter_tupleI (hh : A.handled = none) (h : Ev prog w A env FP s₀ iter (.tuple ds)) : IterOf prog w A env FP s₀ iter ds := ⟨fun s st E Q hQ =>
  h.go s st _ _ fun v s1 st1 r1 => by
    obtain ⟨a, vs, rfl, hL, rv⟩ := r1.tupleOpen
    have hL' : s1.heap.IsTuple a vs.toArray := hL
    have hlt : a < s1.heap.objs.size := by obtain ⟨o, ho, _⟩ := id hL; exact Heap.lt_size ho
    refine wpAny_pyIter_tuple hL' (hQ _ s1 _ st1 (.push s1 _) ?_)
    refine iter_seq (T := "tuple_iterator") hlt rv (Walks.tuple (prog := prog) (w := w) hh s1.heap.objs.size a (Nat.ne_of_lt hlt) vs.toArray) ⟨⟨_, Heap.get?_push_size _ rfl, rfl, rfl⟩, hL'.at fun o e => Heap.get?_push_of_some _ e⟩ ?_ (fun i h hs => let ⟨o, ho, hc, _⟩ := hs.2; ⟨o, _, ho, hc⟩) (fun i h hs => let ⟨o, ho, hc, n, hd⟩ := hs.2; ⟨o, ho, .inr ⟨hc, _, n, hd⟩⟩) (by decide) (by decide)
    rintro i h ⟨⟨o, ho, hc, hd⟩, _⟩
    exact ⟨o, _, _, ho, hc, hd⟩⟩
/-! ## expressions that act -/
theorem Evx.conv (h : Evx prog w A env FP s n X1 ρ σ e X1' d) (h1 : ∀ h, X h → X1 h) (h2 : ∀ h, X1' h → X' h) : Evx prog w A env FP s n X ρ σ e X' d := ⟨fun t f x E Q hQ => h.go t f (h1 _ x) E Q fun v t' f' x' r => hQ v t' f' (h2 _ x') r⟩
theorem ev_flatS (h : Ev prog w A env FP s₀ e (.str x)) : Ev prog w A env FP' s₀ e (.str x) := ⟨fun s st E Q hQ => h.go s st E Q fun v s' st' r => by
  obtain ⟨t, rfl⟩ := r.strOpen
  exact hQ _ _ st' (.str _ _)⟩
theorem ev_flatI {i : Int} (h : Ev prog w A env FP s₀ e (.int i)) : Ev prog w A env FP' s₀ e (.int i) := ⟨fun s st E Q hQ => h.go s st E Q fun v s' st' r => by
  obtain ⟨t, rfl⟩ := r.intOpen
  exact hQ _ _ st' (.int _ _)⟩
theorem tr_exprX (h : Evx prog w A env FP s n X ρ σ e X' d) (hr : Tr prog w A env FP s n X' ρ σ rest K E) (hi : interactive env = false := by rfl) (hs : swapsWith e none pos.line env = pure false := by rfl) :
    Tr prog w A env FP s n X ρ σ (.Expr e pos :: rest) K E := ⟨fun t f x' => wpAny_execs_cons (wpAny_Expr_any (h.go t f x' _ _ fun v t' f' x'' _ => hr.go t' f' x'') hi hs)⟩
theorem tr_pushX {D : Addr} {ds : List PyData} (hY : Ext env FP (· = D) n X') (b : Bd A env FP n) (hD : D ∉ frameOf' env) (hFP : ¬ FP D) (hlo : s.heap.objs.size ≤ D) (hx : σ x = some (.ref D))
    (h : Evx prog w A env FP s n (fun h => Own FP D ds h ∧ X h) ρ σ e (fun h => Own FP D ds h ∧ X' h) d)
    (hz : ds.length ≤ sizeLine) (hr : Tr prog w A env FP s n (fun h => Own FP D (ds ++ [d]) h ∧ X' h) ρ σ rest K E) {apos : Pos}
    (hdb : (x == ("__debug__" : Str)) = false := by decide) (hcd : (x == ("__classdict__" : Str)) = false := by decide) (hi : interactive env = false := by rfl) (hs : swapsWith (.Call (.Attribute (.Name x p) "append" apos) [e] [] p2) none pos.line env = pure false := by rfl)
    (hst : ∀ r, starEach (e :: r) env = (false, eval e env) :: starEach r env := by intro _; rfl)
    (hbase : attributeBase (.Name x p) "append" env (eval (.Name x p) env) = eval (.Name x p) env := by rfl) (hline : (apos.endLine == p2.line) = true := by rfl) :
    Tr prog w A env FP s n (fun h => Own FP D ds h ∧ X h) ρ σ (.Expr (.Call (.Attribute (.Name x p) "append" apos) [e] [] p2) pos :: rest) K E := ⟨fun t f x' => by
  refine wpAny_execs_cons (wpAny_Expr_any ?_ hi hs)
  refine wpAny_Call_method_lateS hbase (by rw [hst]; rfl) hline (load_name b.kind (f.raw hx) ?_ hdb hcd)
  obtain ⟨ys, hl, ry⟩ := x'.1
  refine ⟨"list", "list.append", F.plainAttrs_list, F.slot_list_append, F.type_list_append, hl.isList.typeIs, ?_, ?_⟩
  · intro a e
    cases e
    obtain ⟨m, e'⟩ := hl
    exact ⟨_, e', rfl⟩
  refine callWith_builtin (by rw [hst]; rfl) (evalArgs_all (by rw [hst]; rfl) ?_)
  rw [hst]
  refine spliced_cons (h.go t f x' _ _ fun v t1 f1 x1 rv => spliced_nil ?_)
  obtain ⟨⟨ys1, hl1, ry1⟩, y1⟩ := x1
  have hlen : ys1.size ≤ sizeLine := by have := ry1.length; simp at this; omega
  refine with_tk (wpAny_list_append_plain (hsz := hlen) hl1 fun h2 hl2 hs2 htk => ?_)
  have k2 : ∀ b o, ¬ b ∈ [D] → t1.heap.get? b = some o → h2.get? b = some o := fun b o hb e => hs2.extBut b o (fun z => hb (by rw [z]; exact .head _)) e
  have hsoft : ∀ o, t1.heap.get? D = some o → soft o = true ∧ ¬ tupLike o := fun o ho => by
    obtain ⟨m, e'⟩ := hl1
    rw [e'] at ho; cases ho
    exact ⟨rfl, tupLike_cls (by simp)⟩
  have off : Off FP (· ∈ [D]) t1.heap := fun b o hb ho => by
    rw [List.mem_singleton.mp hb] at ho ⊢
    exact ⟨(hsoft o ho).2, .inr hFP⟩
  have f2 : Fx s env FP n ρ σ { t1 with heap := h2 } := f1.but (tk := t1.toks) k2 (fun b hb => by rw [List.mem_singleton.mp hb]; exact ⟨hlo, hD, fun o ho => (hsoft o ho).1⟩) off (Nat.le_of_eq hs2.1.symm) (Nat.le_refl _)
  refine hr.go _ f2 ⟨⟨ys1.push v, hl2, ?_⟩, ?_⟩
  · have : (ys1.push v).toList = ys1.toList ++ [v] := by simp
    rw [this]
    exact (ry1.chg k2 off).append (.cons (rv.chg k2 off) .nil)
  · exact hY.ch _ _ (· ∈ [D]) y1 (fun c hc => .inr (.inl (List.mem_singleton.mp hc))) off k2⟩
theorem Fx.drop (f : Fx s env FP n ρ σ t) (h : ∀ y v, σ' y = some v → σ y = some v) : Fx s env FP n ρ σ' t :=
  let ⟨⟨m, cm, a, q, g⟩, z⟩ := f; ⟨⟨m, cm, a, q, fun y v e => g y v (h y v e)⟩, z⟩
/-- an own list is data again -/
theorem tr_unown {D : Addr} {n' : Nat} (hFP : FP D) (hn : n ≤ n') (hx : σ x = some (.ref D)) (hX : ∀ h, X h → X' h) (hσ : ∀ y v, σ' y = some v → σ y = some v)
    (hr : Tr prog w A env FP s n X' (put ρ x (.list ds)) σ' rest K E) : Tr prog w A env (less FP D) s n' (fun h => Own (less FP D) D ds h ∧ X h) ρ σ rest K E := ⟨fun t f x' =>
  hr.go t ((f.unown x'.1 hx hFP hn).drop hσ) (hX _ x'.2)⟩
/-! ## a dict that is read -/
noncomputable def RD (prog : Program) (w : World) (FP : Addr → Prop) (D : Addr) (ks : List (Str × PyData)) (h : Heap) : Prop :=
  FP D ∧ (D == sysModules) = false ∧ ∃ kvs, h.DictOf (strKind prog w) D kvs ∧ kvs.map (·.1) = ks.map (·.1) ∧ Rds FP h (kvs.map (·.2)) (ks.map (·.2))
theorem dictOf_tab {h : Heap} {D : Addr} {kvs : List (Str × Value)} (H : h.DictOf (strKind prog w) D kvs) : ∀ o, h.get? D = some o → isTab o = false ∧ o.cls = .type "dict" := fun o ho => by
  obtain ⟨o', es, ep, ho', hc, hd, _⟩ := H
  rw [ho'] at ho; cases ho
  exact ⟨isTab_data (by rw [hd]; simp), hc.1⟩
theorem dictOf_at {h h' : Heap} {D : Addr} {kvs : List (Str × Value)} (H : h.DictOf (strKind prog w) D kvs) (k : ∀ o, h.get? D = some o → h'.get? D = some o) : h'.DictOf (strKind prog w) D kvs :=
  let ⟨o, es, ep, ho, r⟩ := H; ⟨o, es, ep, k o ho, r⟩
section
variable {h h' : Heap} {D : Addr} {ks : List (Str × PyData)} {U : Addr → Prop}
theorem RD.kp (r : RD prog w FP D ks h) (k : Kp h h') : RD prog w FP D ks h' := let ⟨a, b, kvs, c, e, q⟩ := r; ⟨a, b, kvs, dictOf_at c fun o ho => k.at ho (dictOf_tab c o ho).1, e, q.kp k⟩
theorem RD.mono (r : RD prog w FP D ks h) (hf : ∀ b, b < h.objs.size → FP b → FP' b) : RD prog w FP' D ks h := let ⟨a, b, kvs, c, e, q⟩ := r; ⟨hf D (by obtain ⟨o, _, _, ho, _⟩ := c; exact Heap.lt_size ho) a, b, kvs, c, e, q.mono hf⟩
theorem RD.ext : Ext env FP M n (RD prog w FP D ks) where
  kp := fun _ _ r k => r.kp k
  ch := fun h h' U r u o k => by
    obtain ⟨a, b, kvs, c, e, q⟩ := r
    refine ⟨a, b, kvs, dictOf_at c fun ob ho => k D ob (fun z => ?_) ho, e, q.chg k o⟩
    exact (o D ob z ho).2.elim (fun z => z.2 (dictOf_tab c ob ho).2) fun z => z a
end
noncomputable def dget (ks : List (Str × PyData)) (k : Str) : Option PyData := (ks.find? fun q => q.1 = k).map (·.2)
theorem rds_find {h : Heap} (k : Str) : ∀ {kvs : List (Str × Value)} {ks : List (Str × PyData)}, kvs.map (·.1) = ks.map (·.1) → Rds FP h (kvs.map (·.2)) (ks.map (·.2)) →
    (∀ d, dget ks k = some d → ∃ v, valueAt kvs k = some v ∧ Rd FP h v d) ∧ (dget ks k = none → valueAt kvs k = none)
  | [], [], _, _ => ⟨(fun d e => by cases e), fun _ => rfl⟩
  | [], _ :: _, e, _ => by simp at e
  | _ :: _, [], e, _ => by simp at e
  | (k1, v1) :: r, (k2, d2) :: q, e, rr => by
    rw [List.map_cons, List.map_cons, List.cons.injEq] at e
    obtain ⟨e1, e2⟩ := e
    have e1 : k1 = k2 := e1
    subst e1
    have ih := rds_find k e2 rr.uncons.2
    unfold dget valueAt
    rw [List.find?_cons, List.find?_cons]
    by_cases hk : k1 = k
    · simp only [hk, decide_true]
      exact ⟨(fun d e => by cases e; exact ⟨v1, rfl, rr.uncons.1⟩), fun e => by cases e⟩
    · simp only [hk, decide_false]
      exact ih
/-- x.get(k, dflt) -/
theorem ev_dget {D : Addr} {ks : List (Str × PyData)} {e1 e2 : Expr} {k : Str} {dflt : PyData} (hk : env.scope.kind = .function) (nm : NameAt env s₀.heap x (.ref D)) (rd : RD prog w FP D ks s₀.heap) (h1 : Ev prog w A env FP s₀ e1 (.str k)) (h2 : Ev prog w A env FP s₀ e2 dflt)
    (hdb : (x == ("__debug__" : Str)) = false := by decide) (hcd : (x == ("__classdict__" : Str)) = false := by decide)
    (hst : ∀ r, starEach (e1 :: r) env = (false, eval e1 env) :: starEach r env := by intro _; rfl) (hst2 : ∀ r, starEach (e2 :: r) env = (false, eval e2 env) :: starEach r env := by intro _; rfl)
    (hbase : attributeBase (.Name x p1) "get" env (eval (.Name x p1) env) = eval (.Name x p1) env := by rfl) (hline : (p2.endLine == p3.line) = true := by rfl) :
    Ev prog w A env FP s₀ (.Call (.Attribute (.Name x p1) "get" p2) [e1, e2] [] p3) ((dget ks k).getD dflt) := ⟨fun s st E Q hQ => by
  refine wpAny_Call_method_lateS hbase (by rw [hst, hst2]; rfl) hline (load_name hk (nm.kp st.kp) ?_ hdb hcd)
  obtain ⟨fD, hsys, kvs, hd, hks, rv⟩ := rd.kp st.kp
  refine ⟨"dict", "dict.get", F.plainAttrs_dict, F.slot_dict_get, F.type_dict_get, hd.typeIs, hd.mapOf.noDict, ?_⟩
  refine callWith_builtin (by rw [hst, hst2]; rfl) (evalArgs_all (by rw [hst, hst2]; rfl) ((evAll_cons h1 (evAll_cons h2 evAll_nil hst2) hst).go p3 s st _ _ fun vs s1 st1 r1 => ?_))
  obtain ⟨v1, v2, rfl, r1, r2⟩ := r1.two
  obtain ⟨tk, rfl⟩ := r1.strOpen
  have hd1 := dictOf_at hd fun o ho => st1.kp.at ho (dictOf_tab hd o ho).1
  have rv1 := rv.kp st1.kp
  obtain ⟨q1, q2⟩ := rds_find k hks rv1
  refine call_meetsIn F.slot_dict_get hd1.typeIs F.entry_dict_get (F.args_dict_get_3 _ _ _) (meets_dict_get_default (strKind prog w) D (strKind_is _ _ _ _) hsys v2) ⟨_, hd1.mapOf, ?_⟩
  have st2 : Stp s1 { s1 with toks := s1.toks + 1 } := .toks _ _
  refine hQ _ _ (st1.trans st2) ?_
  cases hg : dget ks k with
  | some d =>
    obtain ⟨v, e, r⟩ := q1 d hg
    rw [e]; exact r
  | none => rw [q2 hg]; exact r2⟩
end
end Mine
end
section
open PySem PySem.W PyProof.Rows PySem.Calls PySem.Spec PySem.SeqAt
set_option linter.unusedVariables false
set_option maxRecDepth 100000
namespace Mine
/-! ## the rounds, plain -/
noncomputable abbrev LS := List Nat × List Str
noncomputable def rget (ks : List (Str × List Str)) (y : Str) : List Str := ((ks.find? fun q => q.1 = y).map (·.2)).getD [y]
noncomputable def ksD (ks : List (Str × List Str)) : List (Str × PyData) := ks.map fun q => (q.1, .list (q.2.map .str))
theorem dget_ks (ks : List (Str × List Str)) (y : Str) : (dget (ksD ks) y).getD (.list [.str y]) = .list ((rget ks y).map .str) := by
  unfold dget rget ksD
  induction ks with
  | nil => rfl
  | cons q r ih =>
    rw [List.map_cons, List.find?_cons, List.find?_cons]
    by_cases h : q.1 = y
    · simp [h]
    · simp only [h, decide_false]; exact ih
noncomputable def rnd (ks : List (Str × List Str)) (m : Nat) (st : LS) : Nat → List Str × LS
  | 0 => ([], st)
  | i + 1 => ((rnd ks m st i).1 ++ [(getTok (rnd ks m st i).2.1 (rnd ks m st i).2.2).1], ((getTok (rnd ks m st i).2.1 (rnd ks m st i).2.2).2.1,
      (getTok (rnd ks m st i).2.1 (rnd ks m st i).2.2).2.2 ++ (rget ks (getTok (rnd ks m st i).2.1 (rnd ks m st i).2.2).1).take m))
noncomputable def rounds (ks : List (Str × List Str)) (st : LS) : Nat → List (List Str) × Nat × LS
  | 0 => ([], 1, st)
  | i + 1 => ((rounds ks st i).1 ++ [(rnd ks (3 * (3 - i)) (rounds ks st i).2.2 (rounds ks st i).2.1).1 ++ [tx []]],
      ((rnd ks (3 * (3 - i)) (rounds ks st i).2.2 (rounds ks st i).2.1).1.map fun y => (rget ks y).length).sum, (rnd ks (3 * (3 - i)) (rounds ks st i).2.2 (rounds ks st i).2.1).2)
noncomputable def okK (ks : List (Str × List Str)) : Prop := ∀ q ∈ ks, q.2.length ≤ 3
theorem rget_len {ks : List (Str × List Str)} (h : okK ks) (y : Str) : (rget ks y).length ≤ 3 := by
  unfold rget
  cases e : ks.find? (fun q => q.1 = y) with
  | none => simp
  | some q => exact h q (List.mem_of_find?_eq_some e)
theorem getTok_len (text : List Nat) (pb : List Str) : (getTok text pb).2.1.length ≤ text.length ∧ (getTok text pb).2.2.length ≤ pb.length := by
  cases pb with
  | nil => exact ⟨tokR_len .sk text [], Nat.le_refl _⟩
  | cons p r => exact ⟨Nat.le_refl _, Nat.le_succ _⟩
theorem rnd_len {ks : List (Str × List Str)} (h : okK ks) (m : Nat) (st : LS) (i : Nat) : (rnd ks m st i).1.length = i ∧ (rnd ks m st i).2.1.length ≤ st.1.length ∧ (rnd ks m st i).2.2.length ≤ st.2.length + 3 * i := by
  induction i with
  | zero => exact ⟨rfl, Nat.le_refl _, Nat.le_refl _⟩
  | succ i ih =>
    obtain ⟨h1, h2, h3⟩ := ih
    have ⟨g1, g2⟩ := getTok_len (rnd ks m st i).2.1 (rnd ks m st i).2.2
    have g3 := rget_len h (getTok (rnd ks m st i).2.1 (rnd ks m st i).2.2).1
    refine ⟨by rw [rnd]; simp [h1], by rw [rnd]; exact Nat.le_trans g1 h2, ?_⟩
    rw [rnd]
    simp only [List.length_append, List.length_take]
    omega
theorem sum_le3 {ks : List (Str × List Str)} (h : okK ks) (l : List Str) : (l.map fun y => (rget ks y).length).sum ≤ 3 * l.length := by
  induction l with
  | nil => simp
  | cons y r ih =>
    have := rget_len h y
    rw [List.map_cons, List.sum_cons, List.length_cons]; omega
theorem rounds_len {ks : List (Str × List Str)} (h : okK ks) (st : LS) (i : Nat) : (rounds ks st i).1.length = i ∧ (rounds ks st i).2.1 ≤ 3 ^ i ∧ (rounds ks st i).2.2.1.length ≤ st.1.length ∧ (rounds ks st i).2.2.2.length ≤ st.2.length + 3 ^ (i + 1) := by
  induction i with
  | zero => exact ⟨rfl, by simp [rounds], Nat.le_refl _, by simp [rounds]⟩
  | succ i ih =>
    obtain ⟨h1, h2, h3, h4⟩ := ih
    have ⟨g1, g2, g3⟩ := rnd_len h (3 * (3 - i)) (rounds ks st i).2.2 (rounds ks st i).2.1
    have g4 := sum_le3 h (rnd ks (3 * (3 - i)) (rounds ks st i).2.2 (rounds ks st i).2.1).1
    refine ⟨by rw [rounds]; simp [h1], ?_, by rw [rounds]; exact Nat.le_trans g2 h3, ?_⟩
    · rw [rounds]
      rw [g1] at g4
      rw [Nat.pow_succ]
      show List.sum _ ≤ _
      omega
    · rw [rounds]
      show (rnd ks (3 * (3 - i)) (rounds ks st i).2.2 (rounds ks st i).2.1).2.2.length ≤ _
      rw [Nat.pow_succ 3 (i + 1), Nat.pow_succ] at *
      omega
/-! ## the walk -/
noncomputable abbrev MM (a : LA) : Addr → Prop := fun c => c ∈ a.mut ∨ c = 77
structure RB (w : World) (mg mb : Str → Option Value) (A : Around) (env : Env) (FP : Addr → Prop) (sb : Shared) (h0 : Heap) (a : LA) : Prop where
  Sb : Stat w mg mb sb.heap
  room : Room A 5
  low : ∀ b ∈ a.mut, sb.heap.objs.size ≤ b
  all : ∀ b ∈ a.all, b < h0.objs.size
  fr : ∀ b ∈ frameOf' env, h0.objs.size ≤ b
  nofp : ∀ b ∈ a.mut, ¬ FP b
section
variable {w : World} {mg mb : Str → Option Value} {A : Around} {E : Value → Shared → Prop} {sb s t t' : Shared} {h0 : Heap} {a : LA} {FP FP' M : Addr → Prop} {n : Nat} {ρ : Str → Option PyData} {σ : Str → Option Value} {env : Env} {x : Str} {text : List Nat} {pb : List Str} {p1 p2 p3 p4 pos : Pos} {X Y : Heap → Prop} {rest body : List Stmt} {K : Flow → Shared → Prop}
theorem RB.mf (g : RB w mg mb A env FP sb h0 a) : ∀ b ∈ a.mut, b ∉ frameOf' env := fun b hb z => Nat.lt_irrefl _ (Nat.lt_of_lt_of_le (g.all b (mut_all hb)) (g.fr b z))
theorem RB.less (g : RB w mg mb A env FP sb h0 a) (hf : ∀ b, FP' b → FP b) : RB w mg mb A env FP' sb h0 a := ⟨g.Sb, g.room, g.low, g.all, g.fr, fun b hb z => g.nofp b hb (hf b z)⟩
theorem Ext.after (hY : Ext env FP (MM a) n Y) (y : Y t.heap) (S : Stat w mg mb t.heap) (xl : Lex a text pb t.heap) (nofp : ∀ b ∈ a.mut, ¬ FP b) (af : After sb t a.mut t') : Y t'.heap := by
  refine hY.ch _ _ (fun b => b ∈ a.mut ∨ b = 77) y (fun c hc => .inr (.inl hc)) (fun b o hb ho => ?_) fun c o hc e => af.kept.keep c o (fun z => hc (.inl z)) e (.inr fun z => hc (.inr z))
  rcases hb with hb | rfl
  · exact ⟨nottup xl b hb o ho, .inr (nofp b hb)⟩
  · obtain ⟨ps, e⟩ := tab77 S.tab
    rw [e] at ho; cases ho
    exact ⟨tupLike_cls (by simp [tabObj]), .inl ⟨by simp [tabObj], by simp [tabObj]⟩⟩
theorem evx_gt (g : RB w mg mb A env FP sb h0 a) (b : Bd A env FP n) (hx : σ x = some (.ref a.L)) (hz : pb.length ≤ 100000) (ht : text.length ≤ 4000) (hY : Ext env FP (MM a) n Y) {pl : Sem Bool}
    (hd : (x == ("__debug__" : Str)) = false := by decide) (hn : (x == ("__classdict__" : Str)) = false := by decide)
    (he : eval (.Call (.Attribute (.Name x p1) "get_token" p2) [] [] p3) env = (do
      let ov ← eval (.Name x p1) env
      standAt p2.atName
      let (f, first) ← holding [ov] (getMethod ov "get_token" pl)
      callWith p3 f first (backTo p3 (starEach [] env)) []) := by rfl) :
    Evx prog w A env FP sb n (fun h => LX a text pb h0 h ∧ Y h) ρ σ (.Call (.Attribute (.Name x p1) "get_token" p2) [] [] p3) (fun h => LX a (getTok text pb).2.1 (getTok text pb).2.2 h0 h ∧ Y h) (.str (getTok text pb).1) := ⟨fun t f xx E Q hQ => by
  refine eval_gt b.kind (f.raw hx) ⟨g.Sb, g.room, f.toStp, g.low, xx.1.1, ht⟩ hz (fun tk t' af x' => ?_) hd hn he
  exact hQ _ _ (Fx.after f af g.mf fun b hb => ⟨g.nofp b hb, nottup xx.1.1 b hb⟩) ⟨⟨x', xx.1.2.trans af.kept⟩, hY.after xx.2 (g.Sb.kp f.toStp.kp) xx.1.1 g.nofp af⟩ (.str _ _)⟩
theorem evx_pt {e : Expr} {y : Str} (g : RB w mg mb A env FP sb h0 a) (b : Bd A env FP n) (hx : σ x = some (.ref a.L)) (hz : pb.length ≤ 100000) (ht : text.length ≤ 4000) (hY : Ext env FP (MM a) n Y) (hv : ∀ t, Fx sb env FP n ρ σ t → Ev prog w A env FP t e (.str y)) {pl : Sem Bool}
    (hd : (x == ("__debug__" : Str)) = false := by decide) (hn : (x == ("__classdict__" : Str)) = false := by decide)
    (hs : (starEach [e] env).all (fun x => !x.1) = true := by rfl) (hst : ∀ r, starEach (e :: r) env = (false, eval e env) :: starEach r env := by intro _; rfl)
    (he : eval (.Call (.Attribute (.Name x p1) "push_token" p2) [e] [] p3) env = (do
      let ov ← eval (.Name x p1) env
      standAt p2.atName
      let (f, first) ← holding [ov] (getMethod ov "push_token" pl)
      callWith p3 f first (backTo p3 (starEach [e] env)) []) := by rfl) :
    Evx prog w A env FP sb n (fun h => LX a text pb h0 h ∧ Y h) ρ σ (.Call (.Attribute (.Name x p1) "push_token" p2) [e] [] p3) (fun h => LX a text (pb ++ [y]) h0 h ∧ Y h) .none := ⟨fun t f xx E Q hQ => by
  refine eval_pt b.kind (f.raw hx) ⟨g.Sb, g.room.le (by decide), f.toStp, g.low, xx.1.1, ht⟩ hz (ev_flatS (hv t f)) (fun t' af x' => ?_) hd hn hs hst he
  exact hQ _ _ (Fx.after f af g.mf fun b hb => ⟨g.nofp b hb, nottup xx.1.1 b hb⟩) ⟨⟨x', xx.1.2.trans af.kept⟩, hY.after xx.2 (g.Sb.kp f.toStp.kp) xx.1.1 g.nofp af⟩ .none⟩
end
end Mine
end
section
open PySem PySem.W PyProof.Rows PySem.Calls PySem.Spec PySem.SeqAt
set_option linter.unusedVariables false
set_option maxRecDepth 100000
namespace Mine
noncomputable abbrev rdEnv (L : Addr) : Env := callEnvC (fdK 137) L 137
noncomputable abbrev rdσ (a : LA) (Dr D1 : Addr) : Str → Option Value := putR (putR (putR noRaw "line" (.ref a.L)) "rules" (.ref Dr)) "lines" (.ref D1)
noncomputable def rdρ (c l : Nat) : List (Str × PyData) := [("count", .int c), ("left", .int l)]
section
variable {w : World} {mg mb : Str → Option Value} {A : Around} {E : Value → Shared → Prop} {sb s t t' : Shared} {h0 : Heap} {a : LA} {FP FP' M : Addr → Prop} {n : Nat} {ρ : Str → Option PyData} {σ : Str → Option Value} {L D D1 Dr : Addr} {x : Str} {text : List Nat} {pb : List Str} {p p1 p2 p3 p4 pos : Pos} {X Y : Heap → Prop} {rest body : List Stmt} {K : Flow → Shared → Prop}
noncomputable def rdOuter : List Stmt := match (bodyK 137)[2]! with | .For _ _ b _ _ => b | _ => []
noncomputable def rdInner : Stmt := rdOuter[1]!
theorem lx_ext (g : RB w mg mb A env FP sb h0 a) (hn : h0.objs.size ≤ n) (hM : ∀ b ∈ a.all, ¬ M b) (hM2 : ∀ b, M b → h0.objs.size ≤ b) : Ext env FP M n (LX a text pb h0) :=
  (Lex.ext fun b hb => ⟨fun z => Nat.lt_irrefl _ (Nat.lt_of_lt_of_le (g.all b hb) (g.fr b z)), hM b hb, Nat.lt_of_lt_of_le (g.all b hb) hn⟩).and (Kept.ext g.fr (fun b hb => .inr (hM2 b hb)) hn)
theorem own_last {ds : List Str} {y : Str} (hk : env.scope.kind = .function) (o : Own FP D ((ds ++ [y]).map .str) t.heap) (nm : NameAt env t.heap "words" (.ref D)) (hz : ds.length ≤ 1000) :
    Ev prog w A env FP' t (.Subscript (.Name "words" p1) (.UnaryOp .USub (.Constant (.int 1) 0 p2) p3) p4) (.str y) := by
  obtain ⟨ys, hl, r⟩ := o
  have rr : Rd (fun _ => True) t.heap (.ref D) (.list ((ds ++ [y]).map .str)) := .mkList (vs := ys.toList) (by simpa using hl.isList) (r.mono fun _ _ _ => trivial) trivial
  refine ev_flatS (ev_itemN (ev_nameAt hk nm rr) (ev_neg ev_int) (by decide) (by decide) ?_ ?_)
  · simp only [List.length_map, List.length_append, List.length_singleton]; omega
  · simp only [List.length_map, List.length_append, List.length_singleton]
    have : ((-1 : Int) + ((ds.length + 1 : Nat) : Int)).toNat = ds.length := by omega
    rw [this]; simp
set_option maxHeartbeats 1000000 in
theorem rd_inner {c l : Nat} {st : LS} {ks : List (Str × List Str)} (g : RB w mg mb A (rdEnv L) FP sb h0 a) (b : Bd A (rdEnv L) FP n) (hn0 : h0.objs.size ≤ n) (hD : D ∉ frameOf' (rdEnv L)) (hFD : ¬ FP D) (hDlo : h0.objs.size ≤ D) (h0lo : sb.heap.objs.size ≤ h0.objs.size) (hDn : D < n) (hkk : okK ks) (hc : c ≤ 100) (hl : l ≤ 3) (h1 : st.1.length ≤ 4000) (h2 : st.2.length ≤ 2000)
    (hY : Ext (rdEnv L) FP (fun c => MM a c ∨ c = D) n Y)
    (hr : Tr prog w A (rdEnv L) FP sb n (fun h => Own FP D ((rnd ks (3 * l) st c).1.map .str) h ∧ LX a (rnd ks (3 * l) st c).2.1 (rnd ks (3 * l) st c).2.2 h0 h ∧ RD prog w FP Dr (ksD ks) h ∧ Y h) (al (rdρ c l)) (putR (rdσ a Dr D1) "words" (.ref D)) rest K E) :
    Tr prog w A (rdEnv L) FP sb n (fun h => Own FP D [] h ∧ LX a st.1 st.2 h0 h ∧ RD prog w FP Dr (ksD ks) h ∧ Y h) (al (rdρ c l)) (putR (rdσ a Dr D1) "words" (.ref D)) (rdInner :: rest) K E := by
  have h77 : (77 : Nat) < sb.heap.objs.size := by obtain ⟨ps, e⟩ := tab77 g.Sb.tab; exact Heap.lt_size e
  have hDa : D ∉ a.all := fun z => Nat.lt_irrefl _ (Nat.lt_of_lt_of_le (g.all D z) hDlo)
  have hDM : ¬ MM a D := fun z => z.elim (fun z => hDa (mut_all z)) fun z => Nat.lt_irrefl _ (Nat.lt_of_lt_of_le (z ▸ h77) (Nat.le_trans h0lo hDlo))
  have lx : ∀ {text pb m}, n ≤ m → Ext (rdEnv L) FP (fun c => c = D) m (LX a text pb h0) := fun hm => lx_ext g (Nat.le_trans hn0 hm) (fun b hb e => hDa (e ▸ hb)) (fun b e => e ▸ hDlo)
  have hX : ∀ i, Ext (rdEnv L) FP noM n (fun h => Own FP D ((rnd ks (3 * l) st i).1.map .str) h ∧ LX a (rnd ks (3 * l) st i).2.1 (rnd ks (3 * l) st i).2.2 h0 h ∧ RD prog w FP Dr (ksD ks) h ∧ Y h) := fun i =>
    (Own.ext hD (fun z => z) hDn).and (((lx (Nat.le_refl _)).le (fun _ z => nomatch z) (Nat.le_refl _)).and (RD.ext.and (hY.le (fun _ z => nomatch z) (Nat.le_refl _))))
  refine tr_forI (FPi := FP) (M := fun c => MM a c ∨ c = D) (ds := (List.range c).map fun i : Nat => PyData.int (i : Int)) (fun _ => al (rdρ c l)) (fun i h => Own FP D ((rnd ks (3 * l) st i).1.map .str) h ∧ LX a (rnd ks (3 * l) st i).2.1 (rnd ks (3 * l) st i).2.2 h0 h ∧ RD prog w FP Dr (ksD ks) h ∧ Y h) b hX ?_ ?_ (fun _ h => h) ?_ ?_ (.inl rfl)
  · rintro c (hc | rfl)
    · rcases hc with hc | rfl
      · exact Nat.lt_of_lt_of_le (g.all c (mut_all hc)) hn0
      · exact Nat.lt_of_lt_of_le h77 (Nat.le_trans h0lo hn0)
    · exact hDn
  · intro t f x
    exact iter_range (f.cx b) (gl_bi (v := .type "range") (g.Sb.kp f.toStp.kp) rfl rfl (by decide) rfl rfl rfl) (ev_name (f.cx b) f.sees rfl) (by omega)
  · intro i d n' Y' hd hn' b' hY'
    have hi : i < c := by have := (List.getElem?_eq_some_iff.mp hd).1; simpa using this
    obtain ⟨q1, q2, q3⟩ := rnd_len hkk (3 * l) st i
    have hR : Ext (rdEnv L) FP (fun c => MM a c ∨ c = D) n' (fun h => RD prog w FP Dr (ksD ks) h ∧ Y h ∧ Y' h) := RD.ext.and ((hY.le (fun _ z => z) hn').and hY')
    have hR1 : Ext (rdEnv L) FP (MM a) n' (fun h => RD prog w FP Dr (ksD ks) h ∧ Y h ∧ Y' h) := hR.le (fun _ z => .inl z) (Nat.le_refl _)
    have hR2 : Ext (rdEnv L) FP (fun c => c = D) n' (fun h => RD prog w FP Dr (ksD ks) h ∧ Y h ∧ Y' h) := hR.le (fun _ z => .inr z) (Nat.le_refl _)
    have hDn' : D < n' := Nat.lt_of_lt_of_le hDn hn'
    generalize hS : rnd ks (3 * l) st i = S at q1 q2 q3
    obtain ⟨ws, tx0, pb0⟩ := S
    simp only at q1 q2 q3
    have hS1 : rnd ks (3 * l) st (i + 1) = (ws ++ [(getTok tx0 pb0).1], ((getTok tx0 pb0).2.1, (getTok tx0 pb0).2.2 ++ (rget ks (getTok tx0 pb0).1).take (3 * l))) := by rw [rnd, hS]
    have ⟨e1, e2⟩ := getTok_len tx0 pb0
    rw [hS1]
    generalize hG : getTok tx0 pb0 = G at e1 e2
    obtain ⟨y, tx1, pb1⟩ := G
    simp only at e1 e2 ⊢
    have hrg := rget_len hkk y
    refine tr_pre (Y := fun h => Own FP D (ws.map .str) h ∧ (LX a tx0 pb0 h0 h ∧ (RD prog w FP Dr (ksD ks) h ∧ Y h ∧ Y' h))) (fun h z => ⟨z.1.1, z.1.2.1, z.1.2.2.1, z.1.2.2.2, z.2⟩) ?_
    refine tr_pushX (d := .str y) (X' := fun h => LX a tx1 pb1 h0 h ∧ (RD prog w FP Dr (ksD ks) h ∧ Y h ∧ Y' h)) ((lx hn').and hR2) b' hD hFD (Nat.le_trans h0lo hDlo) rfl ?_ (by rw [List.length_map, sizeLine_eq]; omega) ?_
    · have := evx_gt (σ := putR (rdσ a Dr D1) "words" (.ref D)) (ρ := put (al (rdρ c l)) "place" d) (x := "line") (p1 := ⟨140, 25, 140, 29⟩) (p2 := ⟨140, 25, 140, 39⟩) (p3 := ⟨140, 25, 140, 41⟩) (text := tx0) (pb := pb0) g b' rfl (by omega) (by omega) ((Own.ext (ds := ws.map .str) hD hDM hDn').and hR1)
      rw [hG] at this
      exact this.conv (fun h z => ⟨z.2.1, z.1, z.2.2⟩) (fun h z => ⟨z.2.1, z.1, z.2.2⟩)
    · have em : ws.map PyData.str ++ [.str y] = (ws ++ [y]).map PyData.str := by simp
      rw [em]
      refine tr_sub (l := rdρ c l) (sub_cons (sub_cons sub_nil)) ?_
      have hX2 : ∀ j, Ext (rdEnv L) FP noM n' (fun h => Own FP D ((ws ++ [y]).map .str) h ∧ LX a tx1 (pb1 ++ ((rget ks y).take (3 * l)).take j) h0 h ∧ (RD prog w FP Dr (ksD ks) h ∧ Y h ∧ Y' h)) := fun j =>
        (Own.ext hD (fun z => z) hDn').and (((lx hn').le (fun _ z => nomatch z) (Nat.le_refl _)).and (hR.le (fun _ z => nomatch z) (Nat.le_refl _)))
      refine tr_pre (Y := fun h => Own FP D ((ws ++ [y]).map .str) h ∧ LX a tx1 (pb1 ++ ((rget ks y).take (3 * l)).take 0) h0 h ∧ (RD prog w FP Dr (ksD ks) h ∧ Y h ∧ Y' h)) (fun h z => by simpa using z) ?_
      refine tr_forI (FPi := FP) (M := MM a) (ds := ((rget ks y).take (3 * l)).map .str) (fun _ => al (rdρ c l)) (fun j h => Own FP D ((ws ++ [y]).map .str) h ∧ LX a tx1 (pb1 ++ ((rget ks y).take (3 * l)).take j) h0 h ∧ (RD prog w FP Dr (ksD ks) h ∧ Y h ∧ Y' h)) b' hX2 ?_ ?_ (fun _ h => h) ?_ ?_ (.inl rfl)
      · rintro c (hc | rfl)
        · exact Nat.lt_of_lt_of_le (g.all c (mut_all hc)) (Nat.le_trans hn0 hn')
        · exact Nat.lt_of_lt_of_le h77 (Nat.le_trans h0lo (Nat.le_trans hn0 hn'))
      · intro t f x
        have lst : ∀ {FP' : Addr → Prop} {p1 p2 p3 p4 : Pos}, Ev prog w A (rdEnv L) FP' t (.Subscript (.Name "words" p1) (.UnaryOp .USub (.Constant (.int 1) 0 p2) p3) p4) (.str y) := own_last b.kind x.1 (f.raw rfl) (by omega)
        have dg := ev_dget (x := "rules") (p1 := ⟨141, 24, 141, 29⟩) (p2 := ⟨141, 24, 141, 33⟩) (p3 := ⟨141, 24, 141, 57⟩) b.kind (f.raw rfl) x.2.2.1 (lst (p1 := ⟨141, 34, 141, 39⟩) (p2 := ⟨141, 41, 141, 42⟩) (p3 := ⟨141, 40, 141, 42⟩) (p4 := ⟨141, 34, 141, 43⟩)) (ev_list (pos := ⟨141, 45, 141, 56⟩) (f.cx b') (evAll_cons (lst (p1 := ⟨141, 46, 141, 51⟩) (p2 := ⟨141, 53, 141, 54⟩) (p3 := ⟨141, 52, 141, 54⟩) (p4 := ⟨141, 46, 141, 55⟩)) evAll_nil) (by show 1 ≤ sizeLine; rw [sizeLine_eq]; omega))
        rw [dget_ks] at dg
        have e3 : ((rget ks y).take (3 * l)).map PyData.str = ((rget ks y).map PyData.str).take (3 * l) := by rw [List.map_take]
        rw [e3]
        refine iter_list (f.cx b') (ev_upto (n := 3 * l) (f.cx b') dg ?_ (by rw [List.length_map, sizeLine_eq]; omega))
        have e4 : ((3 * l : Nat) : Int) = 3 * (l : Int) := by omega
        rw [e4]
        refine ev_mulI ev_int (ev_name (f.cx b') f.sees rfl) ?_
        exact IntMulOk.of_left (by decide +kernel)
      · intro j d2 n2 Y2 hd2 hn2 b2 hY2
        have hj := (List.getElem?_eq_some_iff.mp hd2).1
        rw [List.length_map] at hj
        obtain ⟨part, hp, rfl⟩ : ∃ part, ((rget ks y).take (3 * l))[j]? = some part ∧ d2 = .str part := by
          rw [List.getElem?_map] at hd2
          obtain ⟨q, hq, e⟩ := Option.map_eq_some_iff.mp hd2
          exact ⟨q, hq, e.symm⟩
        have hpl : (pb1 ++ ((rget ks y).take (3 * l)).take j).length ≤ 100000 := by
          simp only [List.length_append, List.length_take]; omega
        refine tr_exprX ((evx_pt (Y := fun h => Own FP D ((ws ++ [y]).map .str) h ∧ (RD prog w FP Dr (ksD ks) h ∧ Y h ∧ Y' h) ∧ Y2 h) g b2 rfl hpl (by omega) ((Own.ext hD hDM (Nat.lt_of_lt_of_le hDn' hn2)).and ((hR1.le (fun _ z => z) hn2).and hY2)) fun t f => ev_name (f.cx b2) f.sees rfl).conv (fun h z => ⟨z.1.2.1, z.1.1, z.1.2.2, z.2⟩) (fun h z => z)) ?_
        refine tr_sub (l := rdρ c l) (sub_cons (sub_cons sub_nil)) (tr_nil fun t f x => ⟨.inl rfl, f, ?_⟩)
        have e5 : pb1 ++ ((rget ks y).take (3 * l)).take (j + 1) = pb1 ++ ((rget ks y).take (3 * l)).take j ++ [part] := by
          rw [List.append_assoc, List.take_add_one, hp]; rfl
        rw [e5]
        exact ⟨⟨x.2.1, x.1, x.2.2.1⟩, x.2.2.2⟩
      · refine tr_nil fun t f x => ⟨.inl rfl, f, ?_⟩
        rw [List.length_map, List.take_length] at x
        exact ⟨⟨x.1, x.2.1, x.2.2.1, x.2.2.2.1⟩, x.2.2.2.2⟩
  · have e : ((List.range c).map fun i : Nat => PyData.int (i : Int)).length = c := by simp
    rw [e]
    exact hr
end
end Mine
end
section
open PySem PySem.W PyProof.Rows PySem.Calls PySem.Spec PySem.SeqAt
set_option linter.unusedVariables false
set_option maxRecDepth 100000
namespace Mine
section
variable {w : World} {mg mb : Str → Option Value} {A : Around} {E : Value → Shared → Prop} {sb s t t' s₀ : Shared} {h0 : Heap} {a : LA} {FP FP' FPi M M2 : Addr → Prop} {n n' : Nat} {ρ : Str → Option PyData} {σ : Str → Option Value} {env : Env} {L D D1 Dr : Addr} {x : Str} {text : List Nat} {pb : List Str} {p p1 p2 p3 p4 p5 pos : Pos} {X Y : Heap → Prop} {rest body : List Stmt} {K : Flow → Shared → Prop}
theorem Ext.wide (hY : Ext env FPi M n Y) (hf : ∀ b, FPi b → FP b) (hM : ∀ c, M2 c → M c ∨ n ≤ c) (hn : n ≤ n') : Ext env FP M2 n' Y :=
  ⟨hY.kp, fun h h' U y u off k => hY.ch h h' U y (fun c hc => (u c hc).imp id fun z => z.elim (hM c) fun z => .inr (Nat.le_trans hn z)) (fun b o hb ho => ⟨(off b o hb ho).1, (off b o hb ho).2.imp id fun z q => z (hf b q)⟩) k⟩
/-- a new lexer's first token -/
theorem ev_lexgt (hk : env.scope.kind = .function) (S : Stat w mg mb s₀.heap) (room : Room A 5) (hg : env.kindOf "_law_lexer" = some .globalImplicit := by rfl) (hgl : env.globals = mainGlobals := by rfl) {pl : Sem Bool}
    (hs : (starEach [.Constant (.str (Str.ofString "")) 0 p2] env).all (fun x => !x.1) = true := by rfl) (hst : ∀ r, starEach (.Constant (.str (Str.ofString "")) 0 p2 :: r) env = (false, eval (.Constant (.str (Str.ofString "")) 0 p2) env) :: starEach r env := by intro _; rfl)
    (he : eval (.Call (.Attribute (.Call (.Name "_law_lexer" p1) [.Constant (.str (Str.ofString "")) 0 p2] [] p3) "get_token" p4) [] [] p5) env = (do
      let ov ← eval (.Call (.Name "_law_lexer" p1) [.Constant (.str (Str.ofString "")) 0 p2] [] p3) env
      standAt p4.atName
      let (f, first) ← holding [ov] (getMethod ov "get_token" pl)
      callWith p5 f first (backTo p5 (starEach [] env)) []) := by rfl) :
    Ev prog w A env FP s₀ (.Call (.Attribute (.Call (.Name "_law_lexer" p1) [.Constant (.str (Str.ofString "")) 0 p2] [] p3) "get_token" p4) [] [] p5) (.str (tx [])) := ⟨fun s st E Q hQ => by
  have S' := S.kp st.kp
  refine MethodCall_ (pl := pl) (wpAny_Call_NameR (load_gl hk (gl_fn (a := 82) S' rfl hg hgl) ?_ (by decide))) he
  obtain ⟨o8, c8, oc8, vs8, t8, e8, d8, _⟩ := (fnAt_lexer S').ex
  have hev : EvAll prog w A env (fun _ => True) s [.Constant (.str (Str.ofString "")) 0 p2] [.str (Str.ofString "")] := evAll_cons ev_str evAll_nil hst
  refine callWith_function (o := o8) (fd := fdK 82) (evalArgs_all hs (hev.go _ s (.refl s) _ _ fun vs s1 st1 r1 => ?_))
  obtain ⟨v1, rfl, r2⟩ := r1.one
  obtain ⟨tk, rfl⟩ := r2.strOpen
  refine ⟨⟨st1.kp.at e8 (isTab_data (by rw [d8]; simp)), d8⟩, ?_⟩
  refine lexer_spec (S'.kp st1.kp) (room.le (by decide)) (by decide) fun a s2 st2 hlow x2 => ?_
  have st12 := st1.trans st2
  obtain ⟨m, nL, h1, h2, h3, h4, h5, h6, h7⟩ := x2.dL
  refine meth_inst (fun b o e => (S'.kp st12.kp).X b o e) x2.L nL.ns h5 (f := 54) (by kernel_rfl) (by kernel_rfl) ?_
  obtain ⟨o, c, oc, vs, tt, f1, f2, _⟩ := (fnAt_gt (S'.kp st12.kp)).ex
  refine callWith_function (o := o) (fd := fdK 54) (evalArgs_all rfl (spliced_nil ⟨⟨f1, f2⟩, ?_⟩))
  have hy : (Str.ofString "").cps.toList = [] := by decide +kernel
  rw [hy] at x2
  refine gt_spec (sb := s) ⟨S', room, st12, fun b hb => Nat.le_trans st1.kp.size (hlow b (mut_made hb)), x2, Nat.zero_le _⟩ (Nat.zero_le _) fun tk s' af x' => ?_
  rw [getTok0]
  exact hQ _ _ af.st (.str _ _)⟩
noncomputable def linesD (ls : List (List Str)) : List PyData := ls.map fun l => .list (l.map .str)
theorem fnAt_rounds {h : Heap} (S : Stat w mg mb h) : FnAt h 137 (fdK 137) := fnAt (c := 136) S rfl rfl rfl rfl rfl rfl
theorem rules_free {C : Addr} {scope : Scope} {cl : List (Str × Addr)} {v : Value} {env' : Env} {h h' : Heap} (nm : NameAt env h x v) (kp : Kp h h') (hc : env.kindOf x = some .cell) (hf : env'.kindOf x = some .cell) (hl : env'.cells.lookup x = env.cells.lookup x) : NameAt env' h' x v := by
  cases nm with
  | loc a _ _ => rw [hc] at a; cases a
  | free a _ _ _ => rw [hc] at a; cases a
  | cell a b c d => exact .cell hf (hl.trans b) (kp.at c (isTab_data (by rw [d]; simp))) d
/-- the count of the next round -/
theorem ev_count {ks : List (Str × List Str)} {ws : List Str} (g : RB w mg mb A (rdEnv L) FP sb h0 a) (b : Bd A (rdEnv L) FP n) (hkk : okK ks) (hw : ws.length ≤ 1000) (f : Fx sb (rdEnv L) FP n ρ σ t) (hx : ρ "words" = some (.list (ws.map .str))) (hr : σ "rules" = some (.ref Dr)) (rd : RD prog w FP Dr (ksD ks) t.heap) {scope : Scope} {q1 q2 q3 q5 q6 q7 q9 q10 q11 q12 q13 : Pos}
    (hscope : scope = { kind := ScopeKind.function, names := [(Str.ofString ".0", NameKind.local), (Str.ofString "word", NameKind.local), (Str.ofString "len", NameKind.globalImplicit), (Str.ofString "rules", NameKind.free)], isGenerator := false, isCoroutine := false, more := [] }) :
    Ev prog w A (rdEnv L) FP t (.Call (.Name "sum" q1) [.ListComp (.Call (.Name "len" q2) [.Call (.Attribute (.Name "rules" q3) "get" ⟨144, 25, 144, 34⟩) [.Name "word" q5, .List [.Name "word" q6] q7] [] ⟨144, 25, 144, 48⟩] [] q9) [⟨.Name "word" q10, .Name "words" q11, [], 0⟩] scope q12] [] q13) (.int ((ws.map fun y => (rget ks y).length).sum : Nat)) := by
  subst hscope
  have S := g.Sb.kp f.toStp.kp
  have c := f.cx b
  have key := ev_map1 (f := fun d => match d with | .str y => .int ((rget ks y).length : Int) | _ => .none) (elt := .Call (.Name "len" q2) [.Call (.Attribute (.Name "rules" q3) "get" ⟨144, 25, 144, 34⟩) [.Name "word" q5, .List [.Name "word" q6] q7] [] ⟨144, 25, 144, 48⟩] [] q9) (px := q10) (pos := q12) (scope := { kind := ScopeKind.function, names := [(Str.ofString ".0", NameKind.local), (Str.ofString "word", NameKind.local), (Str.ofString "len", NameKind.globalImplicit), (Str.ofString "rules", NameKind.free)], isGenerator := false, isCoroutine := false, more := [] }) (prog := prog) (w := w) (x := "word")
    (cl := [((Str.ofString "rules"), L + 1)]) c f.sees (iter_list c (ev_name (pos := q11) (x := "words") c f.sees hx)) (by rw [List.length_map, sizeLine_eq]; omega) [] rfl (fun y hy => nomatch hy) (fun i d hd C FP2 s2 st2 hf2 cx zz => by
      obtain ⟨y, hy, rfl⟩ : ∃ y, ws[i]? = some y ∧ d = .str y := by
        rw [List.getElem?_map] at hd
        obtain ⟨q, hq, e⟩ := Option.map_eq_some_iff.mp hd
        exact ⟨q, hq, e.symm⟩
      have rd2 : RD prog w FP2 Dr (ksD ks) s2.heap := (rd.mono hf2).kp st2.kp
      have dg := ev_dget (x := "rules") (p1 := q3) (p2 := ⟨144, 25, 144, 34⟩) (p3 := ⟨144, 25, 144, 48⟩) cx.kind (rules_free (C := C) (scope := default) (cl := []) (f.raw hr) st2.kp rfl rfl rfl) rd2 (ev_name (pos := q5) (x := "word") cx zz rfl) (ev_list (pos := q7) cx (evAll_cons (ev_name (pos := q6) (x := "word") cx zz rfl) evAll_nil) (by show 1 ≤ sizeLine; rw [sizeLine_eq]; omega))
      rw [dget_ks] at dg
      have := rget_len hkk y
      have hl := call_len (prog := prog) (w := w) (A := A) (FP := FP2) (s₀ := s2) (ds := (rget ks y).map .str) (by rw [List.length_map]; omega)
      rw [List.length_map] at hl
      exact ev_callB cx (gl_bi (v := .builtin "len") (S.kp st2.kp) rfl (by decide +kernel) (by decide) rfl rfl rfl) (evAll_cons dg evAll_nil) hl)
  have e : (ws.map PyData.str).map (fun d => match d with | .str y => PyData.int ((rget ks y).length : Int) | _ => .none) = (ws.map fun y => ((rget ks y).length : Int)).map .int := by
    rw [List.map_map, List.map_map]; rfl
  rw [e] at key
  have e2 : ((ws.map fun y => (rget ks y).length).sum : Nat) = ((ws.map fun y => ((rget ks y).length : Int)).sum : Int) := by
    clear hw hx e key
    induction ws with
    | nil => rfl
    | cons y r ih => simp only [List.map_cons, List.sum_cons]; omega
  rw [e2]
  exact ev_callB c (gl_bi (v := .builtin "sum") S rfl (by decide +kernel) (by decide) rfl rfl rfl) (evAll_cons key evAll_nil) (call_sum g.room.hh)
end
end Mine
end
section
open PySem PySem.W PyProof.Rows PySem.Calls PySem.Spec PySem.SeqAt
set_option linter.unusedVariables false
set_option maxRecDepth 100000
namespace Mine
section
variable {w : World} {mg mb : Str → Option Value} {A : Around} {E : Value → Shared → Prop} {sb s t t' s₀ : Shared} {h0 : Heap} {a : LA} {FP FP' FPi M M2 : Addr → Prop} {n n' : Nat} {ρ : Str → Option PyData} {σ : Str → Option Value} {env : Env} {L D D1 Dr : Addr} {x : Str} {text : List Nat} {pb : List Str} {p p1 p2 p3 p4 p5 pos : Pos} {X Y : Heap → Prop} {rest body : List Stmt} {K : Flow → Shared → Prop}
theorem Own.mono {ds : List PyData} {h : Heap} (o : Own FP D ds h) (hf : ∀ b, b < h.objs.size → FP b → FP' b) : Own FP' D ds h := let ⟨ys, hl, r⟩ := o; ⟨ys, hl, r.mono hf⟩
set_option maxHeartbeats 2000000 in
theorem rounds_spec {ks : List (Str × List Str)} (g : LG w mg mb A sb s a text pb 6) (fp : ∀ b, s.heap.objs.size ≤ b → FP b) (nofp : ∀ b ∈ a.mut, ¬ FP b) (rd : RD prog w FP Dr (ksD ks) s.heap) (hkk : okK ks) (hpb : pb.length ≤ 1000) {Q : Value → Shared → Prop}
    (hQ : ∀ v s', After sb s a.mut s' → Lex a (rounds ks (text, pb) 4).2.2.1 (rounds ks (text, pb) 4).2.2.2 s'.heap → Rd FP s'.heap v (.list (linesD (rounds ks (text, pb) 4).1)) → Q v s') :
    wpAny (model prog w) A (call (.ref 137) [.ref a.L, .ref Dr]) Q E s := by
  have hall := g.x.lt
  refine wpAny_call (code_size (code_tk (enter_defC (body := bodyK 137) (FP := FP) (fnAt_rounds g.S) (g.room.le (by decide)) fp ["line", "rules"] [.ref a.L, .ref Dr] rfl (fun _ => none) (putR (putR noRaw "line" (.ref a.L)) "rules" (.ref Dr)) (fun x d h => nomatch h) (fun x v h => ?_) ?_ rfl)))
  · unfold putR at h
    split at h
    · rename_i e; cases h; subst e; exact .tail _ (.head _)
    · split at h
      · rename_i e; cases h; subst e; exact .head _
      · cases h
  intro FP' n s1 hf hfr hn b fx old
  obtain ⟨m, cm, act, _, _⟩ := fx.ex
  have fsb := fx.rebase g.st
  have hlo := frame_lo act
  have R0 : RB w mg mb (A.deeper (rdEnv s.heap.objs.size)) (rdEnv s.heap.objs.size) FP' sb s.heap a := ⟨g.Sb, g.room.deeper _, g.low, hall, hlo, fun b hb z => nofp b hb (hf b z)⟩
  have h77 : (77 : Nat) < sb.heap.objs.size := by obtain ⟨ps, e⟩ := tab77 g.Sb.tab; exact Heap.lt_size e
  have hsbs := g.st.kp.size
  have rd1 : RD prog w FP' Dr (ksD ks) s1.heap := (rd.mono fun b hb hb2 => hfr b hb2 fun z => Nat.lt_irrefl _ (Nat.lt_of_lt_of_le hb (hlo b z))).kp act.kp
  have goal : ∀ E' : Value → Shared → Prop, Tr prog w (A.deeper (rdEnv s.heap.objs.size)) (rdEnv s.heap.objs.size) FP' sb n (fun h => LX a text pb s.heap h ∧ RD prog w FP' Dr (ksD ks) h) (fun _ => none) (putR (putR noRaw "line" (.ref a.L)) "rules" (.ref Dr)) (bodyK 137)
      (fun fl t' => Stp sb t' ∧ Kept a.mut s.heap t'.heap ∧ Lex a (rounds ks (text, pb) 4).2.2.1 (rounds ks (text, pb) 4).2.2.2 t'.heap ∧ ∃ v, fl = .ret v ∧ Rd FP t'.heap v (.list (linesD (rounds ks (text, pb) 4).1)))
      E' := by
    intro E'
    refine tr_newOwn (M := noM) (fun D h => LX a text pb s.heap h ∧ RD prog w (less FP' D) Dr (ksD ks) h) b (fun h h' D x e k => ?_) (fun D hD => ?_) rfl ?_ (.inl rfl)
    · refine ⟨(lx_ext (M := noM) R0 (Nat.le_refl _) (fun _ _ z => z) (fun _ z => nomatch z)).kp _ _ x.1 k, (x.2.mono fun b hb hb2 => ⟨hb2, fun z => ?_⟩).kp k⟩
      exact Nat.lt_irrefl _ (Nat.lt_of_lt_of_le hb (Nat.le_of_eq (z.trans e).symm))
    · exact (lx_ext (M := noM) (R0.less fun _ z => z.1) (Nat.le_trans hn (Nat.le_succ_of_le hD)) (fun _ _ z => z) (fun _ z => nomatch z)).and RD.ext
    intro D1 hD1n hD1lo hD1fr b1
    have hD1s : s.heap.objs.size ≤ D1 := Nat.le_trans hn hD1n
    have R1 : RB w mg mb (A.deeper (rdEnv s.heap.objs.size)) (rdEnv s.heap.objs.size) (less FP' D1) sb s.heap a := R0.less fun _ z => z.1
    have hFP1 : FP' D1 := b.fp D1 hD1n
    have hD1a : D1 ∉ a.all := fun z => Nat.lt_irrefl _ (Nat.lt_of_lt_of_le (hall D1 z) hD1s)
    have hn1 : s.heap.objs.size ≤ D1 + 1 := Nat.le_succ_of_le hD1s
    have lxE : ∀ {text pb FP2 m}, (∀ b, FP2 b → FP' b) → D1 + 1 ≤ m → Ext (rdEnv s.heap.objs.size) FP2 noM m (LX a text pb s.heap) := fun hh hm => lx_ext (R0.less hh) (Nat.le_trans hn1 hm) (fun _ _ z => z) (fun _ z => nomatch z)
    have XE : ∀ (i : Nat) {m : Nat}, D1 + 1 ≤ m → Ext (rdEnv s.heap.objs.size) (less FP' D1) noM m (fun h => Own (less FP' D1) D1 (linesD (rounds ks (text, pb) i).1) h ∧ LX a (rounds ks (text, pb) i).2.2.1 (rounds ks (text, pb) i).2.2.2 s.heap h ∧ RD prog w (less FP' D1) Dr (ksD ks) h) := fun i {m} hm =>
      (Own.ext hD1fr (fun z => z) (Nat.lt_of_succ_le hm)).and ((lxE (fun _ z => z.1) hm).and RD.ext)
    have XE0 : Ext (rdEnv s.heap.objs.size) (less FP' D1) noM (D1 + 1) (fun h => Own (less FP' D1) D1 [] h ∧ LX a text pb s.heap h ∧ RD prog w (less FP' D1) Dr (ksD ks) h) := XE 0 (Nat.le_refl _)
    refine tr_assign (d1 := .int ((1 : Nat) : Int)) XE0 b1 (fun t f x => ev_int) ?_ (.inl rfl)
    refine tr_sub (l := [("count", .int ((1 : Nat) : Int))]) (sub_cons sub_nil) ?_
    refine tr_forI (FPi := fun _ => False) (M := fun c => MM a c ∨ c = D1) (ds := [.int 3, .int 2, .int 1, .int 0]) (fun i => al [("count", .int ((rounds ks (text, pb) i).2.1 : Int))]) (fun i h => Own (less FP' D1) D1 (linesD (rounds ks (text, pb) i).1) h ∧ LX a (rounds ks (text, pb) i).2.2.1 (rounds ks (text, pb) i).2.2.2 s.heap h ∧ RD prog w (less FP' D1) Dr (ksD ks) h) b1 (fun i => XE i (Nat.le_refl _)) ?_ ?_ (fun _ z => nomatch z) ?_ ?_ (.inl rfl)
    · rintro c (hc | rfl)
      · rcases hc with hc | rfl
        · exact Nat.lt_of_lt_of_le (hall c (mut_all hc)) hn1
        · exact Nat.lt_of_lt_of_le h77 (Nat.le_trans hsbs hn1)
      · exact Nat.lt_succ_self _
    · intro t f x
      exact iter_tupleI b1.hh (ev_tuple (evAll_cons ev_int (evAll_cons ev_int (evAll_cons ev_int (evAll_cons ev_int evAll_nil)))) (by show 4 ≤ sizeLine; rw [sizeLine_eq]; omega))
    · intro i d n' Y hd hn' b' hY
      have hi : i < 4 := (List.getElem?_eq_some_iff.mp hd).1
      obtain ⟨q1, q2, q3, q4⟩ := rounds_len hkk (text, pb) i
      have hdi : d = .int ((3 - i : Nat) : Int) := by
        match i, hi, hd with
        | 0, _, hd => cases hd; rfl
        | 1, _, hd => cases hd; rfl
        | 2, _, hd => cases hd; rfl
        | 3, _, hd => cases hd; rfl
      subst hdi
      have p3i : 3 ^ i ≤ 27 := by
        match i, hi with
        | 0, _ => decide
        | 1, _ => decide
        | 2, _ => decide
        | 3, _ => decide
      rw [Nat.pow_succ] at q4
      simp only at q3 q4
      have hlen := g.len
      have hS1 : rounds ks (text, pb) (i + 1) = ((rounds ks (text, pb) i).1 ++ [(rnd ks (3 * (3 - i)) (rounds ks (text, pb) i).2.2 (rounds ks (text, pb) i).2.1).1 ++ [tx []]],
        (((rnd ks (3 * (3 - i)) (rounds ks (text, pb) i).2.2 (rounds ks (text, pb) i).2.1).1.map fun y => (rget ks y).length).sum, (rnd ks (3 * (3 - i)) (rounds ks (text, pb) i).2.2 (rounds ks (text, pb) i).2.1).2)) := rfl
      rw [hS1]
      generalize rounds ks (text, pb) i = S at q1 q2 q3 q4 ⊢
      obtain ⟨ls, cnt, st⟩ := S
      simp only at q1 q2 q3 q4 ⊢
      obtain ⟨r1, r2, r3⟩ := rnd_len hkk (3 * (3 - i)) st cnt
      refine tr_sub (l := rdρ cnt (3 - i)) (sub_cons (sub_cons sub_nil)) ?_
      have hn1' : s.heap.objs.size ≤ n' := Nat.le_trans hn1 hn'
      refine tr_newOwn (M := noM) (fun D h => LX a st.1 st.2 s.heap h ∧ RD prog w (less (less FP' D1) D) Dr (ksD ks) h ∧ (Own (less (less FP' D1) D) D1 (linesD ls) h ∧ Y h)) b' (fun h h' D x e k => ?_) (fun D hD => ?_) rfl ?_ (.inl rfl)
      · have ne : ∀ b, b < h.objs.size → b ≠ D := fun b hb z => Nat.lt_irrefl _ (Nat.lt_of_lt_of_le hb (Nat.le_of_eq (z.trans e).symm))
        refine ⟨(lxE (FP2 := less FP' D1) (fun _ z => z.1) hn').kp _ _ x.1.2.1 k, (x.1.2.2.mono fun b hb hb2 => ⟨hb2, ne b hb⟩).kp k, ?_, hY.kp _ _ x.2 k⟩
        have o2 : Own (less (less FP' D1) D) D1 (linesD ls) h := x.1.1.mono fun b hb hb2 => ⟨hb2, ne b hb⟩
        exact (Own.ext (env := rdEnv s.heap.objs.size) (M := noM) (n := D1 + 1) hD1fr (fun z => z) (Nat.lt_succ_self _)).kp _ _ o2 k
      · exact (lxE (fun _ z => z.1.1) (Nat.le_succ_of_le (Nat.le_trans hn' hD))).and (RD.ext.and ((Own.ext hD1fr (fun z => z) (Nat.lt_of_lt_of_le (Nat.lt_succ_self _) (Nat.le_succ_of_le (Nat.le_trans hn' hD)))).and (hY.wide (fun _ z => nomatch z) (fun _ z => nomatch z) (Nat.le_succ_of_le hD))))
      intro D hDn hDlo hDfr b2
      have hD1D : D1 ≠ D := Nat.ne_of_lt (Nat.lt_of_lt_of_le (Nat.lt_succ_self _) (Nat.le_trans hn' hDn))
      have hDs : s.heap.objs.size ≤ D := Nat.le_trans hn1' hDn
      have hMD1 : ¬ (MM a D1 ∨ D1 = D) := by
        rintro ((z | z) | z)
        · exact hD1a (mut_all z)
        · exact Nat.lt_irrefl _ (Nat.lt_of_lt_of_le (z ▸ h77) (Nat.le_trans hsbs hD1s))
        · exact hD1D z
      have hYw : Ext (rdEnv s.heap.objs.size) (less (less FP' D1) D) (fun c => MM a c ∨ c = D) (D + 1) (fun h => Own (less (less FP' D1) D) D1 (linesD ls) h ∧ Y h) :=
        (Own.ext hD1fr hMD1 (Nat.lt_of_lt_of_le (Nat.lt_succ_self _) (Nat.le_succ_of_le (Nat.le_trans hn' hDn)))).and (hY.wide (fun _ z => nomatch z) (fun c z => z.elim (fun z => .inl (.inl z)) fun z => .inr (z ▸ hDn)) (Nat.le_succ_of_le hDn))
      refine rd_inner (c := cnt) (l := 3 - i) (st := st) (ks := ks) (R1.less fun _ z => z.1) b2 (Nat.le_succ_of_le hDs) hDfr (fun z => z.2 rfl) hDs hsbs (Nat.lt_succ_self _) hkk (by omega) (by omega) (by omega) (by omega) hYw ?_
      generalize hG : rnd ks (3 * (3 - i)) st cnt = G at r1 r2 r3
      obtain ⟨ws, st'⟩ := G
      simp only at r1 r2 r3 ⊢
      refine tr_unown (x := "words") (FP := less FP' D1) (n := n') (σ' := rdσ a Dr D1) (X' := fun h => Own (less FP' D1) D1 (linesD ls) h ∧ (LX a st'.1 st'.2 s.heap h ∧ RD prog w (less FP' D1) Dr (ksD ks) h ∧ Y h)) (b'.fp D hDn) (Nat.le_succ_of_le hDn) rfl (fun h z => ⟨z.2.2.1.mono fun _ _ q => q.1, z.1, z.2.1.mono fun _ _ q => q.1, z.2.2.2⟩) (fun y v e => ?_) ?_
      · by_cases q : y = "words"
        · subst q
          unfold rdσ putR at e; rw [if_neg (by decide), if_neg (by decide), if_neg (by decide)] at e; cases e
        · rw [putR, if_neg q]; exact e
      have hYl : Ext (rdEnv s.heap.objs.size) (less FP' D1) (fun c => c = D1) n' (fun h => LX a st'.1 st'.2 s.heap h ∧ RD prog w (less FP' D1) Dr (ksD ks) h ∧ Y h) :=
        (lx_ext (M := fun c => c = D1) R1 hn1' (fun b hb e => hD1a (e ▸ hb)) (fun b e => e ▸ hD1s)).and (RD.ext.and (hY.wide (fun _ z => nomatch z) (fun c z => .inl (.inr z)) (Nat.le_refl _)))
      refine tr_push (d := .list ((ws ++ [tx []]).map .str)) hYl b' rfl hD1fr (fun z => z.2 rfl) (Nat.le_trans hsbs hD1s) rfl (fun t f o y => ?_) (by unfold linesD; rw [List.length_map, q1, sizeLine_eq]; omega) ?_
      · have ll := ev_lexgt (FP := less FP' D1) (p1 := ⟨143, 30, 143, 40⟩) (p2 := ⟨143, 41, 143, 43⟩) (p3 := ⟨143, 30, 143, 44⟩) (p4 := ⟨143, 30, 143, 54⟩) (p5 := ⟨143, 30, 143, 56⟩) (env := rdEnv s.heap.objs.size) b'.kind (g.Sb.kp f.toStp.kp) (g.room.deeper (rdEnv s.heap.objs.size))
        have e : (ws ++ [tx []]).map PyData.str = ws.map .str ++ [.str (tx [])] := by simp
        rw [e]
        refine ev_addL (f.cx b') (ev_name (f.cx b') f.sees rfl) (ev_list (f.cx b') (evAll_cons ll evAll_nil) (by show 1 ≤ sizeLine; rw [sizeLine_eq]; omega)) ?_
        rw [List.length_map, sizeLine_eq]; simp; omega
      have e2 : linesD ls ++ [.list ((ws ++ [tx []]).map .str)] = linesD (ls ++ [ws ++ [tx []]]) := by unfold linesD; simp
      rw [e2]
      have hYa : Ext (rdEnv s.heap.objs.size) (less FP' D1) noM n' (fun h => Own (less FP' D1) D1 (linesD (ls ++ [ws ++ [tx []]])) h ∧ (LX a st'.1 st'.2 s.heap h ∧ RD prog w (less FP' D1) Dr (ksD ks) h ∧ Y h)) :=
        (Own.ext hD1fr (fun z => z) (Nat.lt_of_lt_of_le (Nat.lt_succ_self _) hn')).and (hYl.le (fun _ z => nomatch z) (Nat.le_refl _))
      refine tr_assign (d1 := .int ((ws.map fun y => (rget ks y).length).sum : Nat)) hYa b' (fun t f x => ev_count (a := a) (h0 := s.heap) R1 b' hkk (by omega) f rfl rfl x.2.2.1 rfl) ?_ (.inl rfl)
      refine tr_sub (l := [("count", .int ((ws.map fun y => (rget ks y).length).sum : Nat))]) (sub_cons sub_nil) (tr_nil fun t f x => ⟨.inl rfl, f, ⟨x.1, x.2.1, x.2.2.1⟩, x.2.2.2⟩)
    · refine tr_retRaw b1 rfl fun t f x => ?_
      obtain ⟨ys, hl, r⟩ := x.1
      exact ⟨f.toStp, x.2.1.2, x.2.1.1, _, rfl, .mkList (vs := ys.toList) (by simpa using hl.isList) (r.mono fun _ _ z => hf _ z.1) (hf _ hFP1)⟩
  refine wpAny_mono ((goal _).go s1 fsb ⟨⟨g.x.kp act.kp, .of act.kp⟩, rd1⟩) (fun fl t' hh htk hsz => ?_) fun _ _ h => h
  · obtain ⟨h1, h2, h3, v, rfl, h5⟩ := hh
    exact hQ v t' ⟨h1, h2, hsz, htk⟩ h3 h5
end
end Mine
end
section
open PySem PySem.W PyProof.Rows PySem.Calls PySem.Spec PySem.SeqAt
set_option linter.unusedVariables false
set_option maxRecDepth 100000
namespace Mine
/-! ## dict of a list of pairs -/
theorem entry_upd_loop : entryFor table "dict.update.loop" = some Builtin.«dict.update.loop» := entryFor_of_tree (by kernel_rfl)
theorem plain_upd_loop : plainId "dict.update.loop" = true := by decide +kernel
section
variable {prog : Program} {w : World} {A : Around} {E : Value → Shared → Prop} {s : Shared} {R : Result → Shared → Prop}
noncomputable def kstored (kvs : List (Str × Value)) : List (Str × Value) → List (Str × Value)
  | [] => kvs
  | q :: r => kstored (stored kvs q.1 q.2) r
/-- a pair on the heap -/
noncomputable def PairAt (h : Heap) (v : Value) (q : Str × Value) : Prop := ∃ a t, v = .ref a ∧ IsTup h a #[.str q.1 t, q.2]
theorem upd_loop (hh : A.handled = none) {D I L : Addr} {vs : List Value} {qs : List (Str × Value)} (hDI : D ≠ I) (hDL : D ≠ L) (hIL : I ≠ L) (hlen : vs.length = qs.length) (hz : qs.length ≤ 1000) (h0 : Heap)
    (hp : ∀ h, (∀ b o, b ≠ D → b ≠ I → h0.get? b = some o → h.get? b = some o) → ∀ (j : Nat) (v : Value) (q : Str × Value), vs[j]? = some v → qs[j]? = some q → PairAt h v q)
    (hR : ∀ s' kvs', s'.heap.DictOf (strKind prog w) D kvs' → kvs' = kstored [] qs → (∀ b o, b ≠ D → b ≠ I → h0.get? b = some o → s'.heap.get? b = some o) → (∃ h tk, s' = { s with heap := h, toks := tk }) → h0.objs.size ≤ s'.heap.objs.size → s.toks ≤ s'.toks → R (.ok (.ret .none)) s') :
    ∀ (m i : Nat) (kvs : List (Str × Value)) (t : Shared), m + i = vs.length → t.heap.DictOf (strKind prog w) D kvs → t.heap.IsListIter I L i → t.heap.IsList L vs.toArray → kstored kvs (qs.drop i) = kstored [] qs → kvs.length ≤ i →
      (∀ b o, b ≠ D → b ≠ I → h0.get? b = some o → t.heap.get? b = some o) → (∃ h tk, t = { s with heap := h, toks := tk }) → h0.objs.size ≤ t.heap.objs.size → s.toks ≤ t.toks →
      codeAny (model prog w) A (.builtin "dict.update.loop" ⟨[.ref D, .ref I, .int i 0, .none], []⟩) R t := by
  intro m
  induction m with
  | zero =>
    intro i kvs t hm hd hi hl hk hkl old hs hsz htk
    refine codeAny_builtin entry_upd_loop ?_
    rw [Around.under_plainId plain_upd_loop _]
    unfold Builtin.«dict.update.loop»
    have hnone : vs.toArray[i]? = none := by simp; omega
    show wpAny _ _ (pyNext (.ref I) >>= _) _ _ _
    refine wpAny_bind (with_size (wpAny_pyNext_list_end (A := A.in1) hh hi hl hnone fun h' hx hz' => ?_))
    have hdrop : qs.drop i = [] := List.drop_eq_nil_of_le (by omega)
    rw [hdrop] at hk
    refine wpAny_bind (wpAny_pure (wpAny_pure (hR _ kvs ?_ hk (fun b o h1 h2 e => ?_) ?_ ?_ ?_)))
    · exact dictOf_at hd fun o e => hx D o hDI e
    · exact hx b o h2 (old b o h1 h2 e)
    · obtain ⟨h1, t1, rfl⟩ := hs; exact ⟨_, _, rfl⟩
    · exact Nat.le_trans hsz hz'
    · exact htk
  | succ m ih =>
    intro i kvs t hm hd hi hl hk hkl old hs hsz htk
    refine codeAny_builtin entry_upd_loop ?_
    rw [Around.under_plainId plain_upd_loop _]
    unfold Builtin.«dict.update.loop»
    have hiv : i < vs.length := by omega
    have hiq : i < qs.length := by omega
    have hv : vs.toArray[i]? = some vs[i] := by simp [hiv]
    show wpAny _ _ (pyNext (.ref I) >>= _) _ _ _
    refine wpAny_bind (with_size (wpAny_pyNext_list_item hi hl hv fun h1 hi1 hs1 hz1 => ?_))
    have k1 : ∀ b o, b ≠ I → t.heap.get? b = some o → h1.get? b = some o := fun b o hb e => hs1.extBut b o hb e
    obtain ⟨pa, pt, he, htup⟩ := hp h1 (fun b o h2 h3 e => k1 b o h3 (old b o h2 h3 e)) i vs[i] qs[i] (by simp [hiv]) (by simp [hiq])
    rw [he]
    obtain ⟨po, hpo, hpc, hpn, hpd⟩ := htup
    have hT : ({ t with heap := h1 } : Shared).TypeIs (.ref pa) "tuple" := ⟨po, hpo, hpc⟩
    refine wpAny_bind (wpAny_holding ?_)
    refine wpAny_bind (wpAny_tryCatch ?_)
    unfold Builtin.Dict.pairItems
    refine wpAny_bind (wpAny_typeOf hT ?_)
    have h3 : (Value.type "tuple" == Value.type "tuple") = true := by decide
    simp only [h3, Bool.or_true, if_true]
    refine wpAny_bind (wpAny_seqItems hpo hpd ?_)
    refine wpAny_pure ?_
    show wpAny _ _ (holding [Value.str qs[i].1 pt, qs[i].2] (dictSet D (.str qs[i].1 pt) qs[i].2)) _ _ _
    refine wpAny_holding ?_
    have d1 := dictOf_at hd fun o e => k1 D o hDI e
    refine with_size (with_tk (wpAny_dictSet_pairs (strKind_is _ _ _ _) d1 (fun h2 d2 hs2 htk2 hz2 => ?_) (by rw [sizeLine_eq]; omega)))
    refine wpAny_pure ⟨plainId_quiet plain_upd_loop _, ?_⟩
    have k2 : ∀ b o, b ≠ D → h1.get? b = some o → h2.get? b = some o := fun b o hb e => hs2.extBut b o hb e
    refine ih (i + 1) (stored kvs qs[i].1 qs[i].2) _ (by omega) d2 (hi1.at fun o e => k2 I o hDI.symm e) ((hl.at fun o e => k1 L o hIL.symm e).at fun o e => k2 L o hDL.symm e) ?_ ?_ (fun b o q1 q2 e => k2 b o q1 (k1 b o q2 (old b o q1 q2 e))) ?_ ?_ ?_
    · rw [← hk, List.drop_eq_getElem_cons hiq]; rfl
    · unfold stored
      split
      · rw [List.length_map]; omega
      · rw [List.length_append]; simp; omega
    · obtain ⟨h1, t1, rfl⟩ := hs; exact ⟨_, _, rfl⟩
    · exact Nat.le_trans hsz (Nat.le_trans hz1 hz2)
    · exact Nat.le_trans htk htk2
end
end Mine
end
section
open PySem PySem.W PyProof.Rows PySem.Calls PySem.Spec PySem.SeqAt
set_option linter.unusedVariables false
set_option maxRecDepth 100000
namespace Mine
section
variable {prog : Program} {w : World} {A : Around} {E : Value → Shared → Prop} {s : Shared} {R : Result → Shared → Prop}
theorem noKeys {a : Addr} {xs : Array Value} {k : Nat} {Q : Option Value → Shared → Prop} (hx : s.heap.get? a = some { cls := .type "list", data := .seq xs k }) (hA : A.handled = none)
    (h : ∀ h' tk, (∀ b o, s.heap.get? b = some o → h'.get? b = some o) → Q none { s with heap := h', toks := tk }) : wpAny (model prog w) A (getAttr? (.ref a) "keys") Q E s := by
  obtain ⟨hp, g, d, tk, os⟩ := s
  have hT : ∀ tk', (⟨hp, g, d, tk', os⟩ : Shared).TypeIs (.ref a) "list" := fun _ => ⟨_, hx, rfl⟩
  have hmiss : typeLookup (.type "list") "keys" = pure none := by rw [typeLookup_type, builtinLookup_eq_fast]; kernel_rfl
  have f1 := sub_AttributeError
  have f3 := F.slot_list_getattribute.lookup
  have f4 := F.slot_list_getattribute.bind (.ref a)
  have f5 := am_list_getattr_none
  unfold getAttr? getAttrBy? getAttrBy
  repeat (any_goals (first | assumption | exact hT _ | ((with_reducible show wpAny _ _ (call (Value.builtin "list.__getattribute__") _ _) _ _ _); refine call_meets F.slot_list_getattribute (hT _) am_entry_list_getattribute (F.args_list_getattribute_2 _ _) (meets_getattribute_miss_list a xs k #[] "keys" _ hmiss (by decide)) ⟨hx, hA, fun h' tk' e hx' => ?_⟩) | wp_step))
  obtain ⟨t', u', he⟩ := hx'.there
  show wpAny _ _ (getattributeRaised _ _ _ _ _ _ _) _ _ _
  unfold getattributeRaised
  repeat (any_goals (first | assumption | wp_step))
  exact h _ _ hx'.keeps
theorem kst_map {kvs : List (Str × Value)} : ∀ qs, (kvs.map (·.1) ++ qs.map (·.1)).Nodup → kstored kvs qs = kvs ++ qs
  | [], _ => by simp [kstored]
  | q :: r, h => by
    rw [kstored]
    have hn : (kvs.any fun kv => decide (kv.1 = q.1)) = false := by
      rw [List.any_eq_false]
      intro kv hkv
      have := (List.nodup_append.mp h).2.2
      intro e
      exact this kv.1 (List.mem_map.mpr ⟨kv, hkv, rfl⟩) q.1 (by simp) (by simpa using e)
    have e : stored kvs q.1 q.2 = kvs ++ [q] := by unfold stored; rw [if_neg (by rw [hn]; simp)]
    rw [e, kst_map r (by simpa using h), List.append_assoc]; rfl
theorem plainId_dict_upd : plainId "dict.__init__" = true := by decide +kernel
/-- dict(list of pairs) -/
theorem call_dict {Lst : Addr} {vs : List Value} {qs : List (Str × Value)} {Q : Value → Shared → Prop} (hh : A.handled = none) (hl : s.heap.PlainList Lst vs.toArray) (hlen : vs.length = qs.length) (hz : qs.length ≤ 1000) (hnd : (qs.map (·.1)).Nodup)
    (hp : ∀ h, (∀ b o, s.heap.get? b = some o → h.get? b = some o) → ∀ (j : Nat) (v : Value) (q : Str × Value), vs[j]? = some v → qs[j]? = some q → PairAt h v q)
    (hQ : ∀ h' tk, (∀ b o, s.heap.get? b = some o → h'.get? b = some o) → s.heap.objs.size ≤ h'.objs.size → s.toks ≤ tk → h'.DictOf (strKind prog w) s.heap.objs.size qs → Q (.ref s.heap.objs.size) { s with heap := h', toks := tk }) :
    wpAny (model prog w) A (call (.type "dict") [.ref Lst]) Q E s := by
  refine callType_codes (Q₁ := fun obj s₁ => obj = .ref s.heap.objs.size ∧ s₁ = { s with heap := s.heap.push { cls := .type "dict", data := .dict #[] } }) F.kt_called_dict (F.kt_typeCall_dict_1 _) F.entry_dict_init (kt_code_dict_new _ ⟨rfl, rfl⟩) ?_
  rintro obj s₁ ⟨rfl, rfl⟩
  have hnew : (s.heap.push { cls := .type "dict", data := .dict #[] }).DictOf (strKind prog w) s.heap.objs.size [] := Heap.DictOf.new s.heap
  refine ⟨hnew.typeIs, F.args_dict_init_2 _ _, ?_⟩
  obtain ⟨nl, hn⟩ := id hl
  have hn1 : (s.heap.push { cls := .type "dict", data := .dict #[] }).get? Lst = some { cls := .type "list", data := .seq vs.toArray nl } := Heap.get?_push_of_some _ hn
  have hltL : Lst < s.heap.objs.size := Heap.lt_size hn
  unfold Builtin.«dict.__init__»
  refine wpAny_bind ?_
  unfold Builtin.Dict.selfAndRest
  refine wpAny_bind (wpAny_notOrdered_dict hnew.typeIs ?_)
  show wpAny _ _ (pure (s.heap.objs.size, [Value.ref Lst])) _ _ _
  refine wpAny_pure ?_
  show wpAny _ _ (Builtin.Dict.updateFrom "dict.__init__" s.heap.objs.size (.ref Lst) [] .none) _ _ _
  unfold Builtin.Dict.updateFrom
  have hT : ({ s with heap := s.heap.push { cls := .type "dict", data := .dict #[] } } : Shared).TypeIs (.ref Lst) "list" := ⟨_, hn1, rfl⟩
  refine wpAny_bind (wpAny_typeOf hT ?_)
  rw [if_pos (by decide)]
  refine wpAny_bind (with_size (with_tk (noKeys (A := A.in1.in1) hn1 hh fun h2 tk2 k2 htk2 hz2 => ?_)))
  show wpAny _ _ (rule "dict.__init__.from-pairs" >>= fun _ => pyIter (.ref Lst) >>= fun it => again (.builtin "dict.update.loop" ⟨[.ref s.heap.objs.size, it, rawInt 0, .none], []⟩)) _ _ _
  refine wpAny_bind (wpAny_rule ?_)
  have hl2 : h2.IsList Lst vs.toArray := ⟨_, k2 _ _ hn1, rfl, _, rfl⟩
  refine wpAny_bind (wpAny_pyIter_list hl2 ?_)
  have kall : ∀ b o, s.heap.get? b = some o → (h2.push { cls := .type "list_iterator", data := .fields #[.ref Lst, .int 0 0] }).get? b = some o := fun b o e => Heap.get?_push_of_some _ (k2 _ _ (Heap.get?_push_of_some _ e))
  have hsz2 : s.heap.objs.size + 1 ≤ h2.objs.size := by
    have := hz2; rw [Heap.size_push] at this; exact this
  have hD1 : (h2.push { cls := .type "list_iterator", data := .fields #[.ref Lst, .int 0 0] }).DictOf (strKind prog w) s.heap.objs.size [] := (dictOf_at hnew fun o e => k2 _ o e).push _
  refine wpAny_pure ⟨plainId_quiet plain_upd_loop _, ?_⟩
  refine upd_loop (s := { s with heap := s.heap }) (A := A.in1) hh (D := s.heap.objs.size) (I := h2.objs.size) (L := Lst) (vs := vs) (qs := qs) (Nat.ne_of_lt hsz2) (Nat.ne_of_gt hltL) (Nat.ne_of_gt (Nat.lt_trans hltL hsz2)) hlen hz s.heap (fun h k => hp h fun b o e => k b o (Nat.ne_of_lt (Heap.lt_size e)) (Nat.ne_of_lt (Nat.lt_trans (Heap.lt_size e) hsz2)) e) ?_ vs.length 0 [] _ rfl hD1 ⟨_, Heap.get?_push_size _ rfl, rfl, rfl⟩ (hl2.push _) rfl (Nat.le_refl _) (fun b o _ _ e => kall b o e) ⟨_, _, rfl⟩ ?_ ?_
  · rintro s' kvs' hd rfl old ⟨h3, t3, rfl⟩ hsz htk
    refine ⟨rfl, ?_⟩
    rw [kst_map qs (by simpa using hnd)] at hd
    exact hQ h3 t3 (fun b o e => old b o (Nat.ne_of_lt (Heap.lt_size e)) (Nat.ne_of_lt (Nat.lt_trans (Heap.lt_size e) hsz2)) e) hsz htk hd
  · show s.heap.objs.size ≤ (h2.push _).objs.size
    rw [Heap.size_push]; omega
  · exact htk2
end
end Mine
end
section
open PySem PySem.W PyProof.Rows PySem.Calls PySem.Spec PySem.SeqAt
set_option linter.unusedVariables false
set_option maxRecDepth 100000
namespace Mine
section
variable {prog : Program} {w : World} {mg mb : Str → Option Value} {A : Around} {env : Env} {FP FP' M : Addr → Prop} {s t t' s₀ : Shared} {n : Nat} {X X' Y : Heap → Prop} {ρ ρ' : Str → Option PyData} {σ σ' : Str → Option Value} {rest body orelse : List Stmt} {d d1 da db : PyData} {e l r test iter : Expr} {x y : Str} {p p1 p2 p3 pos : Pos} {K : Flow → Shared → Prop} {E : Value → Shared → Prop} {ds : List PyData} {outer : List Env} {h0 : Heap}
/-! ## tests that act -/
structure Tstx (prog : Program) (w : World) (A : Around) (env : Env) (FP : Addr → Prop) (s : Shared) (n : Nat) (X : Heap → Prop) (ρ : Str → Option PyData) (σ : Str → Option Value) (e : Expr) (X' : Heap → Prop) (b : Bool) : Prop where
  go : ∀ t, Fx s env FP n ρ σ t → X t.heap → ∀ (E : Value → Shared → Prop) (Q : Bool → Shared → Prop), (∀ t', Fx s env FP n ρ σ t' → X' t'.heap → Q b t') → wpAny (model prog w) A (isTrue e env (eval e env)) Q E t
theorem tr_ifX (c : Bool) (h : Tstx prog w A env FP s n X ρ σ test X' c) (hr : Tr prog w A env FP s n X' ρ σ ((if c then body else orelse) ++ rest) K E) : Tr prog w A env FP s n X ρ σ (.If test body orelse pos :: rest) K E := ⟨fun t f x =>
  if_app (h.go t f x _ _ fun t' f' x' => hr.go t' f' x')⟩
theorem tstx_ne {c : Bool} (b : Bd A env FP n) (hX' : Ext env FP M n X') (hl : Evx prog w A env FP s n X ρ σ l X' da) (hr : ∀ t, Fx s env FP n ρ σ t → X' t.heap → Ev prog w A env FP t r db) (ha : shaped da = true) (hb : shaped db = true) (hc : (!PyData.eqv da db) = c)
    (hm : behindInMarks .NotEq r = false := by with_unfolding_all rfl) : Tstx prog w A env FP s n X ρ σ (.Compare l [.NotEq] [r] pos) X' c := ⟨fun t f x E Q hQ =>
  wpAny_isTrue_Compare1 (hl.go t f x _ _ fun va t1 f1 x1 r1 => (hr t1 f1 x1).go t1 (.refl t1) _ _ fun vb t2 st2 r2 =>
    (cmpNe (f1.cx b) ha hb) t2 va vb st2 (r1.kp st2.kp) r2 _ _ fun t3 st3 => wpAny_truthy_bool (hc ▸ hQ t3 (f1.stp (st2.trans st3)) (hX'.kp _ _ x1 (st2.trans st3).kp))) hm⟩
theorem tstx_orF {es : List Expr} {c : Bool} (h1 : Tstx prog w A env FP s n X ρ σ e X false) (h2 : Tstx prog w A env FP s n X ρ σ (.BoolOp .Or es pos) X c) : Tstx prog w A env FP s n X ρ σ (.BoolOp .Or (e :: es) pos) X c := ⟨fun t f x E Q hQ => by
  rw [arm_isTrue_BoolOp, arm_allTrue_cons]
  refine wpAny_bind (h1.go t f x _ _ fun t1 f1 x1 => ?_)
  have := h2.go t1 f1 x1 E Q hQ
  rw [arm_isTrue_BoolOp] at this
  exact this⟩
theorem tstx_orNil : Tstx prog w A env FP s n X ρ σ (.BoolOp .Or [] pos) X false := ⟨fun t f x E Q hQ => by
  rw [arm_isTrue_BoolOp, arm_allTrue_nil]
  exact wpAny_pure (hQ t f x)⟩
/-- the frame's own object changed in its slots alone -/
theorem Fx.slots {h' : Heap} {tk : Nat} (f : Fx s env FP n ρ σ t) (b : Bd A env FP n) (hk : ∀ c o, t.heap.get? c = some o → (isTab o = false ∨ c ≠ 77) → c ≠ env.locals → h'.get? c = some o) (hT : TabInv t.heap → TabInv h') (hu : t.heap.UpToSlots h') (hz : t.heap.objs.size ≤ h'.objs.size) (htk : t.toks ≤ tk) :
    Fx s env FP n ρ σ { t with heap := h', toks := tk } := by
  obtain ⟨m, cm, a, hh, g⟩ := f.ex
  have k' : ∀ c o, ¬ (c = env.locals ∨ ∃ o, t.heap.get? c = some o ∧ isTab o = true) → t.heap.get? c = some o → h'.get? c = some o := fun c o hb e => by
    refine hk c o e (.inl ?_) fun z => hb (.inl z)
    cases q : isTab o with
    | false => rfl
    | true => exact absurd (.inr ⟨o, e, q⟩) hb
  have off' : Off FP (fun c => c = env.locals ∨ ∃ o, t.heap.get? c = some o ∧ isTab o = true) t.heap := fun c o hb ho => by
    rcases hb with rfl | ⟨o', ho', q⟩
    · exact frame_off a b env.locals o (.head _) ho
    · rw [ho] at ho'; cases ho'
      have hc : o.cls = .none := by
        unfold isTab at q
        split at q
        · rename_i e _; exact e
        · cases q
      exact ⟨tupLike_cls (by rw [hc]; simp), .inl ⟨by rw [hc]; simp, by rw [hc]; simp⟩⟩
  refine ⟨⟨m, cm, ⟨⟨fun c o e nt => ?_, fun T => hT (a.kp.tab T), Nat.le_trans a.kp.size hz⟩, ?_, ?_, ?_, a.apart, a.above, a.fresh, a.look, Nat.le_trans a.tk htk⟩, ?_, g⟩, Nat.le_trans f.big hz⟩
  · exact hk c o (a.kp.keep c o e nt) nt fun z => Nat.lt_irrefl _ (Nat.lt_of_lt_of_le (Heap.lt_size e) (z ▸ a.fresh))
  · obtain ⟨h1, t1, rfl⟩ := a.rest; exact ⟨h', tk, rfl⟩
  · obtain ⟨o, es, ep, ho, hd, r1, r2⟩ := a.ns
    obtain ⟨sl, e⟩ := hu _ _ ho (by rw [hd]; simp)
    exact ⟨_, es, ep, e, hd, r1, r2⟩
  · intro y c e
    obtain ⟨o, ho, hd⟩ := a.cell y c e
    exact ⟨o, hk c o ho (.inl (isTab_data (by rw [hd]; simp))) (Nat.ne_of_gt (a.above y c (PySem.mem_of_lookup e))), hd⟩
  · intro x d e
    obtain ⟨v, kk, r⟩ := hh x d e
    exact ⟨v, kk, r.chg k' off'⟩
/-! ## shapes -/
noncomputable def shK (k : Nat) (d : PyData) : Prop := d.canLay0 = true ∧ d.depth ≤ k
theorem shK.sh {k : Nat} (h : shK k d) (hk : k ≤ 64 := by decide) : shaped d = true := by
  unfold shaped; rw [h.1, decide_eq_true (Nat.le_trans h.2 hk)]; rfl
theorem shK.le {k k' : Nat} (h : shK k d) (hk : k ≤ k' := by decide) : shK k' d := ⟨h.1, Nat.le_trans h.2 hk⟩
theorem shK_all {k : Nat} {xs : List PyData} (h : ∀ x ∈ xs, shK k x) : PyData.canLayAll0 xs = true ∧ PyData.depthAll xs ≤ k := by
  induction xs with
  | nil => exact ⟨rfl, Nat.zero_le _⟩
  | cons x r ih =>
    have h1 := h x (.head _)
    have h2 := ih fun y hy => h y (.tail _ hy)
    rw [PyData.canLayAll0, PyData.depthAll, h1.1, h2.1]
    exact ⟨rfl, Nat.max_le.mpr ⟨h1.2, h2.2⟩⟩
theorem shK_list {k : Nat} {xs : List PyData} (h : ∀ x ∈ xs, shK k x) : shK (k + 1) (.list xs) := by
  have := shK_all h
  exact ⟨by rw [PyData.canLay0]; exact this.1, by rw [PyData.depth]; exact Nat.succ_le_succ this.2⟩
theorem shK_tuple {k : Nat} {xs : List PyData} (h : ∀ x ∈ xs, shK k x) : shK (k + 1) (.tuple xs) := by
  have := shK_all h
  exact ⟨by rw [PyData.canLay0]; exact this.1, by rw [PyData.depth]; exact Nat.succ_le_succ this.2⟩
theorem shK_str {x : Str} (h : PyData.strOk x = true) : shK 0 (.str x) := ⟨by rw [PyData.canLay0]; exact h, by rw [PyData.depth]; exact Nat.le_refl _⟩
theorem eqv_self {k : Nat} (h : shK k d) : PyData.eqv d d = true := eqv_refl d h.1
/-! ## comprehensions stored under heap facts -/
theorem tr_assignC {elt : Expr} {gens : List Comprehension} {scope : Scope} {cp : Pos} {ds : List PyData} (Xm : Addr → Heap → Prop) (hin : ∀ C h h', X h → h.objs.size ≤ C → Kp h h' → Xm C h') (hout : ∀ C h, Xm C h → X h) (hext : ∀ C, n ≤ C → Ext env (fun b => FP b ∧ b ≠ C) noM C (Xm C)) (b : Bd A env FP n) (h : ∀ t, Fx s env FP n ρ σ t → X t.heap → CompOf prog w A env FP t (.ListComp elt gens scope cp) ds) (hr : Tr prog w A env FP s n X (put ρ x (.list ds)) σ rest K E)
    (hk : env.kindOf x = some .local) (hs : swapsWith (.ListComp elt gens scope cp) (some (.Name x p)) pos.line env = pure true := by rfl) (hσ : σ x = none := by rfl) :
    Tr prog w A env FP s n X ρ σ (.Assign [.Name x p] (.ListComp elt gens scope cp) pos :: rest) K E := ⟨fun t f xx => by
  refine wpAny_execs_cons ?_
  rw [exec_Assign_Name_used x p _ pos hs, arm_evalThenUse_ListComp]
  refine wpAny_bind (wpAny_standAt (wpAny_bind (wpAny_bind ((h t f xx).go (some (assign (.Name x p) env)) t (.refl t) _ _ fun h1 tk D C st hDC hD hC hns _ hr1 => ?_))))
  have hlo := f.toStp.kp.size
  have f1 := f.stp st
  have x1 := hin C _ _ xx hC st.kp
  obtain ⟨m, hm⟩ := hns
  have hCn : n ≤ C := Nat.le_trans f.big hC
  have hCfr : C ∉ frameOf' env := fun hm' => Nat.lt_irrefl _ (Nat.lt_of_lt_of_le (f.lt C hm') hC)
  have f2 : Fx s env (fun b => FP b ∧ b ≠ C) (C + 1) ρ σ { t with heap := h1, toks := tk } := by
    have f0 : Fx s env (fun b => FP b ∧ b ≠ C) t.heap.objs.size ρ σ t := f.mono (fun b hb hf => ⟨hf, fun e => Nat.lt_irrefl _ (Nat.lt_of_lt_of_le (e ▸ hb) hC)⟩) (Nat.le_refl _)
    exact (f0.stp st).mono (fun _ _ hb => hb) hm.lt
  have b2 : Bd A env (fun b => FP b ∧ b ≠ C) (C + 1) := ⟨fun b' hb => ⟨b.fp b' (Nat.le_trans f.big (Nat.le_trans hC (Nat.le_of_succ_le hb))), fun e => by subst e; exact Nat.lt_irrefl _ hb⟩, fun b' hb z => b.off b' hb z.1, b.hh, b.un, b.kind⟩
  have off1 := f2.off b2
  refine wpAny_assign_Name (store_name' b2 f2 hr1 (.inl hk) hσ fun t2 f3 keep => ?_)
  have x2 : Xm C t2.heap := (hext C hCn).ch _ _ (· ∈ frameOf' env) x1 (fun c hc => .inl hc) off1 keep
  have hm2 : t2.heap.Ns C m := by
    obtain ⟨o, es, ep, ho, r⟩ := hm
    exact ⟨o, es, ep, keep _ _ hCfr ho, r⟩
  refine ⟨m, hm2, fun h' hs' => ?_⟩
  have hk' : ∀ b o, b ∉ [C] → t2.heap.get? b = some o → h'.get? b = some o := fun b o hb e => hs'.extBut b o (fun e' => hb (by rw [e']; exact .head _)) e
  have hoc : ∀ b ∈ [C], ∀ o, t2.heap.get? b = some o → soft o = true ∧ ¬ tupLike o := fun b hb o ho => by
    obtain ⟨o2, es, ep, ho2, hd, _⟩ := hm2
    have ho' : t2.heap.get? C = some o := by rw [← List.mem_singleton.mp hb]; exact ho
    rw [ho2] at ho'; cases ho'
    exact ⟨soft_noFields (by rw [hd]; simp), tupLike_data (by rw [hd]; simp)⟩
  have f4 := f3.but (tk := t2.toks) hk' (fun b hb => ⟨by rw [List.mem_singleton.mp hb]; exact Nat.le_trans hlo hC, by rw [List.mem_singleton.mp hb]; exact hCfr, fun o ho => (hoc b hb o ho).1⟩)
    (fun b o hb ho => ⟨(hoc b hb o ho).2, .inr fun z => z.2 (List.mem_singleton.mp hb)⟩) (Nat.le_of_eq hs'.1.symm) (Nat.le_refl _)
  have f5 : Fx s env FP n (put ρ x (.list ds)) σ { t2 with heap := h' } := f4.mono (fun b _ hb => hb.1) (Nat.le_trans f.big (Nat.le_trans hC (Nat.le_of_succ_le f4.big)))
  have x5 : X h' := hout C _ ((hext C hCn).ch _ _ (· ∈ [C]) x2 (fun c hc => .inr (.inr (by rw [List.mem_singleton.mp hc]; exact Nat.le_refl _))) (fun b o hb ho => ⟨(hoc b hb o ho).2, .inr fun z => z.2 (List.mem_singleton.mp hb)⟩) hk')
  exact wpAny_pure (wpAny_pure (hr.go _ f5 x5))⟩
end
end Mine
end
section
open PySem PySem.W PyProof.Rows PySem.Calls PySem.Spec PySem.SeqAt
set_option linter.unusedVariables false
set_option maxRecDepth 100000
namespace Mine
section
variable {w : World} {mg mb : Str → Option Value} {A : Around} {env : Env} {FP FP0 FP' M : Addr → Prop} {s t t' s₀ sb : Shared} {n : Nat} {X X' Y : Heap → Prop} {ρ ρ' : Str → Option PyData} {σ σ' : Str → Option Value} {rest body orelse : List Stmt} {d d1 da db : PyData} {e e1 l r test iter : Expr} {x y : Str} {p p1 p2 p3 p4 p5 pos : Pos} {K : Flow → Shared → Prop} {E : Value → Shared → Prop} {ds : List PyData} {h0 : Heap} {a : LA} {text : List Nat} {pb : List Str}
/-- _law_read(e) -/
theorem evx_read {xs : Str} (F : Fly0 w mg mb A [] h0 s) (g : Gd w mg mb A FP0 s 4) (hL : env.frame = some env.locals) (b : Bd (A.deeper env) env FP n) (he : ∀ t, Fx s env FP n ρ σ t → Ev prog w (A.deeper env) env FP t e (.str xs)) (hx : xs.length ≤ 2000)
    (hg : env.kindOf "_law_read" = some .globalImplicit := by rfl) (hgl : env.globals = mainGlobals := by rfl) (hs : (starEach [e] env).all (fun x => !x.1) = true := by rfl) (hst : ∀ r, starEach (e :: r) env = (false, eval e env) :: starEach r env := by intro _; rfl) :
    Evx prog w (A.deeper env) env FP s n (fun _ => True) ρ σ (.Call (.Name "_law_read" p1) [e] [] p2) (fun _ => True) (readS xs) := ⟨fun t f _ E Q hQ => by
  have S' := g.S.kp f.toStp.kp
  refine wpAny_Call_NameR (load_gl b.kind (gl_fn (a := 125) S' rfl hg hgl) ?_ (by decide))
  obtain ⟨o8, c8, oc8, vs8, t8, e8, d8, _⟩ := (fnAt_read S').ex
  have hev : EvAll prog w (A.deeper env) env FP t [e] [.str xs] := evAll_cons (he t f) evAll_nil hst
  refine callWith_function (o := o8) (fd := fdK 125) (evalArgs_all hs (hev.go _ t (.refl t) _ _ fun vs t1 st1 r1 => ?_))
  obtain ⟨v1, rfl, r2⟩ := r1.one
  refine ⟨⟨st1.kp.at e8 (isTab_data (by rw [d8]; simp)), d8⟩, ?_⟩
  have f1 := f.stp st1
  obtain ⟨m, cm, act, _, _⟩ := f1.ex
  refine read_spec (F.in_ act hL b.kind) (g.body (.refl s) b f1) hx r2 fun v h' tk k T u hz htk rd => ?_
  refine hQ v _ (Fx.slots f1 b (fun c o e nt hne => k c o e nt fun hm => ?_) T u hz htk) trivial rd
  rw [frs_cons hL] at hm
  rcases List.mem_cons.mp hm with z | z
  · exact hne z
  · cases z⟩
/-- x[k] of a dict -/
theorem ev_ditem {D : Addr} {ks : List (Str × PyData)} {k : Str} (hk : env.scope.kind = .function) (nm : NameAt env s₀.heap x (.ref D)) (rd : RD prog w FP D ks s₀.heap) (h1 : Ev prog w A env FP' s₀ e1 (.str k)) (hd : dget ks k = some d)
    (hdb : (x == ("__debug__" : Str)) = false := by decide) (hcd : (x == ("__classdict__" : Str)) = false := by decide) (hp : plainIx e1 = true := by rfl) : Ev prog w A env FP s₀ (.Subscript (.Name x p1) e1 p2) d := ⟨fun s st E Q hQ => by
  refine Subscript_ (load_name hk (nm.kp st.kp) (h1.go s st _ _ fun vb s2 st2 r2 => ?_) hdb hcd)
  obtain ⟨tk, rfl⟩ := r2.strOpen
  obtain ⟨fD, hsys, kvs, hdct, hks, rv⟩ := (rd.kp st.kp).kp st2.kp
  obtain ⟨v, e, r⟩ := (rds_find k hks rv).1 d hd
  have st3 : Stp s2 { s2 with toks := s2.toks + 1 } := .toks _ _
  exact tail_any hdct.typeIs F.slot_dict_getitem.lookup (wpAny_getItem_of (strKind_is _ _ _ _) hdct.mapOf e (hQ v _ (st2.trans st3) r)) (subscripted_plain hp _ _)⟩
/-- a new list of one's own, not empty -/
theorem tr_newOwnL {lp : Pos} {es : List Expr} (X' : Addr → Heap → Prop) (b : Bd A env FP n) (hes : ∀ t, Fx s env FP n ρ σ t → X t.heap → EvAll prog w A env FP t es ds) (hz : ds.length ≤ sizeLine) (hX0 : ∀ h h', X h → Kp h h' → X h') (hX' : ∀ h h' D, X h → D = h.objs.size → Kp h h' → X' D h') (hXe : ∀ D, n ≤ D → Ext env (less FP D) M (D + 1) (X' D)) (hρ : ρ x = none)
    (hr : ∀ D, n ≤ D → s.heap.objs.size ≤ D → D ∉ frameOf' env → Bd A env (less FP D) (D + 1) → Tr prog w A env (less FP D) s (D + 1) (fun h => Own (less FP D) D ds h ∧ X' D h) ρ (putR σ x (.ref D)) rest K E)
    (hk : env.kindOf x = some .local ∨ (env.kindOf x = some .cell ∧ (env.cells.lookup x).isSome = true)) (hs : swapsWith (.List es lp) (some (.Name x p)) pos.line env = pure false := by rfl) :
    Tr prog w A env FP s n X ρ σ (.Assign [.Name x p] (.List es lp) pos :: rest) K E := ⟨fun t0 f0' x0 => by
  refine wpAny_execs_cons (wpAny_Assign_Name ?_ hs)
  refine List_ ((hes t0 f0' x0).go _ t0 (.refl t0) _ _ fun vs t st r => wpAny_newList ?_ (by have := r.length; rw [this]; exact hz))
  have f := f0'.stp st
  have x' := hX0 _ _ x0 st.kp
  have hDn : n ≤ t.heap.objs.size := f.big
  have hDfr : t.heap.objs.size ∉ frameOf' env := fun hm => Nat.lt_irrefl _ (f.lt _ hm)
  have b' := b.less (D := t.heap.objs.size) (n' := t.heap.objs.size + 1) (Nat.le_succ_of_le hDn) (Nat.lt_succ_self _)
  have f0 : Fx s env (less FP t.heap.objs.size) t.heap.objs.size ρ σ t := f.mono (fun c hc hf => ⟨hf, Nat.ne_of_lt hc⟩) (Nat.le_refl _)
  have f1 := (f0.stp (.push t { cls := .type "list", data := .seq vs.toArray })).mono (FP' := less FP t.heap.objs.size) (n' := t.heap.objs.size + 1) (fun _ _ h => h) (by show _ ≤ (t.heap.push _).objs.size; rw [Heap.size_push]; exact Nat.le_refl _)
  have own : Own (less FP t.heap.objs.size) t.heap.objs.size ds (t.heap.push { cls := .type "list", data := .seq vs.toArray }) := ⟨vs.toArray, ⟨_, Heap.get?_push_size _ rfl⟩, by
    have := (r.mono (FP' := less FP t.heap.objs.size) fun c hc hf => ⟨hf, Nat.ne_of_lt hc⟩).kp (Kp.push t.heap { cls := .type "list", data := .seq vs.toArray })
    simpa using this⟩
  have hE : Ext env (less FP t.heap.objs.size) noM (t.heap.objs.size + 1) (fun h => Own (less FP t.heap.objs.size) t.heap.objs.size ds h ∧ X' t.heap.objs.size h) :=
    (Own.ext hDfr (fun z => z) (Nat.lt_succ_self _)).and ((hXe _ hDn).le (fun _ h => nomatch h) (Nat.le_refl _))
  have x1 : X' t.heap.objs.size (t.heap.push { cls := .type "list", data := .seq vs.toArray }) := hX' _ _ _ x' rfl (.push _ _)
  refine store_any b' f1 (ρ' := ρ) (σ' := putR σ x (.ref t.heap.objs.size)) (fun y dy hy => ?_) (fun y u hy => ?_) hk fun t2 f2 keep => (hr _ hDn (Nat.le_trans f.toStp.kp.size (Nat.le_refl _)) hDfr b').go t2 f2 (hE.ch _ _ (· ∈ frameOf' env) ⟨own, x1⟩ (fun c hc => .inl hc) (f1.off b') keep)
  · by_cases e : y = x
    · rw [e, hρ] at hy; cases hy
    · exact .inr ⟨e, hy⟩
  · by_cases e : y = x
    · left
      rw [putR, if_pos e] at hy
      cases hy
      exact ⟨e, rfl⟩
    · right
      rw [putR, if_neg e] at hy
      exact ⟨e, hy⟩⟩
/-! ## dict(pairs) -/
theorem pairs_open {h : Heap} : ∀ {vs : List Value} {ks : List (Str × PyData)}, Rds FP h vs (ks.map fun q => .tuple [.str q.1, q.2]) → ∃ qs : List (Str × Value), vs.length = qs.length ∧ qs.map (·.1) = ks.map (·.1) ∧ Rds FP h (qs.map (·.2)) (ks.map (·.2)) ∧
    ∀ (j : Nat) (v : Value) (q : Str × Value), vs[j]? = some v → qs[j]? = some q → PairAt h v q
  | [], [], _ => ⟨[], rfl, rfl, .nil, fun j v q e => by simp at e⟩
  | [], _ :: _, ⟨_, r, _⟩ => nomatch r
  | _ :: _, [], ⟨_, r, _⟩ => nomatch r
  | v :: vs, k :: ks, r => by
    obtain ⟨r1, r2⟩ := r.uncons
    obtain ⟨qs, e1, e2, e3, e4⟩ := pairs_open r2
    obtain ⟨pa, ws, rfl, ht, rw'⟩ := r1.tupleOpen
    obtain ⟨v1, v2, rfl, q1, q2⟩ := rw'.two
    obtain ⟨t, rfl⟩ := q1.strOpen
    refine ⟨(k.1, v2) :: qs, by simp [e1], by simp [e2], .cons q2 e3, fun j v q h1 h2 => ?_⟩
    cases j with
    | zero => simp at h1 h2; subst h1; subst h2; exact ⟨pa, t, rfl, by simpa using ht⟩
    | succ j => exact e4 j v q (by simpa using h1) (by simpa using h2)
theorem PairAt.keep {h h' : Heap} {v : Value} {q : Str × Value} (x : PairAt h v q) (k : ∀ b o, h.get? b = some o → h'.get? b = some o) : PairAt h' v q := by
  obtain ⟨a, t, e, o, ho, r⟩ := x
  exact ⟨a, t, e, o, k _ _ ho, r⟩
theorem tr_dict {elt : Expr} {gens : List Comprehension} {scope : Scope} {cp : Pos} {ks : List (Str × PyData)} (b : Bd A env FP n) (S : ∀ t, Fx s env FP n ρ σ t → Stat w mg mb t.heap) (h : ∀ t, Fx s env FP n ρ σ t → CompOf prog w A env FP t (.ListComp elt gens scope cp) (ks.map fun q => .tuple [.str q.1, q.2])) (hz : ks.length ≤ 1000) (hnd : (ks.map (·.1)).Nodup) (hρ : ρ x = none)
    (hr : ∀ D, Tr prog w A env FP s n (RD prog w FP D ks) ρ (putR σ x (.ref D)) rest K E) (hg : env.kindOf "dict" = some .globalImplicit := by rfl) (hgl : env.globals = mainGlobals := by rfl) (hbi : env.builtins = builtinsNs := by rfl)
    (hk : env.kindOf x = some .local ∨ (env.kindOf x = some .cell ∧ (env.cells.lookup x).isSome = true)) (hs : swapsWith (.Call (.Name "dict" p1) [.ListComp elt gens scope cp] [] p2) (some (.Name x p)) pos.line env = pure false := by rfl) :
    Tr prog w A env FP s n (fun _ => True) ρ σ (.Assign [.Name x p] (.Call (.Name "dict" p1) [.ListComp elt gens scope cp] [] p2) pos :: rest) K E := ⟨fun t f _ => by
  refine wpAny_execs_cons (wpAny_Assign_Name (wpAny_Call_NameR (load_gl b.kind (gl_bi (v := .type "dict") (S t f) rfl (by decide +kernel) (by decide) hg hgl hbi) ?_ (by decide))) hs)
  refine PySem.callWith_type rfl (evalArgs_all rfl (spliced_cons (pl_of_comp (h t f) t (.refl t) _ _ fun L t1 st1 hpl r1 => spliced_nil ?_)))
  obtain ⟨ys, hpl⟩ := hpl
  obtain ⟨a', vs', e', hL, rv, fL⟩ := r1.listOpen
  cases e'
  have ey : ys = vs'.toArray := by
    obtain ⟨n1, e1⟩ := hpl
    obtain ⟨o2, e2, _, n2, d2⟩ := hL
    rw [e1] at e2; cases e2
    simp at d2; exact d2.1
  subst ey
  obtain ⟨qs, q1, q2, q3, q4⟩ := pairs_open rv
  have hlq : qs.length = ks.length := by have := congrArg List.length q2; simpa using this
  refine call_dict b.hh hpl q1 (by omega) (by rw [q2]; exact hnd) (fun h k j v q h1 h2 => (q4 j v q h1 h2).keep k) fun h' tk k hsz htk hd => ?_
  have st2 : Stp t1 { t1 with heap := h', toks := tk } := .mk' (.of k hsz) htk
  have f2 := (f.stp st1).stp st2
  have hfD : FP t1.heap.objs.size := b.fp _ (f.stp st1).big
  have rd : RD prog w FP t1.heap.objs.size ks h' := ⟨hfD, sysMod (S t f) st1.kp.size, qs, hd, q2, q3.kp st2.kp⟩
  refine store_any b f2 (ρ' := ρ) (σ' := putR σ x (.ref t1.heap.objs.size)) (fun y dy hy => ?_) (fun y u hy => ?_) hk fun t3 f3 keep => (hr _).go t3 f3 ((RD.ext (M := noM) (n := 0)).ch _ _ (· ∈ frameOf' env) rd (fun c hc => .inl hc) (f2.off b) keep)
  · by_cases e : y = x
    · rw [e, hρ] at hy; cases hy
    · exact .inr ⟨e, hy⟩
  · by_cases e : y = x
    · left
      rw [putR, if_pos e] at hy
      cases hy
      exact ⟨e, rfl⟩
    · right
      rw [putR, if_neg e] at hy
      exact ⟨e, hy⟩⟩
end
end Mine
end
section
open PySem PySem.W PyProof.Rows PySem.Calls PySem.Spec PySem.SeqAt
set_option linter.unusedVariables false
set_option maxRecDepth 100000
namespace Mine
section
variable {w : World} {mg mb : Str → Option Value} {A : Around} {env : Env} {FP FP0 FP' M : Addr → Prop} {s t t' s₀ sb : Shared} {n : Nat} {X X' Y : Heap → Prop} {ρ ρ' : Str → Option PyData} {σ σ' : Str → Option Value} {rest body orelse : List Stmt} {d d1 da db : PyData} {e e1 l r test iter : Expr} {x y : Str} {p p1 p2 p3 p4 p5 pos : Pos} {K : Flow → Shared → Prop} {E : Value → Shared → Prop} {ds : List PyData} {h0 : Heap} {a : LA} {text : List Nat} {pb : List Str}
noncomputable abbrev off3 (FP : Addr → Prop) (a : LA) : Addr → Prop := fun b => FP b ∧ b ∉ a.mut
/-- the ground of a block that holds a lexer -/
structure HL (env : Env) (FP : Addr → Prop) (s : Shared) (n : Nat) (a : LA) : Prop where
  off : ∀ b ∈ a.all, b ∉ frameOf' env
  lt : ∀ b ∈ a.all, b < n
  low : ∀ b ∈ a.mut, s.heap.objs.size ≤ b
  nofp : ∀ b ∈ a.mut, ¬ FP b
/-- x = _law_lexer(e) -/
theorem tr_lexer {ys : Str} (b : Bd A env FP n) (S : Stat w mg mb s.heap) (room : Room A 4) (hX : Ext env FP noM n X) (he : ∀ t, Fx s env FP n ρ σ t → X t.heap → Ev prog w A env FP t e (.str ys)) (hys : ys.cps.size ≤ 4000) (hρ : ρ x = none)
    (X' : LA → Heap → Prop) (hX' : ∀ h h' a, X h → (∀ b ∈ a.mut, h.objs.size ≤ b) → Kp h h' → X' a h') (hXe : ∀ a m, n ≤ m → Ext env (off3 FP a) noM m (X' a))
    (hr : ∀ a m, n ≤ m → Bd A env (off3 FP a) m → HL env (off3 FP a) s m a → Tr prog w A env (off3 FP a) s m (fun h => Lex a ys.cps.toList [] h ∧ X' a h) ρ (putR σ x (.ref a.L)) rest K E)
    (hg : env.kindOf "_law_lexer" = some .globalImplicit := by rfl) (hgl : env.globals = mainGlobals := by rfl) (hs1 : (starEach [e] env).all (fun x => !x.1) = true := by rfl) (hst : ∀ r, starEach (e :: r) env = (false, eval e env) :: starEach r env := by intro _; rfl)
    (hk : env.kindOf x = some .local ∨ (env.kindOf x = some .cell ∧ (env.cells.lookup x).isSome = true)) (hs : swapsWith (.Call (.Name "_law_lexer" p1) [e] [] p2) (some (.Name x p)) pos.line env = pure false := by rfl) :
    Tr prog w A env FP s n X ρ σ (.Assign [.Name x p] (.Call (.Name "_law_lexer" p1) [e] [] p2) pos :: rest) K E := ⟨fun t f xx => by
  have S' := S.kp f.toStp.kp
  refine wpAny_execs_cons (wpAny_Assign_Name (wpAny_Call_NameR (load_gl b.kind (gl_fn (a := 82) S' rfl hg hgl) ?_ (by decide))) hs)
  obtain ⟨o8, c8, oc8, vs8, t8, e8, d8, _⟩ := (fnAt_lexer S').ex
  have hev : EvAll prog w A env FP t [e] [.str ys] := evAll_cons (he t f xx) evAll_nil hst
  refine callWith_function (o := o8) (fd := fdK 82) (evalArgs_all hs1 (hev.go _ t (.refl t) _ _ fun vs t1 st1 r1 => ?_))
  obtain ⟨v1, rfl, r2⟩ := r1.one
  obtain ⟨tk, rfl⟩ := r2.strOpen
  refine ⟨⟨st1.kp.at e8 (isTab_data (by rw [d8]; simp)), d8⟩, ?_⟩
  have f1 := f.stp st1
  have x1 := hX.kp _ _ xx st1.kp
  refine lexer_spec (S'.kp st1.kp) room hys fun a t2 st2 hlow x2 => ?_
  have f2 := f1.stp st2
  have hall := lex_off x2 f2 hlow f1.lt
  have hn2 : n ≤ t2.heap.objs.size := f2.big
  have b2 : Bd A env (off3 FP a) t2.heap.objs.size := ⟨fun c hc => ⟨b.fp c (Nat.le_trans hn2 hc), fun z => Nat.lt_irrefl _ (Nat.lt_of_lt_of_le (x2.lt c (mut_all z)) hc)⟩, fun c hc z => b.off c hc z.1, b.hh, b.un, b.kind⟩
  have f3 : Fx s env (off3 FP a) t2.heap.objs.size ρ σ t2 := by
    have f1' : Fx s env (off3 FP a) t1.heap.objs.size ρ σ t1 := f1.mono (fun c hc hf => ⟨hf, fun z => Nat.lt_irrefl _ (Nat.lt_of_lt_of_le hc (hlow c (mut_made z)))⟩) (Nat.le_refl _)
    exact (f1'.stp st2).mono (fun _ _ h => h) (Nat.le_refl _)
  have hl : HL env (off3 FP a) s t2.heap.objs.size a := ⟨hall, x2.lt, fun c hc => Nat.le_trans f1.toStp.kp.size (hlow c (mut_made hc)), fun c hc z => z.2 hc⟩
  have x3 : X' a t2.heap := hX' _ _ a x1 (fun c hc => hlow c (mut_made hc)) st2.kp
  refine store_any b2 f3 (ρ' := ρ) (σ' := putR σ x (.ref a.L)) (fun y dy hy => ?_) (fun y u hy => ?_) hk fun t4 f4 keep => (hr a _ hn2 b2 hl).go t4 f4 ⟨x2.at fun c hc o e _ => keep c o (hall c hc) e, (hXe a _ hn2).ch _ _ (· ∈ frameOf' env) x3 (fun c hc => .inl hc) (f3.off b2) keep⟩
  · by_cases e : y = x
    · rw [e, hρ] at hy; cases hy
    · exact .inr ⟨e, hy⟩
  · by_cases e : y = x
    · left
      rw [putR, if_pos e] at hy
      cases hy
      exact ⟨e, rfl⟩
    · right
      rw [putR, if_neg e] at hy
      exact ⟨e, hy⟩⟩
/-- _law_rounds(line, rules) -/
theorem evx_rounds {Dr : Addr} {ks : List (Str × List Str)} {x2 : Str} (b : Bd A env FP n) (S : Stat w mg mb s.heap) (room : Room A 6) (g : HL env FP s n a) (hx : σ x = some (.ref a.L)) (hx2 : σ x2 = some (.ref Dr)) (hkk : okK ks) (hpb : pb.length ≤ 1000) (ht : text.length ≤ 4000) (hY : Ext env FP (MM a) n Y)
    (hd : (x == ("__debug__" : Str)) = false := by decide) (hn : (x == ("__classdict__" : Str)) = false := by decide) (hd2 : (x2 == ("__debug__" : Str)) = false := by decide) (hn2 : (x2 == ("__classdict__" : Str)) = false := by decide)
    (hg : env.kindOf "_law_rounds" = some .globalImplicit := by rfl) (hgl : env.globals = mainGlobals := by rfl) :
    Evx prog w A env FP s n (fun h => Lex a text pb h ∧ RD prog w FP Dr (ksD ks) h ∧ Y h) ρ σ (.Call (.Name "_law_rounds" p1) [.Name x p2, .Name x2 p3] [] p4)
      (fun h => Lex a (rounds ks (text, pb) 4).2.2.1 (rounds ks (text, pb) 4).2.2.2 h ∧ RD prog w FP Dr (ksD ks) h ∧ Y h) (.list (linesD (rounds ks (text, pb) 4).1)) := ⟨fun t f xx E Q hQ => by
  have S' := S.kp f.toStp.kp
  refine wpAny_Call_NameR (load_gl b.kind (gl_fn (a := 137) S' rfl hg hgl) ?_ (by decide))
  obtain ⟨o8, c8, oc8, vs8, t8, e8, d8, _⟩ := (fnAt_rounds S').ex
  refine callWith_function (o := o8) (fd := fdK 137) (evalArgs_all rfl (spliced_cons (load_name b.kind (f.raw hx) (spliced_cons (load_name b.kind (f.raw hx2) (spliced_nil ⟨⟨e8, d8⟩, ?_⟩) hd2 hn2)) hd hn)))
  refine rounds_spec (FP := FP) ⟨S, room, f.toStp, g.low, xx.1, ht⟩ (f.cx b).fp g.nofp xx.2.1 hkk hpb fun v s' af x' rd => ?_
  have hz : Ext env FP (MM a) n (fun h => RD prog w FP Dr (ksD ks) h ∧ Y h) := RD.ext.and hY
  exact hQ v s' (Fx.after f af (fun c hc => g.off c (mut_all hc)) fun c hc => ⟨g.nofp c hc, nottup xx.1 c hc⟩) ⟨x', hz.after xx.2 S' xx.1 g.nofp af⟩ rd⟩
/-- x.get_token() == '' -/
theorem tr_retTok {c : Bool} (b : Bd A env FP n) (S : Stat w mg mb s.heap) (room : Room A 5) (g : HL env FP s n a) (hx : σ x = some (.ref a.L)) (hpb : pb.length ≤ 1000) (ht : text.length ≤ 4000) (hc : (ls (getTok text pb).1 == ls (Str.ofString "")) = c) (hX : ∀ h, X h → Lex a text pb h)
    (hK : ∀ t, Stp s t → K (.ret (.bool c)) t) {pl : Sem Bool} (hd : (x == ("__debug__" : Str)) = false := by decide) (hn : (x == ("__classdict__" : Str)) = false := by decide)
    (he : eval (.Call (.Attribute (.Name x p1) "get_token" p2) [] [] p3) env = (do
      let ov ← eval (.Name x p1) env
      standAt p2.atName
      let (f, first) ← holding [ov] (getMethod ov "get_token" pl)
      callWith p3 f first (backTo p3 (starEach [] env)) []) := by rfl) :
    Tr prog w A env FP s n X ρ σ (.Return (some (.Compare (.Call (.Attribute (.Name x p1) "get_token" p2) [] [] p3) [.Eq] [.Constant (.str (Str.ofString "")) 0 p4] p5)) pos :: rest) K E := ⟨fun t f xx => by
  refine wpAny_execs_cons (wpAny_Return_some (wpAny_Compare1 (eval_gt b.kind (f.raw hx) ⟨S, room, f.toStp, g.low, hX _ xx, ht⟩ (Nat.le_trans hpb (by decide)) (fun tk t' af x' => ?_) hd hn he) (by with_unfolding_all rfl)))
  refine (ev_str : Ev prog w A env FP t' _ _).go t' (.refl t') _ _ fun vb t2 st2 r2 => ?_
  obtain ⟨tb, rfl⟩ := r2.strOpen
  have f2 := (Fx.after f af (fun c hc => g.off c (mut_all hc)) fun c hc => ⟨g.nofp c hc, nottup (hX _ xx) c hc⟩).stp st2
  exact P.eq_str (hc ▸ hK t2 f2.toStp)⟩
end
end Mine
end
section
open PySem PySem.W PyProof.Rows PySem.Calls PySem.Spec PySem.SeqAt
set_option linter.unusedVariables false
set_option maxRecDepth 100000
namespace Mine
noncomputable def lawN (sc : List Int) : List Int := sc.take 5 ++ ([483, 308, 2189, 1, 7] : List Int).drop (sc.take 5).length
noncomputable def mns (hd : Int) : List Int := (List.range 3).map fun (v : Nat) => (hd.fdiv 10 + (v : Int)).fmod 3
noncomputable def drL (ns : List Int) : List (List Int) := ns.map fun n => (drawn n).map (·.1)
noncomputable def rowAt (hd : Int) (ns : List Int) (v : Int) : List Int := [(drL ns).getD v.toNat [], 3 :: (drL ns).getD v.toNat [], (drL ns).getD v.toNat [] ++ [3]].getD ((mns hd).getD v.toNat 0).toNat []
noncomputable def rowsL (hd : Int) (ns : List Int) : List (List Int) := ((List.range 3).map fun (v : Nat) => rowAt hd ns v) ++ [[3]]
noncomputable def tailsL : List Str := [S "", S ",", S ",\"z=w\"=x,=w", S ",z=", S ", ", S ",z=,z", S ",z,z=", S ",\"", S ",z=\"", S ",z=,z=w"]
noncomputable def endsL (due : List (Str × Str)) : List PyData := [pairs due, pairs due, pairs (due ++ [(S "\"z", S "w\"=x"), (S "", S "w")]), .str (S "IndexError"), .str (S "ValueError"), .str (S "IndexError"), .str (S "ValueError"), .str (S "ValueError"), pairs (due ++ [(S "z", S "")]), .str (S "IndexError")]
noncomputable def lw1 (hd st : Int) (ns : List Int) : List (Str × PyData) := [("head", .int hd), ("start", .int st), ("names", .list (nm.map .str)), ("rows", rowsD (rowsL hd ns)), ("header", .str (headerOf hd ns (mns hd))), ("due", pairs (dueOf hd ns (mns hd))), ("tails", .list (tailsL.map .str)), ("ends", .list (endsL (dueOf hd ns (mns hd))))]
theorem mns_len (hd : Int) : (mns hd).length = 3 := by simp [mns]
theorem mns_get (hd : Int) {v : Nat} (h : v < 3) : 0 ≤ (mns hd).getD v 0 ∧ (mns hd).getD v 0 < 3 := by
  unfold mns
  rw [List.getD_eq_getElem?_getD, List.getElem?_map, List.getElem?_range h]
  exact ⟨fm0 _ _, fm1 _ _⟩
theorem due_len (hd : Int) (ns ms : List Int) : (dueOf hd ns ms).length ≤ 4 := by
  unfold dueOf
  rw [List.length_map, List.length_append]
  have := List.length_filter_le (fun v => decide (v ≠ firstOf hd)) (orderOf hd)
  rw [order_len] at this
  show 1 + _ ≤ 4
  omega
noncomputable abbrev lwEnv (L : Addr) : Env := callEnvC (fdK 149) L 149
section
variable {w : World} {mg mb : Str → Option Value} {A : Around} {FP FP0 FP' M : Addr → Prop} {s t t' s₀ sb : Shared} {n : Nat} {L : Addr} {K : Flow → Shared → Prop} {E : Value → Shared → Prop} {p1 p2 pos : Pos}
theorem pairs_add {env : Env} {l r : Expr} {as bs : List (Str × Str)} (c : Cx A env FP s₀) (hl : Ev prog w A env FP s₀ l (pairs as)) (hr : Ev prog w A env FP s₀ r (pairs bs)) (hz : as.length + bs.length ≤ 1000) : Ev prog w A env FP s₀ (.BinOp l .Add r pos) (pairs (as ++ bs)) := by
  unfold pairs at *
  rw [List.map_append]
  exact ev_addL c hl hr (by rw [List.length_map, List.length_map, sizeLine_eq]; omega)
/-- a local name stored: a token is spent -/
theorem store_pos {env : Env} {ρ ρ' : Str → Option PyData} {σ σ' : Str → Option Value} {x : Str} {v : Value} {Q : Unit → Shared → Prop} (b : Bd A env FP n) (f : Fx s env FP n ρ σ t)
    (hρ : ∀ y dy, ρ' y = some dy → (y = x ∧ Rd FP t.heap v dy) ∨ (y ≠ x ∧ ρ y = some dy)) (hσ : ∀ y u, σ' y = some u → (y = x ∧ u = v) ∨ (y ≠ x ∧ σ y = some u))
    (hk : env.kindOf x = some .local) (hQ : ∀ t', Fx s env FP n ρ' σ' t' → 1 ≤ t'.toks → Q () t') : wpAny (model prog w) A (storeName env x v) Q E t := by
  obtain ⟨m, cm, a, h, g⟩ := f.ex
  obtain ⟨h0, tk0, ht⟩ := a.rest
  refine with_tk (with_size (wpAny_storeName_local hk a.ns (fun h' hn hs hz htk => ?_) (by rw [b.kind]; rfl)))
  have k' : ∀ c o, c ∉ [env.locals] → t.heap.get? c = some o → h'.get? c = some o := fun c o hc e => hs.extBut c o (fun e' => hc (by rw [e']; exact .head _)) e
  have k'' : ∀ c o, ¬ c ∈ frameOf' env → t.heap.get? c = some o → h'.get? c = some o := fun c o hc e => k' c o (fun hm => hc (by rw [List.mem_singleton.mp hm]; exact .head _)) e
  refine hQ _ ⟨⟨_, cm, ⟨?_, ?_, hn, ?_, a.apart, a.above, a.fresh, a.look, Nat.le_trans a.tk htk⟩, ?_, ?_⟩, Nat.le_trans f.big hz⟩ (Nat.le_add_left 1 _)
  · exact a.kp.but k' (fun c hc => by rw [List.mem_singleton.mp hc]; exact a.fresh) (fun c hc o ho => frame_soft a c (by rw [List.mem_singleton.mp hc]; exact .head _) o ho) (Nat.le_trans a.kp.size hz)
  · subst ht; exact ⟨h', _, rfl⟩
  · intro y c e
    exact (a.cell y c e).sameBut hs (Nat.ne_of_gt (a.above y c (PySem.mem_of_lookup e)))
  · intro y dy hy
    rcases hρ y dy hy with ⟨e, r⟩ | ⟨e, hy⟩
    · exact ⟨v, .inl ⟨e ▸ hk, by simp [e]⟩, r.chg k'' (frame_off a b)⟩
    · obtain ⟨u, ku, ru⟩ := h y dy hy
      refine ⟨u, ?_, ru.chg k'' (frame_off a b)⟩
      rcases ku with ⟨k1, k2⟩ | k1
      · exact .inl ⟨k1, by simpa [e] using k2⟩
      · exact .inr k1
  · intro y u hy
    rcases hσ y u hy with ⟨e, e'⟩ | ⟨e, hy⟩
    · exact .inl ⟨e ▸ hk, by simp [e, e']⟩
    · rcases g y u hy with ⟨k1, k2⟩ | k1
      · exact .inl ⟨k1, by simpa [e] using k2⟩
      · exact .inr k1
theorem law_p0 {sc : List Int} {hd st n0 n1 n2 : Int} (S : Stat w mg mb s.heap) (b : Bd (A.deeper (lwEnv L)) (lwEnv L) FP n) (hsc : sc.length ≤ sizeLine) (hN : lawN sc = [hd, st, n0, n1, n2]) {t : Shared} (f : Fx s (lwEnv L) FP n (al [("script", .list (sc.map .int))]) noRaw t)
    (hr : ∀ t', Fx s (lwEnv L) FP n (al [("numbers", .list [.int hd, .int st, .int n0, .int n1, .int n2])]) noRaw t' → 1 ≤ t'.toks → wpAny (model prog w) (A.deeper (lwEnv L)) (execs ((bodyK 149).drop 1) (lwEnv L)) K E t') :
    wpAny (model prog w) (A.deeper (lwEnv L)) (execs (bodyK 149) (lwEnv L)) K E t := by
  have e : [PyData.int hd, .int st, .int n0, .int n1, .int n2] = (sc.map PyData.int).take 5 ++ ([.int 483, .int 308, .int 2189, .int 1, .int 7] : List PyData).drop ((sc.map PyData.int).take 5).length := by
    have := congrArg (List.map PyData.int) hN
    unfold lawN at this
    rw [List.map_append, List.map_take, List.map_drop] at this
    rw [List.length_take, List.length_map] at *
    exact this.symm
  have c := f.cx b
  have z := f.sees
  refine wpAny_execs_cons (wpAny_Assign_Name (Gives.go (FP := FP) (d := .list [PyData.int hd, .int st, .int n0, .int n1, .int n2]) (s₀ := t) ?ev t (.refl t) _ _ fun v t1 st1 r1 => ?rest) rfl)
  case ev =>
    have up : ∀ {q1 q2 q3 q4 : Pos} {k : Nat}, Ev prog w (A.deeper (lwEnv L)) (lwEnv L) FP t (.Subscript (.Name "script" q1) (.Slice none (some (.Constant (.int 5) k q2)) none q3) q4) (.list ((sc.map PyData.int).take 5)) := fun {q1 q2 q3 q4 k} => ev_upto (n := 5) c (ev_name c z rfl) ev_int (by rw [List.length_map]; exact hsc)
    rw [e]
    refine ev_addL c up (ev_from (n := ((sc.map PyData.int).take 5).length) c (ev_list c (evAll_cons ev_int (evAll_cons ev_int (evAll_cons ev_int (evAll_cons ev_int (evAll_cons ev_int evAll_nil))))) (by show 5 ≤ sizeLine; decide)) (ev_callB c (gl_bi (v := .builtin "len") (S.kp f.toStp.kp) rfl (by decide +kernel) (by decide) rfl rfl rfl) (evAll_cons up evAll_nil) (call_len ?_)) (by show 5 ≤ sizeLine; decide)) ?_
    · rw [List.length_take]; have := Nat.min_le_left 5 (sc.map PyData.int).length; omega
    · rw [List.length_take, List.length_drop, List.length_map]; show min 5 sc.length + (5 - min 5 sc.length) ≤ sizeLine
      have := Nat.min_le_left 5 sc.length
      have : (5 : Nat) ≤ sizeLine := by decide
      omega
  case rest =>
    have f1 := f.stp st1
    obtain ⟨m, cm, a, _, _⟩ := f1.ex
    refine store_pos (ρ' := al [("numbers", .list [.int hd, .int st, .int n0, .int n1, .int n2])]) (σ' := noRaw) b f1 (fun y dy hy => ?_) (fun y u hy => nomatch hy) rfl fun t2 f2 htk => hr t2 f2 htk
    unfold al at hy
    rw [List.lookup_cons] at hy
    cases hb : y == ("numbers" : Str) with
    | true => rw [hb] at hy; cases hy; exact .inl ⟨beq_iff_eq.mp hb, r1⟩
    | false => rw [hb] at hy; cases hy
set_option maxHeartbeats 2000000 in
theorem law_p1 {hd st n0 n1 n2 : Int} (g : Gd w mg mb A FP0 s 8) (b : Bd (A.deeper (lwEnv L)) (lwEnv L) FP n)
    (hr : Tr prog w (A.deeper (lwEnv L)) (lwEnv L) FP s n (fun _ => True) (al (lw1 hd st [n0, n1, n2])) noRaw ((bodyK 149).drop 9) K E) :
    Tr prog w (A.deeper (lwEnv L)) (lwEnv L) FP s n (fun _ => True) (al [("numbers", .list [.int hd, .int st, .int n0, .int n1, .int n2])]) noRaw ((bodyK 149).drop 1) K E := by
  have hXT : Ext (lwEnv L) FP noM n (fun _ => True) := Ext.true
  have G : ∀ {t ρ σ}, Fx s (lwEnv L) FP n ρ σ t → Gd w mg mb (A.deeper (lwEnv L)) FP t 7 := fun f => g.body (.refl s) b f
  refine tr_unpackL2 (d1 := .int hd) (d2 := .int st) hXT b (fun t f _ => ev_upto (n := 2) (ds := [.int hd, .int st, .int n0, .int n1, .int n2]) (f.cx b) (ev_name (f.cx b) f.sees rfl) ev_int (by show 5 ≤ sizeLine; decide)) ?_ (.inr ⟨rfl, rfl⟩) (.inl rfl)
  refine tr_assign (d1 := .list (nm.map .str)) hXT b (fun t f _ => names_at ((G f).le (by decide)) (f.cx b)) ?_ (.inr ⟨rfl, rfl⟩)
  have hr3 : ∀ {i : Nat} {v : Nat}, (List.range 3)[i]? = some v → v < 3 := fun {i v} h => by
    have := List.mem_of_getElem? h
    simpa using this
  refine tr_assign (d1 := .list ((mns hd).map .int)) hXT b (fun t f _ => ?_) ?_ (.inr ⟨rfl, rfl⟩)
  · have e : (mns hd).map PyData.int = ((List.range 3).map fun i : Nat => PyData.int (i : Int)).map (onI fun v => .int ((hd.fdiv 10 + v).fmod 3)) := by unfold mns; rw [List.map_map, List.map_map]; rfl
    rw [e]
    refine ev_map1 (f.cx b) f.sees (range3 (G f).S (f.cx b) 3 (by decide)) (by simpa using three_le) ["head"] _ rfl (vis_cons vis_nil) ?_
    intro i d hd C FP2 s2 st2 hf2 cx zz
    obtain ⟨v, hv, rfl⟩ := get_map hd
    exact ev_modI (ev_addI (ev_divI (ev_name cx zz rfl) ev_int) (ev_name cx zz rfl)) ev_int
  refine tr_assign (d1 := .list ((drL [n0, n1, n2]).map fun l => .list (l.map .int))) hXT b (fun t f _ => ?_) ?_ (.inr ⟨rfl, rfl⟩)
  · have e : (drL [n0, n1, n2]).map (fun l => PyData.list (l.map .int)) = [PyData.int n0, .int n1, .int n2].map (onI fun n => .list (((drawn n).map (·.1)).map .int)) := by unfold drL; rw [List.map_map]; rfl
    rw [e]
    refine ev_map1 (f.cx b) f.sees (iter_list (f.cx b) (ev_from (n := 2) (ds := [.int hd, .int st, .int n0, .int n1, .int n2]) (f.cx b) (ev_name (f.cx b) f.sees rfl) ev_int (by show 5 ≤ sizeLine; decide))) (by show 3 ≤ sizeLine; decide) [] _ rfl vis_nil ?_
    intro i d hd C FP2 s2 st2 hf2 cx zz
    obtain ⟨v, hv, rfl⟩ : ∃ v, [n0, n1, n2][i]? = some v ∧ d = .int v := get_map (l := [n0, n1, n2]) (g := PyData.int) hd
    have g2 := ((G f).comp st2 cx).le (k' := 1) (by decide)
    have e2 : ((drawn v).map (·.1)).map PyData.int = ((drawn v).map fun q => (PyData.int q.1, PyData.int q.2)).map (fun q => q.1) := by rw [List.map_map, List.map_map]; rfl
    show Ev prog w _ _ FP2 s2 _ (.list (((drawn v).map (·.1)).map .int))
    rw [e2]
    refine ev_map2 cx zz (iter_list cx (drawn_at g2 cx (ev_name cx zz rfl))) (by simpa using Nat.le_trans (drawn_len v) two_le) [] _ rfl vis_nil ?_
    intro j q hq C3 FP3 s3 st3 hf3 cx3 zz3
    exact ev_name cx3 zz3 rfl
  have hdr : ∀ {v : Nat}, v < 3 → ((drL [n0, n1, n2]).map fun l => PyData.list (l.map .int))[((v : Int)).toNat]? = some (.list (((drL [n0, n1, n2]).getD ((v : Int)).toNat []).map .int)) ∧ ((drL [n0, n1, n2]).getD ((v : Int)).toNat []).length ≤ 2 := fun {v} hv => by
    match v, hv with
    | 0, _ => exact ⟨rfl, by show ((drawn n0).map (·.1)).length ≤ 2; rw [List.length_map]; exact drawn_len _⟩
    | 1, _ => exact ⟨rfl, by show ((drawn n1).map (·.1)).length ≤ 2; rw [List.length_map]; exact drawn_len _⟩
    | 2, _ => exact ⟨rfl, by show ((drawn n2).map (·.1)).length ≤ 2; rw [List.length_map]; exact drawn_len _⟩
  refine tr_assign (d1 := rowsD (rowsL hd [n0, n1, n2])) hXT b (fun t f _ => ?_) ?_ (.inr ⟨rfl, rfl⟩)
  · have e : rowsD (rowsL hd [n0, n1, n2]) = .list (((List.range 3).map fun i : Nat => PyData.int (i : Int)).map (onI fun v => .list ((rowAt hd [n0, n1, n2] v).map .int)) ++ [.list [.int 3]]) := by
      unfold rowsD rowsL; rw [List.map_append, List.map_map, List.map_map]; rfl
    rw [e]
    have c := f.cx b
    have z := f.sees
    refine ev_addL c (ev_map1 c z (range3 (G f).S c 3 (by decide)) (by simpa using three_le) ["drawn", "manners"] _ rfl (vis_cons (vis_cons vis_nil)) ?_) (ev_list c (evAll_cons (ev_list c (evAll_cons ev_int evAll_nil) (by show 1 ≤ sizeLine; decide)) evAll_nil) (by show 1 ≤ sizeLine; decide)) (by simp; decide)
    intro i d hdd C FP2 s2 st2 hf2 cx zz
    obtain ⟨v, hv, rfl⟩ := get_map hdd
    have hv3 := hr3 hv
    obtain ⟨q1, q2⟩ := hdr hv3
    have hm := mns_get hd hv3
    have dv : ∀ {r1 r2 r3 : Pos}, Ev prog w (A.deeper (lwEnv L)) _ FP2 s2 (.Subscript (.Name "drawn" r1) (.Name "v" r2) r3) (.list (((drL [n0, n1, n2]).getD ((v : Int)).toNat []).map .int)) := fun {r1 r2 r3} => ev_itemL (ev_name cx zz rfl) (ev_name cx zz rfl) (by omega) (by omega) q1
    have one : ∀ {r1 r2 : Pos} {k : Nat}, Ev prog w (A.deeper (lwEnv L)) (compEnvC _ _ C (lwEnv L)) FP2 s2 (.List [.Constant (.int 3) k r1] r2) (.list [.int 3]) := fun {r1 r2 k} => ev_list cx (evAll_cons ev_int evAll_nil) (by show 1 ≤ sizeLine; decide)
    have hl3 : (((drL [n0, n1, n2]).getD ((v : Int)).toNat []).map PyData.int).length ≤ 2 := by rw [List.length_map]; exact q2
    refine ev_itemL (ds := [.list (((drL [n0, n1, n2]).getD ((v : Int)).toNat []).map .int), .list ([.int 3] ++ ((drL [n0, n1, n2]).getD ((v : Int)).toNat []).map .int), .list (((drL [n0, n1, n2]).getD ((v : Int)).toNat []).map .int ++ [.int 3])]) (ev_list cx (evAll_cons dv (evAll_cons (ev_addL cx one dv ?_) (evAll_cons (ev_addL cx dv one ?_) evAll_nil))) three_le) (ev_itemL (d := .int ((mns hd).getD ((v : Int)).toNat 0)) (ev_name cx zz rfl) (ev_name cx zz rfl) (by omega) (by omega) (get_ints (by omega) (by rw [mns_len]; omega))) hm.1 (by have := hm.2; show (mns hd).getD v 0 < _; omega) ?_
    · show 1 + _ ≤ _; rw [sizeLine_eq]; omega
    · show _ + 1 ≤ _; rw [sizeLine_eq]; omega
    · show ([.list (((drL [n0, n1, n2]).getD v []).map .int), .list ([.int 3] ++ ((drL [n0, n1, n2]).getD v []).map .int), .list (((drL [n0, n1, n2]).getD v []).map .int ++ [.int 3])] : List PyData)[((mns hd).getD v 0).toNat]? = some (PyData.list (([(drL [n0, n1, n2]).getD v [], 3 :: (drL [n0, n1, n2]).getD v [], (drL [n0, n1, n2]).getD v [] ++ [3]].getD ((mns hd).getD v 0).toNat []).map .int))
      generalize (mns hd).getD v 0 = m at hm
      have hm2 : m.toNat < 3 := by omega
      generalize m.toNat = k at hm2
      match k, hm2 with
      | 0, _ => rfl
      | 1, _ => rfl
      | 2, _ => simp
  refine tr_unpackT2 (d1 := .str (headerOf hd [n0, n1, n2] (mns hd))) (d2 := pairs (dueOf hd [n0, n1, n2] (mns hd))) hXT b (fun t f _ => ?_) ?_ (.inl rfl) (.inl rfl)
  · have c := f.cx b
    have z := f.sees
    exact call_at (G f).S c (evAll_cons (ev_name c z rfl) (evAll_cons (ev_from (n := 2) (ds := [.int hd, .int st, .int n0, .int n1, .int n2]) c (ev_name c z rfl) ev_int (by show 5 ≤ sizeLine; decide)) (evAll_cons (ev_name c z rfl) evAll_nil))) (header_spec (ns := [n0, n1, n2]) ((G f).le (by decide)) rfl (mns_len hd))
  refine tr_assign (d1 := .list (tailsL.map .str)) hXT b (fun t f _ => ?_) ?_ (.inl rfl)
  · exact ev_list (f.cx b) (evAll_cons ev_str (evAll_cons ev_str (evAll_cons ev_str (evAll_cons ev_str (evAll_cons ev_str (evAll_cons ev_str (evAll_cons ev_str (evAll_cons ev_str (evAll_cons ev_str (evAll_cons ev_str evAll_nil)))))))))) (by show 10 ≤ sizeLine; decide)
  refine tr_assign (d1 := .list (endsL (dueOf hd [n0, n1, n2] (mns hd)))) hXT b (fun t f _ => ?_) ?_ (.inl rfl)
  · have c := f.cx b
    have z := f.sees
    have du : ∀ {q : Pos}, Ev prog w (A.deeper (lwEnv L)) (lwEnv L) FP t (.Name "due" q) (pairs (dueOf hd [n0, n1, n2] (mns hd))) := fun {q} => ev_name c z rfl
    have dl := due_len hd [n0, n1, n2] (mns hd)
    refine ev_list c (evAll_cons du (evAll_cons du (evAll_cons (pairs_add c du (ev_list c (evAll_cons (ev_tuple (evAll_cons ev_str (evAll_cons ev_str evAll_nil)) two_le) (evAll_cons (ev_tuple (evAll_cons ev_str (evAll_cons ev_str evAll_nil)) two_le) evAll_nil)) two_le) ?_) (evAll_cons ev_str (evAll_cons ev_str (evAll_cons ev_str (evAll_cons ev_str (evAll_cons ev_str (evAll_cons (pairs_add c du (ev_list c (evAll_cons (ev_tuple (evAll_cons ev_str (evAll_cons ev_str evAll_nil)) two_le) evAll_nil) (by show 1 ≤ sizeLine; decide)) ?_) (evAll_cons ev_str evAll_nil)))))))))) (by show 10 ≤ sizeLine; decide)
    · show _ + 2 ≤ 1000; omega
    · show _ + 1 ≤ 1000; omega
  exact tr_sub (l := lw1 hd st [n0, n1, n2]) (sub_cons (sub_cons (sub_cons (sub_cons (sub_cons (sub_cons (sub_cons (sub_cons sub_nil)))))))) hr
end
end Mine
end
section
open PySem PySem.W PyProof.Rows PySem.Calls PySem.Spec PySem.SeqAt
set_option linter.unusedVariables false
set_option maxRecDepth 100000
namespace Mine
noncomputable def onSS (F : Str → Str → PyData) : PyData × PyData → PyData := fun q => match q with
  | (.str a, .str b) => F a b
  | _ => .none
noncomputable def ksOf (due : List (Str × Str)) : List (Str × List Str) := due.map fun q => (q.1, (wordsOf q.2.cps.toList).map tx)
theorem tails_len (i : Nat) : (tailsL.getD i default).length ≤ 11 := by
  match i with
  | 0 | 1 | 2 | 3 | 4 | 5 | 6 | 7 | 8 | 9 => decide +kernel
  | n + 10 => exact Nat.zero_le _
section
variable {w : World} {mg mb : Str → Option Value} {A : Around} {FP FP0 FP' M : Addr → Prop} {s t t' s₀ sb : Shared} {n : Nat} {L : Addr} {K : Flow → Shared → Prop} {E : Value → Shared → Prop} {p1 p2 pos : Pos} {h0 : Heap}
noncomputable abbrev σr (D : Addr) : Str → Option Value := putR noRaw "rules" (.ref D)
set_option maxHeartbeats 2000000 in
theorem law_p2 {hd st : Int} {ns : List Int} (F : Fly0 w mg mb A [] h0 s) (g : Gd w mg mb A FP0 s 8) (b : Bd (A.deeper (lwEnv L)) (lwEnv L) FP n)
    (h1 : readS (headerOf hd ns (mns hd) ++ tailsL.getD (hd.fmod 10).toNat default) = (endsL (dueOf hd ns (mns hd))).getD (hd.fmod 10).toNat .none) (h2 : readS (headerOf hd ns (mns hd)) = pairs (dueOf hd ns (mns hd))) (h3 : readS (S "") = .list [])
    (sh1 : shK 10 ((endsL (dueOf hd ns (mns hd))).getD (hd.fmod 10).toNat .none)) (sh2 : shK 10 (pairs (dueOf hd ns (mns hd))))
    (hr : Tr prog w (A.deeper (lwEnv L)) (lwEnv L) FP s n (fun _ => True) (al (lw1 hd st ns)) noRaw ((bodyK 149).drop 10) K E) :
    Tr prog w (A.deeper (lwEnv L)) (lwEnv L) FP s n (fun _ => True) (al (lw1 hd st ns)) noRaw ((bodyK 149).drop 9) K E := by
  have hXT : Ext (lwEnv L) FP noM n (fun _ => True) := Ext.true
  have hm0 : 0 ≤ hd.fmod 10 := fm0 _ _
  have hm1 : hd.fmod 10 < 10 := fm1 _ _
  have hl := header_len hd ns (mns hd)
  have htl := tails_len (hd.fmod 10).toNat
  refine tr_ifX false (tstx_orF (tstx_ne b hXT (evx_read (xs := headerOf hd ns (mns hd) ++ tailsL.getD (hd.fmod 10).toNat default) F (g.le (by decide)) rfl b (fun t f => ?_) ?_) (fun t f _ => ?_) ?_ sh1.sh ?_) (tstx_orF (tstx_ne b hXT (evx_read (xs := headerOf hd ns (mns hd)) F (g.le (by decide)) rfl b (fun t f => ev_name (f.cx b) f.sees rfl) (by omega)) (fun t f _ => ev_name (f.cx b) f.sees rfl) ?_ sh2.sh ?_) (tstx_orF (tstx_ne (db := .list []) b hXT (evx_read (xs := S "") F (g.le (by decide)) rfl b (fun t f => ev_str) (by decide)) (fun t f _ => ev_list (f.cx b) evAll_nil (Nat.zero_le _)) ?_ (by decide) ?_) tstx_orNil))) ?_
  · refine ev_addS (ev_name (f.cx b) f.sees rfl) (ev_itemL (ev_name (f.cx b) f.sees rfl) (ev_modI (ev_name (f.cx b) f.sees rfl) ev_int) hm0 (by omega) (get_strs (by show _ < 10; omega))) ?_
    rw [sizeLine_eq]; omega
  · rw [app_len]; omega
  · refine ev_itemL (ds := endsL (dueOf hd ns (mns hd))) (ev_name (f.cx b) f.sees rfl) (ev_modI (ev_name (f.cx b) f.sees rfl) ev_int) hm0 (by omega) ?_
    have : (hd.fmod 10).toNat < (endsL (dueOf hd ns (mns hd))).length := by show _ < 10; omega
    rw [List.getD_eq_getElem?_getD, List.getElem?_eq_getElem this]; rfl
  · rw [h1]; exact sh1.sh
  · rw [h1, eqv_self sh1]; rfl
  · rw [h2]; exact sh2.sh
  · rw [h2, eqv_self sh2]; rfl
  · rw [h3]; decide
  · rw [h3]; decide
  · exact hr
end
end Mine
end
section
open PySem PySem.W PyProof.Rows PySem.Calls PySem.Spec PySem.SeqAt
set_option linter.unusedVariables false
set_option maxRecDepth 100000
namespace Mine
theorem value_len2 (n m : Int) : (valueS n m).2.length ≤ 100 := by
  have h1 := told_len n
  have h2 := text_len n
  have q1 : (S "'=' ").length = 4 := by decide +kernel
  have q2 : (S "'='").length = 3 := by decide +kernel
  unfold valueS
  split
  · refine Nat.le_trans (strip_len _) ?_
    rw [app_len, q1]; omega
  · split
    · show (toldS n ++ S "'='").length ≤ 100
      rw [app_len, q2]; omega
    · show (textS n).length ≤ 100
      omega
theorem nmS_ok (a : Int) : PyData.strOk (nmS a) = true := by
  unfold nmS
  match a.toNat with
  | 0 | 1 | 2 | 3 => decide +kernel
  | n + 4 => exact (by decide +kernel : PyData.strOk default = true)
theorem drL_get {ns : List Int} (v : Nat) : ((drL ns).getD v []).length ≤ 2 ∧ ∀ a ∈ (drL ns).getD v [], 0 ≤ a ∧ a < 4 := by
  unfold drL
  rw [List.getD_eq_getElem?_getD, List.getElem?_map]
  cases ns[v]? with
  | none => exact ⟨Nat.zero_le _, fun a h => nomatch h⟩
  | some n =>
    refine ⟨by show ((drawn n).map (·.1)).length ≤ 2; rw [List.length_map]; exact drawn_len n, fun a h => ?_⟩
    obtain ⟨q, hq, rfl⟩ := List.mem_map.mp h
    exact drawn_name hq
theorem rowAt_ok (hd : Int) (ns : List Int) (v : Int) : (rowAt hd ns v).length ≤ 3 ∧ ∀ a ∈ rowAt hd ns v, 0 ≤ a ∧ a < 4 := by
  obtain ⟨h1, h2⟩ := drL_get (ns := ns) v.toNat
  unfold rowAt
  generalize ((mns hd).getD v.toNat 0).toNat = k
  match k with
  | 0 => exact ⟨Nat.le_succ_of_le h1, h2⟩
  | 1 =>
    refine ⟨Nat.succ_le_succ h1, fun a h => ?_⟩
    rcases List.mem_cons.mp h with rfl | h
    · decide
    · exact h2 a h
  | 2 =>
    refine ⟨by show (_ ++ [3]).length ≤ 3; rw [List.length_append]; exact Nat.succ_le_succ h1, fun a h => ?_⟩
    rcases List.mem_append.mp (h : a ∈ (drL ns).getD v.toNat [] ++ [3]) with h | h
    · exact h2 a h
    · rw [List.mem_singleton.mp h]; decide
  | n + 3 => exact ⟨Nat.zero_le _, fun a h => nomatch h⟩
theorem okR_rows (hd : Int) (ns : List Int) : okR (rowsL hd ns) := by
  refine ⟨by simp [rowsL], fun r hr => ?_⟩
  rcases List.mem_append.mp hr with hr | hr
  · obtain ⟨v, _, rfl⟩ := List.mem_map.mp hr
    exact rowAt_ok hd ns v
  · rw [List.mem_singleton.mp hr]
    exact ⟨by decide, fun a h => by rw [List.mem_singleton.mp h]; decide⟩
noncomputable def namedRow (r : List Int) : PyData := .list (r.map fun a => .str (nmS a))
theorem shK_named (r : List Int) : shK 1 (namedRow r) := shK_list fun x hx => by
  obtain ⟨a, _, rfl⟩ := List.mem_map.mp hx
  exact shK_str (nmS_ok a)
section
variable {w : World} {mg mb : Str → Option Value} {A : Around} {FP FP0 FP' M : Addr → Prop} {s t t' s₀ sb : Shared} {n : Nat} {L : Addr} {K : Flow → Shared → Prop} {E : Value → Shared → Prop} {p1 p2 pos : Pos} {h0 : Heap}
set_option maxHeartbeats 2000000 in
theorem law_p3 {hd st : Int} {ns : List Int} (g : Gd w mg mb A FP0 s 8) (b : Bd (A.deeper (lwEnv L)) (lwEnv L) FP n) (hnd : ((dueOf hd ns (mns hd)).map (·.1)).Nodup)
    (h4 : ∀ v : Nat, v < 3 → dget (ksD (ksOf (dueOf hd ns (mns hd)))) (nmS v) = some (namedRow ((rowsL hd ns).getD v [])))
    (hr : ∀ D, Tr prog w (A.deeper (lwEnv L)) (lwEnv L) FP s n (RD prog w FP D (ksD (ksOf (dueOf hd ns (mns hd))))) (al (lw1 hd st ns)) (σr D) ((bodyK 149).drop 12) K E) :
    Tr prog w (A.deeper (lwEnv L)) (lwEnv L) FP s n (fun _ => True) (al (lw1 hd st ns)) noRaw ((bodyK 149).drop 10) K E := by
  have G : ∀ {t ρ σ}, Fx s (lwEnv L) FP n ρ σ t → Gd w mg mb (A.deeper (lwEnv L)) FP t 7 := fun f => g.body (.refl s) b f
  have dl := due_len hd ns (mns hd)
  have hr3 : ∀ {i : Nat} {v : Nat}, (List.range 3)[i]? = some v → v < 3 := fun {i v} h => by
    have := List.mem_of_getElem? h
    simpa using this
  refine tr_dict (ks := ksD (ksOf (dueOf hd ns (mns hd)))) b (fun t f => (G f).S) (fun t f => ?_) (by unfold ksD ksOf; rw [List.length_map, List.length_map]; omega) ?_ rfl (fun D => ?_) (hk := .inr ⟨rfl, rfl⟩)
  · have e : (ksD (ksOf (dueOf hd ns (mns hd)))).map (fun q => PyData.tuple [.str q.1, q.2]) = ((dueOf hd ns (mns hd)).map fun q => (PyData.str q.1, PyData.str q.2)).map (onSS fun x y => .tuple [.str x, .list ((wordsOf y.cps.toList).map fun l => .str (tx l))]) := by
      unfold ksD ksOf
      rw [List.map_map, List.map_map, List.map_map]
      refine List.map_congr_left fun q _ => ?_
      show PyData.tuple [.str q.1, .list (((wordsOf q.2.cps.toList).map tx).map .str)] = .tuple [.str q.1, .list ((wordsOf q.2.cps.toList).map fun l => .str (tx l))]
      rw [List.map_map]; rfl
    rw [e]
    have c := f.cx b
    have z := f.sees
    have ed : Ev prog w (A.deeper (lwEnv L)) (lwEnv L) FP t (.Name "due" ⟨167, 61, 167, 64⟩) (.list (((dueOf hd ns (mns hd)).map fun q => (PyData.str q.1, PyData.str q.2)).map fun q => .tuple [q.1, q.2])) := by
      rw [List.map_map]
      exact ev_name c z rfl
    refine co_map2 c z (iter_list c ed) (by rw [List.length_map]; exact Nat.le_trans dl (by decide)) [] _ rfl vis_nil ?_
    intro i q hq C FP2 s2 st2 hf2 cx zz
    obtain ⟨r, hr, rfl⟩ := get_map hq
    have hmem := List.mem_of_getElem? hr
    have hlen : r.2.length ≤ 100 := by
      unfold dueOf at hmem
      obtain ⟨v, _, rfl⟩ := List.mem_map.mp hmem
      exact value_len2 _ _
    have g2 := (G f).comp st2 cx
    exact ev_tuple (evAll_cons (ev_name cx zz rfl) (evAll_cons (call_at g2.S cx (evAll_cons (ev_name cx zz rfl) evAll_nil) (words_spec (g2.le (by decide)) (Nat.le_trans hlen (by decide)))) evAll_nil)) two_le
  · have : (ksD (ksOf (dueOf hd ns (mns hd)))).map (·.1) = (dueOf hd ns (mns hd)).map (·.1) := by unfold ksD ksOf; rw [List.map_map, List.map_map]; rfl
    rw [this]; exact hnd
  refine tr_if (M := noM) false RD.ext (fun t f rd => ?_) (hr D)
  have c := f.cx b
  have z := f.sees
  have hRW : shK 3 (.list ((List.range 3).map fun (v : Nat) => namedRow ((rowsL hd ns).getD v []))) := shK_list (k := 2) fun x hx => by
    obtain ⟨v, _, rfl⟩ := List.mem_map.mp hx
    exact (shK_named _).le
  have eq : (List.range 3).map (fun (v : Nat) => namedRow ((rowsL hd ns).getD v [])) = ((List.range 3).map fun i : Nat => PyData.int (i : Int)).map (onI fun v => namedRow ((rowsL hd ns).getD v.toNat [])) := by rw [List.map_map]; rfl
  refine tst_ne (da := .list ((List.range 3).map fun (v : Nat) => namedRow ((rowsL hd ns).getD v []))) (db := .list ((List.range 3).map fun (v : Nat) => namedRow ((rowsL hd ns).getD v []))) c ?_ ?_ hRW.sh hRW.sh (by rw [eqv_self hRW]; rfl)
  · rw [eq]
    refine ev_map1 c z (range3 (G f).S c 3 (by decide)) (by simpa using three_le) ["names"] _ rfl (vis_cons vis_nil) ?_
    intro i d hdd C FP2 s2 st2 hf2 cx zz
    obtain ⟨v, hv, rfl⟩ := get_map hdd
    have hv3 := hr3 hv
    refine ev_ditem (FP' := FP2) cx.kind (rules_free (C := C) (scope := default) (cl := []) (f.raw (x := "rules") rfl) st2.kp rfl rfl rfl) ((rd.mono hf2).kp st2.kp) (ev_itemL (ev_name cx zz rfl) (ev_name cx zz rfl) (by omega) (by omega) (get_nm (by omega) (by omega))) ?_
    exact h4 v hv3
  · rw [eq]
    refine ev_map1 c z (range3 (G f).S c 3 (by decide)) (by simpa using three_le) ["names", "rows"] _ rfl (vis_cons (vis_cons vis_nil)) ?_
    intro i d hdd C FP2 s2 st2 hf2 cx zz
    obtain ⟨v, hv, rfl⟩ := get_map hdd
    have hv3 := hr3 hv
    have hR := okR_rows hd ns
    have hrow := row_mem (R := rowsL hd ns) (a := (v : Int)) (by omega) (by rw [hR.1]; omega)
    obtain ⟨r1, r2⟩ := hR.2 _ hrow
    have e2 : (((rowsL hd ns).getD v []).map fun a => PyData.str (nmS a)) = (((rowsL hd ns).getD v []).map PyData.int).map (onI fun a => .str (nmS a)) := by rw [List.map_map]; rfl
    show Ev prog w _ _ FP2 s2 _ (.list (((rowsL hd ns).getD v []).map fun a => PyData.str (nmS a)))
    rw [e2]
    refine ev_map1 cx zz (iter_list cx ?_) (by rw [List.length_map]; exact Nat.le_trans r1 three_le) ["names"] _ rfl ?_ ?_
    · exact ev_itemL (ev_name cx zz rfl) (ev_name cx zz rfl) (by omega) (by omega) (row_get (a := (v : Int)) (by omega) (by rw [hR.1]; omega))
    · exact vis_cons vis_nil
    intro j d3 hd3 C3 FP3 s3 st3 hf3 cx3 zz3
    obtain ⟨a, ha, rfl⟩ := get_map hd3
    obtain ⟨a0, a1⟩ := r2 a (List.mem_of_getElem? ha)
    exact ev_itemL (ev_name cx3 zz3 rfl) (ev_name cx3 zz3 rfl) a0 (by omega) (get_nm a0 a1)
end
end Mine
end
section
open PySem PySem.W PyProof.Rows PySem.Calls PySem.Spec PySem.SeqAt
set_option linter.unusedVariables false
set_option maxRecDepth 100000
namespace Mine
noncomputable def zrow (R : List (List Int)) (l : Nat) : List Int := (List.range 4).map fun (a : Nat) => ((lv R l (a : Int)).length : Int)
noncomputable def sizesL (R : List (List Int)) (k : Nat) : List (List Int) := (List.range k).map (zrow R)
theorem zrow_next {R : List (List Int)} (hR : R.length = 4) (l : Nat) : zrow R (l + 1) = R.map fun row => (row.map fun a => ((lv R l a).length : Int)).sum := by
  have hlen : ∀ row : List Int, ((row.flatMap (lv R l)).length : Int) = (row.map fun a => ((lv R l a).length : Int)).sum := fun row => by
    induction row with
    | nil => rfl
    | cons a r ih => rw [List.flatMap_cons, List.length_append, List.map_cons, List.sum_cons, ← ih]; omega
  match R, hR with
  | [r0, r1, r2, r3], _ =>
    simp only [List.map_cons, List.map_nil, ← hlen]; rfl
theorem zrow_len (R : List (List Int)) (l : Nat) : (zrow R l).length = 4 := by simp [zrow]
theorem zrow_get (R : List (List Int)) (l : Nat) {a : Int} (h0 : 0 ≤ a) (h1 : a < 4) : ((zrow R l).map PyData.int)[a.toNat]? = some (.int ((lv R l a).length : Int)) := by
  unfold zrow
  rw [List.getElem?_map, List.getElem?_map, List.getElem?_range (by omega)]
  have : ((a.toNat : Nat) : Int) = a := by omega
  show some (PyData.int ((lv R l (a.toNat : Int)).length : Int)) = _
  rw [this]
noncomputable def lw2 (hd st : Int) (ns : List Int) : List (Str × PyData) := ("sizes", rowsD (sizesL (rowsL hd ns) 4)) :: lw1 hd st ns
section
variable {w : World} {mg mb : Str → Option Value} {A : Around} {FP FP0 FP' M : Addr → Prop} {s t t' s₀ sb : Shared} {n : Nat} {L : Addr} {K : Flow → Shared → Prop} {E : Value → Shared → Prop} {p1 p2 pos : Pos} {h0 : Heap}
set_option maxHeartbeats 2000000 in
theorem law_p4 {hd st : Int} {ns : List Int} {Dr : Addr} {ks : List (Str × PyData)} (g : Gd w mg mb A FP0 s 8) (b : Bd (A.deeper (lwEnv L)) (lwEnv L) FP n)
    (hr : Tr prog w (A.deeper (lwEnv L)) (lwEnv L) FP s n (RD prog w FP Dr ks) (al (lw2 hd st ns)) (σr Dr) ((bodyK 149).drop 14) K E) :
    Tr prog w (A.deeper (lwEnv L)) (lwEnv L) FP s n (RD prog w FP Dr ks) (al (lw1 hd st ns)) (σr Dr) ((bodyK 149).drop 12) K E := by
  have hR := okR_rows hd ns
  have G : ∀ {FP n t ρ σ}, Bd (A.deeper (lwEnv L)) (lwEnv L) FP n → Fx s (lwEnv L) FP n ρ σ t → Gd w mg mb (A.deeper (lwEnv L)) FP t 7 := fun b f => g.body (.refl s) b f
  refine tr_newOwnL (M := noM) (ds := [.list [.int 1, .int 1, .int 1, .int 1]]) (fun D h => RD prog w (less FP D) Dr ks h) b (fun t f _ => evAll_cons (ev_list (f.cx b) (evAll_cons ev_int (evAll_cons ev_int (evAll_cons ev_int (evAll_cons ev_int evAll_nil)))) (by show 4 ≤ sizeLine; decide)) evAll_nil) (by show 1 ≤ sizeLine; decide) (fun h h' x k => x.kp k)
    (fun h h' D x e k => (x.mono fun c hc hf => ⟨hf, fun z => Nat.lt_irrefl _ (Nat.lt_of_lt_of_le hc (Nat.le_of_eq (z.trans e).symm))⟩).kp k) (fun D hD => RD.ext) rfl ?_ (.inr ⟨rfl, rfl⟩)
  intro D hDn hDlo hDfr b1
  have b0 := b
  have XE : ∀ i {m : Nat}, D + 1 ≤ m → Ext (lwEnv L) (less FP D) noM m (fun h => Own (less FP D) D ((sizesL (rowsL hd ns) (i + 1)).map fun z => .list (z.map .int)) h ∧ RD prog w (less FP D) Dr ks h) := fun i {m} hm => (Own.ext hDfr (fun z => z) hm).and RD.ext
  refine tr_forI (FPi := less FP D) (M := fun c => c = D) (ds := (List.range 3).map fun i : Nat => PyData.int (i : Int)) (fun _ => al (lw1 hd st ns)) (fun i h => Own (less FP D) D ((sizesL (rowsL hd ns) (i + 1)).map fun z => .list (z.map .int)) h ∧ RD prog w (less FP D) Dr ks h) b1 (fun i => XE i (Nat.le_refl _)) (fun c hc => hc ▸ Nat.lt_succ_self _) (fun t f x => range3 (G b1 f).S (f.cx b1) 3 (by decide)) (fun _ h => h) ?_ ?_ (.inl rfl)
  · intro i d n' Y hdd hn' b' hY
    have hi : i < 3 := by have := (List.getElem?_eq_some_iff.mp hdd).1; simpa using this
    refine tr_sub (l := lw1 hd st ns) (sub_cons (sub_cons (sub_cons (sub_cons (sub_cons (sub_cons (sub_cons (sub_cons sub_nil)))))))) ?_
    refine tr_pre (Y := fun h => Own (less FP D) D ((sizesL (rowsL hd ns) (i + 1)).map fun z => .list (z.map .int)) h ∧ (RD prog w (less FP D) Dr ks h ∧ Y h)) (fun h z => ⟨z.1.1, z.1.2, z.2⟩) ?_
    refine tr_push (d := .list ((zrow (rowsL hd ns) (i + 1)).map .int)) (RD.ext.and hY) b' rfl hDfr (fun z => z.2 rfl) hDlo rfl (fun t f o y => ?_) (by unfold sizesL; rw [List.length_map, List.length_map, List.length_range, sizeLine_eq]; omega) ?_
    · have c := f.cx b'
      have z := f.sees
      have e : (zrow (rowsL hd ns) (i + 1)).map PyData.int = ((rowsL hd ns).map fun r => PyData.list (r.map .int)).map (fun d => match d with | .list l => .int ((l.map fun d => match d with | .int a => ((lv (rowsL hd ns) i a).length : Int) | _ => 0).sum) | _ => .none) := by
        rw [zrow_next hR.1, List.map_map, List.map_map]
        refine List.map_congr_left fun r _ => ?_
        show PyData.int (r.map fun a => ((lv (rowsL hd ns) i a).length : Int)).sum = .int (((r.map PyData.int).map _).sum)
        rw [List.map_map]; rfl
      rw [e]
      obtain ⟨ys, hpl, ry⟩ := o
      have rD : Rd (fun _ => True) t.heap (.ref D) (.list ((sizesL (rowsL hd ns) (i + 1)).map fun z => .list (z.map .int))) := .mkList (vs := ys.toList) (by simpa using hpl.isList) (ry.mono fun _ _ _ => trivial) trivial
      have nmOf : ∀ {env' : Env} {h' : Heap}, env'.kindOf "sizes" = some .cell → env'.cells.lookup (Str.ofString "sizes") = (lwEnv L).cells.lookup (Str.ofString "sizes") → Kp t.heap h' → NameAt env' h' "sizes" (.ref D) := fun h1 h2 k => rules_free (C := 0) (scope := default) (cl := []) (f.raw (x := "sizes") rfl) k rfl h1 h2
      refine ev_map1 c z (iter_list c (ev_name c z rfl)) (by rw [List.length_map, hR.1]; show 4 ≤ sizeLine; decide) [] _ rfl vis_nil ?_
      intro j d2 hd2 C FP2 s2 st2 hf2 cx zz
      obtain ⟨r, hrw, rfl⟩ := get_map hd2
      obtain ⟨r1, r2⟩ := hR.2 r (List.mem_of_getElem? hrw)
      have S2 := (G b' f).S.kp st2.kp
      have e2 : (r.map PyData.int).map (onI fun a => .int ((lv (rowsL hd ns) i a).length : Int)) = (r.map fun a => ((lv (rowsL hd ns) i a).length : Int)).map .int := by rw [List.map_map, List.map_map]; rfl
      have e3 : ((r.map PyData.int).map fun d => match d with | .int a => ((lv (rowsL hd ns) i a).length : Int) | _ => 0).sum = (r.map fun a => ((lv (rowsL hd ns) i a).length : Int)).sum := by rw [List.map_map]; rfl
      show Ev prog w _ _ FP2 s2 _ (.int ((r.map PyData.int).map fun d => match d with | .int a => ((lv (rowsL hd ns) i a).length : Int) | _ => 0).sum)
      rw [e3]
      refine ev_callB cx (gl_bi (v := .builtin "sum") S2 rfl (by decide +kernel) (by decide) rfl rfl rfl) (evAll_cons (d := .list ((r.map fun a => ((lv (rowsL hd ns) i a).length : Int)).map .int)) ?_ evAll_nil) (call_sum cx.hh)
      rw [← e2]
      refine ev_map1 cx zz (iter_list cx (ev_name cx zz rfl)) (by rw [List.length_map]; exact Nat.le_trans r1 three_le) [] _ rfl vis_nil ?_
      intro k d3 hd3 C3 FP3 s3 st3 hf3 cx3 zz3
      obtain ⟨a, ha, rfl⟩ := get_map hd3
      obtain ⟨a0, a1⟩ := r2 a (List.mem_of_getElem? ha)
      refine ev_flatI (FP := fun _ => True) (ev_itemL (ds := (zrow (rowsL hd ns) i).map .int) (ev_itemN (ev_nameAt (x := "sizes") cx3.kind (nmOf rfl rfl (st2.kp.trans st3.kp)) ((rD.kp st2.kp).kp st3.kp)) (ev_neg ev_int) (by decide) (by decide) ?_ ?_) (ev_flatI (ev_name cx3 zz3 rfl)) a0 (by omega) (zrow_get _ _ a0 a1))
      · simp only [sizesL, List.length_map, List.length_range]; omega
      · simp only [sizesL, List.length_map, List.length_range]
        have : ((-1 : Int) + ((i + 1 : Nat) : Int)).toNat = i := by omega
        rw [this, List.getElem?_map, List.getElem?_map, List.getElem?_range (Nat.lt_succ_self i)]; rfl
    · have e4 : ((sizesL (rowsL hd ns) (i + 1)).map fun z => PyData.list (z.map .int)) ++ [.list ((zrow (rowsL hd ns) (i + 1)).map .int)] = (sizesL (rowsL hd ns) (i + 1 + 1)).map fun z => .list (z.map .int) := by
        unfold sizesL; rw [List.range_succ (n := i + 1), List.map_append, List.map_append]; rfl
      rw [e4]
      exact tr_nil fun t f x => ⟨.inl rfl, f, ⟨x.1, x.2.1⟩, x.2.2⟩
  · refine tr_unown (x := "sizes") (FP := FP) (n := n) (σ' := σr Dr) (X' := RD prog w FP Dr ks) (b.fp D hDn) (Nat.le_succ_of_le hDn) rfl (fun h x => x.mono fun _ _ q => q.1) (fun y v e => ?_) ?_
    · by_cases q : y = "sizes"
      · subst q
        unfold σr putR at e; rw [if_neg (by decide)] at e; cases e
      · rw [putR, if_neg q]; exact e
    · exact tr_sub (l := lw2 hd st ns) (sub_cons (sub_cons (sub_cons (sub_cons (sub_cons (sub_cons (sub_cons (sub_cons (sub_cons sub_nil))))))))) hr
end
end Mine
end
section
open PySem PySem.W PyProof.Rows PySem.Calls PySem.Spec PySem.SeqAt
set_option linter.unusedVariables false
set_option maxRecDepth 100000
namespace Mine
theorem lv_ok {R : List (List Int)} (hR : okR R) : ∀ (l : Nat) {a : Int}, 0 ≤ a → a < 4 → (lv R l a).length ≤ 3 ^ l ∧ ∀ q ∈ lv R l a, 0 ≤ q ∧ q < 4
  | 0, a, h0, h1 => ⟨by simp [lv], fun q hq => by rw [lv, List.mem_singleton] at hq; subst hq; exact ⟨h0, h1⟩⟩
  | l + 1, a, h0, h1 => by
    have hrow := row_mem (R := R) h0 (by rw [hR.1]; exact h1)
    obtain ⟨r1, r2⟩ := hR.2 _ hrow
    rw [lv]
    generalize R.getD a.toNat [] = row at r1 r2
    have key : ∀ row : List Int, (∀ a ∈ row, 0 ≤ a ∧ a < 4) → (row.flatMap (lv R l)).length ≤ row.length * 3 ^ l ∧ ∀ q ∈ row.flatMap (lv R l), 0 ≤ q ∧ q < 4 := by
      intro row
      induction row with
      | nil => intro _; exact ⟨by simp, fun q h => by simp at h⟩
      | cons b r ih =>
        intro h
        obtain ⟨b0, b1⟩ := h b (.head _)
        obtain ⟨i1, i2⟩ := ih fun a ha => h a (.tail _ ha)
        obtain ⟨l1, l2⟩ := lv_ok hR l b0 b1
        refine ⟨?_, fun q hq => ?_⟩
        · rw [List.flatMap_cons, List.length_append, List.length_cons, Nat.add_mul, Nat.one_mul]; omega
        · rw [List.flatMap_cons] at hq
          exact (List.mem_append.mp hq).elim (l2 q) (i2 q)
    obtain ⟨k1, k2⟩ := key row r2
    refine ⟨Nat.le_trans k1 ?_, k2⟩
    rw [Nat.pow_succ, Nat.mul_comm]
    exact Nat.mul_le_mul_left _ r1
theorem map_getD {β : Type} (l : List Int) (f : Int → β) : (List.range l.length).map (fun p => f (l.getD p 0)) = l.map f := by
  apply List.ext_getElem?
  intro i
  rw [List.getElem?_map, List.getElem?_map]
  by_cases h : i < l.length
  · rw [List.getElem?_range h, List.getElem?_eq_getElem h]
    show some (f (l.getD i 0)) = some (f l[i])
    rw [List.getD_eq_getElem?_getD, List.getElem?_eq_getElem h]; rfl
  · rw [List.getElem?_eq_none (by simpa using h), List.getElem?_eq_none (by simpa using h)]; rfl
noncomputable def toldD (R : List (List Int)) (a : Int) : List PyData := (List.range 4).map fun (l : Nat) => .list (((lv R l a).map fun q => PyData.str (nmS q)) ++ [.str (Str.ofString "")])
noncomputable def toldS2 : Expr := match (bodyK 149)[15]! with | .For _ _ b _ _ => (match b with | .Assign _ e _ :: _ => e | _ => default) | _ => default
noncomputable def toldElt : Expr := match toldS2 with | .ListComp e _ _ _ => e | _ => default
noncomputable def toldScope : Scope := match toldS2 with | .ListComp _ _ s _ => s | _ => default
noncomputable def toldIter : Expr := match toldS2 with | .ListComp _ (g :: _) _ _ => g.iter | _ => default
noncomputable abbrev toldCl (L : Addr) : List (Str × Addr) := [(Str.ofString "sizes", L + 8), (Str.ofString "rows", L + 6), (Str.ofString "names", L + 2), (Str.ofString "name", L + 4)]
section
variable {w : World} {mg mb : Str → Option Value} {A : Around} {FP FP0 FP' M : Addr → Prop} {s t t' s₀ sb : Shared} {n : Nat} {L : Addr} {K : Flow → Shared → Prop} {E : Value → Shared → Prop} {p1 p2 pos : Pos} {h0 : Heap}
theorem told_clos : closureFor toldScope (lwEnv L) = pure (toldCl L) := rfl
set_option maxHeartbeats 2000000 in
theorem co_told {hd st a : Int} {ns : List Int} {ρ : Str → Option PyData} (g : Gd w mg mb (A.deeper (lwEnv L)) FP t 1) (c : Cx (A.deeper (lwEnv L)) (lwEnv L) FP t) (z : Sees (lwEnv L) FP t.heap ρ) (hρ1 : ρ "names" = some (.list (nm.map .str))) (hρ2 : ρ "rows" = some (rowsD (rowsL hd ns))) (hρ3 : ρ "sizes" = some (rowsD (sizesL (rowsL hd ns) 4))) (hρ4 : ρ "name" = some (.int a)) (h0 : 0 ≤ a) (h1 : a < 4) :
    CompOf prog w (A.deeper (lwEnv L)) (lwEnv L) FP t toldS2 (toldD (rowsL hd ns) a) := ⟨fun use s0 st0 E Q hend => by
  have hR := okR_rows hd ns
  have e : toldD (rowsL hd ns) a = (((List.range 4).map fun i : Nat => PyData.int (i : Int)).filter fun _ => true).map (onI fun l => .list (((lv (rowsL hd ns) l.toNat a).map fun q => PyData.str (nmS q)) ++ [.str (Str.ofString "")])) := by
    rw [List.filter_eq_self.mpr (fun _ _ => rfl)]
    unfold toldD; rw [List.map_map]; rfl
  rw [e] at hend
  refine comp_gen (cls := fun C => (Str.ofString "left", C + 1) :: toldCl L) (ncs := fun C => [C + 1]) (cl := toldCl L) (scope := toldScope) (target := .Name "left" ⟨175, 114, 175, 118⟩) (elt := toldElt) (iter := toldIter) (ifs := []) c z (range3 g.S c 4 (by decide)) (by simp; decide) ["name", "names", "rows", "sizes"] (fun d => [("left", d)]) (fun _ => true) _ told_clos rfl (by show ∀ y ∈ toldScope.names, y.2 = .local → toldScope.names.lookup y.1 = some .local; decide) ?_ ?_ ?_ ?_ (fun i d hd C FP' s' st hf cx zz => tsts_nil) ?_ (by intro _; rfl) st0 (comp_end (elt := toldElt) (target := .Name "left" ⟨175, 114, 175, 118⟩) (iter := toldIter) (ifs := []) (scope := toldScope) (pos := ⟨175, 15, 175, 131⟩) (ncs := fun C => [C + 1]) c st0 hend)
  · intro C y hy
    simp only [List.mem_cons, List.not_mem_nil, or_false] at hy
    rcases hy with rfl | rfl | rfl | rfl
    · exact ⟨by rw [show (lwEnv L).kindOf (Str.ofString "name") = some .cell from rfl]; simp, rfl, .inl rfl⟩
    · exact ⟨by rw [show (lwEnv L).kindOf (Str.ofString "names") = some .cell from rfl]; simp, rfl, .inl rfl⟩
    · exact ⟨by rw [show (lwEnv L).kindOf (Str.ofString "rows") = some .cell from rfl]; simp, rfl, .inl rfl⟩
    · exact ⟨by rw [show (lwEnv L).kindOf (Str.ofString "sizes") = some .cell from rfl]; simp, rfl, .inl rfl⟩
  · intro C x hx
    rw [List.mem_singleton.mp hx]; exact Nat.lt_succ_self _
  · intro s E Q hQ
    have key : newFunctionEnv toldScope (lwEnv L).globals (toldCl L) [] (lwEnv L).qual none .none (some (lwEnv L)) = (do
      let locals ← alloc { cls := .type "dict", data := .dict #[] }
      let c ← alloc { cls := .type "cell", data := .cell none }
      pure (newEnv toldScope locals (lwEnv L).globals ((Str.ofString "left", c) :: toldCl L) (lwEnv L).qual none .none (some (lwEnv L)) builtinsNs)) := rfl
    rw [key]
    refine wpAny_bind (wpAny_alloc (wpAny_bind (wpAny_alloc (wpAny_pure ?_))))
    have hsz : (s.heap.push { cls := .type "dict", data := .dict #[] }).objs.size = s.heap.objs.size + 1 := Heap.size_push ..
    rw [show ({ s with heap := s.heap.push { cls := .type "dict", data := .dict #[] } } : Shared).heap.objs.size = s.heap.objs.size + 1 from hsz]
    refine hQ _ ⟨⟨_, (Heap.Ns.new s.heap (.type "dict")).keeps fun b o e => Heap.get?_push_of_some _ e⟩, fun x hx => ?_⟩ (fun b o e => Heap.get?_push_of_some _ (Heap.get?_push_of_some _ e))
    rw [List.mem_singleton.mp hx, ← hsz]
    exact ⟨none, _, Heap.get?_push_size _ rfl, rfl⟩
  · intro i d v C s FP' E Q hd hF rv hQ
    obtain ⟨⟨m, hm⟩, hcs⟩ := hF
    obtain ⟨v0, hc0⟩ := hcs (C + 1) (.head _)
    refine wpAny_assign_Name (wpAny_storeName_cell rfl (show (compEnvC toldScope ((Str.ofString "left", C + 1) :: toldCl L) C (lwEnv L)).kindOf (Str.ofString "left") = some .cell from rfl) (show (compEnvC toldScope ((Str.ofString "left", C + 1) :: toldCl L) C (lwEnv L)).cells.lookup (Str.ofString "left") = some (C + 1) from rfl) hc0 fun h' hc' hs => ?_)
    refine hQ h' _ ⟨⟨m, hm.sameBut hs (Nat.ne_of_lt (Nat.lt_succ_self C))⟩, fun x hx => by rw [List.mem_singleton.mp hx]; exact ⟨_, hc'⟩⟩ (fun b o hb e => hs.extBut b o (fun z => hb (by rw [z]; exact .tail _ (.head _))) e) fun rv' q hq => ?_
    rw [List.mem_singleton.mp hq]
    obtain ⟨o, ho, hdd⟩ := hc'
    exact ⟨v, .cell rfl rfl ho hdd, rv'⟩
  · intro i d hdd _ C FP2 s2 st2 hf2 cx zz
    obtain ⟨l, hl, rfl⟩ := get_map hdd
    have hl4 : l < 4 := by have := List.mem_of_getElem? hl; simpa using this
    have g2 := g.comp st2 cx
    obtain ⟨lv1, lv2⟩ := lv_ok hR l h0 h1
    have lv27 : 3 ^ l ≤ 27 := by
      match l, hl4 with
      | 0, _ => decide
      | 1, _ => decide
      | 2, _ => decide
      | 3, _ => decide
    have hsz : (sizesL (rowsL hd ns) 4)[((l : Int)).toNat]? = some (zrow (rowsL hd ns) l) := by
      unfold sizesL; rw [List.getElem?_map, show ((l : Int)).toNat = l from rfl, List.getElem?_range hl4]; rfl
    have hZ : ∀ l < 3, ∀ a : Int, 0 ≤ a → a < 4 → ∃ z, (sizesL (rowsL hd ns) 4)[l]? = some z ∧ (z.map PyData.int)[a.toNat]? = some (.int ((lv (rowsL hd ns) l a).length : Int)) := fun l hl a a0 a1 =>
      ⟨zrow (rowsL hd ns) l, by unfold sizesL; rw [List.getElem?_map, List.getElem?_range (by omega)]; rfl, zrow_get _ _ a0 a1⟩
    have hszD : ((sizesL (rowsL hd ns) 4).map fun r => PyData.list (r.map .int))[((l : Int)).toNat]? = some (.list ((zrow (rowsL hd ns) l).map .int)) := get_map' (g := fun r : List Int => PyData.list (r.map .int)) hsz
    show Ev prog w _ _ FP2 s2 toldElt (.list (((lv (rowsL hd ns) l a).map fun q => PyData.str (nmS q)) ++ [.str (Str.ofString "")]))
    refine ev_addL cx (?_ : Ev prog w _ _ FP2 s2 _ _) (ev_list cx (evAll_cons ev_str evAll_nil) (by show 1 ≤ sizeLine; decide)) ?_
    · have e2 : (lv (rowsL hd ns) l a).map (fun q => PyData.str (nmS q)) = ((List.range (lv (rowsL hd ns) l a).length).map fun i : Nat => PyData.int (i : Int)).map (onI fun p => .str (nmS ((lv (rowsL hd ns) l a).getD p.toNat 0))) := by
        rw [← map_getD (lv (rowsL hd ns) l a) fun q => PyData.str (nmS q), List.map_map]; rfl
      rw [e2]
      refine ev_map1 cx zz (iter_range cx (gl_bi (v := .type "range") g2.S rfl rfl (by decide) rfl rfl rfl) ?_ (by omega)) (by rw [List.length_map, List.length_range, sizeLine_eq]; omega) ["left", "name", "names", "rows", "sizes"] _ rfl ?_ ?_
      · exact ev_itemL (ev_itemL (ev_name cx zz (hρ3 ▸ rfl)) (ev_name cx zz rfl) (by omega) (by omega) hszD) (ev_name cx zz (hρ4 ▸ rfl)) h0 (by omega) (zrow_get _ _ h0 h1)
      · exact vis_cons (vis_cons (vis_cons (vis_cons (vis_cons vis_nil))))
      · intro j d3 hd3 C3 FP3 s3 st3 hf3 cx3 zz3
        obtain ⟨p, hp, rfl⟩ := get_map hd3
        have hpl : p < (lv (rowsL hd ns) l a).length := by have := List.mem_of_getElem? hp; simpa using this
        have g3 := g2.comp st3 cx3
        have hq := lv2 ((lv (rowsL hd ns) l a).getD p 0) (by rw [List.getD_eq_getElem?_getD, List.getElem?_eq_getElem hpl]; exact List.getElem_mem hpl)
        show Ev prog w _ _ FP3 s3 _ (.str (nmS ((lv (rowsL hd ns) l a).getD p 0)))
        refine ev_itemL (i := (lv (rowsL hd ns) l a).getD p 0) ?_ ?_ hq.1 (by omega) (get_nm hq.1 hq.2)
        · exact ev_name cx3 zz3 (hρ1 ▸ rfl)
        · exact call_at g3.S cx3 (evAll_cons (ev_name cx3 zz3 (hρ2 ▸ rfl)) (evAll_cons (ev_name cx3 zz3 (hρ3 ▸ rfl)) (evAll_cons (ev_name cx3 zz3 (hρ4 ▸ rfl)) (evAll_cons (ev_name cx3 zz3 rfl) (evAll_cons (ev_name cx3 zz3 rfl) evAll_nil))))) (at_spec g3 hR hZ h0 h1 (by omega) hpl)
    · rw [List.length_map, sizeLine_eq]; show _ + 1 ≤ _; omega⟩
end
end Mine
end
section
open PySem PySem.W PyProof.Rows PySem.Calls PySem.Spec PySem.SeqAt
set_option linter.unusedVariables false
set_option maxRecDepth 100000
namespace Mine
noncomputable def lsAt (ks : List (Str × List Str)) (st0 : LS) : Nat → LS
  | 0 => st0
  | i + 1 => (rounds ks (lsAt ks st0 i) 4).2.2
theorem lsAt_len {ks : List (Str × List Str)} (h : okK ks) (st0 : LS) (i : Nat) : (lsAt ks st0 i).1.length ≤ st0.1.length ∧ (lsAt ks st0 i).2.length ≤ st0.2.length + 243 * i := by
  induction i with
  | zero => exact ⟨Nat.le_refl _, Nat.le_refl _⟩
  | succ i ih =>
    obtain ⟨_, _, h3, h4⟩ := rounds_len h (lsAt ks st0 i) 4
    have e : 3 ^ (4 + 1) = 243 := by decide
    rw [e] at h4
    exact ⟨Nat.le_trans h3 ih.1, by show (rounds ks (lsAt ks st0 i) 4).2.2.2.length ≤ _; omega⟩
noncomputable def nmv (st : Int) (i : Nat) : Int := if i = 0 then st.fmod 4 else (st.fdiv 4).fmod 4
noncomputable def text0 (st : Int) : Str := wordS (nmv st 0) (st.fdiv 16) ++ wordS (nmv st 1) (st.fdiv 144)
noncomputable def st0 (st : Int) : LS := (ls (text0 st), [])
theorem nmv_ok (st : Int) (i : Nat) : 0 ≤ nmv st i ∧ nmv st i < 4 := by
  unfold nmv; split
  · exact ⟨fm0 _ _, fm1 _ _⟩
  · exact ⟨fm0 _ _, fm1 _ _⟩
theorem shK_told (R : List (List Int)) (a : Int) : shK 3 (.list (toldD R a)) := shK_list (k := 2) fun x hx => by
  obtain ⟨l, _, rfl⟩ := List.mem_map.mp hx
  refine (shK_list (k := 0) fun y hy => ?_).le
  rcases List.mem_append.mp hy with hy | hy
  · obtain ⟨q, _, rfl⟩ := List.mem_map.mp hy
    exact shK_str (nmS_ok q)
  · rw [List.mem_singleton.mp hy]; exact shK_str (by decide +kernel)
section
variable {w : World} {mg mb : Str → Option Value} {A : Around} {FP FP0 FP' M : Addr → Prop} {s t t' s₀ sb : Shared} {n : Nat} {L : Addr} {K : Flow → Shared → Prop} {E : Value → Shared → Prop} {p1 p2 pos : Pos} {h0 : Heap}
set_option maxHeartbeats 2000000 in
theorem law_p5 {hd st : Int} {ns : List Int} {Dr : Addr} {ks : List (Str × List Str)} (g : Gd w mg mb A FP0 s 8) (b : Bd (A.deeper (lwEnv L)) (lwEnv L) FP n) (hkk : okK ks)
    (hT : ∀ i < 2, linesD (rounds ks (lsAt ks (st0 st) i) 4).1 = toldD (rowsL hd ns) (nmv st i)) (hEnd : (ls (getTok (lsAt ks (st0 st) 2).1 (lsAt ks (st0 st) 2).2).1 == ls (Str.ofString "")) = true)
    (hK : ∀ t, Stp s t → K (.ret (.bool true)) t) :
    Tr prog w (A.deeper (lwEnv L)) (lwEnv L) FP s n (RD prog w FP Dr (ksD ks)) (al (lw2 hd st ns)) (σr Dr) ((bodyK 149).drop 14) K E := by
  have G : ∀ {FP n t ρ σ}, Bd (A.deeper (lwEnv L)) (lwEnv L) FP n → Fx s (lwEnv L) FP n ρ σ t → Gd w mg mb (A.deeper (lwEnv L)) FP t 7 := fun b f => g.body (.refl s) b f
  have r7 : Room (A.deeper (lwEnv L)) 7 := g.room.deeper _
  have w1 := wordS_len (nmv st 0) (st.fdiv 16)
  have w2 := wordS_len (nmv st 1) (st.fdiv 144)
  have tlen : (text0 st).length ≤ 30 := by unfold text0; rw [app_len]; omega
  refine tr_lexer (ys := text0 st) b g.S (r7.le (by decide)) RD.ext (fun t f _ => ?_) (Nat.le_trans tlen (by decide)) rfl (fun a h => RD prog w (off3 FP a) Dr (ksD ks) h) (fun h h' a x hm k => (x.mono fun c hc hf => ⟨hf, fun z => Nat.lt_irrefl _ (Nat.lt_of_lt_of_le hc (hm c z))⟩).kp k) (fun a m hm => RD.ext) ?_ (hk := .inl rfl)
  · have c := f.cx b
    have z := f.sees
    have g1 := (G b f).le (k' := 3) (by decide)
    refine ev_addS (call_at g1.S c (evAll_cons (ev_modI (ev_name c z rfl) ev_int) (evAll_cons (ev_divI (ev_name c z rfl) ev_int) evAll_nil)) (word_spec g1 (nmv_ok st 0).1 (nmv_ok st 0).2)) (call_at g1.S c (evAll_cons (ev_modI (ev_divI (ev_name c z rfl) ev_int) ev_int) (evAll_cons (ev_divI (ev_name c z rfl) ev_int) evAll_nil)) (word_spec g1 (nmv_ok st 1).1 (nmv_ok st 1).2)) ?_
    rw [sizeLine_eq]; omega
  intro a m hm b1 hl
  have h77 : (77 : Nat) < m := by
    obtain ⟨ps, e⟩ := tab77 g.S.tab
    exact Nat.lt_trans (Nat.lt_of_lt_of_le (Heap.lt_size e) (hl.low a.P (by simp))) (hl.lt a.P (by simp))
  have lsl := fun i => lsAt_len hkk (st0 st) i
  have st0l : (st0 st).1.length ≤ 30 ∧ (st0 st).2.length = 0 := ⟨by unfold st0; exact tlen, rfl⟩
  have XE : ∀ {text pb} {FP2 : Addr → Prop} {q : Nat}, m ≤ q → Ext (lwEnv L) FP2 noM q (Lex a text pb) := fun hq => Lex.ext fun c hc => ⟨hl.off c hc, fun z => z, Nat.lt_of_lt_of_le (hl.lt c hc) hq⟩
  refine tr_forI (FPi := fun _ => False) (M := MM a) (ds := [.int (nmv st 0), .int (nmv st 1)]) (fun _ => al (lw2 hd st ns)) (fun i h => Lex a (lsAt ks (st0 st) i).1 (lsAt ks (st0 st) i).2 h ∧ RD prog w (off3 FP a) Dr (ksD ks) h) b1 (fun i => (XE (Nat.le_refl _)).and RD.ext) ?_ ?_ (fun _ z => nomatch z) ?_ ?_ (.inr ⟨rfl, rfl⟩)
  · rintro c (hc | rfl)
    · exact hl.lt c (mut_all hc)
    · exact h77
  · intro t f x
    exact iter_tupleI b1.hh (ev_tuple (evAll_cons (ev_flatI (ev_modI (ev_name (f.cx b1) f.sees rfl) ev_int)) (evAll_cons (ev_flatI (ev_modI (ev_divI (ev_name (f.cx b1) f.sees rfl) ev_int) ev_int)) evAll_nil)) two_le)
  · intro i d n' Y hdd hn' b' hY
    have hi : i < 2 := (List.getElem?_eq_some_iff.mp hdd).1
    have hdi : d = .int (nmv st i) := by
      match i, hi, hdd with
      | 0, _, hdd => cases hdd; rfl
      | 1, _, hdd => cases hdd; rfl
    subst hdi
    obtain ⟨q1, q2⟩ := lsl i
    have hl' : HL (lwEnv L) (off3 FP a) s n' a := ⟨hl.off, fun c hc => Nat.lt_of_lt_of_le (hl.lt c hc) hn', hl.low, hl.nofp⟩
    have hS1 : lsAt ks (st0 st) (i + 1) = (rounds ks ((lsAt ks (st0 st) i).1, (lsAt ks (st0 st) i).2) 4).2.2 := rfl
    have hTi := hT i hi
    rw [hS1]
    generalize lsAt ks (st0 st) i = S at q1 q2 hTi ⊢
    obtain ⟨tx1, pb1⟩ := S
    simp only at q1 q2 ⊢
    refine tr_pre (Y := fun h => Lex a tx1 pb1 h ∧ RD prog w (off3 FP a) Dr (ksD ks) h ∧ Y h) (fun h z => ⟨z.1.1, z.1.2, z.2⟩) ?_
    refine tr_assignC (ds := toldD (rowsL hd ns) (nmv st i)) (fun C h => Lex a tx1 pb1 h ∧ RD prog w (fun b => off3 FP a b ∧ b ≠ C) Dr (ksD ks) h ∧ Y h) (fun C h h' x hC k => ⟨x.1.kp k, (x.2.1.mono fun c hc hf => ⟨hf, fun z => Nat.lt_irrefl _ (Nat.lt_of_lt_of_le (z ▸ hc) hC)⟩).kp k, hY.kp _ _ x.2.2 k⟩) (fun C h x => ⟨x.1, x.2.1.mono fun _ _ z => z.1, x.2.2⟩)
      (fun C hC => (XE (Nat.le_trans hn' hC)).and (RD.ext.and (hY.wide (fun _ z => nomatch z) (fun _ z => nomatch z) hC))) b' (fun t f x => co_told (st := st) ((G b' f).le (by decide)) (f.cx b') f.sees rfl rfl rfl rfl (nmv_ok st i).1 (nmv_ok st i).2) ?_ rfl
    have hYm : Ext (lwEnv L) (off3 FP a) (MM a) n' Y := hY.wide (fun _ z => nomatch z) (fun _ z => .inl z) (Nat.le_refl _)
    refine tr_ifX false (tstx_ne (M := noM) (db := .list (toldD (rowsL hd ns) (nmv st i))) b' ((XE hn').and (RD.ext.and (hYm.le (fun _ z => nomatch z) (Nat.le_refl _)))) (evx_rounds (x := "line") (x2 := "rules") b' g.S (r7.le (by decide)) hl' rfl rfl hkk (by omega) (by omega) hYm) (fun t f x => ev_name (f.cx b') f.sees rfl) (by rw [hTi]; exact (shK_told _ _).sh) (shK_told _ _).sh (by rw [hTi, eqv_self (shK_told _ _)]; rfl)) ?_
    exact tr_sub (l := lw2 hd st ns) (sub_cons (sub_cons (sub_cons (sub_cons (sub_cons (sub_cons (sub_cons (sub_cons (sub_cons sub_nil))))))))) (tr_nil fun t f x => ⟨.inl rfl, f, ⟨x.1, x.2.1⟩, x.2.2⟩)
  · obtain ⟨q1, q2⟩ := lsl 2
    exact tr_retTok (x := "line") (text := (lsAt ks (st0 st) 2).1) (pb := (lsAt ks (st0 st) 2).2) b1 g.S (r7.le (by decide)) hl rfl (by omega) (by omega) hEnd (fun h x => x.1) hK
end
end Mine
end
section
open PySem PySem.W PyProof.Rows PySem.Calls PySem.Spec PySem.SeqAt
set_option linter.unusedVariables false
set_option maxRecDepth 100000
namespace Mine
/-- what the law asks of plain data -/
structure LawOk (hd st : Int) (ns : List Int) : Prop where
  h1 : readS (headerOf hd ns (mns hd) ++ tailsL.getD (hd.fmod 10).toNat default) = (endsL (dueOf hd ns (mns hd))).getD (hd.fmod 10).toNat .none
  h2 : readS (headerOf hd ns (mns hd)) = pairs (dueOf hd ns (mns hd))
  h3 : readS (S "") = .list []
  sh1 : shK 10 ((endsL (dueOf hd ns (mns hd))).getD (hd.fmod 10).toNat .none)
  sh2 : shK 10 (pairs (dueOf hd ns (mns hd)))
  nd : ((dueOf hd ns (mns hd)).map (·.1)).Nodup
  h4 : ∀ v : Nat, v < 3 → dget (ksD (ksOf (dueOf hd ns (mns hd)))) (nmS v) = some (namedRow ((rowsL hd ns).getD v []))
  kk : okK (ksOf (dueOf hd ns (mns hd)))
  hT : ∀ i < 2, linesD (rounds (ksOf (dueOf hd ns (mns hd))) (lsAt (ksOf (dueOf hd ns (mns hd))) (st0 st) i) 4).1 = toldD (rowsL hd ns) (nmv st i)
  hE : (ls (getTok (lsAt (ksOf (dueOf hd ns (mns hd))) (st0 st) 2).1 (lsAt (ksOf (dueOf hd ns (mns hd))) (st0 st) 2).2).1 == ls (Str.ofString "")) = true
section
variable {w : World} {mg mb : Str → Option Value} {A : Around} {FP FP0 FP' M : Addr → Prop} {s t t' s₀ sb : Shared} {n : Nat} {L : Addr} {K : Flow → Shared → Prop} {E : Value → Shared → Prop} {p1 p2 pos : Pos} {h0 : Heap}
theorem fnAt_law {h : Heap} (S : Stat w mg mb h) : FnAt h 149 (fdK 149) := fnAt (c := 148) S rfl rfl rfl rfl rfl rfl
theorem lawN_five (sc : List Int) : ∃ hd st n0 n1 n2, lawN sc = [hd, st, n0, n1, n2] := by
  have : (lawN sc).length = 5 := by
    unfold lawN
    rw [List.length_append, List.length_drop, List.length_take]
    show min 5 sc.length + (5 - min 5 sc.length) = 5
    have := Nat.min_le_left 5 sc.length
    omega
  match lawN sc, this with
  | [a, b, c, d, e], _ => exact ⟨a, b, c, d, e, rfl⟩
theorem Fx.retok {env : Env} {ρ : Str → Option PyData} {σ : Str → Option Value} {k : Nat} (f : Fx s env FP n ρ σ t) (h : k ≤ t.toks) : Fx { s with toks := k } env FP n ρ σ t := by
  obtain ⟨m, cm, a, r, g⟩ := f.ex
  refine ⟨⟨m, cm, ⟨a.kp, ?_, a.ns, a.cell, a.apart, a.above, a.fresh, a.look, h⟩, r, g⟩, f.big⟩
  obtain ⟨h1, t1, rfl⟩ := a.rest
  exact ⟨h1, t1, rfl⟩
theorem law_walk {sc : List Int} {hd st n0 n1 n2 : Int} (S : Stat w mg mb s.heap) (room : Room A 8) (fp : ∀ b, s.heap.objs.size ≤ b → FP0 b) (fr : A.frames = some []) (hsc : sc.length ≤ sizeLine) (hN : lawN sc = [hd, st, n0, n1, n2]) (ok : LawOk hd st [n0, n1, n2]) {v : Value} (r : Rd FP0 s.heap v (.list (sc.map .int))) {Q : Value → Shared → Prop} (hQ : ∀ s', Stp s s' → Q (.bool true) s') :
    wpAny (model prog w) A (call (.ref 149) [v]) Q E s := by
  refine enter_def (body := bodyK 149) (FP := FP0) (fnAt_law S) (room.le (by decide)) fp ["script"] [v] rfl (al [("script", .list (sc.map .int))]) noRaw (fun y d hy => ?_) (fun x v e => nomatch e) ?_ rfl
  · unfold al at hy
    rw [List.lookup_cons] at hy
    cases hb : y == ("script" : Str) with
    | true => rw [hb] at hy; cases hy; exact ⟨v, by rw [beq_iff_eq.mp hb]; exact .head _, r⟩
    | false => rw [hb] at hy; cases hy
  intro FP' n s1 hf _ hn b f old
  refine law_p0 S b hsc hN f fun t' f' htk => ?_
  have f'' := f'.retok (k := max 1 s.toks) (Nat.max_le.mpr ⟨htk, f'.toStp.tk⟩)
  have g : Gd w mg mb A FP0 { s with toks := max 1 s.toks } 8 := ⟨S, room, fp, Nat.le_max_left _ _⟩
  have F : Fly0 w mg mb A [] s.heap { s with toks := max 1 s.toks } := ⟨S, .refl _, (fun _ h => nomatch h), fr, trivial⟩
  refine (law_p1 g b (law_p2 F g b ok.h1 ok.h2 ok.h3 ok.sh1 ok.sh2 (law_p3 g b ok.nd ok.h4 fun D => law_p4 g b (law_p5 g b ok.kk ok.hT ok.hE fun t st => ?_)))).go t' f'' trivial
  refine hQ t ⟨st.kp, ?_, Nat.le_trans (Nat.le_max_right _ _) st.tk⟩
  obtain ⟨h1, t1, rfl⟩ := st.rest
  exact ⟨h1, t1, rfl⟩
end
end Mine
end
section
open PySem PySem.W PyProof.Rows PySem.Calls PySem.Spec PySem.SeqAt
set_option linter.unusedVariables false
set_option maxRecDepth 100000
namespace Mine
theorem items_ints {R : WRecords} : ∀ {xs : List WData}, WShape.hasItems R xs .int = true → ∃ sc : List Int, xs = sc.map .int
  | [], _ => ⟨[], rfl⟩
  | x :: r, h => by
    rw [WShape.hasItems, Bool.and_eq_true] at h
    obtain ⟨i, rfl⟩ := hasW_int h.1
    obtain ⟨sc, rfl⟩ := items_ints h.2
    exact ⟨i :: sc, rfl⟩
theorem reads_ints {R : WRecords} {cl : Str → Option Addr} {h : Heap} {FP : Addr → Prop} : ∀ {vs : List Value} {sc : List Int} {as : List Addr}, ReadsAllW R cl h vs (sc.map .int) as → Rds FP h vs (sc.map .int)
  | _, [], _, r => by cases r; exact .nil
  | _, i :: sc, _, r => by
    cases r with
    | cons r1 r2 =>
      cases r1
      exact .cons (.int _ _) (reads_ints r2)
theorem pre_len {sc : List Int} (q : WTm.holds [] (.and (.not (.lt (.lit (.int 63)) (.len (.arg 0)))) (.lit (.bool true))) { args := [.list (sc.map .int)] } = true) : sc.length ≤ 63 := by
  simp [WTm.holds, WTm.value] at q
  have e : W.less? (WData.int 63) (WData.int (sc.length : Int)) = some (decide ((63 : Int) < (sc.length : Int))) := rfl
  rw [e] at q
  by_cases h : (63 : Int) < (sc.length : Int)
  · rw [decide_eq_true h] at q; exact absurd q (by simp)
  · omega
theorem post_true (ds : List WData) : (WShape.has [] (.bool true) .bool && WTm.holds [] (.eq .res (.lit (.bool true))) { args := ds, res := some (.bool true), after := ds }) = true := by
  simp [WTm.holds, WTm.value]
  have e : W.same (WData.bool true) (WData.bool true) = true := by first | decide | rfl | simp [W.same] | decide +kernel
  rw [e]
  exact ⟨by decide +kernel, rfl⟩
theorem top (laws : ∀ hd st n0 n1 n2 : Int, LawOk hd st [n0, n1, n2]) : PySem.Challenge.rw_pk0051_01.Holds := by
  refine Hd.hd ?_
  intro w s₀ s₁ mg mb G Y a o pm cd doc dV kV ho hod hcd hD hmg hg args vals as hpre hlay hrd hwl hlo
  have T := G.T
  have KX : (K w.params).In s₁.heap := km_in_of Y
  have S : Stat w mg mb s₁.heap := ⟨fun b o e => KX b o e, T.g, T.b, T.nolimit, T.builtins, T.bmain, .inl (km_tabs_of Y 77 (.head _))⟩
  have hlaw : mg "law" = some (.ref 149) := mg_of (fun b o e => KX b o e) T.g (by kernel_rfl)
  have hmg' : mg (Str.ofString "law") = some (.ref a) := hmg
  rw [show mg (Str.ofString "law") = some (.ref 149) from hlaw] at hmg'
  cases hmg'
  -- the arguments
  have hp := Bool.and_eq_true_iff.mp hpre
  have hp1 : WShape.hasAll [] args [.list .int] = true := hp.1
  have hp2 : (PySem.Challenge.rw_pk0051_01.row.toRowW).pre.holds [] { args := args } = true := hp.2
  match args, hp1 with
  | [], h => exact absurd h (by simp [WShape.hasAll])
  | _ :: _ :: _, h => exact absurd h (by simp [WShape.hasAll])
  | [d], h =>
    have h' : WShape.has [] d (.list .int) = true := by simpa [WShape.hasAll] using h
    obtain ⟨xs, rfl, hx⟩ := hasW_list h'
    obtain ⟨sc, rfl⟩ := items_ints hx
    have hlen : sc.length ≤ 63 := by
      exact pre_len hp2
    cases hrd with
    | cons r1 r2 =>
      cases r2
      cases r1 with
      | @list aL oL vsL nL _ _ e1 e2 e3 e4 =>
        have rd : Rd (fun _ => True) s₁.heap (.ref aL) (.list (sc.map .int)) := .mkList (vs := vsL.toList) ⟨oL, e1, e2, nL, by rw [Array.toArray_toList]; exact e3⟩ (reads_ints e4) trivial
        obtain ⟨hd0, st, n0, n1, n2, hN⟩ := lawN_five sc
        refine law_walk (FP0 := fun _ => True) S ⟨rfl, by decide, by decide⟩ (fun _ _ => trivial) rfl (Nat.le_trans hlen (by decide)) hN (laws _ _ _ _ _) rd fun s' st' => ?_
        refine ⟨.inl ⟨.bool true, .bool true, [], rfl, fun _ => rfl, .bool _, ?_, fun _ => ⟨List.nodup_nil, fun a ha => nomatch ha⟩⟩, ?_, ?_, ?_⟩
        · show (WShape.has [] (.bool true) .bool && WTm.holds [] (.eq .res (.lit (.bool true))) { args := [.list (sc.map .int)], res := some (.bool true), after := [.list (sc.map .int)] }) = true
          exact post_true _
        · have k := st'.kp
          have T77 : s₁.heap.get? 77 = some (tabObj #[]) := km_tabs_of Y 77 (.head _)
          have tabAt : s₁.heap.TableAt 81 77 #[] := (lexHd S).tab T77
          refine ⟨fun b o e => ?_, fun b o e => ?_⟩
          · by_cases hb : isTab o = false ∨ b ≠ 77
            · exact .inl (k.keep b o e hb)
            · have hb77 : b = 77 := Classical.byContradiction fun z => hb (.inr z)
              subst hb77
              rw [T77] at e; cases e
              rcases k.tab S.tab with q | ⟨c, q, _⟩
              · exact .inl q
              · exact .inr (.inl ⟨tabAt.isCodeTable, rfl, #[], _, rfl, by simpa [tabObj] using q⟩)
          · by_cases hb : isTab o = false ∨ b ≠ 77
            · exact ⟨o, k.keep b o e hb⟩
            · have hb77 : b = 77 := Classical.byContradiction fun z => hb (.inr z)
              subst hb77
              rcases k.tab S.tab with q | ⟨c, q, _⟩
              · exact ⟨_, q⟩
              · exact ⟨_, q⟩
        · obtain ⟨h1, t1, e⟩ := st'.rest
          rw [e]
        · obtain ⟨h1, t1, e⟩ := st'.rest
          rw [e]
          exact .of_eq hg
end Mine
end
section
open PySem PySem.W PyProof.Rows PySem.Calls PySem.Spec PySem.SeqAt
set_option linter.unusedVariables false
set_option maxRecDepth 100000
namespace Mine
/-! ## tokens -/
theorem tokR_q (x r tk : List Nat) : tokR .q (escL x ++ 34 :: r) tk = (tk ++ x, r) := by
  induction x generalizing tk with
  | nil => simp [escL, tokR]
  | cons c x ih =>
    have e : escL (c :: x) = (if c = 92 then [92, 92] else if c = 34 then [92, 34] else [c]) ++ escL x := by simp [escL]
    rw [e]
    by_cases h1 : c = 92
    · subst h1
      simp only [if_true, List.cons_append, List.nil_append]
      rw [tokR, if_neg (by decide), if_pos rfl, tokR, ih]; simp
    · by_cases h2 : c = 34
      · subst h2
        rw [if_neg (by decide), if_pos rfl]
        simp only [List.cons_append, List.nil_append]
        rw [tokR, if_neg (by decide), if_pos rfl, tokR, ih]; simp
      · rw [if_neg h1, if_neg h2]
        simp only [List.cons_append, List.nil_append]
        rw [tokR, if_neg h2, if_neg h1, ih]; simp
theorem tok_quoted (x r : List Nat) : tok (34 :: escL x ++ 34 :: r) = (x, r) := by
  unfold tok
  show tokR .sk (34 :: (escL x ++ 34 :: r)) [] = _
  rw [tokR, if_neg (by decide), if_pos rfl, tokR_q]; rfl
theorem tokR_every (x r tk : List Nat) (c : Nat) (hc : ws c = true) : tokR .b (everyL x ++ c :: r) tk = (tk ++ x, r) := by
  induction x generalizing tk with
  | nil => simp [everyL, tokR, hc]
  | cons d x ih =>
    have e : everyL (d :: x) = 92 :: d :: everyL x := rfl
    rw [e]
    simp only [List.cons_append]
    rw [tokR, if_neg (by decide), if_pos rfl, tokR, ih]; simp
theorem tok_every (x r : List Nat) (c : Nat) (hx : x ≠ []) (hc : ws c = true) : tok (everyL x ++ c :: r) = (x, r) := by
  cases x with
  | nil => exact absurd rfl hx
  | cons d x =>
    have e : everyL (d :: x) = 92 :: d :: everyL x := rfl
    rw [e]
    unfold tok
    simp only [List.cons_append]
    rw [tokR, if_neg (by decide), if_neg (by decide), if_pos rfl, tokR, tokR_every _ _ _ _ hc]; rfl
theorem tok_ws (r : List Nat) : ∀ l : List Nat, (∀ c ∈ l, ws c = true) → tok (l ++ r) = tok r
  | [], _ => rfl
  | c :: l, h => by
    unfold tok
    rw [List.cons_append, tokR, if_pos (h c (.head _))]
    exact tok_ws r l fun d hd => h d (.tail _ hd)
noncomputable def nmL (a : Int) : List Nat := ls (nmS a)
theorem seps3_ws (i : Nat) : ∀ c ∈ ls (seps3.getD i default), ws c = true := by
  match i with
  | 0 | 1 | 2 => decide +kernel
  | n + 3 => intro c hc; exact absurd (show c ∈ ([] : List Nat) from hc) List.not_mem_nil
theorem quoted_ls (x : Str) (n : Int) : ls (quoted x n) = 34 :: escL (ls x) ++ 34 :: ls (seps3.getD ((n.fdiv 3).fmod 3).toNat default) := by
  have q : S "\"" = tx [34] := by decide +kernel
  unfold quoted
  rw [q, esc_eq, ls_app, ls_app, ls_app]
  show (([34] ++ escL (ls x)) ++ [34]) ++ ls (seps3.getD ((n.fdiv 3).fmod 3).toNat default) = _
  rw [List.append_assoc, List.append_assoc]; rfl
/-- a word's first token -/
theorem tok_word {a : Int} (n : Int) (h0 : 0 ≤ a) (h1 : a < 4) : ∃ r : List Nat, (∀ c ∈ r, ws c = true) ∧ ∀ rest, tok (ls (wordS a n) ++ rest) = (nmL a, r ++ rest) := by
  unfold wordS
  split
  · refine ⟨ls (seps3.getD ((n.fdiv 3).fmod 3).toNat default), seps3_ws _, fun rest => ?_⟩
    rw [quoted_ls]
    have := tok_quoted (ls (nmS a)) (ls (seps3.getD ((n.fdiv 3).fmod 3).toNat default) ++ rest)
    simpa [nmL] using this
  · rename_i hm
    have m0 := fm0 n 3
    have m1 := fm1 n 3
    have hk : (n.fmod 3 - 1).toNat = 0 ∨ (n.fmod 3 - 1).toNat = 1 := by omega
    have hj := fmN (n.fdiv 3) 3 3 rfl
    generalize ((n.fdiv 3).fmod 3).toNat = j at hj
    rcases hk with hk | hk
    · rw [hk]
      have hne : ls (nmS a) ≠ [] := by
        have : a = 0 ∨ a = 1 ∨ a = 2 ∨ a = 3 := by omega
        rcases this with rfl | rfl | rfl | rfl <;> decide +kernel
      have key : ∀ (c : Nat) (r : List Nat), ws c = true → ∀ rest, tok (ls (every (nmS a)) ++ (c :: r) ++ rest) = (nmL a, r ++ rest) := fun c r hc rest => by
        rw [every_eq, ls_tx]
        have := tok_every (ls (nmS a)) (r ++ rest) c hne hc
        simpa [nmL] using this
      match j, hj with
      | 0, _ => exact ⟨[], (fun _ h => nomatch h), fun rest => by
          have := key 32 [] (by decide) rest
          rw [ls_app]; exact this⟩
      | 1, _ => exact ⟨[], (fun _ h => nomatch h), fun rest => by
          have := key 13 [] (by decide) rest
          rw [ls_app]; exact this⟩
      | 2, _ => exact ⟨[10], (by decide), fun rest => by
          have := key 10 [10] (by decide) rest
          rw [ls_app]; exact this⟩
    · rw [hk]
      have ha : a = 0 ∨ a = 1 ∨ a = 2 ∨ a = 3 := by omega
      have hw : ∃ (c : Nat) (r : List Nat), ws c = true ∧ (∀ d ∈ r, ws d = true) ∧ ls (sepw.getD j default) = c :: r := by
        match j, hj with
        | 0, _ => exact ⟨32, [], by decide, by decide, by decide +kernel⟩
        | 1, _ => exact ⟨13, [], by decide, by decide, by decide +kernel⟩
        | 2, _ => exact ⟨10, [10], by decide, by decide, by decide +kernel⟩
      obtain ⟨c, r, hc, hr, he⟩ := hw
      refine ⟨r, hr, fun rest => ?_⟩
      have key : ∀ l nm : List Nat, ls (barS.getD a.toNat default) = l → nmL a = nm → tok (l ++ c :: (r ++ rest)) = (nm, r ++ rest) → tok (ls (barS.getD a.toNat default ++ sepw.getD j default) ++ rest) = (nmL a, r ++ rest) := fun l nm e1 e2 e3 => by
        rw [ls_app, e1, he, e2, List.append_assoc]; exact e3
      rcases ha with rfl | rfl | rfl | rfl
      · exact key [65, 37, 52, 49] [65, 37, 52, 49] (by decide +kernel) (by decide +kernel) (by have h := hc; simp [ws] at h; simp [tok, tokR, ws]; intro a b d e; omega)
      · exact key [92, 34, 98, 44, 92, 32, 99, 34] [34, 98, 44, 32, 99, 34] (by decide +kernel) (by decide +kernel) (by have h := hc; simp [ws] at h; simp [tok, tokR, ws]; intro a b d e; omega)
      · exact key [92, 92] [92] (by decide +kernel) (by decide +kernel) (by have h := hc; simp [ws] at h; simp [tok, tokR, ws]; intro a b d e; omega)
      · exact key [39, 61, 39] [39, 61, 39] (by decide +kernel) (by decide +kernel) (by have h := hc; simp [ws] at h; simp [tok, tokR, ws]; intro a b d e; omega)
end Mine
end
section
open PySem PySem.W PyProof.Rows PySem.Calls PySem.Spec PySem.SeqAt
set_option linter.unusedVariables false
set_option maxRecDepth 100000
namespace Mine
noncomputable abbrev rowF (R : List (List Int)) (b : Int) : List Int := R.getD b.toNat []
structure KsOf (ks : List (Str × List Str)) (R : List (List Int)) : Prop where
  ok : okR R
  get : ∀ a, 0 ≤ a → a < 4 → rget ks (nmS a) = (rowF R a).map nmS
section
variable {ks : List (Str × List Str)} {R : List (List Int)} {T T' : List Nat} {a : Int}
theorem lv_next (R : List (List Int)) : ∀ (k : Nat) (a : Int), lv R (k + 1) a = (lv R k a).flatMap (rowF R)
  | 0, a => by simp [lv]
  | k + 1, a => by
    rw [lv]
    have : lv R (k + 1) a = (rowF R a).flatMap (lv R k) := rfl
    rw [this, List.flatMap_assoc]
    congr 1
    funext b
    exact lv_next R k b
theorem KsOf.len (h : KsOf ks R) {b : Int} (h0 : 0 ≤ b) (h1 : b < 4) : (rowF R b).length ≤ 3 := (h.ok.2 _ (row_mem h0 (by rw [h.ok.1]; exact h1))).1
theorem rnd_pb (h : KsOf ks R) (m : Nat) (hm : 3 ≤ m) (l : List Int) (hl : ∀ b ∈ l, 0 ≤ b ∧ b < 4) : ∀ i, i ≤ l.length → rnd ks m (T, l.map nmS) i = ((l.take i).map nmS, (T, (l.drop i).map nmS ++ ((l.take i).flatMap (rowF R)).map nmS))
  | 0, _ => by simp [rnd]
  | i + 1, hi => by
    have hlt : i < l.length := hi
    obtain ⟨b0, b1⟩ := hl l[i] (List.getElem_mem hlt)
    rw [rnd, rnd_pb h m hm l hl i (Nat.le_of_lt hlt)]
    simp only
    have e1 : l.take (i + 1) = l.take i ++ [l[i]] := List.take_succ_eq_append_getElem hlt
    have e2 : ((rowF R l[i]).map nmS).take m = (rowF R l[i]).map nmS := List.take_of_length_le (by rw [List.length_map]; exact Nat.le_trans (h.len b0 b1) hm)
    rw [List.drop_eq_getElem_cons hlt, e1]
    simp only [List.map_cons, List.cons_append, getTok]
    rw [h.get _ b0 b1, e2, List.flatMap_append, List.map_append, List.map_append, List.append_assoc, List.flatMap_cons, List.flatMap_nil, List.append_nil]
    rfl
theorem rnd_pb0 (l : List Int) : ∀ i, i ≤ l.length → rnd ks 0 (T, l.map nmS) i = ((l.take i).map nmS, (T, (l.drop i).map nmS))
  | 0, _ => by simp [rnd]
  | i + 1, hi => by
    have hlt : i < l.length := hi
    rw [rnd, rnd_pb0 l i (Nat.le_of_lt hlt)]
    simp only
    have e1 : l.take (i + 1) = l.take i ++ [l[i]] := List.take_succ_eq_append_getElem hlt
    rw [List.drop_eq_getElem_cons hlt, e1]
    simp only [List.map_cons, getTok]
    rw [List.take_zero, List.append_nil, List.map_append]
    rfl
theorem sum_rget (h : KsOf ks R) : ∀ l : List Int, (∀ b ∈ l, 0 ≤ b ∧ b < 4) → ((l.map nmS).map fun y => (rget ks y).length).sum = (l.flatMap (rowF R)).length
  | [], _ => rfl
  | b :: r, hl => by
    obtain ⟨b0, b1⟩ := hl b (.head _)
    have ih := sum_rget h r fun c hc => hl c (.tail _ hc)
    rw [List.map_cons, List.map_cons, List.sum_cons, ih, List.flatMap_cons, List.length_append, h.get _ b0 b1, List.length_map]
noncomputable def lineL (R : List (List Int)) (a : Int) (l : Nat) : List Str := (lv R l a).map nmS ++ [tx []]
theorem rounds_step (h : KsOf ks R) (h0 : 0 ≤ a) (h1 : a < 4) (st : LS) (i : Nat) (hi : i < 3) (ls0 : List (List Str)) (e : rounds ks st i = (ls0, (lv R i a).length, (T', (lv R i a).map nmS))) :
    rounds ks st (i + 1) = (ls0 ++ [lineL R a i], (lv R (i + 1) a).length, (T', (lv R (i + 1) a).map nmS)) := by
  have hl := (lv_ok h.ok i h0 h1).2
  rw [rounds, e]
  simp only
  rw [rnd_pb h (3 * (3 - i)) (by omega) _ hl _ (Nat.le_refl _), List.take_length, List.drop_length]
  simp only [List.map_nil, List.nil_append]
  rw [sum_rget h _ hl, lv_next]
  rfl
/-- the rounds of one line -/
theorem rounds_line (h : KsOf ks R) (h0 : 0 ≤ a) (h1 : a < 4) (ht : tok T = (nmL a, T')) : (rounds ks (T, []) 4).1 = [lineL R a 0, lineL R a 1, lineL R a 2, lineL R a 3] ∧ (rounds ks (T, []) 4).2.2 = (T', []) := by
  have e1 : rounds ks (T, []) 1 = ([] ++ [lineL R a 0], (lv R 1 a).length, (T', (lv R 1 a).map nmS)) := by
    have hg : getTok T [] = (nmS a, T', []) := by rw [getTok0, ht]; simp only [nmL, tx_ls]
    have hr : rnd ks 9 (T, []) 1 = ([nmS a], (T', (rowF R a).map nmS)) := by
      rw [rnd, rnd]
      simp only [hg, List.nil_append]
      rw [h.get _ h0 h1, List.take_of_length_le (by rw [List.length_map]; exact Nat.le_trans (h.len h0 h1) (by decide))]
    have hl1 : lv R 1 a = rowF R a := by rw [lv_next]; simp [lv]
    rw [rounds, rounds]
    simp only
    rw [show 3 * (3 - 0) = 9 from rfl, hr, hl1]
    simp only [List.map_cons, List.map_nil, List.sum_cons, List.sum_nil]
    rw [h.get _ h0 h1, List.length_map]; rfl
  have e2 := rounds_step h h0 h1 (T, []) 1 (by decide) _ e1
  have e3 := rounds_step h h0 h1 (T, []) 2 (by decide) _ e2
  have e4 : rounds ks (T, []) (3 + 1) = (([] ++ [lineL R a 0] ++ [lineL R a 1] ++ [lineL R a 2]) ++ [lineL R a 3], (rounds ks (T, []) (3 + 1)).2.1, (T', [])) := by
    rw [rounds, e3]
    simp only
    rw [show 3 * (3 - 3) = 0 from rfl, rnd_pb0 _ _ (Nat.le_refl _), List.take_length, List.drop_length]
    rfl
  show (rounds ks (T, []) (3 + 1)).1 = _ ∧ (rounds ks (T, []) (3 + 1)).2.2 = _
  rw [e4]
  exact ⟨rfl, rfl⟩
theorem lines_told (R : List (List Int)) (a : Int) : linesD [lineL R a 0, lineL R a 1, lineL R a 2, lineL R a 3] = toldD R a := by
  have e : ∀ l, PyData.list ((lineL R a l).map .str) = .list (((lv R l a).map fun q => PyData.str (nmS q)) ++ [.str (Str.ofString "")]) := fun l => by
    unfold lineL
    rw [List.map_append, List.map_map, emp_tx]; rfl
  show [PyData.list ((lineL R a 0).map .str), PyData.list ((lineL R a 1).map .str), PyData.list ((lineL R a 2).map .str), PyData.list ((lineL R a 3).map .str)] = _
  rw [e 0, e 1, e 2, e 3]; rfl
/-- all the rounds -/
theorem rounds_law {st : Int} (h : KsOf ks R) : (∀ i < 2, linesD (rounds ks (lsAt ks (st0 st) i) 4).1 = toldD R (nmv st i)) ∧ (ls (getTok (lsAt ks (st0 st) 2).1 (lsAt ks (st0 st) 2).2).1 == ls (Str.ofString "")) = true := by
  have ⟨a0, a1⟩ := nmv_ok st 0
  have ⟨b0, b1⟩ := nmv_ok st 1
  obtain ⟨r1, w1, t1⟩ := tok_word (st.fdiv 16) a0 a1
  obtain ⟨r2, w2, t2⟩ := tok_word (st.fdiv 144) b0 b1
  have hT : tok (ls (text0 st)) = (nmL (nmv st 0), r1 ++ ls (wordS (nmv st 1) (st.fdiv 144))) := by
    unfold text0; rw [ls_app]; exact t1 _
  have hT2 : tok (r1 ++ ls (wordS (nmv st 1) (st.fdiv 144))) = (nmL (nmv st 1), r2) := by
    rw [tok_ws _ _ w1]
    have := t2 []
    simpa using this
  have hT3 : tok r2 = ([], []) := by have := tok_ws [] r2 w2; simpa [tok_nil] using this
  obtain ⟨l1, s1⟩ := rounds_line h a0 a1 hT
  obtain ⟨l2, s2⟩ := rounds_line h b0 b1 hT2
  have e1 : lsAt ks (st0 st) 1 = (r1 ++ ls (wordS (nmv st 1) (st.fdiv 144)), []) := s1
  have e2 : lsAt ks (st0 st) 2 = (r2, []) := by
    show (rounds ks (lsAt ks (st0 st) 1) 4).2.2 = _
    rw [e1]; exact s2
  refine ⟨fun i hi => ?_, ?_⟩
  · match i, hi with
    | 0, _ =>
      show linesD (rounds ks (ls (text0 st), []) 4).1 = _
      rw [l1, lines_told]
    | 1, _ => rw [e1, l2, lines_told]
  · rw [e2, getTok0, hT3, emp_tx]; rfl
end
end Mine
end
section
open PySem PySem.W PyProof.Rows PySem.Calls PySem.Spec PySem.SeqAt
set_option linter.unusedVariables false
set_option linter.unusedSimpArgs false
set_option maxRecDepth 100000
namespace Mine
/-! ## items of the header -/
noncomputable def Bal (l g : List Nat) : Prop := ∀ out part, l.foldl hstep ⟨out, part, false, false⟩ = ⟨out, part ++ g, false, false⟩
theorem bal_nil : Bal [] [] := fun out part => by simp
theorem bal_app {l g l' g' : List Nat} (h : Bal l g) (h' : Bal l' g') : Bal (l ++ l') (g ++ g') := fun out part => by rw [List.foldl_append, h, h', List.append_assoc]
theorem bal_one {c : Nat} (h1 : c ≠ 44) (h2 : c ≠ 34) : Bal [c] [c] := fun out part => by simp [hstep, h1, h2]
theorem bal_plain : ∀ l : List Nat, (∀ c ∈ l, c ≠ 44 ∧ c ≠ 34) → Bal l l
  | [], _ => bal_nil
  | c :: l, h => bal_app (l := [c]) (g := [c]) (bal_one (h c (.head _)).1 (h c (.head _)).2) (bal_plain l fun d hd => h d (.tail _ hd))
theorem hq_esc (x : List Nat) : ∀ out part, (escL x).foldl hstep ⟨out, part, false, true⟩ = ⟨out, part ++ x, false, true⟩ := by
  induction x with
  | nil => intro out part; simp [escL]
  | cons c x ih =>
    intro out part
    have e : escL (c :: x) = (if c = 92 then [92, 92] else if c = 34 then [92, 34] else [c]) ++ escL x := by simp [escL]
    rw [e, List.foldl_append]
    have : (if c = 92 then [92, 92] else if c = 34 then [92, 34] else [c]).foldl hstep ⟨out, part, false, true⟩ = ⟨out, part ++ [c], false, true⟩ := by
      by_cases h1 : c = 92
      · subst h1; simp [hstep]
      · by_cases h2 : c = 34
        · subst h2; simp [hstep]
        · simp [hstep, h1, h2]
    rw [this, ih]; simp
theorem hq_every (x : List Nat) : ∀ out part, (everyL x).foldl hstep ⟨out, part, false, true⟩ = ⟨out, part ++ x, false, true⟩ := by
  induction x with
  | nil => intro out part; simp [everyL]
  | cons c x ih =>
    intro out part
    have e : everyL (c :: x) = [92, c] ++ everyL x := rfl
    rw [e, List.foldl_append]
    have : [92, c].foldl hstep ⟨out, part, false, true⟩ = ⟨out, part ++ [c], false, true⟩ := by simp [hstep]
    rw [this, ih]; simp
theorem bal_q {m x : List Nat} (h : ∀ out part, m.foldl hstep ⟨out, part, false, true⟩ = ⟨out, part ++ x, false, true⟩) : Bal (34 :: m ++ [34]) (34 :: x ++ [34]) := fun out part => by
  have e : 34 :: m ++ [34] = [34] ++ m ++ [34] := rfl
  rw [e, List.foldl_append, List.foldl_append]
  have : [34].foldl hstep ⟨out, part, false, false⟩ = ⟨out, part ++ [34], false, true⟩ := by simp [hstep]
  rw [this, h]
  simp [hstep]
theorem bal_flat {α : Type} {f g : α → List Nat} : ∀ l : List α, (∀ q ∈ l, Bal (f q) (g q)) → Bal (l.flatMap f) (l.flatMap g)
  | [], _ => bal_nil
  | q :: l, h => by
    rw [List.flatMap_cons, List.flatMap_cons]
    exact bal_app (h q (.head _)) (bal_flat l fun r hr => h r (.tail _ hr))
noncomputable def sepq (n : Int) : List Nat := ls (seps3.getD ((n.fdiv 3).fmod 3).toNat default)
theorem sepq_ok (n : Int) : sepq n = [] ∨ sepq n = [9] ∨ sepq n = [10] := by
  unfold sepq
  match ((n.fdiv 3).fmod 3).toNat with
  | 0 => left; decide +kernel
  | 1 => right; left; decide +kernel
  | 2 => right; right; decide +kernel
  | n + 3 => left; rfl
theorem quoted_sep (x : Str) (n : Int) : ls (quoted x n) = (34 :: escL (ls x) ++ [34]) ++ sepq n := by rw [quoted_ls]; simp [sepq]
theorem ls_esc (x : Str) : ls (esc x) = escL (ls x) := by rw [esc_eq]
theorem bal_sep (n : Int) : Bal (sepq n) (sepq n) := bal_plain _ fun c hc => by
  rcases sepq_ok n with e | e | e <;> rw [e] at hc <;> simp at hc <;> subst hc <;> decide
theorem bal_word (a n : Int) : Bal (ls (quoted (esc (nmS a)) n)) (ls (quoted (nmS a) n)) := by
  rw [quoted_sep, quoted_sep, ls_esc]
  exact bal_app (bal_q (hq_esc _)) (bal_sep n)
theorem ls_joined (F : Int × Int → Str) (n : Int) : ls (joined F n) = (drawn n).flatMap fun q => ls (F q) := by
  unfold joined
  rw [join0_ls, List.flatMap_map]
/-! ## stripping -/
theorem dw_sp : ∀ (w l : List Nat), (∀ c ∈ w, sp c = true) → (w ++ l).dropWhile sp = l.dropWhile sp
  | [], _, _ => rfl
  | c :: w, l, h => by
    rw [List.cons_append, List.dropWhile_cons_of_pos (h c (.head _))]
    exact dw_sp w l fun d hd => h d (.tail _ hd)
theorem strip_ends {pre l post : List Nat} {a c : Nat} {l1 l2 : List Nat} (hp : ∀ d ∈ pre, sp d = true) (hq : ∀ d ∈ post, sp d = true) (h1 : l = a :: l1) (ha : sp a = false) (h2 : l = l2 ++ [c]) (hc : sp c = false) : stripL (pre ++ l ++ post) = l := by
  unfold stripL
  rw [List.append_assoc, dw_sp _ _ hp]
  have e1 : (l ++ post).dropWhile sp = l ++ post := by rw [h1, List.cons_append, List.dropWhile_cons_of_neg (by rw [ha]; simp)]
  rw [e1]
  unfold rtrim
  rw [List.reverse_append, dw_sp _ _ (fun d hd => hq d (List.mem_reverse.mp hd)), h2, List.reverse_append]
  show ((c :: l2.reverse).dropWhile sp).reverse = _
  rw [List.dropWhile_cons_of_neg (by rw [hc]; simp)]
  simp
/-! ## words -/
noncomputable def Wd (l : List Nat) (a : Int) : Prop := ∃ r : List Nat, (∀ c ∈ r, ws c = true) ∧ ∀ rest, tok (l ++ rest) = (nmL a, r ++ rest)
theorem wd_quoted (a n : Int) : Wd (ls (quoted (nmS a) n)) a := by
  refine ⟨sepq n, fun c hc => ?_, fun rest => ?_⟩
  · rcases sepq_ok n with e | e | e <;> rw [e] at hc <;> simp at hc <;> subst hc <;> decide
  · rw [quoted_sep]
    have := tok_quoted (ls (nmS a)) (sepq n ++ rest)
    simpa [nmL] using this
theorem wd_bare (a : Int) : Wd (34 :: escL (nmL a) ++ [34]) a := ⟨[], (fun _ h => nomatch h), fun rest => by
  have := tok_quoted (nmL a) rest
  simpa using this⟩
theorem nmL_ne {a : Int} (h0 : 0 ≤ a) (h1 : a < 4) : nmL a ≠ [] := by
  have : a = 0 ∨ a = 1 ∨ a = 2 ∨ a = 3 := by omega
  rcases this with rfl | rfl | rfl | rfl <;> decide +kernel
noncomputable def wordsF (k : Nat) (l : List Nat) : List (List Nat) := wordsR k (tok l).1 (tok l).2
theorem wF_nil (k : Nat) : wordsF k [] = [] := wordsR_nil k []
theorem wF_ws (k : Nat) {w : List Nat} (r : List Nat) (h : ∀ c ∈ w, ws c = true) : wordsF k (w ++ r) = wordsF k r := by unfold wordsF; rw [tok_ws r w h]
theorem wF_tok (k : Nat) {l x r : List Nat} (h : tok l = (x, r)) (hx : x ≠ []) : wordsF (k + 1) l = x :: wordsF k r := by
  unfold wordsF
  rw [h, wordsR, if_neg hx]
theorem wF_flat {f : Int × Int → List Nat} (rest : List Nat) : ∀ (l : List (Int × Int)) (k : Nat) (w0 : List Nat), (∀ c ∈ w0, ws c = true) → (∀ q ∈ l, Wd (f q) q.1 ∧ 0 ≤ q.1 ∧ q.1 < 4) → wordsF (l.length + k) (w0 ++ (l.flatMap f ++ rest)) = (l.map (·.1)).map nmL ++ wordsF k rest
  | [], k, w0, hw, _ => by
    rw [wF_ws _ _ hw]
    simp
  | q :: l, k, w0, hw, h => by
    obtain ⟨⟨r, hr, ht⟩, h0, h1⟩ := h q (.head _)
    rw [wF_ws _ _ hw, List.flatMap_cons, List.append_assoc]
    have e : (q :: l).length + k = (l.length + k) + 1 := by simp; omega
    rw [e, wF_tok _ (ht (l.flatMap f ++ rest)) (nmL_ne h0 h1), wF_flat rest l k r hr fun p hp => h p (.tail _ hp)]
    rfl
end Mine
end
section
open PySem PySem.W PyProof.Rows PySem.Calls PySem.Spec PySem.SeqAt
set_option linter.unusedVariables false
set_option linter.unusedSimpArgs false
set_option maxRecDepth 100000
namespace Mine
/-! ## fit signs -/
noncomputable def okL (l : List Nat) : Prop := ∀ c ∈ l, c < 0x110000
theorem okL_app {l l' : List Nat} (h : okL l) (h' : okL l') : okL (l ++ l') := fun c hc => (List.mem_append.mp hc).elim (h c) (h' c)
theorem okL_cons {c : Nat} {l : List Nat} (h : c < 0x110000) (h' : okL l) : okL (c :: l) := fun d hd => (List.mem_cons.mp hd).elim (fun e => e ▸ h) (h' d)
theorem okL_nil : okL [] := fun _ h => nomatch h
theorem okL_flat {α : Type} {f : α → List Nat} {l : List α} (h : ∀ q ∈ l, okL (f q)) : okL (l.flatMap f) := fun c hc => by
  obtain ⟨q, hq, hc⟩ := List.mem_flatMap.mp hc
  exact h q hq c hc
theorem okL_esc {l : List Nat} (h : okL l) : okL (escL l) := okL_flat fun c hc => by
  by_cases h1 : c = 92
  · subst h1; simp only [if_true]; exact okL_cons (by decide) (okL_cons (by decide) okL_nil)
  · by_cases h2 : c = 34
    · subst h2; rw [if_neg (by decide), if_pos rfl]; exact okL_cons (by decide) (okL_cons (by decide) okL_nil)
    · rw [if_neg h1, if_neg h2]; exact okL_cons (h c hc) okL_nil
theorem okL_every {l : List Nat} (h : okL l) : okL (everyL l) := okL_flat fun c hc => okL_cons (by decide) (okL_cons (h c hc) okL_nil)
theorem okL_nm (a : Int) : okL (nmL a) := by
  unfold nmL nmS okL
  match a.toNat with
  | 0 | 1 | 2 | 3 => decide +kernel
  | n + 4 => intro c hc; exact absurd (show c ∈ ([] : List Nat) from hc) List.not_mem_nil
theorem okL_sepq (n : Int) : okL (sepq n) := fun c hc => by
  rcases sepq_ok n with e | e | e <;> rw [e] at hc <;> simp at hc <;> subst hc <;> decide
theorem okL_quoted {x : Str} (n : Int) (h : okL (ls x)) : okL (ls (quoted x n)) := by
  rw [quoted_sep]
  exact okL_app (okL_cons (by decide) (okL_app (okL_esc h) (okL_cons (by decide) okL_nil))) (okL_sepq n)
theorem okL_word (a n : Int) : okL (ls (wordS a n)) := by
  unfold wordS
  split
  · exact okL_quoted n (okL_nm a)
  · rw [ls_app]
    refine okL_app ?_ ?_
    · match (n.fmod 3 - 1).toNat with
      | 0 => show okL (ls (every (nmS a))); rw [every_eq]; exact okL_every (okL_nm a)
      | 1 =>
        show okL (ls (barS.getD a.toNat default))
        unfold okL
        match a.toNat with
        | 0 | 1 | 2 | 3 => decide +kernel
        | n + 4 => intro c hc; exact absurd (show c ∈ ([] : List Nat) from hc) List.not_mem_nil
      | k + 2 => intro c hc; exact absurd (show c ∈ ([] : List Nat) from hc) List.not_mem_nil
    · unfold okL
      match ((n.fdiv 3).fmod 3).toNat with
      | 0 | 1 | 2 => decide +kernel
      | n + 3 => intro c hc; exact absurd (show c ∈ ([] : List Nat) from hc) List.not_mem_nil
theorem strOk_of {y : Str} (h : okL (ls y)) : PyData.strOk y = true := by
  unfold PyData.strOk
  rw [← Array.all_toList, List.all_eq_true]
  intro c hc
  exact decide_eq_true (h c hc)
/-! ## values -/
noncomputable def rowN (n m : Int) : List Int := [(drawn n).map (·.1), 3 :: (drawn n).map (·.1), (drawn n).map (·.1) ++ [3]].getD m.toNat []
structure Val (l : List Nat) (y : Str) (nm : List Int) : Prop where
  bal : ∃ Y Y' c, Bal l Y ∧ Y = Y' ++ [c] ∧ sp c = false ∧ unq Y = ls y
  words : wordsOf (ls y) = nm.map nmL
  ok : okL (ls y)
theorem nm3 : nmL 3 = [39, 61, 39] := by decide +kernel
theorem q39 : ls (S "'='") = [39, 61, 39] := by decide +kernel
theorem tok3 (r : List Nat) : tok (39 :: 61 :: 39 :: 32 :: r) = ([39, 61, 39], r) := by simp [tok, tokR, ws]
theorem tok3e : tok [39, 61, 39] = ([39, 61, 39], []) := by decide
theorem drawn_k (n : Int) : ∃ k, 4001 = (drawn n).length + (k + 1) := ⟨4000 - (drawn n).length, by have := drawn_len n; omega⟩
theorem val2 (n : Int) : Val (ls (sentS n ++ S "'='")) (toldS n ++ S "'='") ((drawn n).map (·.1) ++ [3]) := by
  have hb : Bal (ls (sentS n)) (ls (toldS n)) := by
    unfold sentS toldS
    rw [ls_joined, ls_joined]
    exact bal_flat _ fun q _ => bal_word _ _
  refine ⟨⟨ls (toldS n) ++ [39, 61, 39], ls (toldS n) ++ [39, 61], 39, ?_, by simp, by decide, ?_⟩, ?_, ?_⟩
  · rw [ls_app, q39]
    exact bal_app hb (bal_plain _ (by decide))
  · rw [ls_app, q39]
    unfold unq
    rw [if_neg]
    rintro ⟨_, h⟩
    simp at h
  · rw [ls_app, q39]
    unfold toldS
    rw [ls_joined]
    obtain ⟨k, hk⟩ := drawn_k n
    show wordsF 4001 _ = _
    rw [hk]
    have := wF_flat (f := fun q => ls (quoted (nmS q.1) q.2)) [39, 61, 39] (drawn n) (k + 1) [] (fun _ h => nomatch h) (fun q hq => ⟨wd_quoted _ _, drawn_name hq⟩)
    rw [List.nil_append] at this
    rw [this, wF_tok _ tok3e (by decide), wF_nil, List.map_append, ← nm3]; rfl
  · rw [ls_app, q39]
    refine okL_app ?_ (by unfold okL; decide)
    unfold toldS
    rw [ls_joined]
    exact okL_flat fun q _ => okL_quoted _ (okL_nm _)
theorem val0 (n : Int) : Val (ls (S "\"" ++ [esc (textS n), every (textS n)].getD ((n.fdiv 3888).fmod 2).toNat default ++ S "\"")) (textS n) ((drawn n).map (·.1)) := by
  have q : ls (S "\"") = [34] := by decide +kernel
  have hj := fmN (n.fdiv 3888) 2 2 rfl
  have hb : Bal (34 :: ls ([esc (textS n), every (textS n)].getD ((n.fdiv 3888).fmod 2).toNat default) ++ [34]) (34 :: ls (textS n) ++ [34]) := by
    generalize ((n.fdiv 3888).fmod 2).toNat = j at hj
    match j, hj with
    | 0, _ => show Bal (34 :: ls (esc (textS n)) ++ [34]) _; rw [ls_esc]; exact bal_q (hq_esc _)
    | 1, _ => show Bal (34 :: ls (every (textS n)) ++ [34]) _; rw [every_eq]; exact bal_q (hq_every _)
  refine ⟨⟨34 :: ls (textS n) ++ [34], 34 :: ls (textS n), 34, ?_, rfl, by decide, ?_⟩, ?_, ?_⟩
  · have e : ∀ z : Str, ls (S "\"" ++ z ++ S "\"") = 34 :: ls z ++ [34] := fun z => by
      have e1 := ls_app (S "\"" ++ z) (S "\"")
      have e2 := ls_app (S "\"") z
      rw [e1, e2, q]; rfl
    rw [e]; exact hb
  · unfold unq
    rw [if_pos ⟨rfl, by rw [List.getLast?_append]; rfl⟩]
    simp
  · unfold textS
    rw [ls_joined]
    obtain ⟨k, hk⟩ := drawn_k n
    show wordsF 4001 _ = _
    rw [hk]
    have := wF_flat (f := fun q => ls (wordS q.1 q.2)) [] (drawn n) (k + 1) [] (fun _ h => nomatch h) (fun q hq => ⟨tok_word q.2 (drawn_name hq).1 (drawn_name hq).2, drawn_name hq⟩)
    rw [List.nil_append, List.append_nil] at this
    rw [this, wF_nil, List.append_nil]
  · unfold textS
    rw [ls_joined]
    exact okL_flat fun q _ => okL_word _ _
theorem strip_q (f : Int × Int → List Nat) (l : List (Int × Int)) (x sep : List Nat) (hs : ∀ d ∈ sep, sp d = true) : stripL ([39, 61, 39, 32] ++ ((l.flatMap f) ++ ((34 :: x ++ [34]) ++ sep))) = [39, 61, 39, 32] ++ (l.flatMap f ++ (34 :: x ++ [34])) := by
  have := strip_ends (pre := []) (post := sep) (l := [39, 61, 39, 32] ++ (l.flatMap f ++ (34 :: x ++ [34]))) (a := 39) (c := 34) (l1 := [61, 39, 32] ++ (l.flatMap f ++ (34 :: x ++ [34]))) (l2 := [39, 61, 39, 32] ++ (l.flatMap f ++ (34 :: x))) (fun _ h => nomatch h) hs rfl (by decide) (by simp) (by decide)
  rw [List.nil_append] at this
  rw [← this]
  congr 1
  simp
theorem val1 (n : Int) : Val (ls (Txt.strip (S "'=' " ++ sentS n))) (Txt.strip (S "'=' " ++ toldS n)) (3 :: (drawn n).map (·.1)) := by
  have q : ls (S "'=' ") = [39, 61, 39, 32] := by decide +kernel
  have e1 : ls (Txt.strip (S "'=' " ++ sentS n)) = stripL ([39, 61, 39, 32] ++ (drawn n).flatMap fun q => ls (quoted (esc (nmS q.1)) q.2)) := by
    rw [strip_ls, ls_app, q]; unfold sentS; rw [ls_joined]
  have e2 : ls (Txt.strip (S "'=' " ++ toldS n)) = stripL ([39, 61, 39, 32] ++ (drawn n).flatMap fun q => ls (quoted (nmS q.1) q.2)) := by
    rw [strip_ls, ls_app, q]; unfold toldS; rw [ls_joined]
  have hdr : ∀ q ∈ drawn n, 0 ≤ q.1 ∧ q.1 < 4 := fun q hq => drawn_name hq
  have hdl := drawn_len n
  generalize drawn n = D at e1 e2 hdr hdl ⊢
  rcases List.eq_nil_or_concat D with rfl | ⟨l, p, rfl⟩
  · have e3 : stripL [39, 61, 39, 32] = [39, 61, 39] := by decide
    rw [List.flatMap_nil, List.append_nil, e3] at e1 e2
    refine ⟨⟨[39, 61, 39], [39, 61], 39, ?_, rfl, by decide, ?_⟩, ?_, ?_⟩
    · rw [e1]; exact bal_plain _ (by decide)
    · rw [e2]; decide
    · rw [e2]
      show wordsF (4000 + 1) _ = _
      rw [wF_tok _ tok3e (by decide), wF_nil, ← nm3]; rfl
    · rw [e2]; unfold okL; decide
  · rw [List.concat_eq_append] at *
    have hsp : ∀ d ∈ sepq p.2, sp d = true := fun d hd => by
      rcases sepq_ok p.2 with e | e | e <;> rw [e] at hd <;> simp at hd <;> subst hd <;> decide
    rw [List.flatMap_append, List.flatMap_cons, List.flatMap_nil, List.append_nil, quoted_sep] at e1 e2
    rw [strip_q _ _ _ _ hsp] at e1 e2
    rw [ls_esc] at e1
    have hp := hdr p (by simp)
    have hl : ∀ q ∈ l, 0 ≤ q.1 ∧ q.1 < 4 := fun q hq => hdr q (by simp [hq])
    refine ⟨⟨ls (Txt.strip (S "'=' " ++ toldS n)), [39, 61, 39, 32] ++ (l.flatMap (fun q => ls (quoted (nmS q.1) q.2)) ++ (34 :: escL (ls (nmS p.1)))), 34, ?_, ?_, by decide, ?_⟩, ?_, ?_⟩
    · rw [e1, e2]
      exact bal_app (bal_plain _ (by decide)) (bal_app (bal_flat _ fun q _ => bal_word _ _) (bal_q (hq_esc _)))
    · rw [e2]; simp
    · unfold unq
      rw [if_neg]
      rw [e2]
      rintro ⟨h, _⟩
      simp at h
    · rw [e2]
      have hll : l.length ≤ 2 := by rw [List.length_append] at hdl; omega
      obtain ⟨k, hk⟩ : ∃ k, 4001 = (l.length + (k + 1)) + 1 := ⟨3999 - l.length, by omega⟩
      show wordsF 4001 _ = _
      rw [hk]
      have t3 : tok ([39, 61, 39, 32] ++ (l.flatMap (fun q => ls (quoted (nmS q.1) q.2)) ++ (34 :: escL (ls (nmS p.1)) ++ [34]))) = _ := tok3 (l.flatMap (fun q => ls (quoted (nmS q.1) q.2)) ++ (34 :: escL (ls (nmS p.1)) ++ [34]))
      rw [wF_tok _ t3 (by decide)]
      have := wF_flat (f := fun q => ls (quoted (nmS q.1) q.2)) (34 :: escL (ls (nmS p.1)) ++ [34]) l (k + 1) [] (fun _ h => nomatch h) (fun q hq => ⟨wd_quoted _ _, hl q hq⟩)
      rw [List.nil_append] at this
      have t4 := tok_quoted (nmL p.1) []
      have t5 : tok (34 :: escL (ls (nmS p.1)) ++ [34]) = (nmL p.1, []) := t4
      rw [this, wF_tok _ t5 (nmL_ne hp.1 hp.2), wF_nil, List.map_append, List.map_cons, List.map_append, ← nm3]; rfl
    · rw [e2]
      exact okL_app (by unfold okL; decide) (okL_app (okL_flat fun q _ => okL_quoted _ (okL_nm _)) (okL_cons (by decide) (okL_app (okL_esc (okL_nm _)) (okL_cons (by decide) okL_nil))))
theorem val_ok (n : Int) {m : Int} (h0 : 0 ≤ m) (h1 : m < 3) : Val (ls (valueS n m).1) (valueS n m).2 (rowN n m) := by
  have : m = 0 ∨ m = 1 ∨ m = 2 := by omega
  rcases this with rfl | rfl | rfl
  · exact val0 n
  · exact val1 n
  · exact val2 n
end Mine
end
section
open PySem PySem.W PyProof.Rows PySem.Calls PySem.Spec PySem.SeqAt
set_option linter.unusedVariables false
set_option linter.unusedSimpArgs false
set_option maxRecDepth 100000
namespace Mine
/-! ## the header split -/
noncomputable def good (X : List Nat) : Prop := ∃ a c l1 l2, X = a :: l1 ∧ sp a = false ∧ X = l2 ++ [c] ∧ sp c = false
theorem good.strip {X pre post : List Nat} (g : good X) (h1 : ∀ d ∈ pre, sp d = true) (h2 : ∀ d ∈ post, sp d = true) : stripL (pre ++ X ++ post) = X := by
  obtain ⟨a, c, l1, l2, e1, ha, e2, hc⟩ := g
  exact strip_ends h1 h2 e1 ha e2 hc
theorem good.ne {X : List Nat} (g : good X) : X ≠ [] := by
  obtain ⟨a, c, l1, l2, e1, _⟩ := g
  rw [e1]; simp
structure Sep (sep : Str) (pre post : List Nat) : Prop where
  eq : ls sep = pre ++ 44 :: post
  p1 : ∀ d ∈ pre, sp d = true
  p2 : ∀ d ∈ post, sp d = true
  b1 : Bal pre pre
  b2 : Bal post post
theorem join_run {sep : Str} {pre post : List Nat} (hs : Sep sep pre post) : ∀ (its : List (Str × List Nat)) (out : List (List Nat)) (part : List Nat), its ≠ [] → (∀ q ∈ its, Bal (ls q.1) q.2 ∧ good q.2) → (∀ d ∈ part, sp d = true) →
    ∃ ps last, (ls (Str.join sep (its.map (·.1)))).foldl hstep ⟨out, part, false, false⟩ = ⟨out ++ ps, last, false, false⟩ ∧ (ps ++ [last]).map stripL = its.map (·.2) ∧ last ≠ []
  | [], _, _, h, _, _ => absurd rfl h
  | [q], out, part, _, hq, hp => by
    obtain ⟨hb, hg⟩ := hq q (.head _)
    refine ⟨[], part ++ q.2, ?_, ?_, ?_⟩
    · show (ls q.1).foldl hstep _ = _
      rw [hb]; simp
    · have := hg.strip (post := []) hp (fun _ h => nomatch h)
      rw [List.append_nil] at this
      simp [this]
    · intro e
      exact hg.ne (List.append_eq_nil_iff.mp e).2
  | q :: r :: its, out, part, _, hq, hp => by
    obtain ⟨hb, hg⟩ := hq q (.head _)
    obtain ⟨ps, last, h1, h2, h3⟩ := join_run hs (r :: its) (out ++ [part ++ q.2 ++ pre]) post (by simp) (fun p hp => hq p (.tail _ hp)) hs.p2
    refine ⟨(part ++ q.2 ++ pre) :: ps, last, ?_, ?_, h3⟩
    · have e : ls (Str.join sep ((q :: r :: its).map (·.1))) = ls q.1 ++ (ls sep ++ ls (Str.join sep ((r :: its).map (·.1)))) := by
        show ls (q.1 ++ sep ++ Str.join sep ((r :: its).map (·.1))) = _
        rw [ls_app, ls_app, List.append_assoc]
      rw [e, List.foldl_append, hb, List.foldl_append, hs.eq, List.foldl_append, hs.b1, List.foldl_cons]
      have e2 : hstep ⟨out, part ++ q.2 ++ pre, false, false⟩ 44 = ⟨out ++ [part ++ q.2 ++ pre], [], false, false⟩ := rfl
      rw [e2, hs.b2, List.nil_append, h1, List.append_assoc]; rfl
    · rw [List.cons_append, List.map_cons, h2, hg.strip hp hs.p1]; rfl
theorem run_pre (o : List (List Nat)) : ∀ (l : List Nat) (st : HS), l.foldl hstep ⟨o ++ st.out, st.part, st.esc, st.quote⟩ = ⟨o ++ (l.foldl hstep st).out, (l.foldl hstep st).part, (l.foldl hstep st).esc, (l.foldl hstep st).quote⟩
  | [], _ => rfl
  | c :: l, st => by
    rw [List.foldl_cons, List.foldl_cons, ← run_pre o l (hstep st c)]
    congr 1
    unfold hstep
    repeat' split
    all_goals simp_all
/-- what a tail adds -/
theorem http_tail {H : Str} {Xs : List (List Nat)} {ps : List (List Nat)} {last : List Nat} (h : (ls H).foldl hstep ⟨[], [], false, false⟩ = ⟨ps, last, false, false⟩) (hX : (ps ++ [last]).map stripL = Xs) (hl : last ≠ []) (t : List Nat) :
    httpL (ls H) = Xs ∧ httpL (ls H ++ 44 :: t) = Xs ++ httpL t := by
  have e0 : hend ⟨ps, last, false, false⟩ = ps ++ [last] := by
    unfold hend
    rw [if_pos (by simpa using hl)]
  constructor
  · unfold httpL hrun; rw [h, e0, hX]
  · unfold httpL hrun
    rw [List.foldl_append, h, List.foldl_cons]
    have e2 : hstep ⟨ps, last, false, false⟩ 44 = ⟨(ps ++ [last]) ++ ([] : List (List Nat)), [], false, false⟩ := by simp [hstep]
    rw [e2]
    have := run_pre (ps ++ [last]) t ⟨[], [], false, false⟩
    rw [this]
    generalize t.foldl hstep ⟨[], [], false, false⟩ = r
    unfold hend
    by_cases hp : r.part.length ≠ 0
    · rw [if_pos hp, if_pos hp]
      show ((ps ++ [last] ++ r.out) ++ [r.part]).map stripL = _
      rw [List.append_assoc (ps ++ [last]), List.map_append, hX]
    · rw [if_neg hp, if_neg hp]
      show (ps ++ [last] ++ r.out).map stripL = _
      rw [List.map_append, hX]
theorem cut1_app : ∀ (l Y : List Nat), 61 ∉ l → cut1 61 (l ++ 61 :: Y) = some (l, Y)
  | [], Y, _ => by simp [cut1]
  | c :: l, Y, h => by
    have hc : c ≠ 61 := fun e => h (e ▸ .head _)
    rw [List.cons_append, cut1, if_neg hc, cut1_app l Y fun m => h (.tail _ m)]; rfl
theorem nm_facts {v : Int} (h0 : 0 ≤ v) (h1 : v < 3) : 61 ∉ nmL v ∧ Bal (nmL v ++ [61]) (nmL v ++ [61]) ∧ ∃ a l, nmL v = a :: l ∧ sp a = false := by
  have : v = 0 ∨ v = 1 ∨ v = 2 := by omega
  have e0 : nmL 0 = [65, 37, 52, 49] := by decide +kernel
  have e1 : nmL 1 = [34, 98, 44, 32, 99, 34] := by decide +kernel
  have e2 : nmL 2 = [92] := by decide +kernel
  rcases this with rfl | rfl | rfl
  · rw [e0]; exact ⟨by decide, bal_plain _ (by decide), 65, _, rfl, by decide⟩
  · rw [e1]; exact ⟨by decide, fun out part => by simp [hstep], 34, _, rfl, by decide⟩
  · rw [e2]; exact ⟨by decide, bal_plain _ (by decide), 92, _, rfl, by decide⟩
/-- an item -/
theorem item_ok {v : Int} (h0 : 0 ≤ v) (h1 : v < 3) {val : Str} {y : Str} {Y Y' : List Nat} {c : Nat} (hb : Bal (ls val) Y) (hY : Y = Y' ++ [c]) (hc : sp c = false) (hu : unq Y = ls y) :
    Bal (ls (nmS v ++ S "=" ++ val)) (nmL v ++ 61 :: Y) ∧ good (nmL v ++ 61 :: Y) ∧ keqvItem (tx (nmL v ++ 61 :: Y)) = .ok (nmS v, y) := by
  obtain ⟨f1, f2, a, l, f3, f4⟩ := nm_facts h0 h1
  have q : ls (S "=") = [61] := by decide +kernel
  refine ⟨?_, ⟨a, c, l ++ 61 :: Y, nmL v ++ 61 :: Y', by rw [f3]; rfl, f4, by rw [hY]; simp, hc⟩, ?_⟩
  · rw [ls_app, ls_app, q]
    have := bal_app f2 hb
    simpa [nmL] using this
  · unfold keqvItem
    rw [ls_tx, cut1_app _ _ f1]
    have hne : Y ≠ [] := by rw [hY]; simp
    simp only
    rw [if_neg hne, hu, tx_ls]
    unfold nmL
    rw [tx_ls]
end Mine
end
section
open PySem PySem.W PyProof.Rows PySem.Calls PySem.Spec PySem.SeqAt
set_option linter.unusedVariables false
set_option linter.unusedSimpArgs false
set_option maxRecDepth 100000
namespace Mine
theorem sep_ok (i : Nat) (hi : i < 3) : ∃ pre post, Sep (seph.getD i default) pre post := by
  match i, hi with
  | 0, _ => exact ⟨[], [], by decide +kernel, (fun _ h => nomatch h), (fun _ h => nomatch h), bal_nil, bal_nil⟩
  | 1, _ => exact ⟨[32], [9], by decide +kernel, by decide, by decide, bal_plain _ (by decide), bal_plain _ (by decide)⟩
  | 2, _ => exact ⟨[10], [32], by decide +kernel, by decide, by decide, bal_plain _ (by decide), bal_plain _ (by decide)⟩
theorem order_cases (hd : Int) : orderOf hd = [0, 1, 2] ∨ orderOf hd = [1, 2, 0] ∨ orderOf hd = [2, 0, 1] := by
  have e : orderOf hd = [(hd.fdiv 90 + 0) % 3, (hd.fdiv 90 + 1) % 3, (hd.fdiv 90 + 2) % 3] := by
    unfold orderOf
    have : ∀ t : Int, (hd.fdiv 90 + t).fmod 3 = (hd.fdiv 90 + t) % 3 := fun t => Int.fmod_eq_emod_of_nonneg _ (by decide)
    simp only [this]
    rfl
  rw [e]
  generalize hd.fdiv 90 = a
  have h : a % 3 = 0 ∨ a % 3 = 1 ∨ a % 3 = 2 := by omega
  rcases h with h | h | h
  · left
    rw [show (a + 0) % 3 = 0 by omega, show (a + 1) % 3 = 1 by omega, show (a + 2) % 3 = 2 by omega]
  · right; left
    rw [show (a + 0) % 3 = 1 by omega, show (a + 1) % 3 = 2 by omega, show (a + 2) % 3 = 0 by omega]
  · right; right
    rw [show (a + 0) % 3 = 2 by omega, show (a + 1) % 3 = 0 by omega, show (a + 2) % 3 = 1 by omega]
theorem first_cases (hd : Int) : firstOf hd = 0 ∨ firstOf hd = 1 ∨ firstOf hd = 2 := by
  have := first_lt hd
  omega
theorem n01 : nmS 0 ≠ nmS 1 := by decide +kernel
theorem n02 : nmS 0 ≠ nmS 2 := by decide +kernel
theorem n12 : nmS 1 ≠ nmS 2 := by decide +kernel
theorem n03 : nmS 0 ≠ nmS 3 := by decide +kernel
theorem n13 : nmS 1 ≠ nmS 3 := by decide +kernel
theorem n23 : nmS 2 ≠ nmS 3 := by decide +kernel
/-- the dict of the items -/
theorem go_items (f : Int → Str → Except String (Str × Str)) (z : Str) (V : Int → Str) (hd : Int) (x0 : Str) (xs : Int → Str) (h0 : keqvItem x0 = .ok (nmS (firstOf hd), z)) (hx : ∀ v, 0 ≤ v → v < 3 → keqvItem (xs v) = .ok (nmS v, V v)) :
    keqvGo (x0 :: (orderOf hd).map xs) [] = .ok (([firstOf hd] ++ (orderOf hd).filter fun v => decide (v ≠ firstOf hd)).map fun v => (nmS v, V v)) := by
  have x_0 := hx 0 (by decide) (by decide)
  have x_1 := hx 1 (by decide) (by decide)
  have x_2 := hx 2 (by decide) (by decide)
  rw [keqvGo, h0]
  rcases order_cases hd with e | e | e <;> rcases first_cases hd with e' | e' | e' <;> rw [e, e'] <;>
    simp [keqvGo, x_0, x_1, x_2, dput, n01, n02, n12, n01.symm, n02.symm, n12.symm]
theorem due_mem {hd : Int} {ns ms : List Int} {q : Str × Str} (h : q ∈ dueOf hd ns ms) : ∃ v, 0 ≤ v ∧ v < 3 ∧ q = (nmS v, (valAt ns ms v).2) := by
  unfold dueOf at h
  obtain ⟨v, hv, rfl⟩ := List.mem_map.mp h
  rcases List.mem_append.mp hv with hv | hv
  · rw [List.mem_singleton.mp hv]; exact ⟨_, (first_lt hd).1, (first_lt hd).2, rfl⟩
  · have := order_lt (List.mem_filter.mp hv).1
    exact ⟨v, this.1, this.2, rfl⟩
theorem due_nd (hd : Int) (ns ms : List Int) : ((dueOf hd ns ms).map (·.1)).Nodup := by
  unfold dueOf
  rw [List.map_map]
  rcases order_cases hd with e | e | e <;> rcases first_cases hd with e' | e' | e' <;> rw [e, e'] <;>
    simp [n01, n02, n12, n01.symm, n02.symm, n12.symm]
theorem due_find (hd : Int) (ns ms : List Int) : (∀ v : Int, 0 ≤ v → v < 3 → (dueOf hd ns ms).find? (fun q => q.1 = nmS v) = some (nmS v, (valAt ns ms v).2)) ∧ (dueOf hd ns ms).find? (fun q => q.1 = nmS 3) = none := by
  constructor
  · intro v h0 h1
    have : v = 0 ∨ v = 1 ∨ v = 2 := by omega
    unfold dueOf
    rcases this with rfl | rfl | rfl <;> rcases order_cases hd with e | e | e <;> rcases first_cases hd with e' | e' | e' <;> rw [e, e'] <;>
      simp [n01, n02, n12, n01.symm, n02.symm, n12.symm]
  · unfold dueOf
    rcases order_cases hd with e | e | e <;> rcases first_cases hd with e' | e' | e' <;> rw [e, e'] <;>
      simp [n03, n13, n23]
end Mine
end
section
open PySem PySem.W PyProof.Rows PySem.Calls PySem.Spec PySem.SeqAt
set_option linter.unusedVariables false
set_option linter.unusedSimpArgs false
set_option maxRecDepth 100000
namespace Mine
theorem dput_new {l : List (Str × Str)} {k y : Str} (h : ∀ q ∈ l, q.1 ≠ k) : dput l k y = l ++ [(k, y)] := by
  unfold dput
  rw [if_neg]
  simp only [Bool.not_eq_true, List.any_eq_false, decide_eq_true_eq]
  exact h
section
variable {hd : Int} {ns : List Int}
theorem val_at (hd : Int) (ns : List Int) {v : Int} (h0 : 0 ≤ v) (h1 : v < 3) : Val (ls (valAt ns (mns hd) v).1) (valAt ns (mns hd) v).2 (rowN (ns.getD v.toNat 0) ((mns hd).getD v.toNat 0)) := by
  have hm := mns_get hd (v := v.toNat) (by omega)
  exact val_ok _ hm.1 hm.2
theorem row_at (hn : ns.length = 3) {v : Nat} (hv : v < 3) : (rowsL hd ns).getD v [] = rowN (ns.getD v 0) ((mns hd).getD v 0) := by
  have e : (drL ns).getD v [] = (drawn (ns.getD v 0)).map (·.1) := by
    unfold drL
    rw [List.getD_eq_getElem?_getD, List.getElem?_map, List.getD_eq_getElem?_getD, List.getElem?_eq_getElem (by omega)]; rfl
  have e2 : (rowsL hd ns).getD v [] = rowAt hd ns v := by
    match v, hv with
    | 0, _ => rfl
    | 1, _ => rfl
    | 2, _ => rfl
  rw [e2]
  unfold rowAt rowN
  rw [show ((v : Int)).toNat = v from rfl, e]
theorem row_three (hd : Int) (ns : List Int) : (rowsL hd ns).getD 3 [] = [3] := rfl
/-- the words of a rule -/
theorem words_at (hn : ns.length = 3) {v : Int} (h0 : 0 ≤ v) (h1 : v < 3) : (wordsOf (valAt ns (mns hd) v).2.cps.toList).map tx = ((rowsL hd ns).getD v.toNat []).map nmS := by
  have w := (val_at hd ns h0 h1).words
  have e : wordsOf (valAt ns (mns hd) v).2.cps.toList = (rowN (ns.getD v.toNat 0) ((mns hd).getD v.toNat 0)).map nmL := w
  rw [e, row_at hn (by omega), List.map_map]
  refine List.map_congr_left fun a _ => ?_
  exact tx_ls _
theorem ks_find (hn : ns.length = 3) : (∀ v : Int, 0 ≤ v → v < 3 → (ksOf (dueOf hd ns (mns hd))).find? (fun q => q.1 = nmS v) = some (nmS v, ((rowsL hd ns).getD v.toNat []).map nmS)) ∧ (ksOf (dueOf hd ns (mns hd))).find? (fun q => q.1 = nmS 3) = none := by
  obtain ⟨f1, f2⟩ := due_find hd ns (mns hd)
  unfold ksOf
  constructor
  · intro v h0 h1
    rw [List.find?_map]
    show Option.map _ ((dueOf hd ns (mns hd)).find? fun q => decide (q.1 = nmS v)) = _
    rw [f1 v h0 h1]
    show some (nmS v, (wordsOf (valAt ns (mns hd) v).2.cps.toList).map tx) = _
    rw [words_at hn h0 h1]
  · rw [List.find?_map]
    show Option.map _ ((dueOf hd ns (mns hd)).find? fun q => decide (q.1 = nmS 3)) = _
    rw [f2]; rfl
theorem ks_of (hn : ns.length = 3) : KsOf (ksOf (dueOf hd ns (mns hd))) (rowsL hd ns) := by
  obtain ⟨f1, f2⟩ := ks_find (hd := hd) hn
  refine ⟨okR_rows hd ns, fun a h0 h1 => ?_⟩
  unfold rget
  by_cases h : a < 3
  · rw [f1 a h0 h]; rfl
  · have : a = 3 := by omega
    subst this
    rw [f2]; rfl
theorem ks_ok (hn : ns.length = 3) : okK (ksOf (dueOf hd ns (mns hd))) := fun q hq => by
  unfold ksOf at hq
  obtain ⟨p, hp, rfl⟩ := List.mem_map.mp hq
  obtain ⟨v, h0, h1, rfl⟩ := due_mem hp
  show ((wordsOf (valAt ns (mns hd) v).2.cps.toList).map tx).length ≤ 3
  rw [words_at hn h0 h1, List.length_map]
  have := (rowAt_ok hd ns v).1
  have e := row_at (hd := hd) hn (v := v.toNat) (by omega)
  have hR := okR_rows hd ns
  exact (hR.2 _ (row_mem (a := v) h0 (by rw [hR.1]; omega))).1
theorem law_h4 (hn : ns.length = 3) {v : Nat} (hv : v < 3) : dget (ksD (ksOf (dueOf hd ns (mns hd)))) (nmS v) = some (namedRow ((rowsL hd ns).getD v [])) := by
  unfold dget ksD
  rw [List.find?_map]
  show Option.map _ (Option.map _ ((ksOf (dueOf hd ns (mns hd))).find? fun q => decide (q.1 = nmS v))) = _
  rw [(ks_find (hd := hd) hn).1 v (by omega) (by omega)]
  show some (PyData.list ((((rowsL hd ns).getD v []).map nmS).map .str)) = _
  rw [List.map_map]; rfl
theorem shK_pairs {l : List (Str × Str)} (h : ∀ q ∈ l, PyData.strOk q.1 = true ∧ PyData.strOk q.2 = true) : shK 2 (pairs l) := by
  unfold pairs
  refine shK_list (k := 1) fun x hx => ?_
  obtain ⟨q, hq, rfl⟩ := List.mem_map.mp hx
  refine shK_tuple (k := 0) fun y hy => ?_
  simp only [List.mem_cons, List.not_mem_nil, or_false] at hy
  rcases hy with rfl | rfl
  · exact shK_str (h q hq).1
  · exact shK_str (h q hq).2
theorem due_strOk : ∀ q ∈ dueOf hd ns (mns hd), PyData.strOk q.1 = true ∧ PyData.strOk q.2 = true := fun q hq => by
  obtain ⟨v, h0, h1, rfl⟩ := due_mem hq
  exact ⟨nmS_ok v, strOk_of (val_at hd ns h0 h1).ok⟩
theorem law_sh1 (i : Nat) : shK 10 ((endsL (dueOf hd ns (mns hd))).getD i .none) := by
  have hd0 := due_strOk (hd := hd) (ns := ns)
  have app : ∀ l : List (Str × Str), (∀ q ∈ l, PyData.strOk q.1 = true ∧ PyData.strOk q.2 = true) → shK 10 (pairs (dueOf hd ns (mns hd) ++ l)) := fun l hl => (shK_pairs fun q hq => (List.mem_append.mp hq).elim (hd0 q) (hl q)).le
  have st : ∀ x : Str, PyData.strOk x = true → shK 10 (.str x) := fun x hx => (shK_str hx).le
  match i with
  | 0 => exact (shK_pairs hd0).le
  | 1 => exact (shK_pairs hd0).le
  | 2 => exact app _ (by decide +kernel)
  | 3 => exact st _ (by decide +kernel)
  | 4 => exact st _ (by decide +kernel)
  | 5 => exact st _ (by decide +kernel)
  | 6 => exact st _ (by decide +kernel)
  | 7 => exact st _ (by decide +kernel)
  | 8 => exact app _ (by decide +kernel)
  | 9 => exact st _ (by decide +kernel)
  | k + 10 => exact ⟨rfl, Nat.zero_le _⟩
/-- reading the header -/
theorem law_read (hd : Int) (ns : List Int) : readS (headerOf hd ns (mns hd)) = pairs (dueOf hd ns (mns hd)) ∧
    ∀ (t : Str) (t' : List Nat), ls t = 44 :: t' → readS (headerOf hd ns (mns hd) ++ t) = match keqvGo ((httpL t').map tx) (dueOf hd ns (mns hd)) with | .ok ks => pairs ks | .error X => .str (Str.ofString X) := by
  have ex : ∀ v : Int, ∃ Y : List Nat, 0 ≤ v → v < 3 → Bal (ls (valAt ns (mns hd) v).1) Y ∧ (∃ Y' c, Y = Y' ++ [c] ∧ sp c = false) ∧ unq Y = ls (valAt ns (mns hd) v).2 := fun v => by
    by_cases h : 0 ≤ v ∧ v < 3
    · obtain ⟨Y, Y', c, h1, h2, h3, h4⟩ := (val_at hd ns h.1 h.2).bal
      exact ⟨Y, fun _ _ => ⟨h1, ⟨Y', c, h2, h3⟩, h4⟩⟩
    · exact ⟨[], fun a b => absurd ⟨a, b⟩ h⟩
  obtain ⟨Yf, hY⟩ := Classical.skolem.mp ex
  have it : ∀ v, 0 ≤ v → v < 3 → Bal (ls (nmS v ++ S "=" ++ (valAt ns (mns hd) v).1)) (nmL v ++ 61 :: Yf v) ∧ good (nmL v ++ 61 :: Yf v) ∧ keqvItem (tx (nmL v ++ 61 :: Yf v)) = .ok (nmS v, (valAt ns (mns hd) v).2) := fun v h0 h1 => by
    obtain ⟨a, ⟨Y', c, e, hc⟩, u⟩ := hY v h0 h1
    exact item_ok h0 h1 a e hc u
  have ⟨f0, f1⟩ := first_lt hd
  have qz : ls (S "z") = [122] := by decide +kernel
  have it0 := item_ok f0 f1 (val := S "z") (y := S "z") (Y := [122]) (Y' := []) (c := 122) (by rw [qz]; exact bal_plain _ (by decide)) rfl (by decide) (by rw [qz]; decide)
  have ez : nmS (firstOf hd) ++ S "=" ++ S "z" = nmS (firstOf hd) ++ S "=z" := by
    refine ls_inj ?_
    have q1 : ls (S "=") = [61] := by decide +kernel
    have q2 : ls (S "=z") = [61, 122] := by decide +kernel
    rw [ls_app, ls_app, ls_app, q1, q2, qz]; simp
  rw [ez] at it0
  have hits : itemsOf hd ns (mns hd) = ((nmS (firstOf hd) ++ S "=z", nmL (firstOf hd) ++ [61, 122]) :: (orderOf hd).map fun v => (nmS v ++ S "=" ++ (valAt ns (mns hd) v).1, nmL v ++ 61 :: Yf v)).map (·.1) := by
    unfold itemsOf
    rw [List.map_cons, List.map_map]; rfl
  obtain ⟨pre, post, hs⟩ := sep_ok ((hd.fdiv 270).fmod 3).toNat (fmN _ _ 3 rfl)
  obtain ⟨ps, last, r1, r2, r3⟩ := join_run hs ((nmS (firstOf hd) ++ S "=z", nmL (firstOf hd) ++ [61, 122]) :: (orderOf hd).map fun v => (nmS v ++ S "=" ++ (valAt ns (mns hd) v).1, nmL v ++ 61 :: Yf v)) [] [] (by simp) (fun q hq => by
    rcases List.mem_cons.mp hq with rfl | hq
    · exact ⟨it0.1, it0.2.1⟩
    · obtain ⟨v, hv, rfl⟩ := List.mem_map.mp hq
      have := it v (order_lt hv).1 (order_lt hv).2
      exact ⟨this.1, this.2.1⟩) (fun _ h => nomatch h)
  rw [← hits, List.nil_append] at r1
  have hH : headerOf hd ns (mns hd) = Str.join (seph.getD ((hd.fdiv 270).fmod 3).toNat default) (itemsOf hd ns (mns hd)) := by unfold headerOf; rw [join_eq]
  rw [← hH] at r1
  have hgo : keqvGo ((((nmS (firstOf hd) ++ S "=z", nmL (firstOf hd) ++ [61, 122]) :: (orderOf hd).map fun v => (nmS v ++ S "=" ++ (valAt ns (mns hd) v).1, nmL v ++ 61 :: Yf v)).map (·.2)).map tx) [] = .ok (dueOf hd ns (mns hd)) := by
    have := go_items (fun _ _ => .error "") (S "z") (fun v => (valAt ns (mns hd) v).2) hd (tx (nmL (firstOf hd) ++ [61, 122])) (fun v => tx (nmL v ++ 61 :: Yf v)) it0.2.2 (fun v h0 h1 => (it v h0 h1).2.2)
    rw [List.map_cons, List.map_cons, List.map_map, List.map_map]
    exact this
  refine ⟨?_, fun t t' ht => ?_⟩
  · obtain ⟨e1, _⟩ := http_tail r1 r2 r3 []
    unfold readS httpS
    rw [e1, hgo]
  · obtain ⟨_, e2⟩ := http_tail r1 r2 r3 t'
    unfold readS httpS
    rw [ls_app, ht, e2, List.map_append, keqvGo_app, hgo]
    all_goals rfl
theorem law_h1 (hd : Int) (ns : List Int) {i : Nat} (hi : i < 10) : readS (headerOf hd ns (mns hd) ++ tailsL.getD i default) = (endsL (dueOf hd ns (mns hd))).getD i .none := by
  obtain ⟨r0, r1⟩ := law_read hd ns
  have key : ∀ k : Str, (∀ v : Int, 0 ≤ v → v < 3 → nmS v ≠ k) → ∀ q ∈ dueOf hd ns (mns hd), q.1 ≠ k := fun k hk q hq => by
    obtain ⟨v, h0, h1, rfl⟩ := due_mem hq
    exact hk v h0 h1
  have three : ∀ {P : Int → Prop}, P 0 → P 1 → P 2 → ∀ v : Int, 0 ≤ v → v < 3 → P v := fun {P} p0 p1 p2 v h0 h1 => by
    have : v = 0 ∨ v = 1 ∨ v = 2 := by omega
    rcases this with rfl | rfl | rfl <;> assumption
  match i, hi with
  | 0, _ =>
    have e : headerOf hd ns (mns hd) ++ tailsL.getD 0 default = headerOf hd ns (mns hd) := ls_inj (by
      rw [ls_app]
      have : ls (tailsL.getD 0 default) = [] := by decide +kernel
      rw [this, List.append_nil])
    rw [e, r0]; rfl
  | 1, _ => rw [r1 (tailsL.getD 1 default) [] (by decide +kernel)]; rfl
  | 2, _ =>
    rw [r1 (tailsL.getD 2 default) [34, 122, 61, 119, 34, 61, 120, 44, 61, 119] (by decide +kernel)]
    have e : (httpL [34, 122, 61, 119, 34, 61, 120, 44, 61, 119]).map tx = [tx [34, 122, 61, 119, 34, 61, 120], tx [61, 119]] := by decide +kernel
    have i1 : keqvItem (tx [34, 122, 61, 119, 34, 61, 120]) = .ok (tx [34, 122], tx [119, 34, 61, 120]) := rfl
    have i2 : keqvItem (tx [61, 119]) = .ok (tx [], tx [119]) := rfl
    have k1 := dput_new (y := tx [119, 34, 61, 120]) (key (tx [34, 122]) (three (by decide +kernel) (by decide +kernel) (by decide +kernel)))
    have k2 := dput_new (l := dueOf hd ns (mns hd) ++ [(tx [34, 122], tx [119, 34, 61, 120])]) (k := tx []) (y := tx [119]) (fun q hq => by
      rcases List.mem_append.mp hq with hq | hq
      · exact key (tx []) (three (by decide +kernel) (by decide +kernel) (by decide +kernel)) q hq
      · rw [List.mem_singleton.mp hq]; decide +kernel)
    rw [e, keqvGo, i1]
    simp only
    rw [k1, keqvGo, i2]
    simp only
    rw [k2, keqvGo]
    have s1 : tx [34, 122] = S "\"z" := by decide +kernel
    have s2 : tx [119, 34, 61, 120] = S "w\"=x" := by decide +kernel
    have s3 : tx [] = S "" := by decide +kernel
    have s4 : tx [119] = S "w" := by decide +kernel
    rw [s1, s2, s3, s4, List.append_assoc]; rfl
  | 3, _ => rw [r1 (tailsL.getD 3 default) [122, 61] (by decide +kernel)]; rfl
  | 4, _ => rw [r1 (tailsL.getD 4 default) [32] (by decide +kernel)]; rfl
  | 5, _ => rw [r1 (tailsL.getD 5 default) [122, 61, 44, 122] (by decide +kernel)]; rfl
  | 6, _ => rw [r1 (tailsL.getD 6 default) [122, 44, 122, 61] (by decide +kernel)]; rfl
  | 7, _ => rw [r1 (tailsL.getD 7 default) [34] (by decide +kernel)]; rfl
  | 8, _ =>
    rw [r1 (tailsL.getD 8 default) [122, 61, 34] (by decide +kernel)]
    have e : (httpL [122, 61, 34]).map tx = [tx [122, 61, 34]] := by decide +kernel
    have i1 : keqvItem (tx [122, 61, 34]) = .ok (tx [122], tx []) := rfl
    have k1 := dput_new (y := tx []) (key (tx [122]) (three (by decide +kernel) (by decide +kernel) (by decide +kernel)))
    rw [e, keqvGo, i1]
    simp only
    rw [k1, keqvGo]
    have s1 : tx [122] = S "z" := by decide +kernel
    have s3 : tx [] = S "" := by decide +kernel
    rw [s1, s3]; rfl
  | 9, _ => rw [r1 (tailsL.getD 9 default) [122, 61, 44, 122, 61, 119] (by decide +kernel)]; rfl
theorem law_ok (hd st n0 n1 n2 : Int) : LawOk hd st [n0, n1, n2] where
  h1 := law_h1 hd _ (fmN _ _ 10 rfl)
  h2 := (law_read hd _).1
  h3 := by
    have e : S "" = tx [] := emp_tx
    rw [e]; rfl
  sh1 := law_sh1 _
  sh2 := (shK_pairs due_strOk).le
  nd := due_nd _ _ _
  h4 := fun v hv => law_h4 rfl hv
  kk := ks_ok rfl
  hT := (rounds_law (ks_of rfl)).1
  hE := (rounds_law (ks_of rfl)).2
end
end Mine
end
theorem PySem.Challenge.cw_pk0051_01_holds : PySem.Challenge.rw_pk0051_01.Holds :=
  Mine.top Mine.law_ok
