import PyProof.Rows.All
import Wide.All
import OpenK.AllK
import Wide.FinOn
import Lean
import PySem.Challenge.RW_qm0002_02
set_option maxRecDepth 100000
set_option Elab.async false
set_option linter.unusedVariables false

namespace Mine
open PySem PySem.W PySem.Calls PyProof.Rows

noncomputable abbrev PW : Program := PySem.Challenge.pw_qm0002_02
/-! the text's defs, by their places -/
noncomputable def stAt : List Stmt → List Nat → Stmt
  | _, [] => default
  | b, [i] => b.getD i default
  | b, i :: r => match b.getD i default with
    | .ClassDef _ _ _ b' _ _ _ _ _ _ _ => stAt b' r
    | _ => default
noncomputable def fdName : Stmt → Str
  | .FunctionDef n _ _ _ _ _ _ _ _ _ => n
  | _ => default
noncomputable def fdPar : Stmt → Arguments
  | .FunctionDef _ a _ _ _ _ _ _ _ _ => a
  | _ => default
noncomputable def fdBody : Stmt → List Stmt
  | .FunctionDef _ _ b _ _ _ _ _ _ _ => b
  | _ => []
noncomputable def fdScope : Stmt → Scope
  | .FunctionDef _ _ _ _ _ _ s _ _ _ => s
  | _ => default
noncomputable def fG (pth : List Nat) (qn : Str) (g : Addr) (cl : List (Str × Addr)) (df kd doc pm : Value) (an : Option Addr) (cd ct : Value) (bi : Addr) : Data :=
  .func { name := fdName (stAt PW.main.body pth), qualname := qn, params := fdPar (stAt PW.main.body pth), body := .stmts (fdBody (stAt PW.main.body pth)), scope := fdScope (stAt PW.main.body pth), globals := g, closure := cl, defaults := df, kwdefaults := kd, doc := doc, pyModule := pm, annotations := an, code := cd, closureTuple := ct, builtins := bi }
noncomputable def fD (pth : List Nat) (qn : Str) (df kd doc pm : Value) (an : Option Addr) (cd ct : Value) (bi : Addr) : Data := fG pth qn 3 [] df kd doc pm an cd ct bi
noncomputable def dE (P : Params) (x : Str) (t : Tok) (v : Value) : DictEntry := ⟨PyData.keyHash P x, .str x t, v⟩

/-! the objects of the text's top, between its statements -/
noncomputable def u11v0 (P : Params) : Obj := ⟨.type "tuple", none, (.seq #[] 0), #[]⟩
noncomputable def u12v0 (P : Params) : Obj := ⟨.none, none, (.fields #[]), #[]⟩
noncomputable def u13v0 (P : Params) : Obj := ⟨.type "code", none, (.fields #[.str "<module>" 182, .str "<module>" 183, .str "/claim/cut.py" 184, .int 1 0, .int 0 0, .int 0 0, .int 0 0, .int 0 0, .ref 11, .bool false, .int 181 0, .ref 12, .none, .none, .none, .none, .int 185 0, .int 1 0, .str "/claim/cut.py" 186]), #[]⟩
noncomputable def u14v0 (P : Params) : Obj := ⟨.type "frame", none, .plain, #[some (.ref 13), some (.ref 3), some (.ref 3), none, some (.str "__main__" 164), none, some (.ref 0)]⟩
noncomputable def s0o (P : Params) : List Obj := [boot_o_0 P, boot_o_1 P, boot_o_2 P, boot_o_3 P, boot_o_4 P, boot_o_5 P, boot_o_6 P, boot_o_7 P, boot_o_8 P, boot_o_9 P, boot_o_10 P, u11v0 P, u12v0 P, u13v0 P, u14v0 P]
noncomputable def u2v0 (P : Params) : Obj := ⟨.none, none, (.dict #[dE P "type.__subclasses__.Exception.0" 212 (.int 31 0), dE P "type.__subclasses__.Exception.n" 213 (.int 1 0)] 2), #[]⟩
noncomputable def u3v0 (P : Params) : Obj := ⟨.type "dict", none, (.dict #[dE P "__name__" 165 (.str "yaml.events" 216), dE P "__doc__" 166 .none, dE P "__package__" 167 .none, dE P "__loader__" 168 (.builtin "__main__.__loader__#opaque"), dE P "__spec__" 169 .none, dE P "__annotations__" 170 (.ref 6), dE P "__builtins__" 171 (.ref 4), dE P "__file__" 173 (.str "/claim/cut.py" 172), dE P "__cached__" 174 .none, dE P "_wall" 193 (.ref 21), dE P "YAMLError" 215 (.ref 31), dE P "Event" 255 (.ref 59), dE P "NodeEvent" 284 (.ref 81), dE P "CollectionStartEvent" 319 (.ref 101)] 14), #[]⟩
noncomputable def u12v1 (P : Params) : Obj := ⟨.none, none, (.fields #[.int 1 0, .int 0 0, .ref 20, .int 5 0, .int 0 0, .ref 27, .int 8 0, .int 0 0, .ref 40, .int 16 0, .int 0 0, .ref 69, .int 22 0, .int 0 0, .ref 89]), #[]⟩
noncomputable def u15v0 (P : Params) : Obj := ⟨.type "tuple", none, (.seq #[] 0), #[]⟩
noncomputable def u16v0 (P : Params) : Obj := ⟨.none, none, (.fields #[]), #[]⟩
noncomputable def u17v0 (P : Params) : Obj := ⟨.type "tuple", none, (.seq #[.str "k" 190] 0), #[]⟩
noncomputable def u18v0 (P : Params) : Obj := ⟨.type "tuple", none, (.seq #[] 0), #[]⟩
noncomputable def u19v0 (P : Params) : Obj := ⟨.none, none, (fG [0] "_wall" 0 [] .none .none .none .none none .none .none 0), #[]⟩
noncomputable def u20v0 (P : Params) : Obj := ⟨.type "code", none, (.fields #[.str "_wall" 187, .str "_wall" 188, .str "/claim/cut.py" 189, .int 1 0, .int 1 0, .int 0 0, .int 0 0, .int 3 0, .ref 15, .bool true, .int 181 0, .ref 16, .none, .ref 17, .ref 18, .ref 19, .int 191 0, .int 1 0, .str "/claim/cut.py" 192]), #[]⟩
noncomputable def u21v0 (P : Params) : Obj := ⟨.type "function", none, (fD [0] "_wall" .none .none .none (.str "__main__" 164) none (.ref 20) .none 0), #[]⟩
noncomputable def u22v0 (P : Params) : Obj := ⟨.type "tuple", none, (.seq #[.type "Exception"] 0), #[]⟩
noncomputable def u23v0 (P : Params) : Obj := ⟨.type "builtin_function_or_method", none, (.fields #[.builtin "type.__prepare__", .type "type"]), #[]⟩
noncomputable def u24v0 (P : Params) : Obj := ⟨.type "dict", none, (.dict #[dE P "__module__" 203 (.str "yaml.error" 194), dE P "__qualname__" 205 (.str "YAMLError" 204), dE P "__firstlineno__" 207 (.int 5 206), dE P "__static_attributes__" 208 (.ref 29)] 4), #[]⟩
noncomputable def u25v0 (P : Params) : Obj := ⟨.type "tuple", none, (.seq #[] 0), #[]⟩
noncomputable def u26v0 (P : Params) : Obj := ⟨.none, none, (.fields #[]), #[]⟩
noncomputable def u27v0 (P : Params) : Obj := ⟨.type "code", none, (.fields #[.str "YAMLError" 198, .str "YAMLError" 199, .str "/claim/cut.py" 200, .int 5 0, .int 0 0, .int 0 0, .int 0 0, .int 0 0, .ref 25, .bool false, .int 181 0, .ref 26, .none, .none, .none, .none, .int 201 0, .int 5 0, .str "/claim/cut.py" 202]), #[]⟩
noncomputable def u28v0 (P : Params) : Obj := ⟨.type "frame", none, .plain, #[some (.ref 27), some (.ref 3), some (.ref 24), none, some (.str "yaml.error" 194), none, some (.ref 0)]⟩
noncomputable def u29v0 (P : Params) : Obj := ⟨.type "tuple", none, (.seq #[] 0), #[]⟩
noncomputable def u30v0 (P : Params) : Obj := ⟨.type "dict", none, (.dict #[dE P "__module__" 203 (.str "yaml.error" 194), dE P "__firstlineno__" 207 (.int 5 206), dE P "__static_attributes__" 208 (.ref 29), dE P "__weakref__" 210 (.ref 32), dE P "__doc__" 211 .none] 3), #[]⟩
noncomputable def u31v0 (P : Params) : Obj := ⟨.type "type", none, (.cls ⟨"YAMLError", [.type "Exception"], [.ref 31, .type "Exception", .type "BaseException", .type "object"], 30, "YAMLError", true, [], [], false, none, false⟩), #[some (.ref 22), none, some (.str "YAMLError" 196), some (.str "YAMLError" 204), some (.builtin "Exception.__new__"), some (.bool true)]⟩
noncomputable def u32v0 (P : Params) : Obj := ⟨.type "getset_descriptor", none, (.fields #[.str "__weakref__" 209, .ref 31, .builtin "ExceptionGroup.__weakref__", .none]), #[]⟩
noncomputable def u33v0 (P : Params) : Obj := ⟨.type "super", none, (.fields #[.ref 31, .ref 31, .ref 31]), #[]⟩
noncomputable def u34v0 (P : Params) : Obj := ⟨.type "builtin_function_or_method", none, (.fields #[.builtin "object.__init_subclass__", .ref 31]), #[]⟩
noncomputable def u35v0 (P : Params) : Obj := ⟨.type "tuple", none, (.seq #[.type "object"] 0), #[]⟩
noncomputable def u36v0 (P : Params) : Obj := ⟨.type "builtin_function_or_method", none, (.fields #[.builtin "type.__prepare__", .type "type"]), #[]⟩
noncomputable def u37v0 (P : Params) : Obj := ⟨.type "dict", none, (.dict #[dE P "__module__" 225 (.str "yaml.events" 216), dE P "__qualname__" 227 (.str "Event" 226), dE P "__firstlineno__" 229 (.int 8 228), dE P "__init__" 238 (.ref 49), dE P "__repr__" 245 (.ref 56), dE P "__static_attributes__" 248 (.ref 57)] 6), #[]⟩
noncomputable def u38v0 (P : Params) : Obj := ⟨.type "tuple", none, (.seq #[] 0), #[]⟩
noncomputable def u39v0 (P : Params) : Obj := ⟨.none, none, (.fields #[.int 10 0, .int 4 0, .ref 48, .int 14 0, .int 4 0, .ref 55]), #[]⟩
noncomputable def u40v0 (P : Params) : Obj := ⟨.type "code", none, (.fields #[.str "Event" 220, .str "Event" 221, .str "/claim/cut.py" 222, .int 8 0, .int 0 0, .int 0 0, .int 0 0, .int 0 0, .ref 38, .bool false, .int 181 0, .ref 39, .none, .none, .none, .none, .int 223 0, .int 8 0, .str "/claim/cut.py" 224]), #[]⟩
noncomputable def u41v0 (P : Params) : Obj := ⟨.type "frame", none, .plain, #[some (.ref 40), some (.ref 3), some (.ref 37), none, some (.str "yaml.events" 216), none, some (.ref 0)]⟩
noncomputable def u42v0 (P : Params) : Obj := ⟨.type "tuple", none, (.seq #[.none, .none] 0), #[]⟩
noncomputable def u43v0 (P : Params) : Obj := ⟨.type "tuple", none, (.seq #[] 0), #[]⟩
noncomputable def u44v0 (P : Params) : Obj := ⟨.none, none, (.fields #[]), #[]⟩
noncomputable def u45v0 (P : Params) : Obj := ⟨.type "tuple", none, (.seq #[.str "self" 233, .str "start_mark" 234, .str "end_mark" 235] 0), #[]⟩
noncomputable def u46v0 (P : Params) : Obj := ⟨.type "tuple", none, (.seq #[] 0), #[]⟩
noncomputable def u47v0 (P : Params) : Obj := ⟨.none, none, (fG [4, 0] "Event.__init__" 0 [] .none .none .none .none none .none .none 0), #[]⟩
noncomputable def u48v0 (P : Params) : Obj := ⟨.type "code", none, (.fields #[.str "__init__" 230, .str "Event.__init__" 231, .str "/claim/cut.py" 232, .int 10 0, .int 3 0, .int 0 0, .int 0 0, .int 3 0, .ref 43, .bool true, .int 181 0, .ref 44, .none, .ref 45, .ref 46, .ref 47, .int 236 0, .int 10 0, .str "/claim/cut.py" 237]), #[]⟩
noncomputable def u49v0 (P : Params) : Obj := ⟨.type "function", none, (fD [4, 0] "Event.__init__" (.ref 42) .none .none (.str "yaml.events" 216) none (.ref 48) .none 0), #[]⟩
noncomputable def u50v0 (P : Params) : Obj := ⟨.type "tuple", none, (.seq #[] 0), #[]⟩
noncomputable def u51v0 (P : Params) : Obj := ⟨.none, none, (.fields #[]), #[]⟩
noncomputable def u52v0 (P : Params) : Obj := ⟨.type "tuple", none, (.seq #[.str "self" 242] 0), #[]⟩
noncomputable def u53v0 (P : Params) : Obj := ⟨.type "tuple", none, (.seq #[] 0), #[]⟩
noncomputable def u54v0 (P : Params) : Obj := ⟨.none, none, (fG [4, 1] "Event.__repr__" 0 [] .none .none .none .none none .none .none 0), #[]⟩
noncomputable def u55v0 (P : Params) : Obj := ⟨.type "code", none, (.fields #[.str "__repr__" 239, .str "Event.__repr__" 240, .str "/claim/cut.py" 241, .int 14 0, .int 1 0, .int 0 0, .int 0 0, .int 3 0, .ref 50, .bool true, .int 181 0, .ref 51, .none, .ref 52, .ref 53, .ref 54, .int 243 0, .int 14 0, .str "/claim/cut.py" 244]), #[]⟩
noncomputable def u56v0 (P : Params) : Obj := ⟨.type "function", none, (fD [4, 1] "Event.__repr__" .none .none .none (.str "yaml.events" 216) none (.ref 55) .none 0), #[]⟩
noncomputable def u57v0 (P : Params) : Obj := ⟨.type "tuple", none, (.seq #[.str "end_mark" 246, .str "start_mark" 247] 0), #[]⟩
noncomputable def u58v0 (P : Params) : Obj := ⟨.type "dict", none, (.dict #[dE P "__module__" 225 (.str "yaml.events" 216), dE P "__firstlineno__" 229 (.int 8 228), dE P "__init__" 238 (.ref 49), dE P "__repr__" 245 (.ref 56), dE P "__static_attributes__" 248 (.ref 57), dE P "__dict__" 250 (.ref 60), dE P "__weakref__" 252 (.ref 61), dE P "__doc__" 253 .none] 4), #[]⟩
noncomputable def u59v0 (P : Params) : Obj := ⟨.type "type", none, (.cls ⟨"Event", [.type "object"], [.ref 59, .type "object"], 58, "Event", true, [], [.ref 81], false, none, false⟩), #[some (.ref 35), none, some (.str "Event" 218), some (.str "Event" 226), some (.builtin "object.__new__"), some (.bool true)]⟩
noncomputable def u60v0 (P : Params) : Obj := ⟨.type "getset_descriptor", none, (.fields #[.str "__dict__" 249, .ref 59, .builtin "function.__dict__", .builtin "function.__dict__#set"]), #[]⟩
noncomputable def u61v0 (P : Params) : Obj := ⟨.type "getset_descriptor", none, (.fields #[.str "__weakref__" 251, .ref 59, .builtin "ExceptionGroup.__weakref__", .none]), #[]⟩
noncomputable def u62v0 (P : Params) : Obj := ⟨.type "super", none, (.fields #[.ref 59, .ref 59, .ref 59]), #[]⟩
noncomputable def u63v0 (P : Params) : Obj := ⟨.type "builtin_function_or_method", none, (.fields #[.builtin "object.__init_subclass__", .ref 59]), #[]⟩
noncomputable def u64v0 (P : Params) : Obj := ⟨.type "tuple", none, (.seq #[.ref 59] 0), #[]⟩
noncomputable def u65v0 (P : Params) : Obj := ⟨.type "builtin_function_or_method", none, (.fields #[.builtin "type.__prepare__", .type "type"]), #[]⟩
noncomputable def u66v0 (P : Params) : Obj := ⟨.type "dict", none, (.dict #[dE P "__module__" 263 (.str "yaml.events" 216), dE P "__qualname__" 265 (.str "NodeEvent" 264), dE P "__firstlineno__" 267 (.int 16 266), dE P "__init__" 277 (.ref 78), dE P "__static_attributes__" 281 (.ref 79)] 5), #[]⟩
noncomputable def u67v0 (P : Params) : Obj := ⟨.type "tuple", none, (.seq #[] 0), #[]⟩
noncomputable def u68v0 (P : Params) : Obj := ⟨.none, none, (.fields #[.int 18 0, .int 4 0, .ref 77]), #[]⟩
noncomputable def u69v0 (P : Params) : Obj := ⟨.type "code", none, (.fields #[.str "NodeEvent" 258, .str "NodeEvent" 259, .str "/claim/cut.py" 260, .int 16 0, .int 0 0, .int 0 0, .int 0 0, .int 0 0, .ref 67, .bool false, .int 181 0, .ref 68, .none, .none, .none, .none, .int 261 0, .int 16 0, .str "/claim/cut.py" 262]), #[]⟩
noncomputable def u70v0 (P : Params) : Obj := ⟨.type "frame", none, .plain, #[some (.ref 69), some (.ref 3), some (.ref 66), none, some (.str "yaml.events" 216), none, some (.ref 0)]⟩
noncomputable def u71v0 (P : Params) : Obj := ⟨.type "tuple", none, (.seq #[.none, .none] 0), #[]⟩
noncomputable def u72v0 (P : Params) : Obj := ⟨.type "tuple", none, (.seq #[] 0), #[]⟩
noncomputable def u73v0 (P : Params) : Obj := ⟨.none, none, (.fields #[]), #[]⟩
noncomputable def u74v0 (P : Params) : Obj := ⟨.type "tuple", none, (.seq #[.str "self" 271, .str "anchor" 272, .str "start_mark" 273, .str "end_mark" 274] 0), #[]⟩
noncomputable def u75v0 (P : Params) : Obj := ⟨.type "tuple", none, (.seq #[] 0), #[]⟩
noncomputable def u76v0 (P : Params) : Obj := ⟨.none, none, (fG [5, 0] "NodeEvent.__init__" 0 [] .none .none .none .none none .none .none 0), #[]⟩
noncomputable def u77v0 (P : Params) : Obj := ⟨.type "code", none, (.fields #[.str "__init__" 268, .str "NodeEvent.__init__" 269, .str "/claim/cut.py" 270, .int 18 0, .int 4 0, .int 0 0, .int 0 0, .int 3 0, .ref 72, .bool true, .int 181 0, .ref 73, .none, .ref 74, .ref 75, .ref 76, .int 275 0, .int 18 0, .str "/claim/cut.py" 276]), #[]⟩
noncomputable def u78v0 (P : Params) : Obj := ⟨.type "function", none, (fD [5, 0] "NodeEvent.__init__" (.ref 71) .none .none (.str "yaml.events" 216) none (.ref 77) .none 0), #[]⟩
noncomputable def u79v0 (P : Params) : Obj := ⟨.type "tuple", none, (.seq #[.str "anchor" 278, .str "end_mark" 279, .str "start_mark" 280] 0), #[]⟩
noncomputable def u80v0 (P : Params) : Obj := ⟨.type "dict", none, (.dict #[dE P "__module__" 263 (.str "yaml.events" 216), dE P "__firstlineno__" 267 (.int 16 266), dE P "__init__" 277 (.ref 78), dE P "__static_attributes__" 281 (.ref 79), dE P "__doc__" 282 .none] 2), #[]⟩
noncomputable def u81v0 (P : Params) : Obj := ⟨.type "type", none, (.cls ⟨"NodeEvent", [.ref 59], [.ref 81, .ref 59, .type "object"], 80, "NodeEvent", true, [], [.ref 101], false, none, false⟩), #[some (.ref 64), none, some (.str "NodeEvent" 256), some (.str "NodeEvent" 264), some (.builtin "object.__new__"), some (.bool true)]⟩
noncomputable def u82v0 (P : Params) : Obj := ⟨.type "super", none, (.fields #[.ref 81, .ref 81, .ref 81]), #[]⟩
noncomputable def u83v0 (P : Params) : Obj := ⟨.type "builtin_function_or_method", none, (.fields #[.builtin "object.__init_subclass__", .ref 81]), #[]⟩
noncomputable def u84v0 (P : Params) : Obj := ⟨.type "tuple", none, (.seq #[.ref 81] 0), #[]⟩
noncomputable def u85v0 (P : Params) : Obj := ⟨.type "builtin_function_or_method", none, (.fields #[.builtin "type.__prepare__", .type "type"]), #[]⟩
noncomputable def u86v0 (P : Params) : Obj := ⟨.type "dict", none, (.dict #[dE P "__module__" 292 (.str "yaml.events" 216), dE P "__qualname__" 294 (.str "CollectionStartEvent" 293), dE P "__firstlineno__" 296 (.int 22 295), dE P "__init__" 309 (.ref 98), dE P "__static_attributes__" 316 (.ref 99)] 5), #[]⟩
noncomputable def u87v0 (P : Params) : Obj := ⟨.type "tuple", none, (.seq #[] 0), #[]⟩
noncomputable def u88v0 (P : Params) : Obj := ⟨.none, none, (.fields #[.int 24 0, .int 4 0, .ref 97]), #[]⟩
noncomputable def u89v0 (P : Params) : Obj := ⟨.type "code", none, (.fields #[.str "CollectionStartEvent" 287, .str "CollectionStartEvent" 288, .str "/claim/cut.py" 289, .int 22 0, .int 0 0, .int 0 0, .int 0 0, .int 0 0, .ref 87, .bool false, .int 181 0, .ref 88, .none, .none, .none, .none, .int 290 0, .int 22 0, .str "/claim/cut.py" 291]), #[]⟩
noncomputable def u90v0 (P : Params) : Obj := ⟨.type "frame", none, .plain, #[some (.ref 89), some (.ref 3), some (.ref 86), none, some (.str "yaml.events" 216), none, some (.ref 0)]⟩
noncomputable def u91v0 (P : Params) : Obj := ⟨.type "tuple", none, (.seq #[.none, .none, .none] 0), #[]⟩
noncomputable def u92v0 (P : Params) : Obj := ⟨.type "tuple", none, (.seq #[] 0), #[]⟩
noncomputable def u93v0 (P : Params) : Obj := ⟨.none, none, (.fields #[]), #[]⟩
noncomputable def u94v0 (P : Params) : Obj := ⟨.type "tuple", none, (.seq #[.str "self" 300, .str "anchor" 301, .str "tag" 302, .str "implicit" 303, .str "start_mark" 304, .str "end_mark" 305, .str "flow_style" 306] 0), #[]⟩
noncomputable def u95v0 (P : Params) : Obj := ⟨.type "tuple", none, (.seq #[] 0), #[]⟩
noncomputable def u96v0 (P : Params) : Obj := ⟨.none, none, (fG [6, 0] "CollectionStartEvent.__init__" 0 [] .none .none .none .none none .none .none 0), #[]⟩
noncomputable def u97v0 (P : Params) : Obj := ⟨.type "code", none, (.fields #[.str "__init__" 297, .str "CollectionStartEvent.__init__" 298, .str "/claim/cut.py" 299, .int 24 0, .int 7 0, .int 0 0, .int 0 0, .int 3 0, .ref 92, .bool true, .int 181 0, .ref 93, .none, .ref 94, .ref 95, .ref 96, .int 307 0, .int 24 0, .str "/claim/cut.py" 308]), #[]⟩
noncomputable def u98v0 (P : Params) : Obj := ⟨.type "function", none, (fD [6, 0] "CollectionStartEvent.__init__" (.ref 91) .none .none (.str "yaml.events" 216) none (.ref 97) .none 0), #[]⟩
noncomputable def u99v0 (P : Params) : Obj := ⟨.type "tuple", none, (.seq #[.str "anchor" 310, .str "end_mark" 311, .str "flow_style" 312, .str "implicit" 313, .str "start_mark" 314, .str "tag" 315] 0), #[]⟩
noncomputable def u100v0 (P : Params) : Obj := ⟨.type "dict", none, (.dict #[dE P "__module__" 292 (.str "yaml.events" 216), dE P "__firstlineno__" 296 (.int 22 295), dE P "__init__" 309 (.ref 98), dE P "__static_attributes__" 316 (.ref 99), dE P "__doc__" 317 .none] 2), #[]⟩
noncomputable def u101v0 (P : Params) : Obj := ⟨.type "type", none, (.cls ⟨"CollectionStartEvent", [.ref 81], [.ref 101, .ref 81, .ref 59, .type "object"], 100, "CollectionStartEvent", true, [], [], false, none, false⟩), #[some (.ref 84), none, some (.str "CollectionStartEvent" 285), some (.str "CollectionStartEvent" 293), some (.builtin "object.__new__"), some (.bool true)]⟩
noncomputable def u102v0 (P : Params) : Obj := ⟨.type "super", none, (.fields #[.ref 101, .ref 101, .ref 101]), #[]⟩
noncomputable def u103v0 (P : Params) : Obj := ⟨.type "builtin_function_or_method", none, (.fields #[.builtin "object.__init_subclass__", .ref 101]), #[]⟩
noncomputable def s1o (P : Params) : List Obj := [boot_o_0 P, boot_o_1 P, u2v0 P, u3v0 P, boot_o_4 P, boot_o_5 P, boot_o_6 P, boot_o_7 P, boot_o_8 P, boot_o_9 P, boot_o_10 P, u11v0 P, u12v1 P, u13v0 P, u14v0 P, u15v0 P, u16v0 P, u17v0 P, u18v0 P, u19v0 P, u20v0 P, u21v0 P, u22v0 P, u23v0 P, u24v0 P, u25v0 P, u26v0 P, u27v0 P, u28v0 P, u29v0 P, u30v0 P, u31v0 P, u32v0 P, u33v0 P, u34v0 P, u35v0 P, u36v0 P, u37v0 P, u38v0 P, u39v0 P, u40v0 P, u41v0 P, u42v0 P, u43v0 P, u44v0 P, u45v0 P, u46v0 P, u47v0 P, u48v0 P, u49v0 P, u50v0 P, u51v0 P, u52v0 P, u53v0 P, u54v0 P, u55v0 P, u56v0 P, u57v0 P, u58v0 P, u59v0 P, u60v0 P, u61v0 P, u62v0 P, u63v0 P, u64v0 P, u65v0 P, u66v0 P, u67v0 P, u68v0 P, u69v0 P, u70v0 P, u71v0 P, u72v0 P, u73v0 P, u74v0 P, u75v0 P, u76v0 P, u77v0 P, u78v0 P, u79v0 P, u80v0 P, u81v0 P, u82v0 P, u83v0 P, u84v0 P, u85v0 P, u86v0 P, u87v0 P, u88v0 P, u89v0 P, u90v0 P, u91v0 P, u92v0 P, u93v0 P, u94v0 P, u95v0 P, u96v0 P, u97v0 P, u98v0 P, u99v0 P, u100v0 P, u101v0 P, u102v0 P, u103v0 P]
noncomputable def u3v1 (P : Params) : Obj := ⟨.type "dict", none, (.dict #[dE P "__name__" 165 (.str "yaml.events" 216), dE P "__doc__" 166 .none, dE P "__package__" 167 .none, dE P "__loader__" 168 (.builtin "__main__.__loader__#opaque"), dE P "__spec__" 169 .none, dE P "__annotations__" 170 (.ref 6), dE P "__builtins__" 171 (.ref 4), dE P "__file__" 173 (.str "/claim/cut.py" 172), dE P "__cached__" 174 .none, dE P "_wall" 193 (.ref 21), dE P "YAMLError" 215 (.ref 31), dE P "Event" 255 (.ref 59), dE P "NodeEvent" 284 (.ref 81), dE P "CollectionStartEvent" 319 (.ref 101), dE P "CollectionEndEvent" 335 (.ref 113), dE P "StreamStartEvent" 364 (.ref 133), dE P "StreamEndEvent" 380 (.ref 145), dE P "DocumentStartEvent" 413 (.ref 165), dE P "DocumentEndEvent" 442 (.ref 185)] 19), #[]⟩
noncomputable def u12v2 (P : Params) : Obj := ⟨.none, none, (.fields #[.int 1 0, .int 0 0, .ref 20, .int 5 0, .int 0 0, .ref 27, .int 8 0, .int 0 0, .ref 40, .int 16 0, .int 0 0, .ref 69, .int 22 0, .int 0 0, .ref 89, .int 31 0, .int 0 0, .ref 109, .int 33 0, .int 0 0, .ref 121, .int 39 0, .int 0 0, .ref 141, .int 41 0, .int 0 0, .ref 153, .int 49 0, .int 0 0, .ref 173]), #[]⟩
noncomputable def u59v1 (P : Params) : Obj := ⟨.type "type", none, (.cls ⟨"Event", [.type "object"], [.ref 59, .type "object"], 58, "Event", true, [], [.ref 81, .ref 113, .ref 133, .ref 145, .ref 165, .ref 185], false, none, false⟩), #[some (.ref 35), none, some (.str "Event" 218), some (.str "Event" 226), some (.builtin "object.__new__"), some (.bool true)]⟩
noncomputable def u104v0 (P : Params) : Obj := ⟨.type "tuple", none, (.seq #[.ref 59] 0), #[]⟩
noncomputable def u105v0 (P : Params) : Obj := ⟨.type "builtin_function_or_method", none, (.fields #[.builtin "type.__prepare__", .type "type"]), #[]⟩
noncomputable def u106v0 (P : Params) : Obj := ⟨.type "dict", none, (.dict #[dE P "__module__" 327 (.str "yaml.events" 216), dE P "__qualname__" 329 (.str "CollectionEndEvent" 328), dE P "__firstlineno__" 331 (.int 31 330), dE P "__static_attributes__" 332 (.ref 111)] 4), #[]⟩
noncomputable def u107v0 (P : Params) : Obj := ⟨.type "tuple", none, (.seq #[] 0), #[]⟩
noncomputable def u108v0 (P : Params) : Obj := ⟨.none, none, (.fields #[]), #[]⟩
noncomputable def u109v0 (P : Params) : Obj := ⟨.type "code", none, (.fields #[.str "CollectionEndEvent" 322, .str "CollectionEndEvent" 323, .str "/claim/cut.py" 324, .int 31 0, .int 0 0, .int 0 0, .int 0 0, .int 0 0, .ref 107, .bool false, .int 181 0, .ref 108, .none, .none, .none, .none, .int 325 0, .int 31 0, .str "/claim/cut.py" 326]), #[]⟩
noncomputable def u110v0 (P : Params) : Obj := ⟨.type "frame", none, .plain, #[some (.ref 109), some (.ref 3), some (.ref 106), none, some (.str "yaml.events" 216), none, some (.ref 0)]⟩
noncomputable def u111v0 (P : Params) : Obj := ⟨.type "tuple", none, (.seq #[] 0), #[]⟩
noncomputable def u112v0 (P : Params) : Obj := ⟨.type "dict", none, (.dict #[dE P "__module__" 327 (.str "yaml.events" 216), dE P "__firstlineno__" 331 (.int 31 330), dE P "__static_attributes__" 332 (.ref 111), dE P "__doc__" 333 .none] 2), #[]⟩
noncomputable def u113v0 (P : Params) : Obj := ⟨.type "type", none, (.cls ⟨"CollectionEndEvent", [.ref 59], [.ref 113, .ref 59, .type "object"], 112, "CollectionEndEvent", true, [], [], false, none, false⟩), #[some (.ref 104), none, some (.str "CollectionEndEvent" 320), some (.str "CollectionEndEvent" 328), some (.builtin "object.__new__"), some (.bool true)]⟩
noncomputable def u114v0 (P : Params) : Obj := ⟨.type "super", none, (.fields #[.ref 113, .ref 113, .ref 113]), #[]⟩
noncomputable def u115v0 (P : Params) : Obj := ⟨.type "builtin_function_or_method", none, (.fields #[.builtin "object.__init_subclass__", .ref 113]), #[]⟩
noncomputable def u116v0 (P : Params) : Obj := ⟨.type "tuple", none, (.seq #[.ref 59] 0), #[]⟩
noncomputable def u117v0 (P : Params) : Obj := ⟨.type "builtin_function_or_method", none, (.fields #[.builtin "type.__prepare__", .type "type"]), #[]⟩
noncomputable def u118v0 (P : Params) : Obj := ⟨.type "dict", none, (.dict #[dE P "__module__" 343 (.str "yaml.events" 216), dE P "__qualname__" 345 (.str "StreamStartEvent" 344), dE P "__firstlineno__" 347 (.int 33 346), dE P "__init__" 357 (.ref 130), dE P "__static_attributes__" 361 (.ref 131)] 5), #[]⟩
noncomputable def u119v0 (P : Params) : Obj := ⟨.type "tuple", none, (.seq #[] 0), #[]⟩
noncomputable def u120v0 (P : Params) : Obj := ⟨.none, none, (.fields #[.int 35 0, .int 4 0, .ref 129]), #[]⟩
noncomputable def u121v0 (P : Params) : Obj := ⟨.type "code", none, (.fields #[.str "StreamStartEvent" 338, .str "StreamStartEvent" 339, .str "/claim/cut.py" 340, .int 33 0, .int 0 0, .int 0 0, .int 0 0, .int 0 0, .ref 119, .bool false, .int 181 0, .ref 120, .none, .none, .none, .none, .int 341 0, .int 33 0, .str "/claim/cut.py" 342]), #[]⟩
noncomputable def u122v0 (P : Params) : Obj := ⟨.type "frame", none, .plain, #[some (.ref 121), some (.ref 3), some (.ref 118), none, some (.str "yaml.events" 216), none, some (.ref 0)]⟩
noncomputable def u123v0 (P : Params) : Obj := ⟨.type "tuple", none, (.seq #[.none, .none, .none] 0), #[]⟩
noncomputable def u124v0 (P : Params) : Obj := ⟨.type "tuple", none, (.seq #[] 0), #[]⟩
noncomputable def u125v0 (P : Params) : Obj := ⟨.none, none, (.fields #[]), #[]⟩
noncomputable def u126v0 (P : Params) : Obj := ⟨.type "tuple", none, (.seq #[.str "self" 351, .str "start_mark" 352, .str "end_mark" 353, .str "encoding" 354] 0), #[]⟩
noncomputable def u127v0 (P : Params) : Obj := ⟨.type "tuple", none, (.seq #[] 0), #[]⟩
noncomputable def u128v0 (P : Params) : Obj := ⟨.none, none, (fG [8, 0] "StreamStartEvent.__init__" 0 [] .none .none .none .none none .none .none 0), #[]⟩
noncomputable def u129v0 (P : Params) : Obj := ⟨.type "code", none, (.fields #[.str "__init__" 348, .str "StreamStartEvent.__init__" 349, .str "/claim/cut.py" 350, .int 35 0, .int 4 0, .int 0 0, .int 0 0, .int 3 0, .ref 124, .bool true, .int 181 0, .ref 125, .none, .ref 126, .ref 127, .ref 128, .int 355 0, .int 35 0, .str "/claim/cut.py" 356]), #[]⟩
noncomputable def u130v0 (P : Params) : Obj := ⟨.type "function", none, (fD [8, 0] "StreamStartEvent.__init__" (.ref 123) .none .none (.str "yaml.events" 216) none (.ref 129) .none 0), #[]⟩
noncomputable def u131v0 (P : Params) : Obj := ⟨.type "tuple", none, (.seq #[.str "encoding" 358, .str "end_mark" 359, .str "start_mark" 360] 0), #[]⟩
noncomputable def u132v0 (P : Params) : Obj := ⟨.type "dict", none, (.dict #[dE P "__module__" 343 (.str "yaml.events" 216), dE P "__firstlineno__" 347 (.int 33 346), dE P "__init__" 357 (.ref 130), dE P "__static_attributes__" 361 (.ref 131), dE P "__doc__" 362 .none] 2), #[]⟩
noncomputable def u133v0 (P : Params) : Obj := ⟨.type "type", none, (.cls ⟨"StreamStartEvent", [.ref 59], [.ref 133, .ref 59, .type "object"], 132, "StreamStartEvent", true, [], [], false, none, false⟩), #[some (.ref 116), none, some (.str "StreamStartEvent" 336), some (.str "StreamStartEvent" 344), some (.builtin "object.__new__"), some (.bool true)]⟩
noncomputable def u134v0 (P : Params) : Obj := ⟨.type "super", none, (.fields #[.ref 133, .ref 133, .ref 133]), #[]⟩
noncomputable def u135v0 (P : Params) : Obj := ⟨.type "builtin_function_or_method", none, (.fields #[.builtin "object.__init_subclass__", .ref 133]), #[]⟩
noncomputable def u136v0 (P : Params) : Obj := ⟨.type "tuple", none, (.seq #[.ref 59] 0), #[]⟩
noncomputable def u137v0 (P : Params) : Obj := ⟨.type "builtin_function_or_method", none, (.fields #[.builtin "type.__prepare__", .type "type"]), #[]⟩
noncomputable def u138v0 (P : Params) : Obj := ⟨.type "dict", none, (.dict #[dE P "__module__" 372 (.str "yaml.events" 216), dE P "__qualname__" 374 (.str "StreamEndEvent" 373), dE P "__firstlineno__" 376 (.int 39 375), dE P "__static_attributes__" 377 (.ref 143)] 4), #[]⟩
noncomputable def u139v0 (P : Params) : Obj := ⟨.type "tuple", none, (.seq #[] 0), #[]⟩
noncomputable def u140v0 (P : Params) : Obj := ⟨.none, none, (.fields #[]), #[]⟩
noncomputable def u141v0 (P : Params) : Obj := ⟨.type "code", none, (.fields #[.str "StreamEndEvent" 367, .str "StreamEndEvent" 368, .str "/claim/cut.py" 369, .int 39 0, .int 0 0, .int 0 0, .int 0 0, .int 0 0, .ref 139, .bool false, .int 181 0, .ref 140, .none, .none, .none, .none, .int 370 0, .int 39 0, .str "/claim/cut.py" 371]), #[]⟩
noncomputable def u142v0 (P : Params) : Obj := ⟨.type "frame", none, .plain, #[some (.ref 141), some (.ref 3), some (.ref 138), none, some (.str "yaml.events" 216), none, some (.ref 0)]⟩
noncomputable def u143v0 (P : Params) : Obj := ⟨.type "tuple", none, (.seq #[] 0), #[]⟩
noncomputable def u144v0 (P : Params) : Obj := ⟨.type "dict", none, (.dict #[dE P "__module__" 372 (.str "yaml.events" 216), dE P "__firstlineno__" 376 (.int 39 375), dE P "__static_attributes__" 377 (.ref 143), dE P "__doc__" 378 .none] 2), #[]⟩
noncomputable def u145v0 (P : Params) : Obj := ⟨.type "type", none, (.cls ⟨"StreamEndEvent", [.ref 59], [.ref 145, .ref 59, .type "object"], 144, "StreamEndEvent", true, [], [], false, none, false⟩), #[some (.ref 136), none, some (.str "StreamEndEvent" 365), some (.str "StreamEndEvent" 373), some (.builtin "object.__new__"), some (.bool true)]⟩
noncomputable def u146v0 (P : Params) : Obj := ⟨.type "super", none, (.fields #[.ref 145, .ref 145, .ref 145]), #[]⟩
noncomputable def u147v0 (P : Params) : Obj := ⟨.type "builtin_function_or_method", none, (.fields #[.builtin "object.__init_subclass__", .ref 145]), #[]⟩
noncomputable def u148v0 (P : Params) : Obj := ⟨.type "tuple", none, (.seq #[.ref 59] 0), #[]⟩
noncomputable def u149v0 (P : Params) : Obj := ⟨.type "builtin_function_or_method", none, (.fields #[.builtin "type.__prepare__", .type "type"]), #[]⟩
noncomputable def u150v0 (P : Params) : Obj := ⟨.type "dict", none, (.dict #[dE P "__module__" 388 (.str "yaml.events" 216), dE P "__qualname__" 390 (.str "DocumentStartEvent" 389), dE P "__firstlineno__" 392 (.int 41 391), dE P "__init__" 404 (.ref 162), dE P "__static_attributes__" 410 (.ref 163)] 5), #[]⟩
noncomputable def u151v0 (P : Params) : Obj := ⟨.type "tuple", none, (.seq #[] 0), #[]⟩
noncomputable def u152v0 (P : Params) : Obj := ⟨.none, none, (.fields #[.int 43 0, .int 4 0, .ref 161]), #[]⟩
noncomputable def u153v0 (P : Params) : Obj := ⟨.type "code", none, (.fields #[.str "DocumentStartEvent" 383, .str "DocumentStartEvent" 384, .str "/claim/cut.py" 385, .int 41 0, .int 0 0, .int 0 0, .int 0 0, .int 0 0, .ref 151, .bool false, .int 181 0, .ref 152, .none, .none, .none, .none, .int 386 0, .int 41 0, .str "/claim/cut.py" 387]), #[]⟩
noncomputable def u154v0 (P : Params) : Obj := ⟨.type "frame", none, .plain, #[some (.ref 153), some (.ref 3), some (.ref 150), none, some (.str "yaml.events" 216), none, some (.ref 0)]⟩
noncomputable def u155v0 (P : Params) : Obj := ⟨.type "tuple", none, (.seq #[.none, .none, .none, .none, .none] 0), #[]⟩
noncomputable def u156v0 (P : Params) : Obj := ⟨.type "tuple", none, (.seq #[] 0), #[]⟩
noncomputable def u157v0 (P : Params) : Obj := ⟨.none, none, (.fields #[]), #[]⟩
noncomputable def u158v0 (P : Params) : Obj := ⟨.type "tuple", none, (.seq #[.str "self" 396, .str "start_mark" 397, .str "end_mark" 398, .str "explicit" 399, .str "version" 400, .str "tags" 401] 0), #[]⟩
noncomputable def u159v0 (P : Params) : Obj := ⟨.type "tuple", none, (.seq #[] 0), #[]⟩
noncomputable def u160v0 (P : Params) : Obj := ⟨.none, none, (fG [10, 0] "DocumentStartEvent.__init__" 0 [] .none .none .none .none none .none .none 0), #[]⟩
noncomputable def u161v0 (P : Params) : Obj := ⟨.type "code", none, (.fields #[.str "__init__" 393, .str "DocumentStartEvent.__init__" 394, .str "/claim/cut.py" 395, .int 43 0, .int 6 0, .int 0 0, .int 0 0, .int 3 0, .ref 156, .bool true, .int 181 0, .ref 157, .none, .ref 158, .ref 159, .ref 160, .int 402 0, .int 43 0, .str "/claim/cut.py" 403]), #[]⟩
noncomputable def u162v0 (P : Params) : Obj := ⟨.type "function", none, (fD [10, 0] "DocumentStartEvent.__init__" (.ref 155) .none .none (.str "yaml.events" 216) none (.ref 161) .none 0), #[]⟩
noncomputable def u163v0 (P : Params) : Obj := ⟨.type "tuple", none, (.seq #[.str "end_mark" 405, .str "explicit" 406, .str "start_mark" 407, .str "tags" 408, .str "version" 409] 0), #[]⟩
noncomputable def u164v0 (P : Params) : Obj := ⟨.type "dict", none, (.dict #[dE P "__module__" 388 (.str "yaml.events" 216), dE P "__firstlineno__" 392 (.int 41 391), dE P "__init__" 404 (.ref 162), dE P "__static_attributes__" 410 (.ref 163), dE P "__doc__" 411 .none] 2), #[]⟩
noncomputable def u165v0 (P : Params) : Obj := ⟨.type "type", none, (.cls ⟨"DocumentStartEvent", [.ref 59], [.ref 165, .ref 59, .type "object"], 164, "DocumentStartEvent", true, [], [], false, none, false⟩), #[some (.ref 148), none, some (.str "DocumentStartEvent" 381), some (.str "DocumentStartEvent" 389), some (.builtin "object.__new__"), some (.bool true)]⟩
noncomputable def u166v0 (P : Params) : Obj := ⟨.type "super", none, (.fields #[.ref 165, .ref 165, .ref 165]), #[]⟩
noncomputable def u167v0 (P : Params) : Obj := ⟨.type "builtin_function_or_method", none, (.fields #[.builtin "object.__init_subclass__", .ref 165]), #[]⟩
noncomputable def u168v0 (P : Params) : Obj := ⟨.type "tuple", none, (.seq #[.ref 59] 0), #[]⟩
noncomputable def u169v0 (P : Params) : Obj := ⟨.type "builtin_function_or_method", none, (.fields #[.builtin "type.__prepare__", .type "type"]), #[]⟩
noncomputable def u170v0 (P : Params) : Obj := ⟨.type "dict", none, (.dict #[dE P "__module__" 421 (.str "yaml.events" 216), dE P "__qualname__" 423 (.str "DocumentEndEvent" 422), dE P "__firstlineno__" 425 (.int 49 424), dE P "__init__" 435 (.ref 182), dE P "__static_attributes__" 439 (.ref 183)] 5), #[]⟩
noncomputable def u171v0 (P : Params) : Obj := ⟨.type "tuple", none, (.seq #[] 0), #[]⟩
noncomputable def u172v0 (P : Params) : Obj := ⟨.none, none, (.fields #[.int 51 0, .int 4 0, .ref 181]), #[]⟩
noncomputable def u173v0 (P : Params) : Obj := ⟨.type "code", none, (.fields #[.str "DocumentEndEvent" 416, .str "DocumentEndEvent" 417, .str "/claim/cut.py" 418, .int 49 0, .int 0 0, .int 0 0, .int 0 0, .int 0 0, .ref 171, .bool false, .int 181 0, .ref 172, .none, .none, .none, .none, .int 419 0, .int 49 0, .str "/claim/cut.py" 420]), #[]⟩
noncomputable def u174v0 (P : Params) : Obj := ⟨.type "frame", none, .plain, #[some (.ref 173), some (.ref 3), some (.ref 170), none, some (.str "yaml.events" 216), none, some (.ref 0)]⟩
noncomputable def u175v0 (P : Params) : Obj := ⟨.type "tuple", none, (.seq #[.none, .none, .none] 0), #[]⟩
noncomputable def u176v0 (P : Params) : Obj := ⟨.type "tuple", none, (.seq #[] 0), #[]⟩
noncomputable def u177v0 (P : Params) : Obj := ⟨.none, none, (.fields #[]), #[]⟩
noncomputable def u178v0 (P : Params) : Obj := ⟨.type "tuple", none, (.seq #[.str "self" 429, .str "start_mark" 430, .str "end_mark" 431, .str "explicit" 432] 0), #[]⟩
noncomputable def u179v0 (P : Params) : Obj := ⟨.type "tuple", none, (.seq #[] 0), #[]⟩
noncomputable def u180v0 (P : Params) : Obj := ⟨.none, none, (fG [11, 0] "DocumentEndEvent.__init__" 0 [] .none .none .none .none none .none .none 0), #[]⟩
noncomputable def u181v0 (P : Params) : Obj := ⟨.type "code", none, (.fields #[.str "__init__" 426, .str "DocumentEndEvent.__init__" 427, .str "/claim/cut.py" 428, .int 51 0, .int 4 0, .int 0 0, .int 0 0, .int 3 0, .ref 176, .bool true, .int 181 0, .ref 177, .none, .ref 178, .ref 179, .ref 180, .int 433 0, .int 51 0, .str "/claim/cut.py" 434]), #[]⟩
noncomputable def u182v0 (P : Params) : Obj := ⟨.type "function", none, (fD [11, 0] "DocumentEndEvent.__init__" (.ref 175) .none .none (.str "yaml.events" 216) none (.ref 181) .none 0), #[]⟩
noncomputable def u183v0 (P : Params) : Obj := ⟨.type "tuple", none, (.seq #[.str "end_mark" 436, .str "explicit" 437, .str "start_mark" 438] 0), #[]⟩
noncomputable def u184v0 (P : Params) : Obj := ⟨.type "dict", none, (.dict #[dE P "__module__" 421 (.str "yaml.events" 216), dE P "__firstlineno__" 425 (.int 49 424), dE P "__init__" 435 (.ref 182), dE P "__static_attributes__" 439 (.ref 183), dE P "__doc__" 440 .none] 2), #[]⟩
noncomputable def u185v0 (P : Params) : Obj := ⟨.type "type", none, (.cls ⟨"DocumentEndEvent", [.ref 59], [.ref 185, .ref 59, .type "object"], 184, "DocumentEndEvent", true, [], [], false, none, false⟩), #[some (.ref 168), none, some (.str "DocumentEndEvent" 414), some (.str "DocumentEndEvent" 422), some (.builtin "object.__new__"), some (.bool true)]⟩
noncomputable def u186v0 (P : Params) : Obj := ⟨.type "super", none, (.fields #[.ref 185, .ref 185, .ref 185]), #[]⟩
noncomputable def u187v0 (P : Params) : Obj := ⟨.type "builtin_function_or_method", none, (.fields #[.builtin "object.__init_subclass__", .ref 185]), #[]⟩
noncomputable def s2o (P : Params) : List Obj := [boot_o_0 P, boot_o_1 P, u2v0 P, u3v1 P, boot_o_4 P, boot_o_5 P, boot_o_6 P, boot_o_7 P, boot_o_8 P, boot_o_9 P, boot_o_10 P, u11v0 P, u12v2 P, u13v0 P, u14v0 P, u15v0 P, u16v0 P, u17v0 P, u18v0 P, u19v0 P, u20v0 P, u21v0 P, u22v0 P, u23v0 P, u24v0 P, u25v0 P, u26v0 P, u27v0 P, u28v0 P, u29v0 P, u30v0 P, u31v0 P, u32v0 P, u33v0 P, u34v0 P, u35v0 P, u36v0 P, u37v0 P, u38v0 P, u39v0 P, u40v0 P, u41v0 P, u42v0 P, u43v0 P, u44v0 P, u45v0 P, u46v0 P, u47v0 P, u48v0 P, u49v0 P, u50v0 P, u51v0 P, u52v0 P, u53v0 P, u54v0 P, u55v0 P, u56v0 P, u57v0 P, u58v0 P, u59v1 P, u60v0 P, u61v0 P, u62v0 P, u63v0 P, u64v0 P, u65v0 P, u66v0 P, u67v0 P, u68v0 P, u69v0 P, u70v0 P, u71v0 P, u72v0 P, u73v0 P, u74v0 P, u75v0 P, u76v0 P, u77v0 P, u78v0 P, u79v0 P, u80v0 P, u81v0 P, u82v0 P, u83v0 P, u84v0 P, u85v0 P, u86v0 P, u87v0 P, u88v0 P, u89v0 P, u90v0 P, u91v0 P, u92v0 P, u93v0 P, u94v0 P, u95v0 P, u96v0 P, u97v0 P, u98v0 P, u99v0 P, u100v0 P, u101v0 P, u102v0 P, u103v0 P, u104v0 P, u105v0 P, u106v0 P, u107v0 P, u108v0 P, u109v0 P, u110v0 P, u111v0 P, u112v0 P, u113v0 P, u114v0 P, u115v0 P, u116v0 P, u117v0 P, u118v0 P, u119v0 P, u120v0 P, u121v0 P, u122v0 P, u123v0 P, u124v0 P, u125v0 P, u126v0 P, u127v0 P, u128v0 P, u129v0 P, u130v0 P, u131v0 P, u132v0 P, u133v0 P, u134v0 P, u135v0 P, u136v0 P, u137v0 P, u138v0 P, u139v0 P, u140v0 P, u141v0 P, u142v0 P, u143v0 P, u144v0 P, u145v0 P, u146v0 P, u147v0 P, u148v0 P, u149v0 P, u150v0 P, u151v0 P, u152v0 P, u153v0 P, u154v0 P, u155v0 P, u156v0 P, u157v0 P, u158v0 P, u159v0 P, u160v0 P, u161v0 P, u162v0 P, u163v0 P, u164v0 P, u165v0 P, u166v0 P, u167v0 P, u168v0 P, u169v0 P, u170v0 P, u171v0 P, u172v0 P, u173v0 P, u174v0 P, u175v0 P, u176v0 P, u177v0 P, u178v0 P, u179v0 P, u180v0 P, u181v0 P, u182v0 P, u183v0 P, u184v0 P, u185v0 P, u186v0 P, u187v0 P]
noncomputable def u3v2 (P : Params) : Obj := ⟨.type "dict", none, (.dict #[dE P "__name__" 165 (.str "yaml.emitter" 560), dE P "__doc__" 166 .none, dE P "__package__" 167 .none, dE P "__loader__" 168 (.builtin "__main__.__loader__#opaque"), dE P "__spec__" 169 .none, dE P "__annotations__" 170 (.ref 6), dE P "__builtins__" 171 (.ref 4), dE P "__file__" 173 (.str "/claim/cut.py" 172), dE P "__cached__" 174 .none, dE P "_wall" 193 (.ref 21), dE P "YAMLError" 215 (.ref 31), dE P "Event" 255 (.ref 59), dE P "NodeEvent" 284 (.ref 81), dE P "CollectionStartEvent" 319 (.ref 101), dE P "CollectionEndEvent" 335 (.ref 113), dE P "StreamStartEvent" 364 (.ref 133), dE P "StreamEndEvent" 380 (.ref 145), dE P "DocumentStartEvent" 413 (.ref 165), dE P "DocumentEndEvent" 442 (.ref 185), dE P "AliasEvent" 458 (.ref 197), dE P "ScalarEvent" 495 (.ref 217), dE P "SequenceStartEvent" 511 (.ref 229), dE P "SequenceEndEvent" 527 (.ref 241), dE P "MappingStartEvent" 543 (.ref 253), dE P "MappingEndEvent" 559 (.ref 265), dE P "EmitterError" 577 (.ref 277), dE P "ScalarAnalysis" 620 (.ref 296)] 27), #[]⟩
noncomputable def u12v3 (P : Params) : Obj := ⟨.none, none, (.fields #[.int 1 0, .int 0 0, .ref 20, .int 5 0, .int 0 0, .ref 27, .int 8 0, .int 0 0, .ref 40, .int 16 0, .int 0 0, .ref 69, .int 22 0, .int 0 0, .ref 89, .int 31 0, .int 0 0, .ref 109, .int 33 0, .int 0 0, .ref 121, .int 39 0, .int 0 0, .ref 141, .int 41 0, .int 0 0, .ref 153, .int 49 0, .int 0 0, .ref 173, .int 55 0, .int 0 0, .ref 193, .int 57 0, .int 0 0, .ref 205, .int 67 0, .int 0 0, .ref 225, .int 69 0, .int 0 0, .ref 237, .int 71 0, .int 0 0, .ref 249, .int 73 0, .int 0 0, .ref 261, .int 76 0, .int 0 0, .ref 273, .int 78 0, .int 0 0, .ref 285]), #[]⟩
noncomputable def u31v1 (P : Params) : Obj := ⟨.type "type", none, (.cls ⟨"YAMLError", [.type "Exception"], [.ref 31, .type "Exception", .type "BaseException", .type "object"], 30, "YAMLError", true, [], [.ref 277], false, none, false⟩), #[some (.ref 22), none, some (.str "YAMLError" 196), some (.str "YAMLError" 204), some (.builtin "Exception.__new__"), some (.bool true)]⟩
noncomputable def u81v1 (P : Params) : Obj := ⟨.type "type", none, (.cls ⟨"NodeEvent", [.ref 59], [.ref 81, .ref 59, .type "object"], 80, "NodeEvent", true, [], [.ref 101, .ref 197, .ref 217], false, none, false⟩), #[some (.ref 64), none, some (.str "NodeEvent" 256), some (.str "NodeEvent" 264), some (.builtin "object.__new__"), some (.bool true)]⟩
noncomputable def u101v1 (P : Params) : Obj := ⟨.type "type", none, (.cls ⟨"CollectionStartEvent", [.ref 81], [.ref 101, .ref 81, .ref 59, .type "object"], 100, "CollectionStartEvent", true, [], [.ref 229, .ref 253], false, none, false⟩), #[some (.ref 84), none, some (.str "CollectionStartEvent" 285), some (.str "CollectionStartEvent" 293), some (.builtin "object.__new__"), some (.bool true)]⟩
noncomputable def u113v1 (P : Params) : Obj := ⟨.type "type", none, (.cls ⟨"CollectionEndEvent", [.ref 59], [.ref 113, .ref 59, .type "object"], 112, "CollectionEndEvent", true, [], [.ref 241, .ref 265], false, none, false⟩), #[some (.ref 104), none, some (.str "CollectionEndEvent" 320), some (.str "CollectionEndEvent" 328), some (.builtin "object.__new__"), some (.bool true)]⟩
noncomputable def u188v0 (P : Params) : Obj := ⟨.type "tuple", none, (.seq #[.ref 81] 0), #[]⟩
noncomputable def u189v0 (P : Params) : Obj := ⟨.type "builtin_function_or_method", none, (.fields #[.builtin "type.__prepare__", .type "type"]), #[]⟩
noncomputable def u190v0 (P : Params) : Obj := ⟨.type "dict", none, (.dict #[dE P "__module__" 450 (.str "yaml.events" 216), dE P "__qualname__" 452 (.str "AliasEvent" 451), dE P "__firstlineno__" 454 (.int 55 453), dE P "__static_attributes__" 455 (.ref 195)] 4), #[]⟩
noncomputable def u191v0 (P : Params) : Obj := ⟨.type "tuple", none, (.seq #[] 0), #[]⟩
noncomputable def u192v0 (P : Params) : Obj := ⟨.none, none, (.fields #[]), #[]⟩
noncomputable def u193v0 (P : Params) : Obj := ⟨.type "code", none, (.fields #[.str "AliasEvent" 445, .str "AliasEvent" 446, .str "/claim/cut.py" 447, .int 55 0, .int 0 0, .int 0 0, .int 0 0, .int 0 0, .ref 191, .bool false, .int 181 0, .ref 192, .none, .none, .none, .none, .int 448 0, .int 55 0, .str "/claim/cut.py" 449]), #[]⟩
noncomputable def u194v0 (P : Params) : Obj := ⟨.type "frame", none, .plain, #[some (.ref 193), some (.ref 3), some (.ref 190), none, some (.str "yaml.events" 216), none, some (.ref 0)]⟩
noncomputable def u195v0 (P : Params) : Obj := ⟨.type "tuple", none, (.seq #[] 0), #[]⟩
noncomputable def u196v0 (P : Params) : Obj := ⟨.type "dict", none, (.dict #[dE P "__module__" 450 (.str "yaml.events" 216), dE P "__firstlineno__" 454 (.int 55 453), dE P "__static_attributes__" 455 (.ref 195), dE P "__doc__" 456 .none] 2), #[]⟩
noncomputable def u197v0 (P : Params) : Obj := ⟨.type "type", none, (.cls ⟨"AliasEvent", [.ref 81], [.ref 197, .ref 81, .ref 59, .type "object"], 196, "AliasEvent", true, [], [], false, none, false⟩), #[some (.ref 188), none, some (.str "AliasEvent" 443), some (.str "AliasEvent" 451), some (.builtin "object.__new__"), some (.bool true)]⟩
noncomputable def u198v0 (P : Params) : Obj := ⟨.type "super", none, (.fields #[.ref 197, .ref 197, .ref 197]), #[]⟩
noncomputable def u199v0 (P : Params) : Obj := ⟨.type "builtin_function_or_method", none, (.fields #[.builtin "object.__init_subclass__", .ref 197]), #[]⟩
noncomputable def u200v0 (P : Params) : Obj := ⟨.type "tuple", none, (.seq #[.ref 81] 0), #[]⟩
noncomputable def u201v0 (P : Params) : Obj := ⟨.type "builtin_function_or_method", none, (.fields #[.builtin "type.__prepare__", .type "type"]), #[]⟩
noncomputable def u202v0 (P : Params) : Obj := ⟨.type "dict", none, (.dict #[dE P "__module__" 466 (.str "yaml.events" 216), dE P "__qualname__" 468 (.str "ScalarEvent" 467), dE P "__firstlineno__" 470 (.int 57 469), dE P "__init__" 484 (.ref 214), dE P "__static_attributes__" 492 (.ref 215)] 5), #[]⟩
noncomputable def u203v0 (P : Params) : Obj := ⟨.type "tuple", none, (.seq #[] 0), #[]⟩
noncomputable def u204v0 (P : Params) : Obj := ⟨.none, none, (.fields #[.int 59 0, .int 4 0, .ref 213]), #[]⟩
noncomputable def u205v0 (P : Params) : Obj := ⟨.type "code", none, (.fields #[.str "ScalarEvent" 461, .str "ScalarEvent" 462, .str "/claim/cut.py" 463, .int 57 0, .int 0 0, .int 0 0, .int 0 0, .int 0 0, .ref 203, .bool false, .int 181 0, .ref 204, .none, .none, .none, .none, .int 464 0, .int 57 0, .str "/claim/cut.py" 465]), #[]⟩
noncomputable def u206v0 (P : Params) : Obj := ⟨.type "frame", none, .plain, #[some (.ref 205), some (.ref 3), some (.ref 202), none, some (.str "yaml.events" 216), none, some (.ref 0)]⟩
noncomputable def u207v0 (P : Params) : Obj := ⟨.type "tuple", none, (.seq #[.none, .none, .none] 0), #[]⟩
noncomputable def u208v0 (P : Params) : Obj := ⟨.type "tuple", none, (.seq #[] 0), #[]⟩
noncomputable def u209v0 (P : Params) : Obj := ⟨.none, none, (.fields #[]), #[]⟩
noncomputable def u210v0 (P : Params) : Obj := ⟨.type "tuple", none, (.seq #[.str "self" 474, .str "anchor" 475, .str "tag" 476, .str "implicit" 477, .str "value" 478, .str "start_mark" 479, .str "end_mark" 480, .str "style" 481] 0), #[]⟩
noncomputable def u211v0 (P : Params) : Obj := ⟨.type "tuple", none, (.seq #[] 0), #[]⟩
noncomputable def u212v0 (P : Params) : Obj := ⟨.none, none, (fG [13, 0] "ScalarEvent.__init__" 0 [] .none .none .none .none none .none .none 0), #[]⟩
noncomputable def u213v0 (P : Params) : Obj := ⟨.type "code", none, (.fields #[.str "__init__" 471, .str "ScalarEvent.__init__" 472, .str "/claim/cut.py" 473, .int 59 0, .int 8 0, .int 0 0, .int 0 0, .int 3 0, .ref 208, .bool true, .int 181 0, .ref 209, .none, .ref 210, .ref 211, .ref 212, .int 482 0, .int 59 0, .str "/claim/cut.py" 483]), #[]⟩
noncomputable def u214v0 (P : Params) : Obj := ⟨.type "function", none, (fD [13, 0] "ScalarEvent.__init__" (.ref 207) .none .none (.str "yaml.events" 216) none (.ref 213) .none 0), #[]⟩
noncomputable def u215v0 (P : Params) : Obj := ⟨.type "tuple", none, (.seq #[.str "anchor" 485, .str "end_mark" 486, .str "implicit" 487, .str "start_mark" 488, .str "style" 489, .str "tag" 490, .str "value" 491] 0), #[]⟩
noncomputable def u216v0 (P : Params) : Obj := ⟨.type "dict", none, (.dict #[dE P "__module__" 466 (.str "yaml.events" 216), dE P "__firstlineno__" 470 (.int 57 469), dE P "__init__" 484 (.ref 214), dE P "__static_attributes__" 492 (.ref 215), dE P "__doc__" 493 .none] 2), #[]⟩
noncomputable def u217v0 (P : Params) : Obj := ⟨.type "type", none, (.cls ⟨"ScalarEvent", [.ref 81], [.ref 217, .ref 81, .ref 59, .type "object"], 216, "ScalarEvent", true, [], [], false, none, false⟩), #[some (.ref 200), none, some (.str "ScalarEvent" 459), some (.str "ScalarEvent" 467), some (.builtin "object.__new__"), some (.bool true)]⟩
noncomputable def u218v0 (P : Params) : Obj := ⟨.type "super", none, (.fields #[.ref 217, .ref 217, .ref 217]), #[]⟩
noncomputable def u219v0 (P : Params) : Obj := ⟨.type "builtin_function_or_method", none, (.fields #[.builtin "object.__init_subclass__", .ref 217]), #[]⟩
noncomputable def u220v0 (P : Params) : Obj := ⟨.type "tuple", none, (.seq #[.ref 101] 0), #[]⟩
noncomputable def u221v0 (P : Params) : Obj := ⟨.type "builtin_function_or_method", none, (.fields #[.builtin "type.__prepare__", .type "type"]), #[]⟩
noncomputable def u222v0 (P : Params) : Obj := ⟨.type "dict", none, (.dict #[dE P "__module__" 503 (.str "yaml.events" 216), dE P "__qualname__" 505 (.str "SequenceStartEvent" 504), dE P "__firstlineno__" 507 (.int 67 506), dE P "__static_attributes__" 508 (.ref 227)] 4), #[]⟩
noncomputable def u223v0 (P : Params) : Obj := ⟨.type "tuple", none, (.seq #[] 0), #[]⟩
noncomputable def u224v0 (P : Params) : Obj := ⟨.none, none, (.fields #[]), #[]⟩
noncomputable def u225v0 (P : Params) : Obj := ⟨.type "code", none, (.fields #[.str "SequenceStartEvent" 498, .str "SequenceStartEvent" 499, .str "/claim/cut.py" 500, .int 67 0, .int 0 0, .int 0 0, .int 0 0, .int 0 0, .ref 223, .bool false, .int 181 0, .ref 224, .none, .none, .none, .none, .int 501 0, .int 67 0, .str "/claim/cut.py" 502]), #[]⟩
noncomputable def u226v0 (P : Params) : Obj := ⟨.type "frame", none, .plain, #[some (.ref 225), some (.ref 3), some (.ref 222), none, some (.str "yaml.events" 216), none, some (.ref 0)]⟩
noncomputable def u227v0 (P : Params) : Obj := ⟨.type "tuple", none, (.seq #[] 0), #[]⟩
noncomputable def u228v0 (P : Params) : Obj := ⟨.type "dict", none, (.dict #[dE P "__module__" 503 (.str "yaml.events" 216), dE P "__firstlineno__" 507 (.int 67 506), dE P "__static_attributes__" 508 (.ref 227), dE P "__doc__" 509 .none] 2), #[]⟩
noncomputable def u229v0 (P : Params) : Obj := ⟨.type "type", none, (.cls ⟨"SequenceStartEvent", [.ref 101], [.ref 229, .ref 101, .ref 81, .ref 59, .type "object"], 228, "SequenceStartEvent", true, [], [], false, none, false⟩), #[some (.ref 220), none, some (.str "SequenceStartEvent" 496), some (.str "SequenceStartEvent" 504), some (.builtin "object.__new__"), some (.bool true)]⟩
noncomputable def u230v0 (P : Params) : Obj := ⟨.type "super", none, (.fields #[.ref 229, .ref 229, .ref 229]), #[]⟩
noncomputable def u231v0 (P : Params) : Obj := ⟨.type "builtin_function_or_method", none, (.fields #[.builtin "object.__init_subclass__", .ref 229]), #[]⟩
noncomputable def u232v0 (P : Params) : Obj := ⟨.type "tuple", none, (.seq #[.ref 113] 0), #[]⟩
noncomputable def u233v0 (P : Params) : Obj := ⟨.type "builtin_function_or_method", none, (.fields #[.builtin "type.__prepare__", .type "type"]), #[]⟩
noncomputable def u234v0 (P : Params) : Obj := ⟨.type "dict", none, (.dict #[dE P "__module__" 519 (.str "yaml.events" 216), dE P "__qualname__" 521 (.str "SequenceEndEvent" 520), dE P "__firstlineno__" 523 (.int 69 522), dE P "__static_attributes__" 524 (.ref 239)] 4), #[]⟩
noncomputable def u235v0 (P : Params) : Obj := ⟨.type "tuple", none, (.seq #[] 0), #[]⟩
noncomputable def u236v0 (P : Params) : Obj := ⟨.none, none, (.fields #[]), #[]⟩
noncomputable def u237v0 (P : Params) : Obj := ⟨.type "code", none, (.fields #[.str "SequenceEndEvent" 514, .str "SequenceEndEvent" 515, .str "/claim/cut.py" 516, .int 69 0, .int 0 0, .int 0 0, .int 0 0, .int 0 0, .ref 235, .bool false, .int 181 0, .ref 236, .none, .none, .none, .none, .int 517 0, .int 69 0, .str "/claim/cut.py" 518]), #[]⟩
noncomputable def u238v0 (P : Params) : Obj := ⟨.type "frame", none, .plain, #[some (.ref 237), some (.ref 3), some (.ref 234), none, some (.str "yaml.events" 216), none, some (.ref 0)]⟩
noncomputable def u239v0 (P : Params) : Obj := ⟨.type "tuple", none, (.seq #[] 0), #[]⟩
noncomputable def u240v0 (P : Params) : Obj := ⟨.type "dict", none, (.dict #[dE P "__module__" 519 (.str "yaml.events" 216), dE P "__firstlineno__" 523 (.int 69 522), dE P "__static_attributes__" 524 (.ref 239), dE P "__doc__" 525 .none] 2), #[]⟩
noncomputable def u241v0 (P : Params) : Obj := ⟨.type "type", none, (.cls ⟨"SequenceEndEvent", [.ref 113], [.ref 241, .ref 113, .ref 59, .type "object"], 240, "SequenceEndEvent", true, [], [], false, none, false⟩), #[some (.ref 232), none, some (.str "SequenceEndEvent" 512), some (.str "SequenceEndEvent" 520), some (.builtin "object.__new__"), some (.bool true)]⟩
noncomputable def u242v0 (P : Params) : Obj := ⟨.type "super", none, (.fields #[.ref 241, .ref 241, .ref 241]), #[]⟩
noncomputable def u243v0 (P : Params) : Obj := ⟨.type "builtin_function_or_method", none, (.fields #[.builtin "object.__init_subclass__", .ref 241]), #[]⟩
noncomputable def u244v0 (P : Params) : Obj := ⟨.type "tuple", none, (.seq #[.ref 101] 0), #[]⟩
noncomputable def u245v0 (P : Params) : Obj := ⟨.type "builtin_function_or_method", none, (.fields #[.builtin "type.__prepare__", .type "type"]), #[]⟩
noncomputable def u246v0 (P : Params) : Obj := ⟨.type "dict", none, (.dict #[dE P "__module__" 535 (.str "yaml.events" 216), dE P "__qualname__" 537 (.str "MappingStartEvent" 536), dE P "__firstlineno__" 539 (.int 71 538), dE P "__static_attributes__" 540 (.ref 251)] 4), #[]⟩
noncomputable def u247v0 (P : Params) : Obj := ⟨.type "tuple", none, (.seq #[] 0), #[]⟩
noncomputable def u248v0 (P : Params) : Obj := ⟨.none, none, (.fields #[]), #[]⟩
noncomputable def u249v0 (P : Params) : Obj := ⟨.type "code", none, (.fields #[.str "MappingStartEvent" 530, .str "MappingStartEvent" 531, .str "/claim/cut.py" 532, .int 71 0, .int 0 0, .int 0 0, .int 0 0, .int 0 0, .ref 247, .bool false, .int 181 0, .ref 248, .none, .none, .none, .none, .int 533 0, .int 71 0, .str "/claim/cut.py" 534]), #[]⟩
noncomputable def u250v0 (P : Params) : Obj := ⟨.type "frame", none, .plain, #[some (.ref 249), some (.ref 3), some (.ref 246), none, some (.str "yaml.events" 216), none, some (.ref 0)]⟩
noncomputable def u251v0 (P : Params) : Obj := ⟨.type "tuple", none, (.seq #[] 0), #[]⟩
noncomputable def u252v0 (P : Params) : Obj := ⟨.type "dict", none, (.dict #[dE P "__module__" 535 (.str "yaml.events" 216), dE P "__firstlineno__" 539 (.int 71 538), dE P "__static_attributes__" 540 (.ref 251), dE P "__doc__" 541 .none] 2), #[]⟩
noncomputable def u253v0 (P : Params) : Obj := ⟨.type "type", none, (.cls ⟨"MappingStartEvent", [.ref 101], [.ref 253, .ref 101, .ref 81, .ref 59, .type "object"], 252, "MappingStartEvent", true, [], [], false, none, false⟩), #[some (.ref 244), none, some (.str "MappingStartEvent" 528), some (.str "MappingStartEvent" 536), some (.builtin "object.__new__"), some (.bool true)]⟩
noncomputable def u254v0 (P : Params) : Obj := ⟨.type "super", none, (.fields #[.ref 253, .ref 253, .ref 253]), #[]⟩
noncomputable def u255v0 (P : Params) : Obj := ⟨.type "builtin_function_or_method", none, (.fields #[.builtin "object.__init_subclass__", .ref 253]), #[]⟩
noncomputable def u256v0 (P : Params) : Obj := ⟨.type "tuple", none, (.seq #[.ref 113] 0), #[]⟩
noncomputable def u257v0 (P : Params) : Obj := ⟨.type "builtin_function_or_method", none, (.fields #[.builtin "type.__prepare__", .type "type"]), #[]⟩
noncomputable def u258v0 (P : Params) : Obj := ⟨.type "dict", none, (.dict #[dE P "__module__" 551 (.str "yaml.events" 216), dE P "__qualname__" 553 (.str "MappingEndEvent" 552), dE P "__firstlineno__" 555 (.int 73 554), dE P "__static_attributes__" 556 (.ref 263)] 4), #[]⟩
noncomputable def u259v0 (P : Params) : Obj := ⟨.type "tuple", none, (.seq #[] 0), #[]⟩
noncomputable def u260v0 (P : Params) : Obj := ⟨.none, none, (.fields #[]), #[]⟩
noncomputable def u261v0 (P : Params) : Obj := ⟨.type "code", none, (.fields #[.str "MappingEndEvent" 546, .str "MappingEndEvent" 547, .str "/claim/cut.py" 548, .int 73 0, .int 0 0, .int 0 0, .int 0 0, .int 0 0, .ref 259, .bool false, .int 181 0, .ref 260, .none, .none, .none, .none, .int 549 0, .int 73 0, .str "/claim/cut.py" 550]), #[]⟩
noncomputable def u262v0 (P : Params) : Obj := ⟨.type "frame", none, .plain, #[some (.ref 261), some (.ref 3), some (.ref 258), none, some (.str "yaml.events" 216), none, some (.ref 0)]⟩
noncomputable def u263v0 (P : Params) : Obj := ⟨.type "tuple", none, (.seq #[] 0), #[]⟩
noncomputable def u264v0 (P : Params) : Obj := ⟨.type "dict", none, (.dict #[dE P "__module__" 551 (.str "yaml.events" 216), dE P "__firstlineno__" 555 (.int 73 554), dE P "__static_attributes__" 556 (.ref 263), dE P "__doc__" 557 .none] 2), #[]⟩
noncomputable def u265v0 (P : Params) : Obj := ⟨.type "type", none, (.cls ⟨"MappingEndEvent", [.ref 113], [.ref 265, .ref 113, .ref 59, .type "object"], 264, "MappingEndEvent", true, [], [], false, none, false⟩), #[some (.ref 256), none, some (.str "MappingEndEvent" 544), some (.str "MappingEndEvent" 552), some (.builtin "object.__new__"), some (.bool true)]⟩
noncomputable def u266v0 (P : Params) : Obj := ⟨.type "super", none, (.fields #[.ref 265, .ref 265, .ref 265]), #[]⟩
noncomputable def u267v0 (P : Params) : Obj := ⟨.type "builtin_function_or_method", none, (.fields #[.builtin "object.__init_subclass__", .ref 265]), #[]⟩
noncomputable def u268v0 (P : Params) : Obj := ⟨.type "tuple", none, (.seq #[.ref 31] 0), #[]⟩
noncomputable def u269v0 (P : Params) : Obj := ⟨.type "builtin_function_or_method", none, (.fields #[.builtin "type.__prepare__", .type "type"]), #[]⟩
noncomputable def u270v0 (P : Params) : Obj := ⟨.type "dict", none, (.dict #[dE P "__module__" 569 (.str "yaml.emitter" 560), dE P "__qualname__" 571 (.str "EmitterError" 570), dE P "__firstlineno__" 573 (.int 76 572), dE P "__static_attributes__" 574 (.ref 275)] 4), #[]⟩
noncomputable def u271v0 (P : Params) : Obj := ⟨.type "tuple", none, (.seq #[] 0), #[]⟩
noncomputable def u272v0 (P : Params) : Obj := ⟨.none, none, (.fields #[]), #[]⟩
noncomputable def u273v0 (P : Params) : Obj := ⟨.type "code", none, (.fields #[.str "EmitterError" 564, .str "EmitterError" 565, .str "/claim/cut.py" 566, .int 76 0, .int 0 0, .int 0 0, .int 0 0, .int 0 0, .ref 271, .bool false, .int 181 0, .ref 272, .none, .none, .none, .none, .int 567 0, .int 76 0, .str "/claim/cut.py" 568]), #[]⟩
noncomputable def u274v0 (P : Params) : Obj := ⟨.type "frame", none, .plain, #[some (.ref 273), some (.ref 3), some (.ref 270), none, some (.str "yaml.emitter" 560), none, some (.ref 0)]⟩
noncomputable def u275v0 (P : Params) : Obj := ⟨.type "tuple", none, (.seq #[] 0), #[]⟩
noncomputable def u276v0 (P : Params) : Obj := ⟨.type "dict", none, (.dict #[dE P "__module__" 569 (.str "yaml.emitter" 560), dE P "__firstlineno__" 573 (.int 76 572), dE P "__static_attributes__" 574 (.ref 275), dE P "__doc__" 575 .none] 2), #[]⟩
noncomputable def u277v0 (P : Params) : Obj := ⟨.type "type", none, (.cls ⟨"EmitterError", [.ref 31], [.ref 277, .ref 31, .type "Exception", .type "BaseException", .type "object"], 276, "EmitterError", true, [], [], false, none, false⟩), #[some (.ref 268), none, some (.str "EmitterError" 562), some (.str "EmitterError" 570), some (.builtin "Exception.__new__"), some (.bool true)]⟩
noncomputable def u278v0 (P : Params) : Obj := ⟨.type "super", none, (.fields #[.ref 277, .ref 277, .ref 277]), #[]⟩
noncomputable def u279v0 (P : Params) : Obj := ⟨.type "builtin_function_or_method", none, (.fields #[.builtin "object.__init_subclass__", .ref 277]), #[]⟩
noncomputable def u280v0 (P : Params) : Obj := ⟨.type "tuple", none, (.seq #[] 0), #[]⟩
noncomputable def u281v0 (P : Params) : Obj := ⟨.type "builtin_function_or_method", none, (.fields #[.builtin "type.__prepare__", .type "type"]), #[]⟩
noncomputable def u282v0 (P : Params) : Obj := ⟨.type "dict", none, (.dict #[dE P "__module__" 585 (.str "yaml.emitter" 560), dE P "__qualname__" 587 (.str "ScalarAnalysis" 586), dE P "__firstlineno__" 589 (.int 78 588), dE P "__init__" 604 (.ref 293), dE P "__static_attributes__" 613 (.ref 294)] 5), #[]⟩
noncomputable def u283v0 (P : Params) : Obj := ⟨.type "tuple", none, (.seq #[] 0), #[]⟩
noncomputable def u284v0 (P : Params) : Obj := ⟨.none, none, (.fields #[.int 80 0, .int 4 0, .ref 292]), #[]⟩
noncomputable def u285v0 (P : Params) : Obj := ⟨.type "code", none, (.fields #[.str "ScalarAnalysis" 580, .str "ScalarAnalysis" 581, .str "/claim/cut.py" 582, .int 78 0, .int 0 0, .int 0 0, .int 0 0, .int 0 0, .ref 283, .bool false, .int 181 0, .ref 284, .none, .none, .none, .none, .int 583 0, .int 78 0, .str "/claim/cut.py" 584]), #[]⟩
noncomputable def u286v0 (P : Params) : Obj := ⟨.type "frame", none, .plain, #[some (.ref 285), some (.ref 3), some (.ref 282), none, some (.str "yaml.emitter" 560), none, some (.ref 0)]⟩
noncomputable def u287v0 (P : Params) : Obj := ⟨.type "tuple", none, (.seq #[] 0), #[]⟩
noncomputable def u288v0 (P : Params) : Obj := ⟨.none, none, (.fields #[]), #[]⟩
noncomputable def u289v0 (P : Params) : Obj := ⟨.type "tuple", none, (.seq #[.str "self" 593, .str "scalar" 594, .str "empty" 595, .str "multiline" 596, .str "allow_flow_plain" 597, .str "allow_block_plain" 598, .str "allow_single_quoted" 599, .str "allow_double_quoted" 600, .str "allow_block" 601] 0), #[]⟩
noncomputable def u290v0 (P : Params) : Obj := ⟨.type "tuple", none, (.seq #[] 0), #[]⟩
noncomputable def u291v0 (P : Params) : Obj := ⟨.none, none, (fG [20, 0] "ScalarAnalysis.__init__" 0 [] .none .none .none .none none .none .none 0), #[]⟩
noncomputable def u292v0 (P : Params) : Obj := ⟨.type "code", none, (.fields #[.str "__init__" 590, .str "ScalarAnalysis.__init__" 591, .str "/claim/cut.py" 592, .int 80 0, .int 9 0, .int 0 0, .int 0 0, .int 3 0, .ref 287, .bool true, .int 181 0, .ref 288, .none, .ref 289, .ref 290, .ref 291, .int 602 0, .int 80 0, .str "/claim/cut.py" 603]), #[]⟩
noncomputable def u293v0 (P : Params) : Obj := ⟨.type "function", none, (fD [20, 0] "ScalarAnalysis.__init__" .none .none .none (.str "yaml.emitter" 560) none (.ref 292) .none 0), #[]⟩
noncomputable def u294v0 (P : Params) : Obj := ⟨.type "tuple", none, (.seq #[.str "allow_block" 605, .str "allow_block_plain" 606, .str "allow_double_quoted" 607, .str "allow_flow_plain" 608, .str "allow_single_quoted" 609, .str "empty" 610, .str "multiline" 611, .str "scalar" 612] 0), #[]⟩
noncomputable def u295v0 (P : Params) : Obj := ⟨.type "dict", none, (.dict #[dE P "__module__" 585 (.str "yaml.emitter" 560), dE P "__firstlineno__" 589 (.int 78 588), dE P "__init__" 604 (.ref 293), dE P "__static_attributes__" 613 (.ref 294), dE P "__dict__" 615 (.ref 297), dE P "__weakref__" 617 (.ref 298), dE P "__doc__" 618 .none] 4), #[]⟩
noncomputable def u296v0 (P : Params) : Obj := ⟨.type "type", none, (.cls ⟨"ScalarAnalysis", [.type "object"], [.ref 296, .type "object"], 295, "ScalarAnalysis", true, [], [], false, none, false⟩), #[none, none, some (.str "ScalarAnalysis" 578), some (.str "ScalarAnalysis" 586), some (.builtin "object.__new__"), some (.bool true)]⟩
noncomputable def u297v0 (P : Params) : Obj := ⟨.type "getset_descriptor", none, (.fields #[.str "__dict__" 614, .ref 296, .builtin "function.__dict__", .builtin "function.__dict__#set"]), #[]⟩
noncomputable def u298v0 (P : Params) : Obj := ⟨.type "getset_descriptor", none, (.fields #[.str "__weakref__" 616, .ref 296, .builtin "ExceptionGroup.__weakref__", .none]), #[]⟩
noncomputable def u299v0 (P : Params) : Obj := ⟨.type "super", none, (.fields #[.ref 296, .ref 296, .ref 296]), #[]⟩
noncomputable def u300v0 (P : Params) : Obj := ⟨.type "builtin_function_or_method", none, (.fields #[.builtin "object.__init_subclass__", .ref 296]), #[]⟩
noncomputable def s3o (P : Params) : List Obj := [boot_o_0 P, boot_o_1 P, u2v0 P, u3v2 P, boot_o_4 P, boot_o_5 P, boot_o_6 P, boot_o_7 P, boot_o_8 P, boot_o_9 P, boot_o_10 P, u11v0 P, u12v3 P, u13v0 P, u14v0 P, u15v0 P, u16v0 P, u17v0 P, u18v0 P, u19v0 P, u20v0 P, u21v0 P, u22v0 P, u23v0 P, u24v0 P, u25v0 P, u26v0 P, u27v0 P, u28v0 P, u29v0 P, u30v0 P, u31v1 P, u32v0 P, u33v0 P, u34v0 P, u35v0 P, u36v0 P, u37v0 P, u38v0 P, u39v0 P, u40v0 P, u41v0 P, u42v0 P, u43v0 P, u44v0 P, u45v0 P, u46v0 P, u47v0 P, u48v0 P, u49v0 P, u50v0 P, u51v0 P, u52v0 P, u53v0 P, u54v0 P, u55v0 P, u56v0 P, u57v0 P, u58v0 P, u59v1 P, u60v0 P, u61v0 P, u62v0 P, u63v0 P, u64v0 P, u65v0 P, u66v0 P, u67v0 P, u68v0 P, u69v0 P, u70v0 P, u71v0 P, u72v0 P, u73v0 P, u74v0 P, u75v0 P, u76v0 P, u77v0 P, u78v0 P, u79v0 P, u80v0 P, u81v1 P, u82v0 P, u83v0 P, u84v0 P, u85v0 P, u86v0 P, u87v0 P, u88v0 P, u89v0 P, u90v0 P, u91v0 P, u92v0 P, u93v0 P, u94v0 P, u95v0 P, u96v0 P, u97v0 P, u98v0 P, u99v0 P, u100v0 P, u101v1 P, u102v0 P, u103v0 P, u104v0 P, u105v0 P, u106v0 P, u107v0 P, u108v0 P, u109v0 P, u110v0 P, u111v0 P, u112v0 P, u113v1 P, u114v0 P, u115v0 P, u116v0 P, u117v0 P, u118v0 P, u119v0 P, u120v0 P, u121v0 P, u122v0 P, u123v0 P, u124v0 P, u125v0 P, u126v0 P, u127v0 P, u128v0 P, u129v0 P, u130v0 P, u131v0 P, u132v0 P, u133v0 P, u134v0 P, u135v0 P, u136v0 P, u137v0 P, u138v0 P, u139v0 P, u140v0 P, u141v0 P, u142v0 P, u143v0 P, u144v0 P, u145v0 P, u146v0 P, u147v0 P, u148v0 P, u149v0 P, u150v0 P, u151v0 P, u152v0 P, u153v0 P, u154v0 P, u155v0 P, u156v0 P, u157v0 P, u158v0 P, u159v0 P, u160v0 P, u161v0 P, u162v0 P, u163v0 P, u164v0 P, u165v0 P, u166v0 P, u167v0 P, u168v0 P, u169v0 P, u170v0 P, u171v0 P, u172v0 P, u173v0 P, u174v0 P, u175v0 P, u176v0 P, u177v0 P, u178v0 P, u179v0 P, u180v0 P, u181v0 P, u182v0 P, u183v0 P, u184v0 P, u185v0 P, u186v0 P, u187v0 P, u188v0 P, u189v0 P, u190v0 P, u191v0 P, u192v0 P, u193v0 P, u194v0 P, u195v0 P, u196v0 P, u197v0 P, u198v0 P, u199v0 P, u200v0 P, u201v0 P, u202v0 P, u203v0 P, u204v0 P, u205v0 P, u206v0 P, u207v0 P, u208v0 P, u209v0 P, u210v0 P, u211v0 P, u212v0 P, u213v0 P, u214v0 P, u215v0 P, u216v0 P, u217v0 P, u218v0 P, u219v0 P, u220v0 P, u221v0 P, u222v0 P, u223v0 P, u224v0 P, u225v0 P, u226v0 P, u227v0 P, u228v0 P, u229v0 P, u230v0 P, u231v0 P, u232v0 P, u233v0 P, u234v0 P, u235v0 P, u236v0 P, u237v0 P, u238v0 P, u239v0 P, u240v0 P, u241v0 P, u242v0 P, u243v0 P, u244v0 P, u245v0 P, u246v0 P, u247v0 P, u248v0 P, u249v0 P, u250v0 P, u251v0 P, u252v0 P, u253v0 P, u254v0 P, u255v0 P, u256v0 P, u257v0 P, u258v0 P, u259v0 P, u260v0 P, u261v0 P, u262v0 P, u263v0 P, u264v0 P, u265v0 P, u266v0 P, u267v0 P, u268v0 P, u269v0 P, u270v0 P, u271v0 P, u272v0 P, u273v0 P, u274v0 P, u275v0 P, u276v0 P, u277v0 P, u278v0 P, u279v0 P, u280v0 P, u281v0 P, u282v0 P, u283v0 P, u284v0 P, u285v0 P, u286v0 P, u287v0 P, u288v0 P, u289v0 P, u290v0 P, u291v0 P, u292v0 P, u293v0 P, u294v0 P, u295v0 P, u296v0 P, u297v0 P, u298v0 P, u299v0 P, u300v0 P]
noncomputable def u3v3 (P : Params) : Obj := ⟨.type "dict", none, (.dict #[dE P "__name__" 165 (.str "yaml.emitter" 560), dE P "__doc__" 166 .none, dE P "__package__" 167 .none, dE P "__loader__" 168 (.builtin "__main__.__loader__#opaque"), dE P "__spec__" 169 .none, dE P "__annotations__" 170 (.ref 6), dE P "__builtins__" 171 (.ref 4), dE P "__file__" 173 (.str "/claim/cut.py" 172), dE P "__cached__" 174 .none, dE P "_wall" 193 (.ref 21), dE P "YAMLError" 215 (.ref 31), dE P "Event" 255 (.ref 59), dE P "NodeEvent" 284 (.ref 81), dE P "CollectionStartEvent" 319 (.ref 101), dE P "CollectionEndEvent" 335 (.ref 113), dE P "StreamStartEvent" 364 (.ref 133), dE P "StreamEndEvent" 380 (.ref 145), dE P "DocumentStartEvent" 413 (.ref 165), dE P "DocumentEndEvent" 442 (.ref 185), dE P "AliasEvent" 458 (.ref 197), dE P "ScalarEvent" 495 (.ref 217), dE P "SequenceStartEvent" 511 (.ref 229), dE P "SequenceEndEvent" 527 (.ref 241), dE P "MappingStartEvent" 543 (.ref 253), dE P "MappingEndEvent" 559 (.ref 265), dE P "EmitterError" 577 (.ref 277), dE P "ScalarAnalysis" 620 (.ref 296), dE P "Emitter" 1268 (.ref 736)] 28), #[]⟩
noncomputable def u12v4 (P : Params) : Obj := ⟨.none, none, (.fields #[.int 1 0, .int 0 0, .ref 20, .int 5 0, .int 0 0, .ref 27, .int 8 0, .int 0 0, .ref 40, .int 16 0, .int 0 0, .ref 69, .int 22 0, .int 0 0, .ref 89, .int 31 0, .int 0 0, .ref 109, .int 33 0, .int 0 0, .ref 121, .int 39 0, .int 0 0, .ref 141, .int 41 0, .int 0 0, .ref 153, .int 49 0, .int 0 0, .ref 173, .int 55 0, .int 0 0, .ref 193, .int 57 0, .int 0 0, .ref 205, .int 67 0, .int 0 0, .ref 225, .int 69 0, .int 0 0, .ref 237, .int 71 0, .int 0 0, .ref 249, .int 73 0, .int 0 0, .ref 261, .int 76 0, .int 0 0, .ref 273, .int 78 0, .int 0 0, .ref 285, .int 89 0, .int 0 0, .ref 306]), #[]⟩
noncomputable def u301v0 (P : Params) : Obj := ⟨.type "tuple", none, (.seq #[] 0), #[]⟩
noncomputable def u302v0 (P : Params) : Obj := ⟨.type "builtin_function_or_method", none, (.fields #[.builtin "type.__prepare__", .type "type"]), #[]⟩
noncomputable def u303v0 (P : Params) : Obj := ⟨.type "dict", none, (.dict #[dE P "__module__" 628 (.str "yaml.emitter" 560), dE P "__qualname__" 630 (.str "Emitter" 629), dE P "__firstlineno__" 632 (.int 89 631), dE P "DEFAULT_TAG_PREFIXES" 639 (.ref 308), dE P "__init__" 652 (.ref 316), dE P "dispose" 659 (.ref 323), dE P "emit" 667 (.ref 330), dE P "need_more_events" 674 (.ref 337), dE P "need_events" 682 (.ref 344), dE P "increase_indent" 691 (.ref 352), dE P "expect_stream_start" 698 (.ref 359), dE P "expect_nothing" 705 (.ref 366), dE P "expect_first_document_start" 712 (.ref 373), dE P "expect_document_start" 727 (.ref 381), dE P "expect_document_end" 734 (.ref 388), dE P "expect_document_root" 741 (.ref 395), dE P "expect_node" 752 (.ref 403), dE P "expect_alias" 759 (.ref 410), dE P "expect_scalar" 766 (.ref 417), dE P "expect_flow_sequence" 773 (.ref 424), dE P "expect_first_flow_sequence_item" 780 (.ref 431), dE P "expect_flow_sequence_item" 787 (.ref 438), dE P "expect_flow_mapping" 794 (.ref 445), dE P "expect_first_flow_mapping_key" 801 (.ref 452), dE P "expect_flow_mapping_key" 808 (.ref 459), dE P "expect_flow_mapping_simple_value" 815 (.ref 466), dE P "expect_flow_mapping_value" 822 (.ref 473), dE P "expect_block_sequence" 830 (.ref 480), dE P "expect_first_block_sequence_item" 837 (.ref 487), dE P "expect_block_sequence_item" 845 (.ref 495), dE P "expect_block_mapping" 852 (.ref 502), dE P "expect_first_block_mapping_key" 859 (.ref 509), dE P "expect_block_mapping_key" 867 (.ref 517), dE P "expect_block_mapping_simple_value" 874 (.ref 524), dE P "expect_block_mapping_value" 881 (.ref 531), dE P "check_empty_sequence" 888 (.ref 538), dE P "check_empty_mapping" 895 (.ref 545), dE P "check_empty_document" 903 (.ref 552), dE P "check_simple_key" 911 (.ref 559), dE P "process_anchor" 919 (.ref 566), dE P "process_tag" 927 (.ref 573), dE P "choose_scalar_style" 934 (.ref 580), dE P "process_scalar" 942 (.ref 587), dE P "prepare_version" 952 (.ref 594), dE P "prepare_tag_handle" 961 (.ref 601), dE P "prepare_tag_prefix" 974 (.ref 608), dE P "prepare_tag" 992 (.ref 615), dE P "prepare_anchor" 1001 (.ref 622), dE P "analyze_scalar" 1031 (.ref 629), dE P "flush_stream" 1038 (.ref 636), dE P "write_stream_start" 1045 (.ref 643), dE P "write_stream_end" 1052 (.ref 650), dE P "write_indicator" 1064 (.ref 658), dE P "write_indent" 1073 (.ref 665), dE P "write_line_break" 1081 (.ref 673), dE P "write_version_directive" 1090 (.ref 680), dE P "write_tag_directive" 1100 (.ref 687), dE P "write_single_quoted" 1116 (.ref 695), dE P "ESCAPE_REPLACEMENTS" 1162 (.ref 696), dE P "write_double_quoted" 1175 (.ref 704), dE P "determine_block_hints" 1184 (.ref 711), dE P "write_folded" 1201 (.ref 718), dE P "write_literal" 1216 (.ref 725), dE P "write_plain" 1232 (.ref 733), dE P "__static_attributes__" 1261 (.ref 734)] 65), #[]⟩
noncomputable def u304v0 (P : Params) : Obj := ⟨.type "tuple", none, (.seq #[] 0), #[]⟩
noncomputable def u305v0 (P : Params) : Obj := ⟨.none, none, (.fields #[.int 92 0, .int 4 0, .ref 315, .int 128 0, .int 4 0, .ref 322, .int 131 0, .int 4 0, .ref 329, .int 134 0, .int 4 0, .ref 336, .int 137 0, .int 4 0, .ref 343, .int 140 0, .int 4 0, .ref 351, .int 150 0, .int 4 0, .ref 358, .int 157 0, .int 4 0, .ref 365, .int 160 0, .int 4 0, .ref 372, .int 163 0, .int 4 0, .ref 380, .int 196 0, .int 4 0, .ref 387, .int 207 0, .int 4 0, .ref 394, .int 211 0, .int 4 0, .ref 402, .int 236 0, .int 4 0, .ref 409, .int 242 0, .int 4 0, .ref 416, .int 248 0, .int 4 0, .ref 423, .int 254 0, .int 4 0, .ref 430, .int 266 0, .int 4 0, .ref 437, .int 282 0, .int 4 0, .ref 444, .int 288 0, .int 4 0, .ref 451, .int 305 0, .int 4 0, .ref 458, .int 326 0, .int 4 0, .ref 465, .int 331 0, .int 4 0, .ref 472, .int 338 0, .int 4 0, .ref 479, .int 343 0, .int 4 0, .ref 486, .int 346 0, .int 4 0, .ref 494, .int 356 0, .int 4 0, .ref 501, .int 360 0, .int 4 0, .ref 508, .int 363 0, .int 4 0, .ref 516, .int 377 0, .int 4 0, .ref 523, .int 382 0, .int 4 0, .ref 530, .int 388 0, .int 4 0, .ref 537, .int 391 0, .int 4 0, .ref 544, .int 394 0, .int 4 0, .ref 551, .int 400 0, .int 4 0, .ref 558, .int 416 0, .int 4 0, .ref 565, .int 426 0, .int 4 0, .ref 572, .int 448 0, .int 4 0, .ref 579, .int 464 0, .int 4 0, .ref 586, .int 483 0, .int 4 0, .ref 593, .int 489 0, .int 4 0, .ref 600, .int 499 0, .int 4 0, .ref 607, .int 521 0, .int 4 0, .ref 614, .int 554 0, .int 4 0, .ref 621, .int 562 0, .int 4 0, .ref 628, .int 660 0, .int 4 0, .ref 635, .int 663 0, .int 4 0, .ref 642, .int 666 0, .int 4 0, .ref 649, .int 669 0, .int 4 0, .ref 657, .int 680 0, .int 4 0, .ref 664, .int 690 0, .int 4 0, .ref 672, .int 699 0, .int 4 0, .ref 679, .int 704 0, .int 4 0, .ref 686, .int 709 0, .int 4 0, .ref 694, .int 756 0, .int 4 0, .ref 703, .int 797 0, .int 4 0, .ref 710, .int 808 0, .int 4 0, .ref 717, .int 856 0, .int 4 0, .ref 724, .int 888 0, .int 4 0, .ref 732]), #[]⟩
noncomputable def u306v0 (P : Params) : Obj := ⟨.type "code", none, (.fields #[.str "Emitter" 623, .str "Emitter" 624, .str "/claim/cut.py" 625, .int 89 0, .int 0 0, .int 0 0, .int 0 0, .int 0 0, .ref 304, .bool false, .int 181 0, .ref 305, .none, .none, .none, .none, .int 626 0, .int 89 0, .str "/claim/cut.py" 627]), #[]⟩
noncomputable def u307v0 (P : Params) : Obj := ⟨.type "frame", none, .plain, #[some (.ref 306), some (.ref 3), some (.ref 303), none, some (.str "yaml.emitter" 560), none, some (.ref 0)]⟩
noncomputable def u308v0 (P : Params) : Obj := ⟨.type "dict", none, (.dict #[dE P "!" 633 (.str "!" 634), dE P "tag:yaml.org,2002:" 635 (.str "!!" 636)] 2), #[]⟩
noncomputable def u309v0 (P : Params) : Obj := ⟨.type "tuple", none, (.seq #[.none, .none, .none, .none, .none] 0), #[]⟩
noncomputable def u310v0 (P : Params) : Obj := ⟨.type "tuple", none, (.seq #[] 0), #[]⟩
noncomputable def u311v0 (P : Params) : Obj := ⟨.none, none, (.fields #[]), #[]⟩
noncomputable def u312v0 (P : Params) : Obj := ⟨.type "tuple", none, (.seq #[.str "self" 643, .str "stream" 644, .str "canonical" 645, .str "indent" 646, .str "width" 647, .str "allow_unicode" 648, .str "line_break" 649] 0), #[]⟩
noncomputable def u313v0 (P : Params) : Obj := ⟨.type "tuple", none, (.seq #[] 0), #[]⟩
noncomputable def u314v0 (P : Params) : Obj := ⟨.none, none, (fG [21, 1] "Emitter.__init__" 0 [] .none .none .none .none none .none .none 0), #[]⟩
noncomputable def u315v0 (P : Params) : Obj := ⟨.type "code", none, (.fields #[.str "__init__" 640, .str "Emitter.__init__" 641, .str "/claim/cut.py" 642, .int 92 0, .int 7 0, .int 0 0, .int 0 0, .int 3 0, .ref 310, .bool true, .int 181 0, .ref 311, .none, .ref 312, .ref 313, .ref 314, .int 650 0, .int 92 0, .str "/claim/cut.py" 651]), #[]⟩
noncomputable def u316v0 (P : Params) : Obj := ⟨.type "function", none, (fD [21, 1] "Emitter.__init__" (.ref 309) .none .none (.str "yaml.emitter" 560) none (.ref 315) .none 0), #[]⟩
noncomputable def u317v0 (P : Params) : Obj := ⟨.type "tuple", none, (.seq #[] 0), #[]⟩
noncomputable def u318v0 (P : Params) : Obj := ⟨.none, none, (.fields #[]), #[]⟩
noncomputable def u319v0 (P : Params) : Obj := ⟨.type "tuple", none, (.seq #[.str "self" 656] 0), #[]⟩
noncomputable def u320v0 (P : Params) : Obj := ⟨.type "tuple", none, (.seq #[] 0), #[]⟩
noncomputable def u321v0 (P : Params) : Obj := ⟨.none, none, (fG [21, 2] "Emitter.dispose" 0 [] .none .none .none .none none .none .none 0), #[]⟩
noncomputable def u322v0 (P : Params) : Obj := ⟨.type "code", none, (.fields #[.str "dispose" 653, .str "Emitter.dispose" 654, .str "/claim/cut.py" 655, .int 128 0, .int 1 0, .int 0 0, .int 0 0, .int 3 0, .ref 317, .bool true, .int 181 0, .ref 318, .none, .ref 319, .ref 320, .ref 321, .int 657 0, .int 128 0, .str "/claim/cut.py" 658]), #[]⟩
noncomputable def u323v0 (P : Params) : Obj := ⟨.type "function", none, (fD [21, 2] "Emitter.dispose" .none .none .none (.str "yaml.emitter" 560) none (.ref 322) .none 0), #[]⟩
noncomputable def u324v0 (P : Params) : Obj := ⟨.type "tuple", none, (.seq #[] 0), #[]⟩
noncomputable def u325v0 (P : Params) : Obj := ⟨.none, none, (.fields #[]), #[]⟩
noncomputable def u326v0 (P : Params) : Obj := ⟨.type "tuple", none, (.seq #[.str "self" 663, .str "event" 664] 0), #[]⟩
noncomputable def u327v0 (P : Params) : Obj := ⟨.type "tuple", none, (.seq #[] 0), #[]⟩
noncomputable def u328v0 (P : Params) : Obj := ⟨.none, none, (fG [21, 3] "Emitter.emit" 0 [] .none .none .none .none none .none .none 0), #[]⟩
noncomputable def u329v0 (P : Params) : Obj := ⟨.type "code", none, (.fields #[.str "emit" 660, .str "Emitter.emit" 661, .str "/claim/cut.py" 662, .int 131 0, .int 2 0, .int 0 0, .int 0 0, .int 3 0, .ref 324, .bool true, .int 181 0, .ref 325, .none, .ref 326, .ref 327, .ref 328, .int 665 0, .int 131 0, .str "/claim/cut.py" 666]), #[]⟩
noncomputable def u330v0 (P : Params) : Obj := ⟨.type "function", none, (fD [21, 3] "Emitter.emit" .none .none .none (.str "yaml.emitter" 560) none (.ref 329) .none 0), #[]⟩
noncomputable def u331v0 (P : Params) : Obj := ⟨.type "tuple", none, (.seq #[] 0), #[]⟩
noncomputable def u332v0 (P : Params) : Obj := ⟨.none, none, (.fields #[]), #[]⟩
noncomputable def u333v0 (P : Params) : Obj := ⟨.type "tuple", none, (.seq #[.str "self" 671] 0), #[]⟩
noncomputable def u334v0 (P : Params) : Obj := ⟨.type "tuple", none, (.seq #[] 0), #[]⟩
noncomputable def u335v0 (P : Params) : Obj := ⟨.none, none, (fG [21, 4] "Emitter.need_more_events" 0 [] .none .none .none .none none .none .none 0), #[]⟩
noncomputable def u336v0 (P : Params) : Obj := ⟨.type "code", none, (.fields #[.str "need_more_events" 668, .str "Emitter.need_more_events" 669, .str "/claim/cut.py" 670, .int 134 0, .int 1 0, .int 0 0, .int 0 0, .int 3 0, .ref 331, .bool true, .int 181 0, .ref 332, .none, .ref 333, .ref 334, .ref 335, .int 672 0, .int 134 0, .str "/claim/cut.py" 673]), #[]⟩
noncomputable def u337v0 (P : Params) : Obj := ⟨.type "function", none, (fD [21, 4] "Emitter.need_more_events" .none .none .none (.str "yaml.emitter" 560) none (.ref 336) .none 0), #[]⟩
noncomputable def u338v0 (P : Params) : Obj := ⟨.type "tuple", none, (.seq #[] 0), #[]⟩
noncomputable def u339v0 (P : Params) : Obj := ⟨.none, none, (.fields #[]), #[]⟩
noncomputable def u340v0 (P : Params) : Obj := ⟨.type "tuple", none, (.seq #[.str "self" 678, .str "count" 679] 0), #[]⟩
noncomputable def u341v0 (P : Params) : Obj := ⟨.type "tuple", none, (.seq #[] 0), #[]⟩
noncomputable def u342v0 (P : Params) : Obj := ⟨.none, none, (fG [21, 5] "Emitter.need_events" 0 [] .none .none .none .none none .none .none 0), #[]⟩
noncomputable def u343v0 (P : Params) : Obj := ⟨.type "code", none, (.fields #[.str "need_events" 675, .str "Emitter.need_events" 676, .str "/claim/cut.py" 677, .int 137 0, .int 2 0, .int 0 0, .int 0 0, .int 3 0, .ref 338, .bool true, .int 181 0, .ref 339, .none, .ref 340, .ref 341, .ref 342, .int 680 0, .int 137 0, .str "/claim/cut.py" 681]), #[]⟩
noncomputable def u344v0 (P : Params) : Obj := ⟨.type "function", none, (fD [21, 5] "Emitter.need_events" .none .none .none (.str "yaml.emitter" 560) none (.ref 343) .none 0), #[]⟩
noncomputable def u345v0 (P : Params) : Obj := ⟨.type "tuple", none, (.seq #[.bool false, .bool false] 0), #[]⟩
noncomputable def u346v0 (P : Params) : Obj := ⟨.type "tuple", none, (.seq #[] 0), #[]⟩
noncomputable def u347v0 (P : Params) : Obj := ⟨.none, none, (.fields #[]), #[]⟩
noncomputable def u348v0 (P : Params) : Obj := ⟨.type "tuple", none, (.seq #[.str "self" 686, .str "flow" 687, .str "indentless" 688] 0), #[]⟩
noncomputable def u349v0 (P : Params) : Obj := ⟨.type "tuple", none, (.seq #[] 0), #[]⟩
noncomputable def u350v0 (P : Params) : Obj := ⟨.none, none, (fG [21, 6] "Emitter.increase_indent" 0 [] .none .none .none .none none .none .none 0), #[]⟩
noncomputable def u351v0 (P : Params) : Obj := ⟨.type "code", none, (.fields #[.str "increase_indent" 683, .str "Emitter.increase_indent" 684, .str "/claim/cut.py" 685, .int 140 0, .int 3 0, .int 0 0, .int 0 0, .int 3 0, .ref 346, .bool true, .int 181 0, .ref 347, .none, .ref 348, .ref 349, .ref 350, .int 689 0, .int 140 0, .str "/claim/cut.py" 690]), #[]⟩
noncomputable def u352v0 (P : Params) : Obj := ⟨.type "function", none, (fD [21, 6] "Emitter.increase_indent" (.ref 345) .none .none (.str "yaml.emitter" 560) none (.ref 351) .none 0), #[]⟩
noncomputable def u353v0 (P : Params) : Obj := ⟨.type "tuple", none, (.seq #[] 0), #[]⟩
noncomputable def u354v0 (P : Params) : Obj := ⟨.none, none, (.fields #[]), #[]⟩
noncomputable def u355v0 (P : Params) : Obj := ⟨.type "tuple", none, (.seq #[.str "self" 695] 0), #[]⟩
noncomputable def u356v0 (P : Params) : Obj := ⟨.type "tuple", none, (.seq #[] 0), #[]⟩
noncomputable def u357v0 (P : Params) : Obj := ⟨.none, none, (fG [21, 7] "Emitter.expect_stream_start" 0 [] .none .none .none .none none .none .none 0), #[]⟩
noncomputable def u358v0 (P : Params) : Obj := ⟨.type "code", none, (.fields #[.str "expect_stream_start" 692, .str "Emitter.expect_stream_start" 693, .str "/claim/cut.py" 694, .int 150 0, .int 1 0, .int 0 0, .int 0 0, .int 3 0, .ref 353, .bool true, .int 181 0, .ref 354, .none, .ref 355, .ref 356, .ref 357, .int 696 0, .int 150 0, .str "/claim/cut.py" 697]), #[]⟩
noncomputable def u359v0 (P : Params) : Obj := ⟨.type "function", none, (fD [21, 7] "Emitter.expect_stream_start" .none .none .none (.str "yaml.emitter" 560) none (.ref 358) .none 0), #[]⟩
noncomputable def u360v0 (P : Params) : Obj := ⟨.type "tuple", none, (.seq #[] 0), #[]⟩
noncomputable def u361v0 (P : Params) : Obj := ⟨.none, none, (.fields #[]), #[]⟩
noncomputable def u362v0 (P : Params) : Obj := ⟨.type "tuple", none, (.seq #[.str "self" 702] 0), #[]⟩
noncomputable def u363v0 (P : Params) : Obj := ⟨.type "tuple", none, (.seq #[] 0), #[]⟩
noncomputable def u364v0 (P : Params) : Obj := ⟨.none, none, (fG [21, 8] "Emitter.expect_nothing" 0 [] .none .none .none .none none .none .none 0), #[]⟩
noncomputable def u365v0 (P : Params) : Obj := ⟨.type "code", none, (.fields #[.str "expect_nothing" 699, .str "Emitter.expect_nothing" 700, .str "/claim/cut.py" 701, .int 157 0, .int 1 0, .int 0 0, .int 0 0, .int 3 0, .ref 360, .bool true, .int 181 0, .ref 361, .none, .ref 362, .ref 363, .ref 364, .int 703 0, .int 157 0, .str "/claim/cut.py" 704]), #[]⟩
noncomputable def u366v0 (P : Params) : Obj := ⟨.type "function", none, (fD [21, 8] "Emitter.expect_nothing" .none .none .none (.str "yaml.emitter" 560) none (.ref 365) .none 0), #[]⟩
noncomputable def u367v0 (P : Params) : Obj := ⟨.type "tuple", none, (.seq #[] 0), #[]⟩
noncomputable def u368v0 (P : Params) : Obj := ⟨.none, none, (.fields #[]), #[]⟩
noncomputable def u369v0 (P : Params) : Obj := ⟨.type "tuple", none, (.seq #[.str "self" 709] 0), #[]⟩
noncomputable def u370v0 (P : Params) : Obj := ⟨.type "tuple", none, (.seq #[] 0), #[]⟩
noncomputable def u371v0 (P : Params) : Obj := ⟨.none, none, (fG [21, 9] "Emitter.expect_first_document_start" 0 [] .none .none .none .none none .none .none 0), #[]⟩
noncomputable def u372v0 (P : Params) : Obj := ⟨.type "code", none, (.fields #[.str "expect_first_document_start" 706, .str "Emitter.expect_first_document_start" 707, .str "/claim/cut.py" 708, .int 160 0, .int 1 0, .int 0 0, .int 0 0, .int 3 0, .ref 367, .bool true, .int 181 0, .ref 368, .none, .ref 369, .ref 370, .ref 371, .int 710 0, .int 160 0, .str "/claim/cut.py" 711]), #[]⟩
noncomputable def u373v0 (P : Params) : Obj := ⟨.type "function", none, (fD [21, 9] "Emitter.expect_first_document_start" .none .none .none (.str "yaml.emitter" 560) none (.ref 372) .none 0), #[]⟩
noncomputable def u374v0 (P : Params) : Obj := ⟨.type "tuple", none, (.seq #[.bool false] 0), #[]⟩
noncomputable def u375v0 (P : Params) : Obj := ⟨.type "tuple", none, (.seq #[] 0), #[]⟩
noncomputable def u376v0 (P : Params) : Obj := ⟨.none, none, (.fields #[]), #[]⟩
noncomputable def u377v0 (P : Params) : Obj := ⟨.type "tuple", none, (.seq #[.str "self" 716, .str "first" 717, .str "version_text" 718, .str "handles" 719, .str "handle" 720, .str "prefix" 721, .str "handle_text" 722, .str "prefix_text" 723, .str "implicit" 724] 0), #[]⟩
noncomputable def u378v0 (P : Params) : Obj := ⟨.type "tuple", none, (.seq #[] 0), #[]⟩
noncomputable def u379v0 (P : Params) : Obj := ⟨.none, none, (fG [21, 10] "Emitter.expect_document_start" 0 [] .none .none .none .none none .none .none 0), #[]⟩
noncomputable def u380v0 (P : Params) : Obj := ⟨.type "code", none, (.fields #[.str "expect_document_start" 713, .str "Emitter.expect_document_start" 714, .str "/claim/cut.py" 715, .int 163 0, .int 2 0, .int 0 0, .int 0 0, .int 3 0, .ref 375, .bool true, .int 181 0, .ref 376, .none, .ref 377, .ref 378, .ref 379, .int 725 0, .int 163 0, .str "/claim/cut.py" 726]), #[]⟩
noncomputable def u381v0 (P : Params) : Obj := ⟨.type "function", none, (fD [21, 10] "Emitter.expect_document_start" (.ref 374) .none .none (.str "yaml.emitter" 560) none (.ref 380) .none 0), #[]⟩
noncomputable def u382v0 (P : Params) : Obj := ⟨.type "tuple", none, (.seq #[] 0), #[]⟩
noncomputable def u383v0 (P : Params) : Obj := ⟨.none, none, (.fields #[]), #[]⟩
noncomputable def u384v0 (P : Params) : Obj := ⟨.type "tuple", none, (.seq #[.str "self" 731] 0), #[]⟩
noncomputable def u385v0 (P : Params) : Obj := ⟨.type "tuple", none, (.seq #[] 0), #[]⟩
noncomputable def u386v0 (P : Params) : Obj := ⟨.none, none, (fG [21, 11] "Emitter.expect_document_end" 0 [] .none .none .none .none none .none .none 0), #[]⟩
noncomputable def u387v0 (P : Params) : Obj := ⟨.type "code", none, (.fields #[.str "expect_document_end" 728, .str "Emitter.expect_document_end" 729, .str "/claim/cut.py" 730, .int 196 0, .int 1 0, .int 0 0, .int 0 0, .int 3 0, .ref 382, .bool true, .int 181 0, .ref 383, .none, .ref 384, .ref 385, .ref 386, .int 732 0, .int 196 0, .str "/claim/cut.py" 733]), #[]⟩
noncomputable def u388v0 (P : Params) : Obj := ⟨.type "function", none, (fD [21, 11] "Emitter.expect_document_end" .none .none .none (.str "yaml.emitter" 560) none (.ref 387) .none 0), #[]⟩
noncomputable def u389v0 (P : Params) : Obj := ⟨.type "tuple", none, (.seq #[] 0), #[]⟩
noncomputable def u390v0 (P : Params) : Obj := ⟨.none, none, (.fields #[]), #[]⟩
noncomputable def u391v0 (P : Params) : Obj := ⟨.type "tuple", none, (.seq #[.str "self" 738] 0), #[]⟩
noncomputable def u392v0 (P : Params) : Obj := ⟨.type "tuple", none, (.seq #[] 0), #[]⟩
noncomputable def u393v0 (P : Params) : Obj := ⟨.none, none, (fG [21, 12] "Emitter.expect_document_root" 0 [] .none .none .none .none none .none .none 0), #[]⟩
noncomputable def u394v0 (P : Params) : Obj := ⟨.type "code", none, (.fields #[.str "expect_document_root" 735, .str "Emitter.expect_document_root" 736, .str "/claim/cut.py" 737, .int 207 0, .int 1 0, .int 0 0, .int 0 0, .int 3 0, .ref 389, .bool true, .int 181 0, .ref 390, .none, .ref 391, .ref 392, .ref 393, .int 739 0, .int 207 0, .str "/claim/cut.py" 740]), #[]⟩
noncomputable def u395v0 (P : Params) : Obj := ⟨.type "function", none, (fD [21, 12] "Emitter.expect_document_root" .none .none .none (.str "yaml.emitter" 560) none (.ref 394) .none 0), #[]⟩
noncomputable def u396v0 (P : Params) : Obj := ⟨.type "tuple", none, (.seq #[.bool false, .bool false, .bool false, .bool false] 0), #[]⟩
noncomputable def u397v0 (P : Params) : Obj := ⟨.type "tuple", none, (.seq #[] 0), #[]⟩
noncomputable def u398v0 (P : Params) : Obj := ⟨.none, none, (.fields #[]), #[]⟩
noncomputable def u399v0 (P : Params) : Obj := ⟨.type "tuple", none, (.seq #[.str "self" 745, .str "root" 746, .str "sequence" 747, .str "mapping" 748, .str "simple_key" 749] 0), #[]⟩
noncomputable def u400v0 (P : Params) : Obj := ⟨.type "tuple", none, (.seq #[] 0), #[]⟩
noncomputable def u401v0 (P : Params) : Obj := ⟨.none, none, (fG [21, 13] "Emitter.expect_node" 0 [] .none .none .none .none none .none .none 0), #[]⟩
noncomputable def u402v0 (P : Params) : Obj := ⟨.type "code", none, (.fields #[.str "expect_node" 742, .str "Emitter.expect_node" 743, .str "/claim/cut.py" 744, .int 211 0, .int 5 0, .int 0 0, .int 0 0, .int 3 0, .ref 397, .bool true, .int 181 0, .ref 398, .none, .ref 399, .ref 400, .ref 401, .int 750 0, .int 211 0, .str "/claim/cut.py" 751]), #[]⟩
noncomputable def u403v0 (P : Params) : Obj := ⟨.type "function", none, (fD [21, 13] "Emitter.expect_node" (.ref 396) .none .none (.str "yaml.emitter" 560) none (.ref 402) .none 0), #[]⟩
noncomputable def u404v0 (P : Params) : Obj := ⟨.type "tuple", none, (.seq #[] 0), #[]⟩
noncomputable def u405v0 (P : Params) : Obj := ⟨.none, none, (.fields #[]), #[]⟩
noncomputable def u406v0 (P : Params) : Obj := ⟨.type "tuple", none, (.seq #[.str "self" 756] 0), #[]⟩
noncomputable def u407v0 (P : Params) : Obj := ⟨.type "tuple", none, (.seq #[] 0), #[]⟩
noncomputable def u408v0 (P : Params) : Obj := ⟨.none, none, (fG [21, 14] "Emitter.expect_alias" 0 [] .none .none .none .none none .none .none 0), #[]⟩
noncomputable def u409v0 (P : Params) : Obj := ⟨.type "code", none, (.fields #[.str "expect_alias" 753, .str "Emitter.expect_alias" 754, .str "/claim/cut.py" 755, .int 236 0, .int 1 0, .int 0 0, .int 0 0, .int 3 0, .ref 404, .bool true, .int 181 0, .ref 405, .none, .ref 406, .ref 407, .ref 408, .int 757 0, .int 236 0, .str "/claim/cut.py" 758]), #[]⟩
noncomputable def u410v0 (P : Params) : Obj := ⟨.type "function", none, (fD [21, 14] "Emitter.expect_alias" .none .none .none (.str "yaml.emitter" 560) none (.ref 409) .none 0), #[]⟩
noncomputable def u411v0 (P : Params) : Obj := ⟨.type "tuple", none, (.seq #[] 0), #[]⟩
noncomputable def u412v0 (P : Params) : Obj := ⟨.none, none, (.fields #[]), #[]⟩
noncomputable def u413v0 (P : Params) : Obj := ⟨.type "tuple", none, (.seq #[.str "self" 763] 0), #[]⟩
noncomputable def u414v0 (P : Params) : Obj := ⟨.type "tuple", none, (.seq #[] 0), #[]⟩
noncomputable def u415v0 (P : Params) : Obj := ⟨.none, none, (fG [21, 15] "Emitter.expect_scalar" 0 [] .none .none .none .none none .none .none 0), #[]⟩
noncomputable def u416v0 (P : Params) : Obj := ⟨.type "code", none, (.fields #[.str "expect_scalar" 760, .str "Emitter.expect_scalar" 761, .str "/claim/cut.py" 762, .int 242 0, .int 1 0, .int 0 0, .int 0 0, .int 3 0, .ref 411, .bool true, .int 181 0, .ref 412, .none, .ref 413, .ref 414, .ref 415, .int 764 0, .int 242 0, .str "/claim/cut.py" 765]), #[]⟩
noncomputable def u417v0 (P : Params) : Obj := ⟨.type "function", none, (fD [21, 15] "Emitter.expect_scalar" .none .none .none (.str "yaml.emitter" 560) none (.ref 416) .none 0), #[]⟩
noncomputable def u418v0 (P : Params) : Obj := ⟨.type "tuple", none, (.seq #[] 0), #[]⟩
noncomputable def u419v0 (P : Params) : Obj := ⟨.none, none, (.fields #[]), #[]⟩
noncomputable def u420v0 (P : Params) : Obj := ⟨.type "tuple", none, (.seq #[.str "self" 770] 0), #[]⟩
noncomputable def u421v0 (P : Params) : Obj := ⟨.type "tuple", none, (.seq #[] 0), #[]⟩
noncomputable def u422v0 (P : Params) : Obj := ⟨.none, none, (fG [21, 16] "Emitter.expect_flow_sequence" 0 [] .none .none .none .none none .none .none 0), #[]⟩
noncomputable def u423v0 (P : Params) : Obj := ⟨.type "code", none, (.fields #[.str "expect_flow_sequence" 767, .str "Emitter.expect_flow_sequence" 768, .str "/claim/cut.py" 769, .int 248 0, .int 1 0, .int 0 0, .int 0 0, .int 3 0, .ref 418, .bool true, .int 181 0, .ref 419, .none, .ref 420, .ref 421, .ref 422, .int 771 0, .int 248 0, .str "/claim/cut.py" 772]), #[]⟩
noncomputable def u424v0 (P : Params) : Obj := ⟨.type "function", none, (fD [21, 16] "Emitter.expect_flow_sequence" .none .none .none (.str "yaml.emitter" 560) none (.ref 423) .none 0), #[]⟩
noncomputable def u425v0 (P : Params) : Obj := ⟨.type "tuple", none, (.seq #[] 0), #[]⟩
noncomputable def u426v0 (P : Params) : Obj := ⟨.none, none, (.fields #[]), #[]⟩
noncomputable def u427v0 (P : Params) : Obj := ⟨.type "tuple", none, (.seq #[.str "self" 777] 0), #[]⟩
noncomputable def u428v0 (P : Params) : Obj := ⟨.type "tuple", none, (.seq #[] 0), #[]⟩
noncomputable def u429v0 (P : Params) : Obj := ⟨.none, none, (fG [21, 17] "Emitter.expect_first_flow_sequence_item" 0 [] .none .none .none .none none .none .none 0), #[]⟩
noncomputable def u430v0 (P : Params) : Obj := ⟨.type "code", none, (.fields #[.str "expect_first_flow_sequence_item" 774, .str "Emitter.expect_first_flow_sequence_item" 775, .str "/claim/cut.py" 776, .int 254 0, .int 1 0, .int 0 0, .int 0 0, .int 3 0, .ref 425, .bool true, .int 181 0, .ref 426, .none, .ref 427, .ref 428, .ref 429, .int 778 0, .int 254 0, .str "/claim/cut.py" 779]), #[]⟩
noncomputable def u431v0 (P : Params) : Obj := ⟨.type "function", none, (fD [21, 17] "Emitter.expect_first_flow_sequence_item" .none .none .none (.str "yaml.emitter" 560) none (.ref 430) .none 0), #[]⟩
noncomputable def u432v0 (P : Params) : Obj := ⟨.type "tuple", none, (.seq #[] 0), #[]⟩
noncomputable def u433v0 (P : Params) : Obj := ⟨.none, none, (.fields #[]), #[]⟩
noncomputable def u434v0 (P : Params) : Obj := ⟨.type "tuple", none, (.seq #[.str "self" 784] 0), #[]⟩
noncomputable def u435v0 (P : Params) : Obj := ⟨.type "tuple", none, (.seq #[] 0), #[]⟩
noncomputable def u436v0 (P : Params) : Obj := ⟨.none, none, (fG [21, 18] "Emitter.expect_flow_sequence_item" 0 [] .none .none .none .none none .none .none 0), #[]⟩
noncomputable def u437v0 (P : Params) : Obj := ⟨.type "code", none, (.fields #[.str "expect_flow_sequence_item" 781, .str "Emitter.expect_flow_sequence_item" 782, .str "/claim/cut.py" 783, .int 266 0, .int 1 0, .int 0 0, .int 0 0, .int 3 0, .ref 432, .bool true, .int 181 0, .ref 433, .none, .ref 434, .ref 435, .ref 436, .int 785 0, .int 266 0, .str "/claim/cut.py" 786]), #[]⟩
noncomputable def u438v0 (P : Params) : Obj := ⟨.type "function", none, (fD [21, 18] "Emitter.expect_flow_sequence_item" .none .none .none (.str "yaml.emitter" 560) none (.ref 437) .none 0), #[]⟩
noncomputable def u439v0 (P : Params) : Obj := ⟨.type "tuple", none, (.seq #[] 0), #[]⟩
noncomputable def u440v0 (P : Params) : Obj := ⟨.none, none, (.fields #[]), #[]⟩
noncomputable def u441v0 (P : Params) : Obj := ⟨.type "tuple", none, (.seq #[.str "self" 791] 0), #[]⟩
noncomputable def u442v0 (P : Params) : Obj := ⟨.type "tuple", none, (.seq #[] 0), #[]⟩
noncomputable def u443v0 (P : Params) : Obj := ⟨.none, none, (fG [21, 19] "Emitter.expect_flow_mapping" 0 [] .none .none .none .none none .none .none 0), #[]⟩
noncomputable def u444v0 (P : Params) : Obj := ⟨.type "code", none, (.fields #[.str "expect_flow_mapping" 788, .str "Emitter.expect_flow_mapping" 789, .str "/claim/cut.py" 790, .int 282 0, .int 1 0, .int 0 0, .int 0 0, .int 3 0, .ref 439, .bool true, .int 181 0, .ref 440, .none, .ref 441, .ref 442, .ref 443, .int 792 0, .int 282 0, .str "/claim/cut.py" 793]), #[]⟩
noncomputable def u445v0 (P : Params) : Obj := ⟨.type "function", none, (fD [21, 19] "Emitter.expect_flow_mapping" .none .none .none (.str "yaml.emitter" 560) none (.ref 444) .none 0), #[]⟩
noncomputable def u446v0 (P : Params) : Obj := ⟨.type "tuple", none, (.seq #[] 0), #[]⟩
noncomputable def u447v0 (P : Params) : Obj := ⟨.none, none, (.fields #[]), #[]⟩
noncomputable def u448v0 (P : Params) : Obj := ⟨.type "tuple", none, (.seq #[.str "self" 798] 0), #[]⟩
noncomputable def u449v0 (P : Params) : Obj := ⟨.type "tuple", none, (.seq #[] 0), #[]⟩
noncomputable def u450v0 (P : Params) : Obj := ⟨.none, none, (fG [21, 20] "Emitter.expect_first_flow_mapping_key" 0 [] .none .none .none .none none .none .none 0), #[]⟩
noncomputable def u451v0 (P : Params) : Obj := ⟨.type "code", none, (.fields #[.str "expect_first_flow_mapping_key" 795, .str "Emitter.expect_first_flow_mapping_key" 796, .str "/claim/cut.py" 797, .int 288 0, .int 1 0, .int 0 0, .int 0 0, .int 3 0, .ref 446, .bool true, .int 181 0, .ref 447, .none, .ref 448, .ref 449, .ref 450, .int 799 0, .int 288 0, .str "/claim/cut.py" 800]), #[]⟩
noncomputable def u452v0 (P : Params) : Obj := ⟨.type "function", none, (fD [21, 20] "Emitter.expect_first_flow_mapping_key" .none .none .none (.str "yaml.emitter" 560) none (.ref 451) .none 0), #[]⟩
noncomputable def u453v0 (P : Params) : Obj := ⟨.type "tuple", none, (.seq #[] 0), #[]⟩
noncomputable def u454v0 (P : Params) : Obj := ⟨.none, none, (.fields #[]), #[]⟩
noncomputable def u455v0 (P : Params) : Obj := ⟨.type "tuple", none, (.seq #[.str "self" 805] 0), #[]⟩
noncomputable def u456v0 (P : Params) : Obj := ⟨.type "tuple", none, (.seq #[] 0), #[]⟩
noncomputable def u457v0 (P : Params) : Obj := ⟨.none, none, (fG [21, 21] "Emitter.expect_flow_mapping_key" 0 [] .none .none .none .none none .none .none 0), #[]⟩
noncomputable def u458v0 (P : Params) : Obj := ⟨.type "code", none, (.fields #[.str "expect_flow_mapping_key" 802, .str "Emitter.expect_flow_mapping_key" 803, .str "/claim/cut.py" 804, .int 305 0, .int 1 0, .int 0 0, .int 0 0, .int 3 0, .ref 453, .bool true, .int 181 0, .ref 454, .none, .ref 455, .ref 456, .ref 457, .int 806 0, .int 305 0, .str "/claim/cut.py" 807]), #[]⟩
noncomputable def u459v0 (P : Params) : Obj := ⟨.type "function", none, (fD [21, 21] "Emitter.expect_flow_mapping_key" .none .none .none (.str "yaml.emitter" 560) none (.ref 458) .none 0), #[]⟩
noncomputable def u460v0 (P : Params) : Obj := ⟨.type "tuple", none, (.seq #[] 0), #[]⟩
noncomputable def u461v0 (P : Params) : Obj := ⟨.none, none, (.fields #[]), #[]⟩
noncomputable def u462v0 (P : Params) : Obj := ⟨.type "tuple", none, (.seq #[.str "self" 812] 0), #[]⟩
noncomputable def u463v0 (P : Params) : Obj := ⟨.type "tuple", none, (.seq #[] 0), #[]⟩
noncomputable def u464v0 (P : Params) : Obj := ⟨.none, none, (fG [21, 22] "Emitter.expect_flow_mapping_simple_value" 0 [] .none .none .none .none none .none .none 0), #[]⟩
noncomputable def u465v0 (P : Params) : Obj := ⟨.type "code", none, (.fields #[.str "expect_flow_mapping_simple_value" 809, .str "Emitter.expect_flow_mapping_simple_value" 810, .str "/claim/cut.py" 811, .int 326 0, .int 1 0, .int 0 0, .int 0 0, .int 3 0, .ref 460, .bool true, .int 181 0, .ref 461, .none, .ref 462, .ref 463, .ref 464, .int 813 0, .int 326 0, .str "/claim/cut.py" 814]), #[]⟩
noncomputable def u466v0 (P : Params) : Obj := ⟨.type "function", none, (fD [21, 22] "Emitter.expect_flow_mapping_simple_value" .none .none .none (.str "yaml.emitter" 560) none (.ref 465) .none 0), #[]⟩
noncomputable def u467v0 (P : Params) : Obj := ⟨.type "tuple", none, (.seq #[] 0), #[]⟩
noncomputable def u468v0 (P : Params) : Obj := ⟨.none, none, (.fields #[]), #[]⟩
noncomputable def u469v0 (P : Params) : Obj := ⟨.type "tuple", none, (.seq #[.str "self" 819] 0), #[]⟩
noncomputable def u470v0 (P : Params) : Obj := ⟨.type "tuple", none, (.seq #[] 0), #[]⟩
noncomputable def u471v0 (P : Params) : Obj := ⟨.none, none, (fG [21, 23] "Emitter.expect_flow_mapping_value" 0 [] .none .none .none .none none .none .none 0), #[]⟩
noncomputable def u472v0 (P : Params) : Obj := ⟨.type "code", none, (.fields #[.str "expect_flow_mapping_value" 816, .str "Emitter.expect_flow_mapping_value" 817, .str "/claim/cut.py" 818, .int 331 0, .int 1 0, .int 0 0, .int 0 0, .int 3 0, .ref 467, .bool true, .int 181 0, .ref 468, .none, .ref 469, .ref 470, .ref 471, .int 820 0, .int 331 0, .str "/claim/cut.py" 821]), #[]⟩
noncomputable def u473v0 (P : Params) : Obj := ⟨.type "function", none, (fD [21, 23] "Emitter.expect_flow_mapping_value" .none .none .none (.str "yaml.emitter" 560) none (.ref 472) .none 0), #[]⟩
noncomputable def u474v0 (P : Params) : Obj := ⟨.type "tuple", none, (.seq #[] 0), #[]⟩
noncomputable def u475v0 (P : Params) : Obj := ⟨.none, none, (.fields #[]), #[]⟩
noncomputable def u476v0 (P : Params) : Obj := ⟨.type "tuple", none, (.seq #[.str "self" 826, .str "indentless" 827] 0), #[]⟩
noncomputable def u477v0 (P : Params) : Obj := ⟨.type "tuple", none, (.seq #[] 0), #[]⟩
noncomputable def u478v0 (P : Params) : Obj := ⟨.none, none, (fG [21, 24] "Emitter.expect_block_sequence" 0 [] .none .none .none .none none .none .none 0), #[]⟩
noncomputable def u479v0 (P : Params) : Obj := ⟨.type "code", none, (.fields #[.str "expect_block_sequence" 823, .str "Emitter.expect_block_sequence" 824, .str "/claim/cut.py" 825, .int 338 0, .int 1 0, .int 0 0, .int 0 0, .int 3 0, .ref 474, .bool true, .int 181 0, .ref 475, .none, .ref 476, .ref 477, .ref 478, .int 828 0, .int 338 0, .str "/claim/cut.py" 829]), #[]⟩
noncomputable def u480v0 (P : Params) : Obj := ⟨.type "function", none, (fD [21, 24] "Emitter.expect_block_sequence" .none .none .none (.str "yaml.emitter" 560) none (.ref 479) .none 0), #[]⟩
noncomputable def u481v0 (P : Params) : Obj := ⟨.type "tuple", none, (.seq #[] 0), #[]⟩
noncomputable def u482v0 (P : Params) : Obj := ⟨.none, none, (.fields #[]), #[]⟩
noncomputable def u483v0 (P : Params) : Obj := ⟨.type "tuple", none, (.seq #[.str "self" 834] 0), #[]⟩
noncomputable def u484v0 (P : Params) : Obj := ⟨.type "tuple", none, (.seq #[] 0), #[]⟩
noncomputable def u485v0 (P : Params) : Obj := ⟨.none, none, (fG [21, 25] "Emitter.expect_first_block_sequence_item" 0 [] .none .none .none .none none .none .none 0), #[]⟩
noncomputable def u486v0 (P : Params) : Obj := ⟨.type "code", none, (.fields #[.str "expect_first_block_sequence_item" 831, .str "Emitter.expect_first_block_sequence_item" 832, .str "/claim/cut.py" 833, .int 343 0, .int 1 0, .int 0 0, .int 0 0, .int 3 0, .ref 481, .bool true, .int 181 0, .ref 482, .none, .ref 483, .ref 484, .ref 485, .int 835 0, .int 343 0, .str "/claim/cut.py" 836]), #[]⟩
noncomputable def u487v0 (P : Params) : Obj := ⟨.type "function", none, (fD [21, 25] "Emitter.expect_first_block_sequence_item" .none .none .none (.str "yaml.emitter" 560) none (.ref 486) .none 0), #[]⟩
noncomputable def u488v0 (P : Params) : Obj := ⟨.type "tuple", none, (.seq #[.bool false] 0), #[]⟩
noncomputable def u489v0 (P : Params) : Obj := ⟨.type "tuple", none, (.seq #[] 0), #[]⟩
noncomputable def u490v0 (P : Params) : Obj := ⟨.none, none, (.fields #[]), #[]⟩
noncomputable def u491v0 (P : Params) : Obj := ⟨.type "tuple", none, (.seq #[.str "self" 841, .str "first" 842] 0), #[]⟩
noncomputable def u492v0 (P : Params) : Obj := ⟨.type "tuple", none, (.seq #[] 0), #[]⟩
noncomputable def u493v0 (P : Params) : Obj := ⟨.none, none, (fG [21, 26] "Emitter.expect_block_sequence_item" 0 [] .none .none .none .none none .none .none 0), #[]⟩
noncomputable def u494v0 (P : Params) : Obj := ⟨.type "code", none, (.fields #[.str "expect_block_sequence_item" 838, .str "Emitter.expect_block_sequence_item" 839, .str "/claim/cut.py" 840, .int 346 0, .int 2 0, .int 0 0, .int 0 0, .int 3 0, .ref 489, .bool true, .int 181 0, .ref 490, .none, .ref 491, .ref 492, .ref 493, .int 843 0, .int 346 0, .str "/claim/cut.py" 844]), #[]⟩
noncomputable def u495v0 (P : Params) : Obj := ⟨.type "function", none, (fD [21, 26] "Emitter.expect_block_sequence_item" (.ref 488) .none .none (.str "yaml.emitter" 560) none (.ref 494) .none 0), #[]⟩
noncomputable def u496v0 (P : Params) : Obj := ⟨.type "tuple", none, (.seq #[] 0), #[]⟩
noncomputable def u497v0 (P : Params) : Obj := ⟨.none, none, (.fields #[]), #[]⟩
noncomputable def u498v0 (P : Params) : Obj := ⟨.type "tuple", none, (.seq #[.str "self" 849] 0), #[]⟩
noncomputable def u499v0 (P : Params) : Obj := ⟨.type "tuple", none, (.seq #[] 0), #[]⟩
noncomputable def u500v0 (P : Params) : Obj := ⟨.none, none, (fG [21, 27] "Emitter.expect_block_mapping" 0 [] .none .none .none .none none .none .none 0), #[]⟩
noncomputable def u501v0 (P : Params) : Obj := ⟨.type "code", none, (.fields #[.str "expect_block_mapping" 846, .str "Emitter.expect_block_mapping" 847, .str "/claim/cut.py" 848, .int 356 0, .int 1 0, .int 0 0, .int 0 0, .int 3 0, .ref 496, .bool true, .int 181 0, .ref 497, .none, .ref 498, .ref 499, .ref 500, .int 850 0, .int 356 0, .str "/claim/cut.py" 851]), #[]⟩
noncomputable def u502v0 (P : Params) : Obj := ⟨.type "function", none, (fD [21, 27] "Emitter.expect_block_mapping" .none .none .none (.str "yaml.emitter" 560) none (.ref 501) .none 0), #[]⟩
noncomputable def u503v0 (P : Params) : Obj := ⟨.type "tuple", none, (.seq #[] 0), #[]⟩
noncomputable def u504v0 (P : Params) : Obj := ⟨.none, none, (.fields #[]), #[]⟩
noncomputable def u505v0 (P : Params) : Obj := ⟨.type "tuple", none, (.seq #[.str "self" 856] 0), #[]⟩
noncomputable def u506v0 (P : Params) : Obj := ⟨.type "tuple", none, (.seq #[] 0), #[]⟩
noncomputable def u507v0 (P : Params) : Obj := ⟨.none, none, (fG [21, 28] "Emitter.expect_first_block_mapping_key" 0 [] .none .none .none .none none .none .none 0), #[]⟩
noncomputable def u508v0 (P : Params) : Obj := ⟨.type "code", none, (.fields #[.str "expect_first_block_mapping_key" 853, .str "Emitter.expect_first_block_mapping_key" 854, .str "/claim/cut.py" 855, .int 360 0, .int 1 0, .int 0 0, .int 0 0, .int 3 0, .ref 503, .bool true, .int 181 0, .ref 504, .none, .ref 505, .ref 506, .ref 507, .int 857 0, .int 360 0, .str "/claim/cut.py" 858]), #[]⟩
noncomputable def u509v0 (P : Params) : Obj := ⟨.type "function", none, (fD [21, 28] "Emitter.expect_first_block_mapping_key" .none .none .none (.str "yaml.emitter" 560) none (.ref 508) .none 0), #[]⟩
noncomputable def u510v0 (P : Params) : Obj := ⟨.type "tuple", none, (.seq #[.bool false] 0), #[]⟩
noncomputable def u511v0 (P : Params) : Obj := ⟨.type "tuple", none, (.seq #[] 0), #[]⟩
noncomputable def u512v0 (P : Params) : Obj := ⟨.none, none, (.fields #[]), #[]⟩
noncomputable def u513v0 (P : Params) : Obj := ⟨.type "tuple", none, (.seq #[.str "self" 863, .str "first" 864] 0), #[]⟩
noncomputable def u514v0 (P : Params) : Obj := ⟨.type "tuple", none, (.seq #[] 0), #[]⟩
noncomputable def u515v0 (P : Params) : Obj := ⟨.none, none, (fG [21, 29] "Emitter.expect_block_mapping_key" 0 [] .none .none .none .none none .none .none 0), #[]⟩
noncomputable def u516v0 (P : Params) : Obj := ⟨.type "code", none, (.fields #[.str "expect_block_mapping_key" 860, .str "Emitter.expect_block_mapping_key" 861, .str "/claim/cut.py" 862, .int 363 0, .int 2 0, .int 0 0, .int 0 0, .int 3 0, .ref 511, .bool true, .int 181 0, .ref 512, .none, .ref 513, .ref 514, .ref 515, .int 865 0, .int 363 0, .str "/claim/cut.py" 866]), #[]⟩
noncomputable def u517v0 (P : Params) : Obj := ⟨.type "function", none, (fD [21, 29] "Emitter.expect_block_mapping_key" (.ref 510) .none .none (.str "yaml.emitter" 560) none (.ref 516) .none 0), #[]⟩
noncomputable def u518v0 (P : Params) : Obj := ⟨.type "tuple", none, (.seq #[] 0), #[]⟩
noncomputable def u519v0 (P : Params) : Obj := ⟨.none, none, (.fields #[]), #[]⟩
noncomputable def u520v0 (P : Params) : Obj := ⟨.type "tuple", none, (.seq #[.str "self" 871] 0), #[]⟩
noncomputable def u521v0 (P : Params) : Obj := ⟨.type "tuple", none, (.seq #[] 0), #[]⟩
noncomputable def u522v0 (P : Params) : Obj := ⟨.none, none, (fG [21, 30] "Emitter.expect_block_mapping_simple_value" 0 [] .none .none .none .none none .none .none 0), #[]⟩
noncomputable def u523v0 (P : Params) : Obj := ⟨.type "code", none, (.fields #[.str "expect_block_mapping_simple_value" 868, .str "Emitter.expect_block_mapping_simple_value" 869, .str "/claim/cut.py" 870, .int 377 0, .int 1 0, .int 0 0, .int 0 0, .int 3 0, .ref 518, .bool true, .int 181 0, .ref 519, .none, .ref 520, .ref 521, .ref 522, .int 872 0, .int 377 0, .str "/claim/cut.py" 873]), #[]⟩
noncomputable def u524v0 (P : Params) : Obj := ⟨.type "function", none, (fD [21, 30] "Emitter.expect_block_mapping_simple_value" .none .none .none (.str "yaml.emitter" 560) none (.ref 523) .none 0), #[]⟩
noncomputable def u525v0 (P : Params) : Obj := ⟨.type "tuple", none, (.seq #[] 0), #[]⟩
noncomputable def u526v0 (P : Params) : Obj := ⟨.none, none, (.fields #[]), #[]⟩
noncomputable def u527v0 (P : Params) : Obj := ⟨.type "tuple", none, (.seq #[.str "self" 878] 0), #[]⟩
noncomputable def u528v0 (P : Params) : Obj := ⟨.type "tuple", none, (.seq #[] 0), #[]⟩
noncomputable def u529v0 (P : Params) : Obj := ⟨.none, none, (fG [21, 31] "Emitter.expect_block_mapping_value" 0 [] .none .none .none .none none .none .none 0), #[]⟩
noncomputable def u530v0 (P : Params) : Obj := ⟨.type "code", none, (.fields #[.str "expect_block_mapping_value" 875, .str "Emitter.expect_block_mapping_value" 876, .str "/claim/cut.py" 877, .int 382 0, .int 1 0, .int 0 0, .int 0 0, .int 3 0, .ref 525, .bool true, .int 181 0, .ref 526, .none, .ref 527, .ref 528, .ref 529, .int 879 0, .int 382 0, .str "/claim/cut.py" 880]), #[]⟩
noncomputable def u531v0 (P : Params) : Obj := ⟨.type "function", none, (fD [21, 31] "Emitter.expect_block_mapping_value" .none .none .none (.str "yaml.emitter" 560) none (.ref 530) .none 0), #[]⟩
noncomputable def u532v0 (P : Params) : Obj := ⟨.type "tuple", none, (.seq #[] 0), #[]⟩
noncomputable def u533v0 (P : Params) : Obj := ⟨.none, none, (.fields #[]), #[]⟩
noncomputable def u534v0 (P : Params) : Obj := ⟨.type "tuple", none, (.seq #[.str "self" 885] 0), #[]⟩
noncomputable def u535v0 (P : Params) : Obj := ⟨.type "tuple", none, (.seq #[] 0), #[]⟩
noncomputable def u536v0 (P : Params) : Obj := ⟨.none, none, (fG [21, 32] "Emitter.check_empty_sequence" 0 [] .none .none .none .none none .none .none 0), #[]⟩
noncomputable def u537v0 (P : Params) : Obj := ⟨.type "code", none, (.fields #[.str "check_empty_sequence" 882, .str "Emitter.check_empty_sequence" 883, .str "/claim/cut.py" 884, .int 388 0, .int 1 0, .int 0 0, .int 0 0, .int 3 0, .ref 532, .bool true, .int 181 0, .ref 533, .none, .ref 534, .ref 535, .ref 536, .int 886 0, .int 388 0, .str "/claim/cut.py" 887]), #[]⟩
noncomputable def u538v0 (P : Params) : Obj := ⟨.type "function", none, (fD [21, 32] "Emitter.check_empty_sequence" .none .none .none (.str "yaml.emitter" 560) none (.ref 537) .none 0), #[]⟩
noncomputable def u539v0 (P : Params) : Obj := ⟨.type "tuple", none, (.seq #[] 0), #[]⟩
noncomputable def u540v0 (P : Params) : Obj := ⟨.none, none, (.fields #[]), #[]⟩
noncomputable def u541v0 (P : Params) : Obj := ⟨.type "tuple", none, (.seq #[.str "self" 892] 0), #[]⟩
noncomputable def u542v0 (P : Params) : Obj := ⟨.type "tuple", none, (.seq #[] 0), #[]⟩
noncomputable def u543v0 (P : Params) : Obj := ⟨.none, none, (fG [21, 33] "Emitter.check_empty_mapping" 0 [] .none .none .none .none none .none .none 0), #[]⟩
noncomputable def u544v0 (P : Params) : Obj := ⟨.type "code", none, (.fields #[.str "check_empty_mapping" 889, .str "Emitter.check_empty_mapping" 890, .str "/claim/cut.py" 891, .int 391 0, .int 1 0, .int 0 0, .int 0 0, .int 3 0, .ref 539, .bool true, .int 181 0, .ref 540, .none, .ref 541, .ref 542, .ref 543, .int 893 0, .int 391 0, .str "/claim/cut.py" 894]), #[]⟩
noncomputable def u545v0 (P : Params) : Obj := ⟨.type "function", none, (fD [21, 33] "Emitter.check_empty_mapping" .none .none .none (.str "yaml.emitter" 560) none (.ref 544) .none 0), #[]⟩
noncomputable def u546v0 (P : Params) : Obj := ⟨.type "tuple", none, (.seq #[] 0), #[]⟩
noncomputable def u547v0 (P : Params) : Obj := ⟨.none, none, (.fields #[]), #[]⟩
noncomputable def u548v0 (P : Params) : Obj := ⟨.type "tuple", none, (.seq #[.str "self" 899, .str "event" 900] 0), #[]⟩
noncomputable def u549v0 (P : Params) : Obj := ⟨.type "tuple", none, (.seq #[] 0), #[]⟩
noncomputable def u550v0 (P : Params) : Obj := ⟨.none, none, (fG [21, 34] "Emitter.check_empty_document" 0 [] .none .none .none .none none .none .none 0), #[]⟩
noncomputable def u551v0 (P : Params) : Obj := ⟨.type "code", none, (.fields #[.str "check_empty_document" 896, .str "Emitter.check_empty_document" 897, .str "/claim/cut.py" 898, .int 394 0, .int 1 0, .int 0 0, .int 0 0, .int 3 0, .ref 546, .bool true, .int 181 0, .ref 547, .none, .ref 548, .ref 549, .ref 550, .int 901 0, .int 394 0, .str "/claim/cut.py" 902]), #[]⟩
noncomputable def u552v0 (P : Params) : Obj := ⟨.type "function", none, (fD [21, 34] "Emitter.check_empty_document" .none .none .none (.str "yaml.emitter" 560) none (.ref 551) .none 0), #[]⟩
noncomputable def u553v0 (P : Params) : Obj := ⟨.type "tuple", none, (.seq #[] 0), #[]⟩
noncomputable def u554v0 (P : Params) : Obj := ⟨.none, none, (.fields #[]), #[]⟩
noncomputable def u555v0 (P : Params) : Obj := ⟨.type "tuple", none, (.seq #[.str "self" 907, .str "length" 908] 0), #[]⟩
noncomputable def u556v0 (P : Params) : Obj := ⟨.type "tuple", none, (.seq #[] 0), #[]⟩
noncomputable def u557v0 (P : Params) : Obj := ⟨.none, none, (fG [21, 35] "Emitter.check_simple_key" 0 [] .none .none .none .none none .none .none 0), #[]⟩
noncomputable def u558v0 (P : Params) : Obj := ⟨.type "code", none, (.fields #[.str "check_simple_key" 904, .str "Emitter.check_simple_key" 905, .str "/claim/cut.py" 906, .int 400 0, .int 1 0, .int 0 0, .int 0 0, .int 3 0, .ref 553, .bool true, .int 181 0, .ref 554, .none, .ref 555, .ref 556, .ref 557, .int 909 0, .int 400 0, .str "/claim/cut.py" 910]), #[]⟩
noncomputable def u559v0 (P : Params) : Obj := ⟨.type "function", none, (fD [21, 35] "Emitter.check_simple_key" .none .none .none (.str "yaml.emitter" 560) none (.ref 558) .none 0), #[]⟩
noncomputable def u560v0 (P : Params) : Obj := ⟨.type "tuple", none, (.seq #[] 0), #[]⟩
noncomputable def u561v0 (P : Params) : Obj := ⟨.none, none, (.fields #[]), #[]⟩
noncomputable def u562v0 (P : Params) : Obj := ⟨.type "tuple", none, (.seq #[.str "self" 915, .str "indicator" 916] 0), #[]⟩
noncomputable def u563v0 (P : Params) : Obj := ⟨.type "tuple", none, (.seq #[] 0), #[]⟩
noncomputable def u564v0 (P : Params) : Obj := ⟨.none, none, (fG [21, 36] "Emitter.process_anchor" 0 [] .none .none .none .none none .none .none 0), #[]⟩
noncomputable def u565v0 (P : Params) : Obj := ⟨.type "code", none, (.fields #[.str "process_anchor" 912, .str "Emitter.process_anchor" 913, .str "/claim/cut.py" 914, .int 416 0, .int 2 0, .int 0 0, .int 0 0, .int 3 0, .ref 560, .bool true, .int 181 0, .ref 561, .none, .ref 562, .ref 563, .ref 564, .int 917 0, .int 416 0, .str "/claim/cut.py" 918]), #[]⟩
noncomputable def u566v0 (P : Params) : Obj := ⟨.type "function", none, (fD [21, 36] "Emitter.process_anchor" .none .none .none (.str "yaml.emitter" 560) none (.ref 565) .none 0), #[]⟩
noncomputable def u567v0 (P : Params) : Obj := ⟨.type "tuple", none, (.seq #[] 0), #[]⟩
noncomputable def u568v0 (P : Params) : Obj := ⟨.none, none, (.fields #[]), #[]⟩
noncomputable def u569v0 (P : Params) : Obj := ⟨.type "tuple", none, (.seq #[.str "self" 923, .str "tag" 924] 0), #[]⟩
noncomputable def u570v0 (P : Params) : Obj := ⟨.type "tuple", none, (.seq #[] 0), #[]⟩
noncomputable def u571v0 (P : Params) : Obj := ⟨.none, none, (fG [21, 37] "Emitter.process_tag" 0 [] .none .none .none .none none .none .none 0), #[]⟩
noncomputable def u572v0 (P : Params) : Obj := ⟨.type "code", none, (.fields #[.str "process_tag" 920, .str "Emitter.process_tag" 921, .str "/claim/cut.py" 922, .int 426 0, .int 1 0, .int 0 0, .int 0 0, .int 3 0, .ref 567, .bool true, .int 181 0, .ref 568, .none, .ref 569, .ref 570, .ref 571, .int 925 0, .int 426 0, .str "/claim/cut.py" 926]), #[]⟩
noncomputable def u573v0 (P : Params) : Obj := ⟨.type "function", none, (fD [21, 37] "Emitter.process_tag" .none .none .none (.str "yaml.emitter" 560) none (.ref 572) .none 0), #[]⟩
noncomputable def u574v0 (P : Params) : Obj := ⟨.type "tuple", none, (.seq #[] 0), #[]⟩
noncomputable def u575v0 (P : Params) : Obj := ⟨.none, none, (.fields #[]), #[]⟩
noncomputable def u576v0 (P : Params) : Obj := ⟨.type "tuple", none, (.seq #[.str "self" 931] 0), #[]⟩
noncomputable def u577v0 (P : Params) : Obj := ⟨.type "tuple", none, (.seq #[] 0), #[]⟩
noncomputable def u578v0 (P : Params) : Obj := ⟨.none, none, (fG [21, 38] "Emitter.choose_scalar_style" 0 [] .none .none .none .none none .none .none 0), #[]⟩
noncomputable def u579v0 (P : Params) : Obj := ⟨.type "code", none, (.fields #[.str "choose_scalar_style" 928, .str "Emitter.choose_scalar_style" 929, .str "/claim/cut.py" 930, .int 448 0, .int 1 0, .int 0 0, .int 0 0, .int 3 0, .ref 574, .bool true, .int 181 0, .ref 575, .none, .ref 576, .ref 577, .ref 578, .int 932 0, .int 448 0, .str "/claim/cut.py" 933]), #[]⟩
noncomputable def u580v0 (P : Params) : Obj := ⟨.type "function", none, (fD [21, 38] "Emitter.choose_scalar_style" .none .none .none (.str "yaml.emitter" 560) none (.ref 579) .none 0), #[]⟩
noncomputable def u581v0 (P : Params) : Obj := ⟨.type "tuple", none, (.seq #[] 0), #[]⟩
noncomputable def u582v0 (P : Params) : Obj := ⟨.none, none, (.fields #[]), #[]⟩
noncomputable def u583v0 (P : Params) : Obj := ⟨.type "tuple", none, (.seq #[.str "self" 938, .str "split" 939] 0), #[]⟩
noncomputable def u584v0 (P : Params) : Obj := ⟨.type "tuple", none, (.seq #[] 0), #[]⟩
noncomputable def u585v0 (P : Params) : Obj := ⟨.none, none, (fG [21, 39] "Emitter.process_scalar" 0 [] .none .none .none .none none .none .none 0), #[]⟩
noncomputable def u586v0 (P : Params) : Obj := ⟨.type "code", none, (.fields #[.str "process_scalar" 935, .str "Emitter.process_scalar" 936, .str "/claim/cut.py" 937, .int 464 0, .int 1 0, .int 0 0, .int 0 0, .int 3 0, .ref 581, .bool true, .int 181 0, .ref 582, .none, .ref 583, .ref 584, .ref 585, .int 940 0, .int 464 0, .str "/claim/cut.py" 941]), #[]⟩
noncomputable def u587v0 (P : Params) : Obj := ⟨.type "function", none, (fD [21, 39] "Emitter.process_scalar" .none .none .none (.str "yaml.emitter" 560) none (.ref 586) .none 0), #[]⟩
noncomputable def u588v0 (P : Params) : Obj := ⟨.type "tuple", none, (.seq #[] 0), #[]⟩
noncomputable def u589v0 (P : Params) : Obj := ⟨.none, none, (.fields #[]), #[]⟩
noncomputable def u590v0 (P : Params) : Obj := ⟨.type "tuple", none, (.seq #[.str "self" 946, .str "version" 947, .str "major" 948, .str "minor" 949] 0), #[]⟩
noncomputable def u591v0 (P : Params) : Obj := ⟨.type "tuple", none, (.seq #[] 0), #[]⟩
noncomputable def u592v0 (P : Params) : Obj := ⟨.none, none, (fG [21, 40] "Emitter.prepare_version" 0 [] .none .none .none .none none .none .none 0), #[]⟩
noncomputable def u593v0 (P : Params) : Obj := ⟨.type "code", none, (.fields #[.str "prepare_version" 943, .str "Emitter.prepare_version" 944, .str "/claim/cut.py" 945, .int 483 0, .int 2 0, .int 0 0, .int 0 0, .int 3 0, .ref 588, .bool true, .int 181 0, .ref 589, .none, .ref 590, .ref 591, .ref 592, .int 950 0, .int 483 0, .str "/claim/cut.py" 951]), #[]⟩
noncomputable def u594v0 (P : Params) : Obj := ⟨.type "function", none, (fD [21, 40] "Emitter.prepare_version" .none .none .none (.str "yaml.emitter" 560) none (.ref 593) .none 0), #[]⟩
noncomputable def u595v0 (P : Params) : Obj := ⟨.type "tuple", none, (.seq #[] 0), #[]⟩
noncomputable def u596v0 (P : Params) : Obj := ⟨.none, none, (.fields #[]), #[]⟩
noncomputable def u597v0 (P : Params) : Obj := ⟨.type "tuple", none, (.seq #[.str "self" 956, .str "handle" 957, .str "ch" 958] 0), #[]⟩
noncomputable def u598v0 (P : Params) : Obj := ⟨.type "tuple", none, (.seq #[] 0), #[]⟩
noncomputable def u599v0 (P : Params) : Obj := ⟨.none, none, (fG [21, 41] "Emitter.prepare_tag_handle" 0 [] .none .none .none .none none .none .none 0), #[]⟩
noncomputable def u600v0 (P : Params) : Obj := ⟨.type "code", none, (.fields #[.str "prepare_tag_handle" 953, .str "Emitter.prepare_tag_handle" 954, .str "/claim/cut.py" 955, .int 489 0, .int 2 0, .int 0 0, .int 0 0, .int 3 0, .ref 595, .bool true, .int 181 0, .ref 596, .none, .ref 597, .ref 598, .ref 599, .int 959 0, .int 489 0, .str "/claim/cut.py" 960]), #[]⟩
noncomputable def u601v0 (P : Params) : Obj := ⟨.type "function", none, (fD [21, 41] "Emitter.prepare_tag_handle" .none .none .none (.str "yaml.emitter" 560) none (.ref 600) .none 0), #[]⟩
noncomputable def u602v0 (P : Params) : Obj := ⟨.type "tuple", none, (.seq #[] 0), #[]⟩
noncomputable def u603v0 (P : Params) : Obj := ⟨.none, none, (.fields #[]), #[]⟩
noncomputable def u604v0 (P : Params) : Obj := ⟨.type "tuple", none, (.seq #[.str "self" 965, .str "prefix" 966, .str "chunks" 967, .str "start" 968, .str "end" 969, .str "ch" 970, .str "data" 971] 0), #[]⟩
noncomputable def u605v0 (P : Params) : Obj := ⟨.type "tuple", none, (.seq #[] 0), #[]⟩
noncomputable def u606v0 (P : Params) : Obj := ⟨.none, none, (fG [21, 42] "Emitter.prepare_tag_prefix" 0 [] .none .none .none .none none .none .none 0), #[]⟩
noncomputable def u607v0 (P : Params) : Obj := ⟨.type "code", none, (.fields #[.str "prepare_tag_prefix" 962, .str "Emitter.prepare_tag_prefix" 963, .str "/claim/cut.py" 964, .int 499 0, .int 2 0, .int 0 0, .int 0 0, .int 3 0, .ref 602, .bool true, .int 181 0, .ref 603, .none, .ref 604, .ref 605, .ref 606, .int 972 0, .int 499 0, .str "/claim/cut.py" 973]), #[]⟩
noncomputable def u608v0 (P : Params) : Obj := ⟨.type "function", none, (fD [21, 42] "Emitter.prepare_tag_prefix" .none .none .none (.str "yaml.emitter" 560) none (.ref 607) .none 0), #[]⟩
noncomputable def u609v0 (P : Params) : Obj := ⟨.type "tuple", none, (.seq #[] 0), #[]⟩
noncomputable def u610v0 (P : Params) : Obj := ⟨.none, none, (.fields #[]), #[]⟩
noncomputable def u611v0 (P : Params) : Obj := ⟨.type "tuple", none, (.seq #[.str "self" 978, .str "tag" 979, .str "handle" 980, .str "suffix" 981, .str "prefixes" 982, .str "prefix" 983, .str "chunks" 984, .str "start" 985, .str "end" 986, .str "ch" 987, .str "data" 988, .str "suffix_text" 989] 0), #[]⟩
noncomputable def u612v0 (P : Params) : Obj := ⟨.type "tuple", none, (.seq #[] 0), #[]⟩
noncomputable def u613v0 (P : Params) : Obj := ⟨.none, none, (fG [21, 43] "Emitter.prepare_tag" 0 [] .none .none .none .none none .none .none 0), #[]⟩
noncomputable def u614v0 (P : Params) : Obj := ⟨.type "code", none, (.fields #[.str "prepare_tag" 975, .str "Emitter.prepare_tag" 976, .str "/claim/cut.py" 977, .int 521 0, .int 2 0, .int 0 0, .int 0 0, .int 3 0, .ref 609, .bool true, .int 181 0, .ref 610, .none, .ref 611, .ref 612, .ref 613, .int 990 0, .int 521 0, .str "/claim/cut.py" 991]), #[]⟩
noncomputable def u615v0 (P : Params) : Obj := ⟨.type "function", none, (fD [21, 43] "Emitter.prepare_tag" .none .none .none (.str "yaml.emitter" 560) none (.ref 614) .none 0), #[]⟩
noncomputable def u616v0 (P : Params) : Obj := ⟨.type "tuple", none, (.seq #[] 0), #[]⟩
noncomputable def u617v0 (P : Params) : Obj := ⟨.none, none, (.fields #[]), #[]⟩
noncomputable def u618v0 (P : Params) : Obj := ⟨.type "tuple", none, (.seq #[.str "self" 996, .str "anchor" 997, .str "ch" 998] 0), #[]⟩
noncomputable def u619v0 (P : Params) : Obj := ⟨.type "tuple", none, (.seq #[] 0), #[]⟩
noncomputable def u620v0 (P : Params) : Obj := ⟨.none, none, (fG [21, 44] "Emitter.prepare_anchor" 0 [] .none .none .none .none none .none .none 0), #[]⟩
noncomputable def u621v0 (P : Params) : Obj := ⟨.type "code", none, (.fields #[.str "prepare_anchor" 993, .str "Emitter.prepare_anchor" 994, .str "/claim/cut.py" 995, .int 554 0, .int 2 0, .int 0 0, .int 0 0, .int 3 0, .ref 616, .bool true, .int 181 0, .ref 617, .none, .ref 618, .ref 619, .ref 620, .int 999 0, .int 554 0, .str "/claim/cut.py" 1000]), #[]⟩
noncomputable def u622v0 (P : Params) : Obj := ⟨.type "function", none, (fD [21, 44] "Emitter.prepare_anchor" .none .none .none (.str "yaml.emitter" 560) none (.ref 621) .none 0), #[]⟩
noncomputable def u623v0 (P : Params) : Obj := ⟨.type "tuple", none, (.seq #[] 0), #[]⟩
noncomputable def u624v0 (P : Params) : Obj := ⟨.none, none, (.fields #[]), #[]⟩
noncomputable def u625v0 (P : Params) : Obj := ⟨.type "tuple", none, (.seq #[.str "self" 1005, .str "scalar" 1006, .str "block_indicators" 1007, .str "flow_indicators" 1008, .str "line_breaks" 1009, .str "special_characters" 1010, .str "leading_space" 1011, .str "leading_break" 1012, .str "trailing_space" 1013, .str "trailing_break" 1014, .str "break_space" 1015, .str "space_break" 1016, .str "preceded_by_whitespace" 1017, .str "followed_by_whitespace" 1018, .str "previous_space" 1019, .str "previous_break" 1020, .str "index" 1021, .str "ch" 1022, .str "unicode_characters" 1023, .str "allow_flow_plain" 1024, .str "allow_block_plain" 1025, .str "allow_single_quoted" 1026, .str "allow_double_quoted" 1027, .str "allow_block" 1028] 0), #[]⟩
noncomputable def u626v0 (P : Params) : Obj := ⟨.type "tuple", none, (.seq #[] 0), #[]⟩
noncomputable def u627v0 (P : Params) : Obj := ⟨.none, none, (fG [21, 45] "Emitter.analyze_scalar" 0 [] .none .none .none .none none .none .none 0), #[]⟩
noncomputable def u628v0 (P : Params) : Obj := ⟨.type "code", none, (.fields #[.str "analyze_scalar" 1002, .str "Emitter.analyze_scalar" 1003, .str "/claim/cut.py" 1004, .int 562 0, .int 2 0, .int 0 0, .int 0 0, .int 3 0, .ref 623, .bool true, .int 181 0, .ref 624, .none, .ref 625, .ref 626, .ref 627, .int 1029 0, .int 562 0, .str "/claim/cut.py" 1030]), #[]⟩
noncomputable def u629v0 (P : Params) : Obj := ⟨.type "function", none, (fD [21, 45] "Emitter.analyze_scalar" .none .none .none (.str "yaml.emitter" 560) none (.ref 628) .none 0), #[]⟩
noncomputable def u630v0 (P : Params) : Obj := ⟨.type "tuple", none, (.seq #[] 0), #[]⟩
noncomputable def u631v0 (P : Params) : Obj := ⟨.none, none, (.fields #[]), #[]⟩
noncomputable def u632v0 (P : Params) : Obj := ⟨.type "tuple", none, (.seq #[.str "self" 1035] 0), #[]⟩
noncomputable def u633v0 (P : Params) : Obj := ⟨.type "tuple", none, (.seq #[] 0), #[]⟩
noncomputable def u634v0 (P : Params) : Obj := ⟨.none, none, (fG [21, 46] "Emitter.flush_stream" 0 [] .none .none .none .none none .none .none 0), #[]⟩
noncomputable def u635v0 (P : Params) : Obj := ⟨.type "code", none, (.fields #[.str "flush_stream" 1032, .str "Emitter.flush_stream" 1033, .str "/claim/cut.py" 1034, .int 660 0, .int 1 0, .int 0 0, .int 0 0, .int 3 0, .ref 630, .bool true, .int 181 0, .ref 631, .none, .ref 632, .ref 633, .ref 634, .int 1036 0, .int 660 0, .str "/claim/cut.py" 1037]), #[]⟩
noncomputable def u636v0 (P : Params) : Obj := ⟨.type "function", none, (fD [21, 46] "Emitter.flush_stream" .none .none .none (.str "yaml.emitter" 560) none (.ref 635) .none 0), #[]⟩
noncomputable def u637v0 (P : Params) : Obj := ⟨.type "tuple", none, (.seq #[] 0), #[]⟩
noncomputable def u638v0 (P : Params) : Obj := ⟨.none, none, (.fields #[]), #[]⟩
noncomputable def u639v0 (P : Params) : Obj := ⟨.type "tuple", none, (.seq #[.str "self" 1042] 0), #[]⟩
noncomputable def u640v0 (P : Params) : Obj := ⟨.type "tuple", none, (.seq #[] 0), #[]⟩
noncomputable def u641v0 (P : Params) : Obj := ⟨.none, none, (fG [21, 47] "Emitter.write_stream_start" 0 [] .none .none .none .none none .none .none 0), #[]⟩
noncomputable def u642v0 (P : Params) : Obj := ⟨.type "code", none, (.fields #[.str "write_stream_start" 1039, .str "Emitter.write_stream_start" 1040, .str "/claim/cut.py" 1041, .int 663 0, .int 1 0, .int 0 0, .int 0 0, .int 3 0, .ref 637, .bool true, .int 181 0, .ref 638, .none, .ref 639, .ref 640, .ref 641, .int 1043 0, .int 663 0, .str "/claim/cut.py" 1044]), #[]⟩
noncomputable def u643v0 (P : Params) : Obj := ⟨.type "function", none, (fD [21, 47] "Emitter.write_stream_start" .none .none .none (.str "yaml.emitter" 560) none (.ref 642) .none 0), #[]⟩
noncomputable def u644v0 (P : Params) : Obj := ⟨.type "tuple", none, (.seq #[] 0), #[]⟩
noncomputable def u645v0 (P : Params) : Obj := ⟨.none, none, (.fields #[]), #[]⟩
noncomputable def u646v0 (P : Params) : Obj := ⟨.type "tuple", none, (.seq #[.str "self" 1049] 0), #[]⟩
noncomputable def u647v0 (P : Params) : Obj := ⟨.type "tuple", none, (.seq #[] 0), #[]⟩
noncomputable def u648v0 (P : Params) : Obj := ⟨.none, none, (fG [21, 48] "Emitter.write_stream_end" 0 [] .none .none .none .none none .none .none 0), #[]⟩
noncomputable def u649v0 (P : Params) : Obj := ⟨.type "code", none, (.fields #[.str "write_stream_end" 1046, .str "Emitter.write_stream_end" 1047, .str "/claim/cut.py" 1048, .int 666 0, .int 1 0, .int 0 0, .int 0 0, .int 3 0, .ref 644, .bool true, .int 181 0, .ref 645, .none, .ref 646, .ref 647, .ref 648, .int 1050 0, .int 666 0, .str "/claim/cut.py" 1051]), #[]⟩
noncomputable def u650v0 (P : Params) : Obj := ⟨.type "function", none, (fD [21, 48] "Emitter.write_stream_end" .none .none .none (.str "yaml.emitter" 560) none (.ref 649) .none 0), #[]⟩
noncomputable def u651v0 (P : Params) : Obj := ⟨.type "tuple", none, (.seq #[.bool false, .bool false] 0), #[]⟩
noncomputable def u652v0 (P : Params) : Obj := ⟨.type "tuple", none, (.seq #[] 0), #[]⟩
noncomputable def u653v0 (P : Params) : Obj := ⟨.none, none, (.fields #[]), #[]⟩
noncomputable def u654v0 (P : Params) : Obj := ⟨.type "tuple", none, (.seq #[.str "self" 1056, .str "indicator" 1057, .str "need_whitespace" 1058, .str "whitespace" 1059, .str "indention" 1060, .str "data" 1061] 0), #[]⟩
noncomputable def u655v0 (P : Params) : Obj := ⟨.type "tuple", none, (.seq #[] 0), #[]⟩
noncomputable def u656v0 (P : Params) : Obj := ⟨.none, none, (fG [21, 49] "Emitter.write_indicator" 0 [] .none .none .none .none none .none .none 0), #[]⟩
noncomputable def u657v0 (P : Params) : Obj := ⟨.type "code", none, (.fields #[.str "write_indicator" 1053, .str "Emitter.write_indicator" 1054, .str "/claim/cut.py" 1055, .int 669 0, .int 5 0, .int 0 0, .int 0 0, .int 3 0, .ref 652, .bool true, .int 181 0, .ref 653, .none, .ref 654, .ref 655, .ref 656, .int 1062 0, .int 669 0, .str "/claim/cut.py" 1063]), #[]⟩
noncomputable def u658v0 (P : Params) : Obj := ⟨.type "function", none, (fD [21, 49] "Emitter.write_indicator" (.ref 651) .none .none (.str "yaml.emitter" 560) none (.ref 657) .none 0), #[]⟩
noncomputable def u659v0 (P : Params) : Obj := ⟨.type "tuple", none, (.seq #[] 0), #[]⟩
noncomputable def u660v0 (P : Params) : Obj := ⟨.none, none, (.fields #[]), #[]⟩
noncomputable def u661v0 (P : Params) : Obj := ⟨.type "tuple", none, (.seq #[.str "self" 1068, .str "indent" 1069, .str "data" 1070] 0), #[]⟩
noncomputable def u662v0 (P : Params) : Obj := ⟨.type "tuple", none, (.seq #[] 0), #[]⟩
noncomputable def u663v0 (P : Params) : Obj := ⟨.none, none, (fG [21, 50] "Emitter.write_indent" 0 [] .none .none .none .none none .none .none 0), #[]⟩
noncomputable def u664v0 (P : Params) : Obj := ⟨.type "code", none, (.fields #[.str "write_indent" 1065, .str "Emitter.write_indent" 1066, .str "/claim/cut.py" 1067, .int 680 0, .int 1 0, .int 0 0, .int 0 0, .int 3 0, .ref 659, .bool true, .int 181 0, .ref 660, .none, .ref 661, .ref 662, .ref 663, .int 1071 0, .int 680 0, .str "/claim/cut.py" 1072]), #[]⟩
noncomputable def u665v0 (P : Params) : Obj := ⟨.type "function", none, (fD [21, 50] "Emitter.write_indent" .none .none .none (.str "yaml.emitter" 560) none (.ref 664) .none 0), #[]⟩
noncomputable def u666v0 (P : Params) : Obj := ⟨.type "tuple", none, (.seq #[.none] 0), #[]⟩
noncomputable def u667v0 (P : Params) : Obj := ⟨.type "tuple", none, (.seq #[] 0), #[]⟩
noncomputable def u668v0 (P : Params) : Obj := ⟨.none, none, (.fields #[]), #[]⟩
noncomputable def u669v0 (P : Params) : Obj := ⟨.type "tuple", none, (.seq #[.str "self" 1077, .str "data" 1078] 0), #[]⟩
noncomputable def u670v0 (P : Params) : Obj := ⟨.type "tuple", none, (.seq #[] 0), #[]⟩
noncomputable def u671v0 (P : Params) : Obj := ⟨.none, none, (fG [21, 51] "Emitter.write_line_break" 0 [] .none .none .none .none none .none .none 0), #[]⟩
noncomputable def u672v0 (P : Params) : Obj := ⟨.type "code", none, (.fields #[.str "write_line_break" 1074, .str "Emitter.write_line_break" 1075, .str "/claim/cut.py" 1076, .int 690 0, .int 2 0, .int 0 0, .int 0 0, .int 3 0, .ref 667, .bool true, .int 181 0, .ref 668, .none, .ref 669, .ref 670, .ref 671, .int 1079 0, .int 690 0, .str "/claim/cut.py" 1080]), #[]⟩
noncomputable def u673v0 (P : Params) : Obj := ⟨.type "function", none, (fD [21, 51] "Emitter.write_line_break" (.ref 666) .none .none (.str "yaml.emitter" 560) none (.ref 672) .none 0), #[]⟩
noncomputable def u674v0 (P : Params) : Obj := ⟨.type "tuple", none, (.seq #[] 0), #[]⟩
noncomputable def u675v0 (P : Params) : Obj := ⟨.none, none, (.fields #[]), #[]⟩
noncomputable def u676v0 (P : Params) : Obj := ⟨.type "tuple", none, (.seq #[.str "self" 1085, .str "version_text" 1086, .str "data" 1087] 0), #[]⟩
noncomputable def u677v0 (P : Params) : Obj := ⟨.type "tuple", none, (.seq #[] 0), #[]⟩
noncomputable def u678v0 (P : Params) : Obj := ⟨.none, none, (fG [21, 52] "Emitter.write_version_directive" 0 [] .none .none .none .none none .none .none 0), #[]⟩
noncomputable def u679v0 (P : Params) : Obj := ⟨.type "code", none, (.fields #[.str "write_version_directive" 1082, .str "Emitter.write_version_directive" 1083, .str "/claim/cut.py" 1084, .int 699 0, .int 2 0, .int 0 0, .int 0 0, .int 3 0, .ref 674, .bool true, .int 181 0, .ref 675, .none, .ref 676, .ref 677, .ref 678, .int 1088 0, .int 699 0, .str "/claim/cut.py" 1089]), #[]⟩
noncomputable def u680v0 (P : Params) : Obj := ⟨.type "function", none, (fD [21, 52] "Emitter.write_version_directive" .none .none .none (.str "yaml.emitter" 560) none (.ref 679) .none 0), #[]⟩
noncomputable def u681v0 (P : Params) : Obj := ⟨.type "tuple", none, (.seq #[] 0), #[]⟩
noncomputable def u682v0 (P : Params) : Obj := ⟨.none, none, (.fields #[]), #[]⟩
noncomputable def u683v0 (P : Params) : Obj := ⟨.type "tuple", none, (.seq #[.str "self" 1094, .str "handle_text" 1095, .str "prefix_text" 1096, .str "data" 1097] 0), #[]⟩
noncomputable def u684v0 (P : Params) : Obj := ⟨.type "tuple", none, (.seq #[] 0), #[]⟩
noncomputable def u685v0 (P : Params) : Obj := ⟨.none, none, (fG [21, 53] "Emitter.write_tag_directive" 0 [] .none .none .none .none none .none .none 0), #[]⟩
noncomputable def u686v0 (P : Params) : Obj := ⟨.type "code", none, (.fields #[.str "write_tag_directive" 1091, .str "Emitter.write_tag_directive" 1092, .str "/claim/cut.py" 1093, .int 704 0, .int 3 0, .int 0 0, .int 0 0, .int 3 0, .ref 681, .bool true, .int 181 0, .ref 682, .none, .ref 683, .ref 684, .ref 685, .int 1098 0, .int 704 0, .str "/claim/cut.py" 1099]), #[]⟩
noncomputable def u687v0 (P : Params) : Obj := ⟨.type "function", none, (fD [21, 53] "Emitter.write_tag_directive" .none .none .none (.str "yaml.emitter" 560) none (.ref 686) .none 0), #[]⟩
noncomputable def u688v0 (P : Params) : Obj := ⟨.type "tuple", none, (.seq #[.bool true] 0), #[]⟩
noncomputable def u689v0 (P : Params) : Obj := ⟨.type "tuple", none, (.seq #[] 0), #[]⟩
noncomputable def u690v0 (P : Params) : Obj := ⟨.none, none, (.fields #[]), #[]⟩
noncomputable def u691v0 (P : Params) : Obj := ⟨.type "tuple", none, (.seq #[.str "self" 1104, .str "text" 1105, .str "split" 1106, .str "spaces" 1107, .str "breaks" 1108, .str "start" 1109, .str "end" 1110, .str "ch" 1111, .str "data" 1112, .str "br" 1113] 0), #[]⟩
noncomputable def u692v0 (P : Params) : Obj := ⟨.type "tuple", none, (.seq #[] 0), #[]⟩
noncomputable def u693v0 (P : Params) : Obj := ⟨.none, none, (fG [21, 54] "Emitter.write_single_quoted" 0 [] .none .none .none .none none .none .none 0), #[]⟩
noncomputable def u694v0 (P : Params) : Obj := ⟨.type "code", none, (.fields #[.str "write_single_quoted" 1101, .str "Emitter.write_single_quoted" 1102, .str "/claim/cut.py" 1103, .int 709 0, .int 3 0, .int 0 0, .int 0 0, .int 3 0, .ref 689, .bool true, .int 181 0, .ref 690, .none, .ref 691, .ref 692, .ref 693, .int 1114 0, .int 709 0, .str "/claim/cut.py" 1115]), #[]⟩
noncomputable def u695v0 (P : Params) : Obj := ⟨.type "function", none, (fD [21, 54] "Emitter.write_single_quoted" (.ref 688) .none .none (.str "yaml.emitter" 560) none (.ref 694) .none 0), #[]⟩
noncomputable def u696v0 (P : Params) : Obj := ⟨.type "dict", none, (.dict #[dE P "\u0000" 1117 (.str "0" 1118), dE P "\u0007" 1119 (.str "a" 1120), dE P "\u0008" 1121 (.str "b" 1122), dE P "\t" 1123 (.str "t" 1124), dE P "\n" 1125 (.str "n" 1126), dE P "\u000b" 1127 (.str "v" 1128), dE P "\u000c" 1129 (.str "f" 1130), dE P "\u000d" 1131 (.str "r" 1132), dE P "\u001b" 1133 (.str "e" 1134), dE P "\"" 1135 (.str "\"" 1136), dE P "\\" 1137 (.str "\\" 1138), dE P "\u0085" 1139 (.str "N" 1140), dE P "\u00a0" 1141 (.str "_" 1142), dE P "\u2028" 1143 (.str "L" 1144), dE P "\u2029" 1145 (.str "P" 1146)] 15), #[]⟩
noncomputable def u697v0 (P : Params) : Obj := ⟨.type "tuple", none, (.seq #[.bool true] 0), #[]⟩
noncomputable def u698v0 (P : Params) : Obj := ⟨.type "tuple", none, (.seq #[] 0), #[]⟩
noncomputable def u699v0 (P : Params) : Obj := ⟨.none, none, (.fields #[]), #[]⟩
noncomputable def u700v0 (P : Params) : Obj := ⟨.type "tuple", none, (.seq #[.str "self" 1166, .str "text" 1167, .str "split" 1168, .str "start" 1169, .str "end" 1170, .str "ch" 1171, .str "data" 1172] 0), #[]⟩
noncomputable def u701v0 (P : Params) : Obj := ⟨.type "tuple", none, (.seq #[] 0), #[]⟩
noncomputable def u702v0 (P : Params) : Obj := ⟨.none, none, (fG [21, 56] "Emitter.write_double_quoted" 0 [] .none .none .none .none none .none .none 0), #[]⟩
noncomputable def u703v0 (P : Params) : Obj := ⟨.type "code", none, (.fields #[.str "write_double_quoted" 1163, .str "Emitter.write_double_quoted" 1164, .str "/claim/cut.py" 1165, .int 756 0, .int 3 0, .int 0 0, .int 0 0, .int 3 0, .ref 698, .bool true, .int 181 0, .ref 699, .none, .ref 700, .ref 701, .ref 702, .int 1173 0, .int 756 0, .str "/claim/cut.py" 1174]), #[]⟩
noncomputable def u704v0 (P : Params) : Obj := ⟨.type "function", none, (fD [21, 56] "Emitter.write_double_quoted" (.ref 697) .none .none (.str "yaml.emitter" 560) none (.ref 703) .none 0), #[]⟩
noncomputable def u705v0 (P : Params) : Obj := ⟨.type "tuple", none, (.seq #[] 0), #[]⟩
noncomputable def u706v0 (P : Params) : Obj := ⟨.none, none, (.fields #[]), #[]⟩
noncomputable def u707v0 (P : Params) : Obj := ⟨.type "tuple", none, (.seq #[.str "self" 1179, .str "text" 1180, .str "hints" 1181] 0), #[]⟩
noncomputable def u708v0 (P : Params) : Obj := ⟨.type "tuple", none, (.seq #[] 0), #[]⟩
noncomputable def u709v0 (P : Params) : Obj := ⟨.none, none, (fG [21, 57] "Emitter.determine_block_hints" 0 [] .none .none .none .none none .none .none 0), #[]⟩
noncomputable def u710v0 (P : Params) : Obj := ⟨.type "code", none, (.fields #[.str "determine_block_hints" 1176, .str "Emitter.determine_block_hints" 1177, .str "/claim/cut.py" 1178, .int 797 0, .int 2 0, .int 0 0, .int 0 0, .int 3 0, .ref 705, .bool true, .int 181 0, .ref 706, .none, .ref 707, .ref 708, .ref 709, .int 1182 0, .int 797 0, .str "/claim/cut.py" 1183]), #[]⟩
noncomputable def u711v0 (P : Params) : Obj := ⟨.type "function", none, (fD [21, 57] "Emitter.determine_block_hints" .none .none .none (.str "yaml.emitter" 560) none (.ref 710) .none 0), #[]⟩
noncomputable def u712v0 (P : Params) : Obj := ⟨.type "tuple", none, (.seq #[] 0), #[]⟩
noncomputable def u713v0 (P : Params) : Obj := ⟨.none, none, (.fields #[]), #[]⟩
noncomputable def u714v0 (P : Params) : Obj := ⟨.type "tuple", none, (.seq #[.str "self" 1188, .str "text" 1189, .str "hints" 1190, .str "leading_space" 1191, .str "spaces" 1192, .str "breaks" 1193, .str "start" 1194, .str "end" 1195, .str "ch" 1196, .str "br" 1197, .str "data" 1198] 0), #[]⟩
noncomputable def u715v0 (P : Params) : Obj := ⟨.type "tuple", none, (.seq #[] 0), #[]⟩
noncomputable def u716v0 (P : Params) : Obj := ⟨.none, none, (fG [21, 58] "Emitter.write_folded" 0 [] .none .none .none .none none .none .none 0), #[]⟩
noncomputable def u717v0 (P : Params) : Obj := ⟨.type "code", none, (.fields #[.str "write_folded" 1185, .str "Emitter.write_folded" 1186, .str "/claim/cut.py" 1187, .int 808 0, .int 2 0, .int 0 0, .int 0 0, .int 3 0, .ref 712, .bool true, .int 181 0, .ref 713, .none, .ref 714, .ref 715, .ref 716, .int 1199 0, .int 808 0, .str "/claim/cut.py" 1200]), #[]⟩
noncomputable def u718v0 (P : Params) : Obj := ⟨.type "function", none, (fD [21, 58] "Emitter.write_folded" .none .none .none (.str "yaml.emitter" 560) none (.ref 717) .none 0), #[]⟩
noncomputable def u719v0 (P : Params) : Obj := ⟨.type "tuple", none, (.seq #[] 0), #[]⟩
noncomputable def u720v0 (P : Params) : Obj := ⟨.none, none, (.fields #[]), #[]⟩
noncomputable def u721v0 (P : Params) : Obj := ⟨.type "tuple", none, (.seq #[.str "self" 1205, .str "text" 1206, .str "hints" 1207, .str "breaks" 1208, .str "start" 1209, .str "end" 1210, .str "ch" 1211, .str "br" 1212, .str "data" 1213] 0), #[]⟩
noncomputable def u722v0 (P : Params) : Obj := ⟨.type "tuple", none, (.seq #[] 0), #[]⟩
noncomputable def u723v0 (P : Params) : Obj := ⟨.none, none, (fG [21, 59] "Emitter.write_literal" 0 [] .none .none .none .none none .none .none 0), #[]⟩
noncomputable def u724v0 (P : Params) : Obj := ⟨.type "code", none, (.fields #[.str "write_literal" 1202, .str "Emitter.write_literal" 1203, .str "/claim/cut.py" 1204, .int 856 0, .int 2 0, .int 0 0, .int 0 0, .int 3 0, .ref 719, .bool true, .int 181 0, .ref 720, .none, .ref 721, .ref 722, .ref 723, .int 1214 0, .int 856 0, .str "/claim/cut.py" 1215]), #[]⟩
noncomputable def u725v0 (P : Params) : Obj := ⟨.type "function", none, (fD [21, 59] "Emitter.write_literal" .none .none .none (.str "yaml.emitter" 560) none (.ref 724) .none 0), #[]⟩
noncomputable def u726v0 (P : Params) : Obj := ⟨.type "tuple", none, (.seq #[.bool true] 0), #[]⟩
noncomputable def u727v0 (P : Params) : Obj := ⟨.type "tuple", none, (.seq #[] 0), #[]⟩
noncomputable def u728v0 (P : Params) : Obj := ⟨.none, none, (.fields #[]), #[]⟩
noncomputable def u729v0 (P : Params) : Obj := ⟨.type "tuple", none, (.seq #[.str "self" 1220, .str "text" 1221, .str "split" 1222, .str "data" 1223, .str "spaces" 1224, .str "breaks" 1225, .str "start" 1226, .str "end" 1227, .str "ch" 1228, .str "br" 1229] 0), #[]⟩
noncomputable def u730v0 (P : Params) : Obj := ⟨.type "tuple", none, (.seq #[] 0), #[]⟩
noncomputable def u731v0 (P : Params) : Obj := ⟨.none, none, (fG [21, 60] "Emitter.write_plain" 0 [] .none .none .none .none none .none .none 0), #[]⟩
noncomputable def u732v0 (P : Params) : Obj := ⟨.type "code", none, (.fields #[.str "write_plain" 1217, .str "Emitter.write_plain" 1218, .str "/claim/cut.py" 1219, .int 888 0, .int 3 0, .int 0 0, .int 0 0, .int 3 0, .ref 727, .bool true, .int 181 0, .ref 728, .none, .ref 729, .ref 730, .ref 731, .int 1230 0, .int 888 0, .str "/claim/cut.py" 1231]), #[]⟩
noncomputable def u733v0 (P : Params) : Obj := ⟨.type "function", none, (fD [21, 60] "Emitter.write_plain" (.ref 726) .none .none (.str "yaml.emitter" 560) none (.ref 732) .none 0), #[]⟩
noncomputable def u734v0 (P : Params) : Obj := ⟨.type "tuple", none, (.seq #[.str "allow_unicode" 1233, .str "analysis" 1234, .str "best_indent" 1235, .str "best_line_break" 1236, .str "best_width" 1237, .str "canonical" 1238, .str "column" 1239, .str "encoding" 1240, .str "event" 1241, .str "events" 1242, .str "flow_level" 1243, .str "indent" 1244, .str "indention" 1245, .str "indents" 1246, .str "line" 1247, .str "mapping_context" 1248, .str "open_ended" 1249, .str "prepared_anchor" 1250, .str "prepared_tag" 1251, .str "root_context" 1252, .str "sequence_context" 1253, .str "simple_key_context" 1254, .str "state" 1255, .str "states" 1256, .str "stream" 1257, .str "style" 1258, .str "tag_prefixes" 1259, .str "whitespace" 1260] 0), #[]⟩
noncomputable def u735v0 (P : Params) : Obj := ⟨.type "dict", none, (.dict #[dE P "__module__" 628 (.str "yaml.emitter" 560), dE P "__firstlineno__" 632 (.int 89 631), dE P "DEFAULT_TAG_PREFIXES" 639 (.ref 308), dE P "__init__" 652 (.ref 316), dE P "dispose" 659 (.ref 323), dE P "emit" 667 (.ref 330), dE P "need_more_events" 674 (.ref 337), dE P "need_events" 682 (.ref 344), dE P "increase_indent" 691 (.ref 352), dE P "expect_stream_start" 698 (.ref 359), dE P "expect_nothing" 705 (.ref 366), dE P "expect_first_document_start" 712 (.ref 373), dE P "expect_document_start" 727 (.ref 381), dE P "expect_document_end" 734 (.ref 388), dE P "expect_document_root" 741 (.ref 395), dE P "expect_node" 752 (.ref 403), dE P "expect_alias" 759 (.ref 410), dE P "expect_scalar" 766 (.ref 417), dE P "expect_flow_sequence" 773 (.ref 424), dE P "expect_first_flow_sequence_item" 780 (.ref 431), dE P "expect_flow_sequence_item" 787 (.ref 438), dE P "expect_flow_mapping" 794 (.ref 445), dE P "expect_first_flow_mapping_key" 801 (.ref 452), dE P "expect_flow_mapping_key" 808 (.ref 459), dE P "expect_flow_mapping_simple_value" 815 (.ref 466), dE P "expect_flow_mapping_value" 822 (.ref 473), dE P "expect_block_sequence" 830 (.ref 480), dE P "expect_first_block_sequence_item" 837 (.ref 487), dE P "expect_block_sequence_item" 845 (.ref 495), dE P "expect_block_mapping" 852 (.ref 502), dE P "expect_first_block_mapping_key" 859 (.ref 509), dE P "expect_block_mapping_key" 867 (.ref 517), dE P "expect_block_mapping_simple_value" 874 (.ref 524), dE P "expect_block_mapping_value" 881 (.ref 531), dE P "check_empty_sequence" 888 (.ref 538), dE P "check_empty_mapping" 895 (.ref 545), dE P "check_empty_document" 903 (.ref 552), dE P "check_simple_key" 911 (.ref 559), dE P "process_anchor" 919 (.ref 566), dE P "process_tag" 927 (.ref 573), dE P "choose_scalar_style" 934 (.ref 580), dE P "process_scalar" 942 (.ref 587), dE P "prepare_version" 952 (.ref 594), dE P "prepare_tag_handle" 961 (.ref 601), dE P "prepare_tag_prefix" 974 (.ref 608), dE P "prepare_tag" 992 (.ref 615), dE P "prepare_anchor" 1001 (.ref 622), dE P "analyze_scalar" 1031 (.ref 629), dE P "flush_stream" 1038 (.ref 636), dE P "write_stream_start" 1045 (.ref 643), dE P "write_stream_end" 1052 (.ref 650), dE P "write_indicator" 1064 (.ref 658), dE P "write_indent" 1073 (.ref 665), dE P "write_line_break" 1081 (.ref 673), dE P "write_version_directive" 1090 (.ref 680), dE P "write_tag_directive" 1100 (.ref 687), dE P "write_single_quoted" 1116 (.ref 695), dE P "ESCAPE_REPLACEMENTS" 1162 (.ref 696), dE P "write_double_quoted" 1175 (.ref 704), dE P "determine_block_hints" 1184 (.ref 711), dE P "write_folded" 1201 (.ref 718), dE P "write_literal" 1216 (.ref 725), dE P "write_plain" 1232 (.ref 733), dE P "__static_attributes__" 1261 (.ref 734), dE P "__dict__" 1263 (.ref 737), dE P "__weakref__" 1265 (.ref 738), dE P "__doc__" 1266 .none] 4), #[]⟩
noncomputable def u736v0 (P : Params) : Obj := ⟨.type "type", none, (.cls ⟨"Emitter", [.type "object"], [.ref 736, .type "object"], 735, "Emitter", true, [], [], false, none, false⟩), #[none, none, some (.str "Emitter" 621), some (.str "Emitter" 629), some (.builtin "object.__new__"), some (.bool true)]⟩
noncomputable def u737v0 (P : Params) : Obj := ⟨.type "getset_descriptor", none, (.fields #[.str "__dict__" 1262, .ref 736, .builtin "function.__dict__", .builtin "function.__dict__#set"]), #[]⟩
noncomputable def u738v0 (P : Params) : Obj := ⟨.type "getset_descriptor", none, (.fields #[.str "__weakref__" 1264, .ref 736, .builtin "ExceptionGroup.__weakref__", .none]), #[]⟩
noncomputable def u739v0 (P : Params) : Obj := ⟨.type "super", none, (.fields #[.ref 736, .ref 736, .ref 736]), #[]⟩
noncomputable def u740v0 (P : Params) : Obj := ⟨.type "builtin_function_or_method", none, (.fields #[.builtin "object.__init_subclass__", .ref 736]), #[]⟩
noncomputable def s4o (P : Params) : List Obj := [boot_o_0 P, boot_o_1 P, u2v0 P, u3v3 P, boot_o_4 P, boot_o_5 P, boot_o_6 P, boot_o_7 P, boot_o_8 P, boot_o_9 P, boot_o_10 P, u11v0 P, u12v4 P, u13v0 P, u14v0 P, u15v0 P, u16v0 P, u17v0 P, u18v0 P, u19v0 P, u20v0 P, u21v0 P, u22v0 P, u23v0 P, u24v0 P, u25v0 P, u26v0 P, u27v0 P, u28v0 P, u29v0 P, u30v0 P, u31v1 P, u32v0 P, u33v0 P, u34v0 P, u35v0 P, u36v0 P, u37v0 P, u38v0 P, u39v0 P, u40v0 P, u41v0 P, u42v0 P, u43v0 P, u44v0 P, u45v0 P, u46v0 P, u47v0 P, u48v0 P, u49v0 P, u50v0 P, u51v0 P, u52v0 P, u53v0 P, u54v0 P, u55v0 P, u56v0 P, u57v0 P, u58v0 P, u59v1 P, u60v0 P, u61v0 P, u62v0 P, u63v0 P, u64v0 P, u65v0 P, u66v0 P, u67v0 P, u68v0 P, u69v0 P, u70v0 P, u71v0 P, u72v0 P, u73v0 P, u74v0 P, u75v0 P, u76v0 P, u77v0 P, u78v0 P, u79v0 P, u80v0 P, u81v1 P, u82v0 P, u83v0 P, u84v0 P, u85v0 P, u86v0 P, u87v0 P, u88v0 P, u89v0 P, u90v0 P, u91v0 P, u92v0 P, u93v0 P, u94v0 P, u95v0 P, u96v0 P, u97v0 P, u98v0 P, u99v0 P, u100v0 P, u101v1 P, u102v0 P, u103v0 P, u104v0 P, u105v0 P, u106v0 P, u107v0 P, u108v0 P, u109v0 P, u110v0 P, u111v0 P, u112v0 P, u113v1 P, u114v0 P, u115v0 P, u116v0 P, u117v0 P, u118v0 P, u119v0 P, u120v0 P, u121v0 P, u122v0 P, u123v0 P, u124v0 P, u125v0 P, u126v0 P, u127v0 P, u128v0 P, u129v0 P, u130v0 P, u131v0 P, u132v0 P, u133v0 P, u134v0 P, u135v0 P, u136v0 P, u137v0 P, u138v0 P, u139v0 P, u140v0 P, u141v0 P, u142v0 P, u143v0 P, u144v0 P, u145v0 P, u146v0 P, u147v0 P, u148v0 P, u149v0 P, u150v0 P, u151v0 P, u152v0 P, u153v0 P, u154v0 P, u155v0 P, u156v0 P, u157v0 P, u158v0 P, u159v0 P, u160v0 P, u161v0 P, u162v0 P, u163v0 P, u164v0 P, u165v0 P, u166v0 P, u167v0 P, u168v0 P, u169v0 P, u170v0 P, u171v0 P, u172v0 P, u173v0 P, u174v0 P, u175v0 P, u176v0 P, u177v0 P, u178v0 P, u179v0 P, u180v0 P, u181v0 P, u182v0 P, u183v0 P, u184v0 P, u185v0 P, u186v0 P, u187v0 P, u188v0 P, u189v0 P, u190v0 P, u191v0 P, u192v0 P, u193v0 P, u194v0 P, u195v0 P, u196v0 P, u197v0 P, u198v0 P, u199v0 P, u200v0 P, u201v0 P, u202v0 P, u203v0 P, u204v0 P, u205v0 P, u206v0 P, u207v0 P, u208v0 P, u209v0 P, u210v0 P, u211v0 P, u212v0 P, u213v0 P, u214v0 P, u215v0 P, u216v0 P, u217v0 P, u218v0 P, u219v0 P, u220v0 P, u221v0 P, u222v0 P, u223v0 P, u224v0 P, u225v0 P, u226v0 P, u227v0 P, u228v0 P, u229v0 P, u230v0 P, u231v0 P, u232v0 P, u233v0 P, u234v0 P, u235v0 P, u236v0 P, u237v0 P, u238v0 P, u239v0 P, u240v0 P, u241v0 P, u242v0 P, u243v0 P, u244v0 P, u245v0 P, u246v0 P, u247v0 P, u248v0 P, u249v0 P, u250v0 P, u251v0 P, u252v0 P, u253v0 P, u254v0 P, u255v0 P, u256v0 P, u257v0 P, u258v0 P, u259v0 P, u260v0 P, u261v0 P, u262v0 P, u263v0 P, u264v0 P, u265v0 P, u266v0 P, u267v0 P, u268v0 P, u269v0 P, u270v0 P, u271v0 P, u272v0 P, u273v0 P, u274v0 P, u275v0 P, u276v0 P, u277v0 P, u278v0 P, u279v0 P, u280v0 P, u281v0 P, u282v0 P, u283v0 P, u284v0 P, u285v0 P, u286v0 P, u287v0 P, u288v0 P, u289v0 P, u290v0 P, u291v0 P, u292v0 P, u293v0 P, u294v0 P, u295v0 P, u296v0 P, u297v0 P, u298v0 P, u299v0 P, u300v0 P, u301v0 P, u302v0 P, u303v0 P, u304v0 P, u305v0 P, u306v0 P, u307v0 P, u308v0 P, u309v0 P, u310v0 P, u311v0 P, u312v0 P, u313v0 P, u314v0 P, u315v0 P, u316v0 P, u317v0 P, u318v0 P, u319v0 P, u320v0 P, u321v0 P, u322v0 P, u323v0 P, u324v0 P, u325v0 P, u326v0 P, u327v0 P, u328v0 P, u329v0 P, u330v0 P, u331v0 P, u332v0 P, u333v0 P, u334v0 P, u335v0 P, u336v0 P, u337v0 P, u338v0 P, u339v0 P, u340v0 P, u341v0 P, u342v0 P, u343v0 P, u344v0 P, u345v0 P, u346v0 P, u347v0 P, u348v0 P, u349v0 P, u350v0 P, u351v0 P, u352v0 P, u353v0 P, u354v0 P, u355v0 P, u356v0 P, u357v0 P, u358v0 P, u359v0 P, u360v0 P, u361v0 P, u362v0 P, u363v0 P, u364v0 P, u365v0 P, u366v0 P, u367v0 P, u368v0 P, u369v0 P, u370v0 P, u371v0 P, u372v0 P, u373v0 P, u374v0 P, u375v0 P, u376v0 P, u377v0 P, u378v0 P, u379v0 P, u380v0 P, u381v0 P, u382v0 P, u383v0 P, u384v0 P, u385v0 P, u386v0 P, u387v0 P, u388v0 P, u389v0 P, u390v0 P, u391v0 P, u392v0 P, u393v0 P, u394v0 P, u395v0 P, u396v0 P, u397v0 P, u398v0 P, u399v0 P, u400v0 P, u401v0 P, u402v0 P, u403v0 P, u404v0 P, u405v0 P, u406v0 P, u407v0 P, u408v0 P, u409v0 P, u410v0 P, u411v0 P, u412v0 P, u413v0 P, u414v0 P, u415v0 P, u416v0 P, u417v0 P, u418v0 P, u419v0 P, u420v0 P, u421v0 P, u422v0 P, u423v0 P, u424v0 P, u425v0 P, u426v0 P, u427v0 P, u428v0 P, u429v0 P, u430v0 P, u431v0 P, u432v0 P, u433v0 P, u434v0 P, u435v0 P, u436v0 P, u437v0 P, u438v0 P, u439v0 P, u440v0 P, u441v0 P, u442v0 P, u443v0 P, u444v0 P, u445v0 P, u446v0 P, u447v0 P, u448v0 P, u449v0 P, u450v0 P, u451v0 P, u452v0 P, u453v0 P, u454v0 P, u455v0 P, u456v0 P, u457v0 P, u458v0 P, u459v0 P, u460v0 P, u461v0 P, u462v0 P, u463v0 P, u464v0 P, u465v0 P, u466v0 P, u467v0 P, u468v0 P, u469v0 P, u470v0 P, u471v0 P, u472v0 P, u473v0 P, u474v0 P, u475v0 P, u476v0 P, u477v0 P, u478v0 P, u479v0 P, u480v0 P, u481v0 P, u482v0 P, u483v0 P, u484v0 P, u485v0 P, u486v0 P, u487v0 P, u488v0 P, u489v0 P, u490v0 P, u491v0 P, u492v0 P, u493v0 P, u494v0 P, u495v0 P, u496v0 P, u497v0 P, u498v0 P, u499v0 P, u500v0 P, u501v0 P, u502v0 P, u503v0 P, u504v0 P, u505v0 P, u506v0 P, u507v0 P, u508v0 P, u509v0 P, u510v0 P, u511v0 P, u512v0 P, u513v0 P, u514v0 P, u515v0 P, u516v0 P, u517v0 P, u518v0 P, u519v0 P, u520v0 P, u521v0 P, u522v0 P, u523v0 P, u524v0 P, u525v0 P, u526v0 P, u527v0 P, u528v0 P, u529v0 P, u530v0 P, u531v0 P, u532v0 P, u533v0 P, u534v0 P, u535v0 P, u536v0 P, u537v0 P, u538v0 P, u539v0 P, u540v0 P, u541v0 P, u542v0 P, u543v0 P, u544v0 P, u545v0 P, u546v0 P, u547v0 P, u548v0 P, u549v0 P, u550v0 P, u551v0 P, u552v0 P, u553v0 P, u554v0 P, u555v0 P, u556v0 P, u557v0 P, u558v0 P, u559v0 P, u560v0 P, u561v0 P, u562v0 P, u563v0 P, u564v0 P, u565v0 P, u566v0 P, u567v0 P, u568v0 P, u569v0 P, u570v0 P, u571v0 P, u572v0 P, u573v0 P, u574v0 P, u575v0 P, u576v0 P, u577v0 P, u578v0 P, u579v0 P, u580v0 P, u581v0 P, u582v0 P, u583v0 P, u584v0 P, u585v0 P, u586v0 P, u587v0 P, u588v0 P, u589v0 P, u590v0 P, u591v0 P, u592v0 P, u593v0 P, u594v0 P, u595v0 P, u596v0 P, u597v0 P, u598v0 P, u599v0 P, u600v0 P, u601v0 P, u602v0 P, u603v0 P, u604v0 P, u605v0 P, u606v0 P, u607v0 P, u608v0 P, u609v0 P, u610v0 P, u611v0 P, u612v0 P, u613v0 P, u614v0 P, u615v0 P, u616v0 P, u617v0 P, u618v0 P, u619v0 P, u620v0 P, u621v0 P, u622v0 P, u623v0 P, u624v0 P, u625v0 P, u626v0 P, u627v0 P, u628v0 P, u629v0 P, u630v0 P, u631v0 P, u632v0 P, u633v0 P, u634v0 P, u635v0 P, u636v0 P, u637v0 P, u638v0 P, u639v0 P, u640v0 P, u641v0 P, u642v0 P, u643v0 P, u644v0 P, u645v0 P, u646v0 P, u647v0 P, u648v0 P, u649v0 P, u650v0 P, u651v0 P, u652v0 P, u653v0 P, u654v0 P, u655v0 P, u656v0 P, u657v0 P, u658v0 P, u659v0 P, u660v0 P, u661v0 P, u662v0 P, u663v0 P, u664v0 P, u665v0 P, u666v0 P, u667v0 P, u668v0 P, u669v0 P, u670v0 P, u671v0 P, u672v0 P, u673v0 P, u674v0 P, u675v0 P, u676v0 P, u677v0 P, u678v0 P, u679v0 P, u680v0 P, u681v0 P, u682v0 P, u683v0 P, u684v0 P, u685v0 P, u686v0 P, u687v0 P, u688v0 P, u689v0 P, u690v0 P, u691v0 P, u692v0 P, u693v0 P, u694v0 P, u695v0 P, u696v0 P, u697v0 P, u698v0 P, u699v0 P, u700v0 P, u701v0 P, u702v0 P, u703v0 P, u704v0 P, u705v0 P, u706v0 P, u707v0 P, u708v0 P, u709v0 P, u710v0 P, u711v0 P, u712v0 P, u713v0 P, u714v0 P, u715v0 P, u716v0 P, u717v0 P, u718v0 P, u719v0 P, u720v0 P, u721v0 P, u722v0 P, u723v0 P, u724v0 P, u725v0 P, u726v0 P, u727v0 P, u728v0 P, u729v0 P, u730v0 P, u731v0 P, u732v0 P, u733v0 P, u734v0 P, u735v0 P, u736v0 P, u737v0 P, u738v0 P, u739v0 P, u740v0 P]
noncomputable def u3v4 (P : Params) : Obj := ⟨.type "dict", none, (.dict #[dE P "__name__" 165 (.str "law_qm0002_02" 1312), dE P "__doc__" 166 .none, dE P "__package__" 167 .none, dE P "__loader__" 168 (.builtin "__main__.__loader__#opaque"), dE P "__spec__" 169 .none, dE P "__annotations__" 170 (.ref 6), dE P "__builtins__" 171 (.ref 4), dE P "__file__" 173 (.str "/claim/cut.py" 172), dE P "__cached__" 174 .none, dE P "_wall" 193 (.ref 21), dE P "YAMLError" 215 (.ref 31), dE P "Event" 255 (.ref 59), dE P "NodeEvent" 284 (.ref 81), dE P "CollectionStartEvent" 319 (.ref 101), dE P "CollectionEndEvent" 335 (.ref 113), dE P "StreamStartEvent" 364 (.ref 133), dE P "StreamEndEvent" 380 (.ref 145), dE P "DocumentStartEvent" 413 (.ref 165), dE P "DocumentEndEvent" 442 (.ref 185), dE P "AliasEvent" 458 (.ref 197), dE P "ScalarEvent" 495 (.ref 217), dE P "SequenceStartEvent" 511 (.ref 229), dE P "SequenceEndEvent" 527 (.ref 241), dE P "MappingStartEvent" 543 (.ref 253), dE P "MappingEndEvent" 559 (.ref 265), dE P "EmitterError" 577 (.ref 277), dE P "ScalarAnalysis" 620 (.ref 296), dE P "Emitter" 1268 (.ref 736), dE P "Rows" 1311 (.ref 771), dE P "_law_SIGNS" 1354 (.ref 776), dE P "_law_LINES" 1356 (.str "\n\u0085\u2028\u2029" 1355), dE P "_law_stands" 1365 (.ref 783), dE P "_law_due" 1371 (.ref 788), dE P "law" 1377 (.ref 793)] 34), #[]⟩
noncomputable def u12v5 (P : Params) : Obj := ⟨.none, none, (.fields #[.int 1 0, .int 0 0, .ref 20, .int 5 0, .int 0 0, .ref 27, .int 8 0, .int 0 0, .ref 40, .int 16 0, .int 0 0, .ref 69, .int 22 0, .int 0 0, .ref 89, .int 31 0, .int 0 0, .ref 109, .int 33 0, .int 0 0, .ref 121, .int 39 0, .int 0 0, .ref 141, .int 41 0, .int 0 0, .ref 153, .int 49 0, .int 0 0, .ref 173, .int 55 0, .int 0 0, .ref 193, .int 57 0, .int 0 0, .ref 205, .int 67 0, .int 0 0, .ref 225, .int 69 0, .int 0 0, .ref 237, .int 71 0, .int 0 0, .ref 249, .int 73 0, .int 0 0, .ref 261, .int 76 0, .int 0 0, .ref 273, .int 78 0, .int 0 0, .ref 285, .int 89 0, .int 0 0, .ref 306, .int 939 0, .int 0 0, .ref 746, .int 952 0, .int 0 0, .ref 782, .int 957 0, .int 0 0, .ref 787, .int 979 0, .int 0 0, .ref 792]), #[]⟩
noncomputable def u741v0 (P : Params) : Obj := ⟨.type "tuple", none, (.seq #[] 0), #[]⟩
noncomputable def u742v0 (P : Params) : Obj := ⟨.type "builtin_function_or_method", none, (.fields #[.builtin "type.__prepare__", .type "type"]), #[]⟩
noncomputable def u743v0 (P : Params) : Obj := ⟨.type "dict", none, (.dict #[dE P "__module__" 1276 (.str "yaml.emitter" 560), dE P "__qualname__" 1278 (.str "Rows" 1277), dE P "__firstlineno__" 1280 (.int 939 1279), dE P "__init__" 1287 (.ref 754), dE P "write" 1295 (.ref 761), dE P "text" 1302 (.ref 768), dE P "__static_attributes__" 1304 (.ref 769)] 7), #[]⟩
noncomputable def u744v0 (P : Params) : Obj := ⟨.type "tuple", none, (.seq #[] 0), #[]⟩
noncomputable def u745v0 (P : Params) : Obj := ⟨.none, none, (.fields #[.int 941 0, .int 4 0, .ref 753, .int 944 0, .int 4 0, .ref 760, .int 947 0, .int 4 0, .ref 767]), #[]⟩
noncomputable def u746v0 (P : Params) : Obj := ⟨.type "code", none, (.fields #[.str "Rows" 1271, .str "Rows" 1272, .str "/claim/cut.py" 1273, .int 939 0, .int 0 0, .int 0 0, .int 0 0, .int 0 0, .ref 744, .bool false, .int 181 0, .ref 745, .none, .none, .none, .none, .int 1274 0, .int 939 0, .str "/claim/cut.py" 1275]), #[]⟩
noncomputable def u747v0 (P : Params) : Obj := ⟨.type "frame", none, .plain, #[some (.ref 746), some (.ref 3), some (.ref 743), none, some (.str "yaml.emitter" 560), none, some (.ref 0)]⟩
noncomputable def u748v0 (P : Params) : Obj := ⟨.type "tuple", none, (.seq #[] 0), #[]⟩
noncomputable def u749v0 (P : Params) : Obj := ⟨.none, none, (.fields #[]), #[]⟩
noncomputable def u750v0 (P : Params) : Obj := ⟨.type "tuple", none, (.seq #[.str "self" 1284] 0), #[]⟩
noncomputable def u751v0 (P : Params) : Obj := ⟨.type "tuple", none, (.seq #[] 0), #[]⟩
noncomputable def u752v0 (P : Params) : Obj := ⟨.none, none, (fG [22, 0] "Rows.__init__" 0 [] .none .none .none .none none .none .none 0), #[]⟩
noncomputable def u753v0 (P : Params) : Obj := ⟨.type "code", none, (.fields #[.str "__init__" 1281, .str "Rows.__init__" 1282, .str "/claim/cut.py" 1283, .int 941 0, .int 1 0, .int 0 0, .int 0 0, .int 3 0, .ref 748, .bool true, .int 181 0, .ref 749, .none, .ref 750, .ref 751, .ref 752, .int 1285 0, .int 941 0, .str "/claim/cut.py" 1286]), #[]⟩
noncomputable def u754v0 (P : Params) : Obj := ⟨.type "function", none, (fD [22, 0] "Rows.__init__" .none .none .none (.str "yaml.emitter" 560) none (.ref 753) .none 0), #[]⟩
noncomputable def u755v0 (P : Params) : Obj := ⟨.type "tuple", none, (.seq #[] 0), #[]⟩
noncomputable def u756v0 (P : Params) : Obj := ⟨.none, none, (.fields #[]), #[]⟩
noncomputable def u757v0 (P : Params) : Obj := ⟨.type "tuple", none, (.seq #[.str "self" 1291, .str "data" 1292] 0), #[]⟩
noncomputable def u758v0 (P : Params) : Obj := ⟨.type "tuple", none, (.seq #[] 0), #[]⟩
noncomputable def u759v0 (P : Params) : Obj := ⟨.none, none, (fG [22, 1] "Rows.write" 0 [] .none .none .none .none none .none .none 0), #[]⟩
noncomputable def u760v0 (P : Params) : Obj := ⟨.type "code", none, (.fields #[.str "write" 1288, .str "Rows.write" 1289, .str "/claim/cut.py" 1290, .int 944 0, .int 2 0, .int 0 0, .int 0 0, .int 3 0, .ref 755, .bool true, .int 181 0, .ref 756, .none, .ref 757, .ref 758, .ref 759, .int 1293 0, .int 944 0, .str "/claim/cut.py" 1294]), #[]⟩
noncomputable def u761v0 (P : Params) : Obj := ⟨.type "function", none, (fD [22, 1] "Rows.write" .none .none .none (.str "yaml.emitter" 560) none (.ref 760) .none 0), #[]⟩
noncomputable def u762v0 (P : Params) : Obj := ⟨.type "tuple", none, (.seq #[] 0), #[]⟩
noncomputable def u763v0 (P : Params) : Obj := ⟨.none, none, (.fields #[]), #[]⟩
noncomputable def u764v0 (P : Params) : Obj := ⟨.type "tuple", none, (.seq #[.str "self" 1299] 0), #[]⟩
noncomputable def u765v0 (P : Params) : Obj := ⟨.type "tuple", none, (.seq #[] 0), #[]⟩
noncomputable def u766v0 (P : Params) : Obj := ⟨.none, none, (fG [22, 2] "Rows.text" 0 [] .none .none .none .none none .none .none 0), #[]⟩
noncomputable def u767v0 (P : Params) : Obj := ⟨.type "code", none, (.fields #[.str "text" 1296, .str "Rows.text" 1297, .str "/claim/cut.py" 1298, .int 947 0, .int 1 0, .int 0 0, .int 0 0, .int 3 0, .ref 762, .bool true, .int 181 0, .ref 763, .none, .ref 764, .ref 765, .ref 766, .int 1300 0, .int 947 0, .str "/claim/cut.py" 1301]), #[]⟩
noncomputable def u768v0 (P : Params) : Obj := ⟨.type "function", none, (fD [22, 2] "Rows.text" .none .none .none (.str "yaml.emitter" 560) none (.ref 767) .none 0), #[]⟩
noncomputable def u769v0 (P : Params) : Obj := ⟨.type "tuple", none, (.seq #[.str "rows" 1303] 0), #[]⟩
noncomputable def u770v0 (P : Params) : Obj := ⟨.type "dict", none, (.dict #[dE P "__module__" 1276 (.str "yaml.emitter" 560), dE P "__firstlineno__" 1280 (.int 939 1279), dE P "__init__" 1287 (.ref 754), dE P "write" 1295 (.ref 761), dE P "text" 1302 (.ref 768), dE P "__static_attributes__" 1304 (.ref 769), dE P "__dict__" 1306 (.ref 772), dE P "__weakref__" 1308 (.ref 773), dE P "__doc__" 1309 .none] 4), #[]⟩
noncomputable def u771v0 (P : Params) : Obj := ⟨.type "type", none, (.cls ⟨"Rows", [.type "object"], [.ref 771, .type "object"], 770, "Rows", true, [], [], false, none, false⟩), #[none, none, some (.str "Rows" 1269), some (.str "Rows" 1277), some (.builtin "object.__new__"), some (.bool true)]⟩
noncomputable def u772v0 (P : Params) : Obj := ⟨.type "getset_descriptor", none, (.fields #[.str "__dict__" 1305, .ref 771, .builtin "function.__dict__", .builtin "function.__dict__#set"]), #[]⟩
noncomputable def u773v0 (P : Params) : Obj := ⟨.type "getset_descriptor", none, (.fields #[.str "__weakref__" 1307, .ref 771, .builtin "ExceptionGroup.__weakref__", .none]), #[]⟩
noncomputable def u774v0 (P : Params) : Obj := ⟨.type "super", none, (.fields #[.ref 771, .ref 771, .ref 771]), #[]⟩
noncomputable def u775v0 (P : Params) : Obj := ⟨.type "builtin_function_or_method", none, (.fields #[.builtin "object.__init_subclass__", .ref 771]), #[]⟩
noncomputable def u776v0 (P : Params) : Obj := ⟨.type "list", none, (.seq #[.str "a" 1314, .str " " 1315, .str "b" 1316, .str "-" 1317, .str ":" 1318, .str "#" 1319, .str "c" 1320, .str "?" 1321, .str "d" 1322, .str "\n" 1323, .str "e" 1324, .str "," 1325, .str "[" 1326, .str "'" 1327, .str "f" 1328, .str "\u2028" 1329, .str "\u00e9" 1330, .str "\t" 1331, .str "g" 1332, .str "!" 1333, .str "|" 1334, .str "%" 1335, .str "---" 1336, .str "." 1337, .str "\"" 1338, .str "\\" 1339, .str "]" 1340, .str "{" 1341, .str "}" 1342, .str "&" 1343, .str "*" 1344, .str ">" 1345, .str "@" 1346, .str "`" 1347, .str "\ufeff" 1348, .str "😀" 1349, .str "\u00a0" 1350, .str "\u000d" 1351, .str "\u0085" 1352, .str "\ufffd" 1353] 0), #[]⟩
noncomputable def u777v0 (P : Params) : Obj := ⟨.type "tuple", none, (.seq #[] 0), #[]⟩
noncomputable def u778v0 (P : Params) : Obj := ⟨.none, none, (.fields #[]), #[]⟩
noncomputable def u779v0 (P : Params) : Obj := ⟨.type "tuple", none, (.seq #[.str "c" 1360, .str "wide" 1361, .str "n" 1362] 0), #[]⟩
noncomputable def u780v0 (P : Params) : Obj := ⟨.type "tuple", none, (.seq #[] 0), #[]⟩
noncomputable def u781v0 (P : Params) : Obj := ⟨.none, none, (fG [26] "_law_stands" 0 [] .none .none .none .none none .none .none 0), #[]⟩
noncomputable def u782v0 (P : Params) : Obj := ⟨.type "code", none, (.fields #[.str "_law_stands" 1357, .str "_law_stands" 1358, .str "/claim/cut.py" 1359, .int 952 0, .int 2 0, .int 0 0, .int 0 0, .int 3 0, .ref 777, .bool true, .int 181 0, .ref 778, .none, .ref 779, .ref 780, .ref 781, .int 1363 0, .int 952 0, .str "/claim/cut.py" 1364]), #[]⟩
noncomputable def u783v0 (P : Params) : Obj := ⟨.type "function", none, (fD [26] "_law_stands" .none .none .none (.str "law_qm0002_02" 1312) none (.ref 782) .none 0), #[]⟩
noncomputable def u784v0 (P : Params) : Obj := ⟨.type "tuple", none, (.seq #[] 0), #[]⟩
noncomputable def u785v0 (P : Params) : Obj := ⟨.none, none, (.fields #[]), #[]⟩
noncomputable def u786v0 (P : Params) : Obj := ⟨.none, none, (fG [27] "_law_due" 0 [] .none .none .none .none none .none .none 0), #[]⟩
noncomputable def u787v0 (P : Params) : Obj := ⟨.type "code", none, (.fields #[.str "_law_due" 1366, .str "_law_due" 1367, .str "/claim/cut.py" 1368, .int 957 0, .int 2 0, .int 0 0, .int 0 0, .int 3 0, .ref 784, .bool true, .int 181 0, .ref 785, .none, .none, .none, .ref 786, .int 1369 0, .int 957 0, .str "/claim/cut.py" 1370]), #[]⟩
noncomputable def u788v0 (P : Params) : Obj := ⟨.type "function", none, (fD [27] "_law_due" .none .none .none (.str "law_qm0002_02" 1312) none (.ref 787) .none 0), #[]⟩
noncomputable def u789v0 (P : Params) : Obj := ⟨.type "tuple", none, (.seq #[] 0), #[]⟩
noncomputable def u790v0 (P : Params) : Obj := ⟨.none, none, (.fields #[]), #[]⟩
noncomputable def u791v0 (P : Params) : Obj := ⟨.none, none, (fG [28] "law" 0 [] .none .none .none .none none .none .none 0), #[]⟩
noncomputable def u792v0 (P : Params) : Obj := ⟨.type "code", none, (.fields #[.str "law" 1372, .str "law" 1373, .str "/claim/cut.py" 1374, .int 979 0, .int 1 0, .int 0 0, .int 0 0, .int 3 0, .ref 789, .bool true, .int 181 0, .ref 790, .none, .none, .none, .ref 791, .int 1375 0, .int 979 0, .str "/claim/cut.py" 1376]), #[]⟩
noncomputable def u793v0 (P : Params) : Obj := ⟨.type "function", none, (fD [28] "law" .none .none .none (.str "law_qm0002_02" 1312) none (.ref 792) .none 0), #[]⟩
noncomputable def s9o (P : Params) : List Obj := [boot_o_0 P, boot_o_1 P, u2v0 P, u3v4 P, boot_o_4 P, boot_o_5 P, boot_o_6 P, boot_o_7 P, boot_o_8 P, boot_o_9 P, boot_o_10 P, u11v0 P, u12v5 P, u13v0 P, u14v0 P, u15v0 P, u16v0 P, u17v0 P, u18v0 P, u19v0 P, u20v0 P, u21v0 P, u22v0 P, u23v0 P, u24v0 P, u25v0 P, u26v0 P, u27v0 P, u28v0 P, u29v0 P, u30v0 P, u31v1 P, u32v0 P, u33v0 P, u34v0 P, u35v0 P, u36v0 P, u37v0 P, u38v0 P, u39v0 P, u40v0 P, u41v0 P, u42v0 P, u43v0 P, u44v0 P, u45v0 P, u46v0 P, u47v0 P, u48v0 P, u49v0 P, u50v0 P, u51v0 P, u52v0 P, u53v0 P, u54v0 P, u55v0 P, u56v0 P, u57v0 P, u58v0 P, u59v1 P, u60v0 P, u61v0 P, u62v0 P, u63v0 P, u64v0 P, u65v0 P, u66v0 P, u67v0 P, u68v0 P, u69v0 P, u70v0 P, u71v0 P, u72v0 P, u73v0 P, u74v0 P, u75v0 P, u76v0 P, u77v0 P, u78v0 P, u79v0 P, u80v0 P, u81v1 P, u82v0 P, u83v0 P, u84v0 P, u85v0 P, u86v0 P, u87v0 P, u88v0 P, u89v0 P, u90v0 P, u91v0 P, u92v0 P, u93v0 P, u94v0 P, u95v0 P, u96v0 P, u97v0 P, u98v0 P, u99v0 P, u100v0 P, u101v1 P, u102v0 P, u103v0 P, u104v0 P, u105v0 P, u106v0 P, u107v0 P, u108v0 P, u109v0 P, u110v0 P, u111v0 P, u112v0 P, u113v1 P, u114v0 P, u115v0 P, u116v0 P, u117v0 P, u118v0 P, u119v0 P, u120v0 P, u121v0 P, u122v0 P, u123v0 P, u124v0 P, u125v0 P, u126v0 P, u127v0 P, u128v0 P, u129v0 P, u130v0 P, u131v0 P, u132v0 P, u133v0 P, u134v0 P, u135v0 P, u136v0 P, u137v0 P, u138v0 P, u139v0 P, u140v0 P, u141v0 P, u142v0 P, u143v0 P, u144v0 P, u145v0 P, u146v0 P, u147v0 P, u148v0 P, u149v0 P, u150v0 P, u151v0 P, u152v0 P, u153v0 P, u154v0 P, u155v0 P, u156v0 P, u157v0 P, u158v0 P, u159v0 P, u160v0 P, u161v0 P, u162v0 P, u163v0 P, u164v0 P, u165v0 P, u166v0 P, u167v0 P, u168v0 P, u169v0 P, u170v0 P, u171v0 P, u172v0 P, u173v0 P, u174v0 P, u175v0 P, u176v0 P, u177v0 P, u178v0 P, u179v0 P, u180v0 P, u181v0 P, u182v0 P, u183v0 P, u184v0 P, u185v0 P, u186v0 P, u187v0 P, u188v0 P, u189v0 P, u190v0 P, u191v0 P, u192v0 P, u193v0 P, u194v0 P, u195v0 P, u196v0 P, u197v0 P, u198v0 P, u199v0 P, u200v0 P, u201v0 P, u202v0 P, u203v0 P, u204v0 P, u205v0 P, u206v0 P, u207v0 P, u208v0 P, u209v0 P, u210v0 P, u211v0 P, u212v0 P, u213v0 P, u214v0 P, u215v0 P, u216v0 P, u217v0 P, u218v0 P, u219v0 P, u220v0 P, u221v0 P, u222v0 P, u223v0 P, u224v0 P, u225v0 P, u226v0 P, u227v0 P, u228v0 P, u229v0 P, u230v0 P, u231v0 P, u232v0 P, u233v0 P, u234v0 P, u235v0 P, u236v0 P, u237v0 P, u238v0 P, u239v0 P, u240v0 P, u241v0 P, u242v0 P, u243v0 P, u244v0 P, u245v0 P, u246v0 P, u247v0 P, u248v0 P, u249v0 P, u250v0 P, u251v0 P, u252v0 P, u253v0 P, u254v0 P, u255v0 P, u256v0 P, u257v0 P, u258v0 P, u259v0 P, u260v0 P, u261v0 P, u262v0 P, u263v0 P, u264v0 P, u265v0 P, u266v0 P, u267v0 P, u268v0 P, u269v0 P, u270v0 P, u271v0 P, u272v0 P, u273v0 P, u274v0 P, u275v0 P, u276v0 P, u277v0 P, u278v0 P, u279v0 P, u280v0 P, u281v0 P, u282v0 P, u283v0 P, u284v0 P, u285v0 P, u286v0 P, u287v0 P, u288v0 P, u289v0 P, u290v0 P, u291v0 P, u292v0 P, u293v0 P, u294v0 P, u295v0 P, u296v0 P, u297v0 P, u298v0 P, u299v0 P, u300v0 P, u301v0 P, u302v0 P, u303v0 P, u304v0 P, u305v0 P, u306v0 P, u307v0 P, u308v0 P, u309v0 P, u310v0 P, u311v0 P, u312v0 P, u313v0 P, u314v0 P, u315v0 P, u316v0 P, u317v0 P, u318v0 P, u319v0 P, u320v0 P, u321v0 P, u322v0 P, u323v0 P, u324v0 P, u325v0 P, u326v0 P, u327v0 P, u328v0 P, u329v0 P, u330v0 P, u331v0 P, u332v0 P, u333v0 P, u334v0 P, u335v0 P, u336v0 P, u337v0 P, u338v0 P, u339v0 P, u340v0 P, u341v0 P, u342v0 P, u343v0 P, u344v0 P, u345v0 P, u346v0 P, u347v0 P, u348v0 P, u349v0 P, u350v0 P, u351v0 P, u352v0 P, u353v0 P, u354v0 P, u355v0 P, u356v0 P, u357v0 P, u358v0 P, u359v0 P, u360v0 P, u361v0 P, u362v0 P, u363v0 P, u364v0 P, u365v0 P, u366v0 P, u367v0 P, u368v0 P, u369v0 P, u370v0 P, u371v0 P, u372v0 P, u373v0 P, u374v0 P, u375v0 P, u376v0 P, u377v0 P, u378v0 P, u379v0 P, u380v0 P, u381v0 P, u382v0 P, u383v0 P, u384v0 P, u385v0 P, u386v0 P, u387v0 P, u388v0 P, u389v0 P, u390v0 P, u391v0 P, u392v0 P, u393v0 P, u394v0 P, u395v0 P, u396v0 P, u397v0 P, u398v0 P, u399v0 P, u400v0 P, u401v0 P, u402v0 P, u403v0 P, u404v0 P, u405v0 P, u406v0 P, u407v0 P, u408v0 P, u409v0 P, u410v0 P, u411v0 P, u412v0 P, u413v0 P, u414v0 P, u415v0 P, u416v0 P, u417v0 P, u418v0 P, u419v0 P, u420v0 P, u421v0 P, u422v0 P, u423v0 P, u424v0 P, u425v0 P, u426v0 P, u427v0 P, u428v0 P, u429v0 P, u430v0 P, u431v0 P, u432v0 P, u433v0 P, u434v0 P, u435v0 P, u436v0 P, u437v0 P, u438v0 P, u439v0 P, u440v0 P, u441v0 P, u442v0 P, u443v0 P, u444v0 P, u445v0 P, u446v0 P, u447v0 P, u448v0 P, u449v0 P, u450v0 P, u451v0 P, u452v0 P, u453v0 P, u454v0 P, u455v0 P, u456v0 P, u457v0 P, u458v0 P, u459v0 P, u460v0 P, u461v0 P, u462v0 P, u463v0 P, u464v0 P, u465v0 P, u466v0 P, u467v0 P, u468v0 P, u469v0 P, u470v0 P, u471v0 P, u472v0 P, u473v0 P, u474v0 P, u475v0 P, u476v0 P, u477v0 P, u478v0 P, u479v0 P, u480v0 P, u481v0 P, u482v0 P, u483v0 P, u484v0 P, u485v0 P, u486v0 P, u487v0 P, u488v0 P, u489v0 P, u490v0 P, u491v0 P, u492v0 P, u493v0 P, u494v0 P, u495v0 P, u496v0 P, u497v0 P, u498v0 P, u499v0 P, u500v0 P, u501v0 P, u502v0 P, u503v0 P, u504v0 P, u505v0 P, u506v0 P, u507v0 P, u508v0 P, u509v0 P, u510v0 P, u511v0 P, u512v0 P, u513v0 P, u514v0 P, u515v0 P, u516v0 P, u517v0 P, u518v0 P, u519v0 P, u520v0 P, u521v0 P, u522v0 P, u523v0 P, u524v0 P, u525v0 P, u526v0 P, u527v0 P, u528v0 P, u529v0 P, u530v0 P, u531v0 P, u532v0 P, u533v0 P, u534v0 P, u535v0 P, u536v0 P, u537v0 P, u538v0 P, u539v0 P, u540v0 P, u541v0 P, u542v0 P, u543v0 P, u544v0 P, u545v0 P, u546v0 P, u547v0 P, u548v0 P, u549v0 P, u550v0 P, u551v0 P, u552v0 P, u553v0 P, u554v0 P, u555v0 P, u556v0 P, u557v0 P, u558v0 P, u559v0 P, u560v0 P, u561v0 P, u562v0 P, u563v0 P, u564v0 P, u565v0 P, u566v0 P, u567v0 P, u568v0 P, u569v0 P, u570v0 P, u571v0 P, u572v0 P, u573v0 P, u574v0 P, u575v0 P, u576v0 P, u577v0 P, u578v0 P, u579v0 P, u580v0 P, u581v0 P, u582v0 P, u583v0 P, u584v0 P, u585v0 P, u586v0 P, u587v0 P, u588v0 P, u589v0 P, u590v0 P, u591v0 P, u592v0 P, u593v0 P, u594v0 P, u595v0 P, u596v0 P, u597v0 P, u598v0 P, u599v0 P, u600v0 P, u601v0 P, u602v0 P, u603v0 P, u604v0 P, u605v0 P, u606v0 P, u607v0 P, u608v0 P, u609v0 P, u610v0 P, u611v0 P, u612v0 P, u613v0 P, u614v0 P, u615v0 P, u616v0 P, u617v0 P, u618v0 P, u619v0 P, u620v0 P, u621v0 P, u622v0 P, u623v0 P, u624v0 P, u625v0 P, u626v0 P, u627v0 P, u628v0 P, u629v0 P, u630v0 P, u631v0 P, u632v0 P, u633v0 P, u634v0 P, u635v0 P, u636v0 P, u637v0 P, u638v0 P, u639v0 P, u640v0 P, u641v0 P, u642v0 P, u643v0 P, u644v0 P, u645v0 P, u646v0 P, u647v0 P, u648v0 P, u649v0 P, u650v0 P, u651v0 P, u652v0 P, u653v0 P, u654v0 P, u655v0 P, u656v0 P, u657v0 P, u658v0 P, u659v0 P, u660v0 P, u661v0 P, u662v0 P, u663v0 P, u664v0 P, u665v0 P, u666v0 P, u667v0 P, u668v0 P, u669v0 P, u670v0 P, u671v0 P, u672v0 P, u673v0 P, u674v0 P, u675v0 P, u676v0 P, u677v0 P, u678v0 P, u679v0 P, u680v0 P, u681v0 P, u682v0 P, u683v0 P, u684v0 P, u685v0 P, u686v0 P, u687v0 P, u688v0 P, u689v0 P, u690v0 P, u691v0 P, u692v0 P, u693v0 P, u694v0 P, u695v0 P, u696v0 P, u697v0 P, u698v0 P, u699v0 P, u700v0 P, u701v0 P, u702v0 P, u703v0 P, u704v0 P, u705v0 P, u706v0 P, u707v0 P, u708v0 P, u709v0 P, u710v0 P, u711v0 P, u712v0 P, u713v0 P, u714v0 P, u715v0 P, u716v0 P, u717v0 P, u718v0 P, u719v0 P, u720v0 P, u721v0 P, u722v0 P, u723v0 P, u724v0 P, u725v0 P, u726v0 P, u727v0 P, u728v0 P, u729v0 P, u730v0 P, u731v0 P, u732v0 P, u733v0 P, u734v0 P, u735v0 P, u736v0 P, u737v0 P, u738v0 P, u739v0 P, u740v0 P, u741v0 P, u742v0 P, u743v0 P, u744v0 P, u745v0 P, u746v0 P, u747v0 P, u748v0 P, u749v0 P, u750v0 P, u751v0 P, u752v0 P, u753v0 P, u754v0 P, u755v0 P, u756v0 P, u757v0 P, u758v0 P, u759v0 P, u760v0 P, u761v0 P, u762v0 P, u763v0 P, u764v0 P, u765v0 P, u766v0 P, u767v0 P, u768v0 P, u769v0 P, u770v0 P, u771v0 P, u772v0 P, u773v0 P, u774v0 P, u775v0 P, u776v0 P, u777v0 P, u778v0 P, u779v0 P, u780v0 P, u781v0 P, u782v0 P, u783v0 P, u784v0 P, u785v0 P, u786v0 P, u787v0 P, u788v0 P, u789v0 P, u790v0 P, u791v0 P, u792v0 P, u793v0 P]
noncomputable def frag (P : Params) : Frag := [(2, u2v0 P), (3, u3v4 P), (15, u15v0 P), (17, u17v0 P), (18, u18v0 P), (20, u20v0 P), (21, u21v0 P), (22, u22v0 P), (29, u29v0 P), (30, u30v0 P), (31, u31v1 P), (32, u32v0 P), (35, u35v0 P), (42, u42v0 P), (43, u43v0 P), (45, u45v0 P), (46, u46v0 P), (48, u48v0 P), (49, u49v0 P), (50, u50v0 P), (52, u52v0 P), (53, u53v0 P), (55, u55v0 P), (56, u56v0 P), (57, u57v0 P), (58, u58v0 P), (59, u59v1 P), (60, u60v0 P), (61, u61v0 P), (64, u64v0 P), (71, u71v0 P), (72, u72v0 P), (74, u74v0 P), (75, u75v0 P), (77, u77v0 P), (78, u78v0 P), (79, u79v0 P), (80, u80v0 P), (81, u81v1 P), (84, u84v0 P), (91, u91v0 P), (92, u92v0 P), (94, u94v0 P), (95, u95v0 P), (97, u97v0 P), (98, u98v0 P), (99, u99v0 P), (100, u100v0 P), (101, u101v1 P), (104, u104v0 P), (111, u111v0 P), (112, u112v0 P), (113, u113v1 P), (116, u116v0 P), (123, u123v0 P), (124, u124v0 P), (126, u126v0 P), (127, u127v0 P), (129, u129v0 P), (130, u130v0 P), (131, u131v0 P), (132, u132v0 P), (133, u133v0 P), (136, u136v0 P), (143, u143v0 P), (144, u144v0 P), (145, u145v0 P), (148, u148v0 P), (155, u155v0 P), (156, u156v0 P), (158, u158v0 P), (159, u159v0 P), (161, u161v0 P), (162, u162v0 P), (163, u163v0 P), (164, u164v0 P), (165, u165v0 P), (168, u168v0 P), (175, u175v0 P), (176, u176v0 P), (178, u178v0 P), (179, u179v0 P), (181, u181v0 P), (182, u182v0 P), (183, u183v0 P), (184, u184v0 P), (185, u185v0 P), (188, u188v0 P), (195, u195v0 P), (196, u196v0 P), (197, u197v0 P), (200, u200v0 P), (207, u207v0 P), (208, u208v0 P), (210, u210v0 P), (211, u211v0 P), (213, u213v0 P), (214, u214v0 P), (215, u215v0 P), (216, u216v0 P), (217, u217v0 P), (220, u220v0 P), (227, u227v0 P), (228, u228v0 P), (229, u229v0 P), (232, u232v0 P), (239, u239v0 P), (240, u240v0 P), (241, u241v0 P), (244, u244v0 P), (251, u251v0 P), (252, u252v0 P), (253, u253v0 P), (256, u256v0 P), (263, u263v0 P), (264, u264v0 P), (265, u265v0 P), (268, u268v0 P), (275, u275v0 P), (276, u276v0 P), (277, u277v0 P), (287, u287v0 P), (289, u289v0 P), (290, u290v0 P), (292, u292v0 P), (293, u293v0 P), (294, u294v0 P), (295, u295v0 P), (296, u296v0 P), (297, u297v0 P), (298, u298v0 P), (308, u308v0 P), (309, u309v0 P), (310, u310v0 P), (312, u312v0 P), (313, u313v0 P), (315, u315v0 P), (316, u316v0 P), (317, u317v0 P), (319, u319v0 P), (320, u320v0 P), (322, u322v0 P), (323, u323v0 P), (324, u324v0 P), (326, u326v0 P), (327, u327v0 P), (329, u329v0 P), (330, u330v0 P), (331, u331v0 P), (333, u333v0 P), (334, u334v0 P), (336, u336v0 P), (337, u337v0 P), (338, u338v0 P), (340, u340v0 P), (341, u341v0 P), (343, u343v0 P), (344, u344v0 P), (345, u345v0 P), (346, u346v0 P), (348, u348v0 P), (349, u349v0 P), (351, u351v0 P), (352, u352v0 P), (353, u353v0 P), (355, u355v0 P), (356, u356v0 P), (358, u358v0 P), (359, u359v0 P), (360, u360v0 P), (362, u362v0 P), (363, u363v0 P), (365, u365v0 P), (366, u366v0 P), (367, u367v0 P), (369, u369v0 P), (370, u370v0 P), (372, u372v0 P), (373, u373v0 P), (374, u374v0 P), (375, u375v0 P), (377, u377v0 P), (378, u378v0 P), (380, u380v0 P), (381, u381v0 P), (382, u382v0 P), (384, u384v0 P), (385, u385v0 P), (387, u387v0 P), (388, u388v0 P), (389, u389v0 P), (391, u391v0 P), (392, u392v0 P), (394, u394v0 P), (395, u395v0 P), (396, u396v0 P), (397, u397v0 P), (399, u399v0 P), (400, u400v0 P), (402, u402v0 P), (403, u403v0 P), (404, u404v0 P), (406, u406v0 P), (407, u407v0 P), (409, u409v0 P), (410, u410v0 P), (411, u411v0 P), (413, u413v0 P), (414, u414v0 P), (416, u416v0 P), (417, u417v0 P), (418, u418v0 P), (420, u420v0 P), (421, u421v0 P), (423, u423v0 P), (424, u424v0 P), (425, u425v0 P), (427, u427v0 P), (428, u428v0 P), (430, u430v0 P), (431, u431v0 P), (432, u432v0 P), (434, u434v0 P), (435, u435v0 P), (437, u437v0 P), (438, u438v0 P), (439, u439v0 P), (441, u441v0 P), (442, u442v0 P), (444, u444v0 P), (445, u445v0 P), (446, u446v0 P), (448, u448v0 P), (449, u449v0 P), (451, u451v0 P), (452, u452v0 P), (453, u453v0 P), (455, u455v0 P), (456, u456v0 P), (458, u458v0 P), (459, u459v0 P), (460, u460v0 P), (462, u462v0 P), (463, u463v0 P), (465, u465v0 P), (466, u466v0 P), (467, u467v0 P), (469, u469v0 P), (470, u470v0 P), (472, u472v0 P), (473, u473v0 P), (474, u474v0 P), (476, u476v0 P), (477, u477v0 P), (479, u479v0 P), (480, u480v0 P), (481, u481v0 P), (483, u483v0 P), (484, u484v0 P), (486, u486v0 P), (487, u487v0 P), (488, u488v0 P), (489, u489v0 P), (491, u491v0 P), (492, u492v0 P), (494, u494v0 P), (495, u495v0 P), (496, u496v0 P), (498, u498v0 P), (499, u499v0 P), (501, u501v0 P), (502, u502v0 P), (503, u503v0 P), (505, u505v0 P), (506, u506v0 P), (508, u508v0 P), (509, u509v0 P), (510, u510v0 P), (511, u511v0 P), (513, u513v0 P), (514, u514v0 P), (516, u516v0 P), (517, u517v0 P), (518, u518v0 P), (520, u520v0 P), (521, u521v0 P), (523, u523v0 P), (524, u524v0 P), (525, u525v0 P), (527, u527v0 P), (528, u528v0 P), (530, u530v0 P), (531, u531v0 P), (532, u532v0 P), (534, u534v0 P), (535, u535v0 P), (537, u537v0 P), (538, u538v0 P), (539, u539v0 P), (541, u541v0 P), (542, u542v0 P), (544, u544v0 P), (545, u545v0 P), (546, u546v0 P), (548, u548v0 P), (549, u549v0 P), (551, u551v0 P), (552, u552v0 P), (553, u553v0 P), (555, u555v0 P), (556, u556v0 P), (558, u558v0 P), (559, u559v0 P), (560, u560v0 P), (562, u562v0 P), (563, u563v0 P), (565, u565v0 P), (566, u566v0 P), (567, u567v0 P), (569, u569v0 P), (570, u570v0 P), (572, u572v0 P), (573, u573v0 P), (574, u574v0 P), (576, u576v0 P), (577, u577v0 P), (579, u579v0 P), (580, u580v0 P), (581, u581v0 P), (583, u583v0 P), (584, u584v0 P), (586, u586v0 P), (587, u587v0 P), (588, u588v0 P), (590, u590v0 P), (591, u591v0 P), (593, u593v0 P), (594, u594v0 P), (595, u595v0 P), (597, u597v0 P), (598, u598v0 P), (600, u600v0 P), (601, u601v0 P), (602, u602v0 P), (604, u604v0 P), (605, u605v0 P), (607, u607v0 P), (608, u608v0 P), (609, u609v0 P), (611, u611v0 P), (612, u612v0 P), (614, u614v0 P), (615, u615v0 P), (616, u616v0 P), (618, u618v0 P), (619, u619v0 P), (621, u621v0 P), (622, u622v0 P), (623, u623v0 P), (625, u625v0 P), (626, u626v0 P), (628, u628v0 P), (629, u629v0 P), (630, u630v0 P), (632, u632v0 P), (633, u633v0 P), (635, u635v0 P), (636, u636v0 P), (637, u637v0 P), (639, u639v0 P), (640, u640v0 P), (642, u642v0 P), (643, u643v0 P), (644, u644v0 P), (646, u646v0 P), (647, u647v0 P), (649, u649v0 P), (650, u650v0 P), (651, u651v0 P), (652, u652v0 P), (654, u654v0 P), (655, u655v0 P), (657, u657v0 P), (658, u658v0 P), (659, u659v0 P), (661, u661v0 P), (662, u662v0 P), (664, u664v0 P), (665, u665v0 P), (666, u666v0 P), (667, u667v0 P), (669, u669v0 P), (670, u670v0 P), (672, u672v0 P), (673, u673v0 P), (674, u674v0 P), (676, u676v0 P), (677, u677v0 P), (679, u679v0 P), (680, u680v0 P), (681, u681v0 P), (683, u683v0 P), (684, u684v0 P), (686, u686v0 P), (687, u687v0 P), (688, u688v0 P), (689, u689v0 P), (691, u691v0 P), (692, u692v0 P), (694, u694v0 P), (695, u695v0 P), (696, u696v0 P), (697, u697v0 P), (698, u698v0 P), (700, u700v0 P), (701, u701v0 P), (703, u703v0 P), (704, u704v0 P), (705, u705v0 P), (707, u707v0 P), (708, u708v0 P), (710, u710v0 P), (711, u711v0 P), (712, u712v0 P), (714, u714v0 P), (715, u715v0 P), (717, u717v0 P), (718, u718v0 P), (719, u719v0 P), (721, u721v0 P), (722, u722v0 P), (724, u724v0 P), (725, u725v0 P), (726, u726v0 P), (727, u727v0 P), (729, u729v0 P), (730, u730v0 P), (732, u732v0 P), (733, u733v0 P), (734, u734v0 P), (735, u735v0 P), (736, u736v0 P), (737, u737v0 P), (738, u738v0 P), (748, u748v0 P), (750, u750v0 P), (751, u751v0 P), (753, u753v0 P), (754, u754v0 P), (755, u755v0 P), (757, u757v0 P), (758, u758v0 P), (760, u760v0 P), (761, u761v0 P), (762, u762v0 P), (764, u764v0 P), (765, u765v0 P), (767, u767v0 P), (768, u768v0 P), (769, u769v0 P), (770, u770v0 P), (771, u771v0 P), (772, u772v0 P), (773, u773v0 P), (776, u776v0 P), (777, u777v0 P), (779, u779v0 P), (780, u780v0 P), (782, u782v0 P), (783, u783v0 P), (784, u784v0 P), (787, u787v0 P), (788, u788v0 P), (789, u789v0 P), (792, u792v0 P), (793, u793v0 P)]
noncomputable def fragAt : List Addr := [2, 3, 15, 17, 18, 20, 21, 22, 29, 30, 31, 32, 35, 42, 43, 45, 46, 48, 49, 50, 52, 53, 55, 56, 57, 58, 59, 60, 61, 64, 71, 72, 74, 75, 77, 78, 79, 80, 81, 84, 91, 92, 94, 95, 97, 98, 99, 100, 101, 104, 111, 112, 113, 116, 123, 124, 126, 127, 129, 130, 131, 132, 133, 136, 143, 144, 145, 148, 155, 156, 158, 159, 161, 162, 163, 164, 165, 168, 175, 176, 178, 179, 181, 182, 183, 184, 185, 188, 195, 196, 197, 200, 207, 208, 210, 211, 213, 214, 215, 216, 217, 220, 227, 228, 229, 232, 239, 240, 241, 244, 251, 252, 253, 256, 263, 264, 265, 268, 275, 276, 277, 287, 289, 290, 292, 293, 294, 295, 296, 297, 298, 308, 309, 310, 312, 313, 315, 316, 317, 319, 320, 322, 323, 324, 326, 327, 329, 330, 331, 333, 334, 336, 337, 338, 340, 341, 343, 344, 345, 346, 348, 349, 351, 352, 353, 355, 356, 358, 359, 360, 362, 363, 365, 366, 367, 369, 370, 372, 373, 374, 375, 377, 378, 380, 381, 382, 384, 385, 387, 388, 389, 391, 392, 394, 395, 396, 397, 399, 400, 402, 403, 404, 406, 407, 409, 410, 411, 413, 414, 416, 417, 418, 420, 421, 423, 424, 425, 427, 428, 430, 431, 432, 434, 435, 437, 438, 439, 441, 442, 444, 445, 446, 448, 449, 451, 452, 453, 455, 456, 458, 459, 460, 462, 463, 465, 466, 467, 469, 470, 472, 473, 474, 476, 477, 479, 480, 481, 483, 484, 486, 487, 488, 489, 491, 492, 494, 495, 496, 498, 499, 501, 502, 503, 505, 506, 508, 509, 510, 511, 513, 514, 516, 517, 518, 520, 521, 523, 524, 525, 527, 528, 530, 531, 532, 534, 535, 537, 538, 539, 541, 542, 544, 545, 546, 548, 549, 551, 552, 553, 555, 556, 558, 559, 560, 562, 563, 565, 566, 567, 569, 570, 572, 573, 574, 576, 577, 579, 580, 581, 583, 584, 586, 587, 588, 590, 591, 593, 594, 595, 597, 598, 600, 601, 602, 604, 605, 607, 608, 609, 611, 612, 614, 615, 616, 618, 619, 621, 622, 623, 625, 626, 628, 629, 630, 632, 633, 635, 636, 637, 639, 640, 642, 643, 644, 646, 647, 649, 650, 651, 652, 654, 655, 657, 658, 659, 661, 662, 664, 665, 666, 667, 669, 670, 672, 673, 674, 676, 677, 679, 680, 681, 683, 684, 686, 687, 688, 689, 691, 692, 694, 695, 696, 697, 698, 700, 701, 703, 704, 705, 707, 708, 710, 711, 712, 714, 715, 717, 718, 719, 721, 722, 724, 725, 726, 727, 729, 730, 732, 733, 734, 735, 736, 737, 738, 748, 750, 751, 753, 754, 755, 757, 758, 760, 761, 762, 764, 765, 767, 768, 769, 770, 771, 772, 773, 776, 777, 779, 780, 782, 783, 784, 787, 788, 789, 792, 793]
noncomputable def alt : List Obj → List Obj × List Obj
  | [] => ([], [])
  | x :: r => (x :: (alt r).2, (alt r).1)
noncomputable def mkT : Nat → List Obj → BT
  | 0, _ => .nil
  | _, [] => .nil
  | n + 1, x :: r => .node x (mkT n (alt r).1) (mkT n (alt r).2)
end Mine

namespace Mine
open PySem PySem.W PySem.Calls PyProof.Rows

noncomputable def hEnv : Env := { scope := PW.main.scope, locals := mainNs, globals := mainNs, cells := [], code := .ref 13, frame := some 14 }
noncomputable def hBody : List Stmt := behindTheImports PW
noncomputable def hPos0 : Pos := ⟨0, 0, 0, 0⟩
noncomputable def hPos1 : Pos := ⟨22, 0, 30, 36⟩
noncomputable def hPos2 : Pos := ⟨49, 0, 54, 32⟩
noncomputable def hPos3 : Pos := ⟨78, 0, 88, 38⟩
noncomputable def hPos4 : Pos := ⟨89, 0, 938, 20⟩
noncomputable def hPos9 : Pos := ⟨979, 0, 990, 15⟩
noncomputable def hB : List Frame := [topFrame hPos0]
noncomputable def hC : Code := .body hBody hEnv
noncomputable def hAnn : Option Value := some (.ref 6)
noncomputable def tS (l : List Obj) (n k : Nat) (os : OsState) : SharedT := ⟨mkT 11 l, n, {}, #[], {}, k, os⟩
noncomputable def tS0 (w : World) (os : OsState) : SharedT := tS (s0o w.params) 15 187 os
noncomputable def tS1 (w : World) (os : OsState) : SharedT := tS (s1o w.params) 104 320 os
noncomputable def tS2 (w : World) (os : OsState) : SharedT := tS (s2o w.params) 188 443 os
noncomputable def tS3 (w : World) (os : OsState) : SharedT := tS (s3o w.params) 301 621 os
noncomputable def tS4 (w : World) (os : OsState) : SharedT := tS (s4o w.params) 741 1269 os
noncomputable def tS9 (w : World) (os : OsState) : SharedT := tS (s9o w.params) 794 1378 os
noncomputable abbrev fTB := PySem.W.Fast.tw14364793385576792824
noncomputable abbrev fSeg := PySem.W.Fast.tw10110043849684766642
noncomputable abbrev fTop := PySem.W.Fast.tw15667345088766844465
noncomputable abbrev fDen := PySem.W.Fast.tw11892475500146522536

theorem h_abs (w : World) (os : OsState) : (tS0 w os).abs = ⟨⟨(s0o w.params).toArray, {}⟩, #[], {}, 187, os⟩ := by kernel_rfl
theorem h_pre (w : World) : (fun os => fTop fTB PW w 11 hAnn 12 ⟨boot_heap w.params, Array.mk [], boot_drawn, boot_toks, os⟩ (topStub PW)) = fun os => some ((tS0 w os).abs, ⟨fDen fTB hC, hC, hPos0, hB⟩) := by kernel_rfl
theorem h_block (w : World) (os : OsState) : segRun treeTable PW w 11 hAnn 1 1 (tS0 w os).abs (blockOf hBody hEnv hC hPos0 hB) = some (.next, (tS0 w os).abs, hC, hPos0) := by kernel_rfl
theorem h_r1 (w : World) : (fun os => fSeg fTB PW w 11 hAnn 1 1100 (tS0 w os) (piecesOf (hBody.take 7) hEnv hC hPos0 hB)) = fun os => some (.next, tS1 w os, hC, hPos1) := by kernel_rfl
theorem h_r2 (w : World) : (fun os => fSeg fTB PW w 11 hAnn 1 1300 (tS1 w os) (piecesOf ((hBody.drop 7).take 5) hEnv hC hPos1 hB)) = fun os => some (.next, tS2 w os, hC, hPos2) := by kernel_rfl
theorem h_r3 (w : World) : (fun os => fSeg fTB PW w 11 hAnn 1 2000 (tS2 w os) (piecesOf ((hBody.drop 12).take 9) hEnv hC hPos2 hB)) = fun os => some (.next, tS3 w os, hC, hPos3) := by kernel_rfl
end Mine

namespace Mine
open PySem PySem.W PySem.Calls PyProof.Rows
theorem h_r4f (w : World) : (fun os => fSeg fTB PW (w.withFollow "special-get-raises" false) 11 hAnn 1 2600 (tS3 (w.withFollow "special-get-raises" false) os) (piecesOf ((hBody.drop 21).take 1) hEnv hC hPos3 hB)) = fun os => some (.next, tS4 (w.withFollow "special-get-raises" false) os, hC, hPos4) := by kernel_rfl
theorem h_r4t (w : World) : (fun os => fSeg fTB PW (w.withFollow "special-get-raises" true) 11 hAnn 1 2600 (tS3 (w.withFollow "special-get-raises" true) os) (piecesOf ((hBody.drop 21).take 1) hEnv hC hPos3 hB)) = fun os => some (.next, tS4 (w.withFollow "special-get-raises" true) os, hC, hPos4) := by kernel_rfl
end Mine

namespace Mine
open PySem PySem.W PySem.Calls PyProof.Rows

noncomputable def hq : Program := view PW [0, 2, 4, 5, 6, 7, 8, 9, 10, 11, 12, 13, 14, 15, 16, 17, 19, 20, 21, 22, 24, 25, 26, 27, 28]
noncomputable def hLoose : List Str := ["Event", "NodeEvent", "CollectionStartEvent", "StreamStartEvent", "DocumentStartEvent", "DocumentEndEvent", "ScalarEvent", "Emitter", "_law_SIGNS"]
noncomputable def hMods : List Str := importedModules PW.main.body
noncomputable def hXt : Shared → Bool := fun s => xlAt hq [] s && recOk (RowW.records PySem.Challenge.rw_qm0002_02.row.toRowW) s
noncomputable abbrev fSeen := @PySem.W.Fast.tw4187177175401517315
noncomputable def hSt (w : World) (s : Shared) : Bool := staticsOk hMods (boot_heap w.params) s.heap && namesBound PW s.heap && gensDone s && laidKept (boot_heap w.params) s.heap
theorem h_fin (w : World) (s : Shared) : topRun treeTable PW w 11 hAnn 2 s ⟨doneF .next, hC, hPos9, hB⟩ = some s := by kernel_rfl
theorem h_r5 (w : World) : (fun os => fSeg fTB PW w 11 hAnn 1 500 (tS4 w os) (piecesOf (hBody.drop 22) hEnv hC hPos4 hB)) = fun os => some (.next, tS9 w os, hC, hPos9) := by kernel_rfl
theorem h_get (P : Params) : fragAt.map (mkT 11 (s9o P)).get = (frag P).map fun p => some p.2 := by kernel_rfl
theorem h_stat (w : World) : (fun os => hSt w (tS9 w os).abs) = fun _ => true := by kernel_rfl
theorem h_seen (w : World) : (fun os => fSeen hq hLoose hMods hXt true (tS9 w os).abs) = fun _ => openGood hq hLoose := by kernel_rfl
end Mine

namespace Mine
open PySem PySem.W PySem.Calls PyProof.Rows

theorem h_r4 (w : World) : (fun os => fSeg fTB PW w 11 hAnn 1 2600 (tS3 w os) (piecesOf ((hBody.drop 21).take 1) hEnv hC hPos3 hB)) = fun os => some (.next, tS4 w os, hC, hPos4) :=
  byRow2 "special-get-raises" (P := fun w => (fun os => fSeg fTB PW w 11 hAnn 1 2600 (tS3 w os) (piecesOf ((hBody.drop 21).take 1) hEnv hC hPos3 hB)) = fun os => some (.next, tS4 w os, hC, hPos4)) h_r4f h_r4t w
theorem seg_of {w : World} {n : Nat} {t t' : SharedT} {l : List Stmt} {p p' : Pos} (h : fSeg fTB PW w 11 hAnn 1 n t (piecesOf l hEnv hC p hB) = some (.next, t', hC, p')) : segRun treeTable PW w 11 hAnn 1 n t.abs (piecesOf l hEnv hC p hB) = some (.next, t'.abs, hC, p') := by
  refine segRun_of ?_
  rw [PySem.W.Fast.te10110043849684766642, PySem.W.Fast.te14364793385576792824]
  exact h
theorem h_cut : hBody.take 7 ++ ((hBody.drop 7).take 5 ++ ((hBody.drop 12).take 9 ++ ((hBody.drop 21).take 1 ++ (hBody.drop 22 ++ [])))) = hBody := by kernel_rfl
theorem h_pre' (w : World) (os : OsState) : topGo treeTable PW w 11 hAnn 12 ⟨boot_heap w.params, Array.mk [], boot_drawn, boot_toks, os⟩ (topStub PW) = some ((tS0 w os).abs, ⟨denote treeTable hC, hC, hPos0, hB⟩) := by
  rw [PySem.W.Fast.te15667345088766844465, PySem.W.Fast.te11892475500146522536, PySem.W.Fast.te14364793385576792824]
  exact congrFun (h_pre w) os
noncomputable def notFreed (o : Obj) : Bool := match o with
  | ⟨_, _, .freed, _⟩ => false
  | _ => true
theorem alive_of {o : Obj} (h : notFreed o = true) : alive o = some o := by
  obtain ⟨c, d, dt, sl⟩ := o
  cases dt <;> first | rfl | (cases h; done)
theorem f_at (P : Params) : fragAt = (frag P).map (·.1) := by kernel_rfl
theorem f_ok (P : Params) : (frag P).all (fun p => Nat.blt p.1 794 && notFreed p.2) = true := by kernel_rfl
theorem frag_get (t : BT) (life : Life) (n : Nat) : ∀ K : Frag, (K.map (·.1)).map t.get = K.map (fun p => some p.2) → K.all (fun p => Nat.blt p.1 n && notFreed p.2) = true → (K.map (·.1)).map (absHeap t n life).get? = K.map fun p => some p.2
  | [], _, _ => rfl
  | p :: K, h, a => by
    simp only [List.map_cons, List.cons.injEq] at h ⊢
    rw [List.all_cons, Bool.and_eq_true, Bool.and_eq_true] at a
    refine ⟨?_, frag_get t life n K h.2 a.2⟩
    rw [abs_get (Nat.le_of_ble_eq_true a.1.1) h.1]
    exact alive_of a.1.2
theorem h_run (w : World) (os : OsState) : topRun treeTable PW w 11 hAnn (12 + (1 + (1100 + (1300 + (2000 + (2600 + (500 + 2))))))) ⟨boot_heap w.params, Array.mk [], boot_drawn, boot_toks, os⟩ (topStub PW) = some (tS9 w os).abs := by
  refine go_top (h_pre' w os) (piece_block (h_block w os) ?_)
  rw [← h_cut]
  refine piece_app (seg_of (congrFun (h_r1 w) os)) ?_
  refine piece_app (seg_of (congrFun (h_r2 w) os)) ?_
  refine piece_app (seg_of (congrFun (h_r3 w) os)) ?_
  refine piece_app (seg_of (congrFun (h_r4 w) os)) ?_
  refine piece_app (seg_of (congrFun (h_r5 w) os)) ?_
  exact piece_nil (h_fin w _)
theorem h_open (w : World) : (fencedOpening treeTable PW w 20000).map (fun s => (s.heap, s.gens, s.drawn, s.toks)) = some (boot_heap w.params, Array.mk [], boot_drawn, boot_toks) :=
  boot_open (p := PW) (N := 20000) (by kernel_rfl) (by decide) (fun s => by kernel_rfl) w
theorem h_size (w : World) : ((boot_heap w.params).isNs mainGlobals && (Array.mk [] : Array GenState).size == 0, (boot_heap w.params).objs.size, (boot_heap w.params).nsMap mainGlobals "__annotations__") = (true, 11, hAnn) := by kernel_rfl

theorem h_yf (P : Params) : fragAt.map (absHeap (mkT 11 (s9o P)) 794 {}).get? = (frag P).map fun p => some p.2 := by
  have e := h_get P
  rw [f_at P] at e ⊢
  exact frag_get _ _ 794 (frag P) e (f_ok P)
theorem h_abs9 (w : World) (os : OsState) : (tS9 w os).abs = ⟨absHeap (mkT 11 (s9o w.params)) 794 {}, #[], {}, 1378, os⟩ := rfl
theorem h_looks (w : World) (os : OsState) : (hSt w (tS9 w os).abs, openSeen hq hLoose hMods hXt true (tS9 w os).abs, fragAt.map (tS9 w os).abs.heap.get?) = (true, openGood hq hLoose, (frag w.params).map fun p => some p.2) := by
  have e1 := congrFun (h_stat w) os
  have e2 := congrFun (h_seen w) os
  have e3 := h_yf w.params
  rw [show hSt w (tS9 w os).abs = true from e1, PySem.W.Fast.te4187177175401517315, show fragAt.map (tS9 w os).abs.heap.get? = _ from e3]
  exact congrArg (fun x => (true, x, (frag w.params).map fun p => some p.2)) e2
theorem h_left : LeftO PW hq hLoose hXt (fun s => fragAt.map s.heap.get?) (fun w => (frag w.params).map fun p => some p.2) 20000 :=
  LeftO.of_pieces (H₁ := fun P => absHeap (mkT 11 (s9o P)) 794 {}) h_open h_size h_run (by decide) fun w => funext fun os => h_looks w os
end Mine

namespace Mine
open PySem PySem.W PySem.Calls PyProof.Rows

/-! the looks at the law itself -/
noncomputable abbrev RW : OpenLaw := PySem.Challenge.rw_qm0002_02
theorem w_res : namesResolve PW = true := by
  rw [PySem.W.Fast.te8377067652309620493]
  kernel_rfl
theorem w_bare1 : readsOut PW PW.main.body "vars" = false := by
  rw [PySem.W.Fast.te13343964577679436407]
  kernel_rfl
theorem w_bare2 : readsOut PW PW.main.body "dir" = false := by
  rw [PySem.W.Fast.te13343964577679436407]
  kernel_rfl
theorem w_bare3 : readsOut PW PW.main.body "locals" = false := by
  rw [PySem.W.Fast.te13343964577679436407]
  kernel_rfl
theorem w_road0 : noRoadLSs { strict := false, foot := none, bare := [] } PW.main.body = true := by
  rw [PySem.W.Fast.te8326940854005059898]
  kernel_rfl
theorem w_strict9 : (!(importedModules PW.main.body).all cThrough.contains) = false := by kernel_rfl
theorem w_road : noRoadLSs { strict := !(importedModules PW.main.body).all cThrough.contains, foot := none, bare := (["vars", "dir", "locals"] : List Str).filter (readsOut PW PW.main.body) } PW.main.body = true := by
  have e : (["vars", "dir", "locals"] : List Str).filter (readsOut PW PW.main.body) = [] := by
    simp only [List.filter_cons, w_bare1, w_bare2, w_bare3, List.filter_nil, Bool.false_eq_true, if_false]
  rw [e, w_strict9]
  exact w_road0
theorem w_meet : (namesMeet PW PW.main.body fun _ n => attrL n) = true := by
  rw [PySem.W.Fast.te17119622794617984870, PySem.W.Fast.te17868728402115742887]
  kernel_rfl
theorem w_looks : looksOpen PW = true := by
  unfold looksOpen
  repeat' (with_reducible refine look_both ?_ ?_)
  all_goals with_reducible first | exact w_res | exact w_road | exact w_meet | skip
  all_goals kernel_rfl
theorem w_part : RW.row.partSaid = true := by
  unfold OpenRow.partSaid
  repeat' (with_reducible refine look_both ?_ ?_)
  · have e : RW.row.prog = PW := by kernel_rfl
    rw [e]
    exact w_looks
  all_goals kernel_rfl
theorem w_row : RW.row.wellSaid = true := by
  unfold OpenRow.wellSaid
  repeat' (with_reducible refine look_both ?_ ?_)
  · exact w_part
  all_goals kernel_rfl
theorem w_above : namesMeet RW.prog RW.above (fun _ n => !RW.own.contains n) = true := by
  rw [PySem.W.Fast.te17119622794617984870]
  kernel_rfl
theorem w_said : RW.wellSaid = true := by
  unfold OpenLaw.wellSaid
  repeat' (with_reducible refine look_both ?_ ?_)
  · exact w_row
  all_goals with_reducible first | exact w_above | skip
  all_goals kernel_rfl
noncomputable def hHook : Hook := kHook frag fragAt f_at
theorem w_opens : (chainsOk hq && opensWell RW.prog && (frees RW.row.toRowW && RW.row.within.isEmpty)) = true := by kernel_rfl
end Mine

namespace Mine
open PySem PySem.W PySem.Calls PyProof.Rows

set_option maxHeartbeats 8000000 in
theorem w_hd (call : ∀ d kwd, defOf hq RW.row.toRowW.name = some (d, kwd) → WalkO hq hLoose (XL hq []) hHook.says RW.row.toRowW d kwd fun f vs => PySem.call f vs) : RW.Holds := by
  refine holds_law w_said fun said => ?_
  refine holds_open (r := RW.row) (q := hq) (loose := hLoose) (Xt := hXt) (XP := XL hq []) (Yf := hHook.obs) (Ya := hHook.val) (YP := hHook.says) (N := 20000) h_left hHook.of hHook.keeps (fun s e => xl_of s (Bool.and_eq_true_iff.mp e).1) XL.keeps (by rfl) (by rfl) (by rfl) (fun s e => recFacts_of (Bool.and_eq_true_iff.mp e).2) (by rfl) said w_opens ⟨rfl, rfl, rfl, rfl, rfl, by decide +kernel⟩ ?hw9 (call _ _ (by rfl))
  case hw9 => exact ⟨[.list []], by decide +kernel, by decide +kernel⟩
end Mine

namespace Mine
open PySem PySem.W PySem.Calls PyProof.Rows

/-! Pure values: what an expression of the small fragment comes to, tokens forgotten. -/
inductive PV where
  | any
  | none
  | bool (b : Bool)
  | int (i : Int)
  | str (x : Str)
  | val (v : Value)

noncomputable def small (x : Str) : Bool := decide (x.length ≤ 16777216)

noncomputable def PV.Is : PV → Value → Prop
  | .any, _ => True
  | .none, v => v = .none
  | .bool b, v => v = .bool b
  | .int i, v => ∃ t, v = .int i t
  | .str x, v => small x = true ∧ ∃ t, v = .str x t
  | .val u, v => v = u

noncomputable def PV.join (c : Bool) : PV → PV → PV
  | .bool x, .bool y => .bool (bif c then x else y)
  | .int x, .int y => .int (bif c then x else y)
  | .str x, .str y => .str (bif c then x else y)
  | .val x, .val y => .val (bif c then x else y)
  | .none, .none => .none
  | _, _ => .any
theorem PV.join_true (p q : PV) : PV.join true p q = p ∨ PV.join true p q = .any := by cases p <;> cases q <;> simp [PV.join]
theorem PV.join_false (p q : PV) : PV.join false p q = q ∨ PV.join false p q = .any := by cases p <;> cases q <;> simp [PV.join]
theorem PV.is_join_true {p q : PV} {v : Value} (h : p.Is v) : (PV.join true p q).Is v := by
  rcases PV.join_true p q with e | e <;> rw [e]
  · exact h
  · trivial
theorem PV.is_join_false {p q : PV} {v : Value} (h : q.Is v) : (PV.join false p q).Is v := by
  rcases PV.join_false p q with e | e <;> rw [e]
  · exact h
  · trivial

noncomputable def key (x : Str) : List Nat := x.cps.toList
theorem key_inj {x y : Str} (h : key x = key y) : x = y := Str.ext' (Array.toList_inj.mp h)


noncomputable def PV.truth : PV → Option Bool
  | .none => some false
  | .bool b => some b
  | .int i => some (i != 0)
  | .str x => some ((x.length : Int) != 0)
  | _ => Option.none

noncomputable def inS (x y : Str) : Bool := !(Builtin.Str.occurrences x y 0 x.length 1).isEmpty

noncomputable def cmpPV (op : CmpOp) (p q : PV) : Option Bool := match p, q with
  | .str x, .str y => (match op with
    | .Eq => some (x.cps.toList == y.cps.toList)
    | .NotEq => some (x.cps.toList != y.cps.toList)
    | .Lt => some (decide (x.cps.toList < y.cps.toList))
    | .LtE => some (!(decide (y.cps.toList < x.cps.toList)))
    | .In => some (inS y x)
    | .NotIn => some (!inS y x)
    | _ => Option.none)
  | .int a, .int b => (match op with
    | .Eq => some (a == b)
    | .NotEq => some (a != b)
    | .Lt => some (decide (a < b))
    | .LtE => some (decide (a ≤ b))
    | .GtE => some (decide (a ≥ b))
    | _ => Option.none)
  | _, _ => Option.none

noncomputable def binPV (op : Operator) (p q : PV) : Option (PV × List Bool) := match p, q with
  | .int a, .int b => (match op with
    | .Add => some (.int (a + b), [])
    | .Sub => some (.int (a - b), [])
    | _ => Option.none)
  | .str x, .str y => (match op with
    | .Add => some (.str (x ++ y), [small (x ++ y)])
    | _ => Option.none)
  | _, _ => Option.none

noncomputable def constPV : Const → Option (PV × List Bool)
  | .none => some (.none, [])
  | .bool b => some (.bool b, [])
  | .int i => some (.int i, [])
  | .str s => bif small s then some (.str s, []) else Option.none
  | _ => Option.none

noncomputable def charAt (x : Str) (k : Int) : Str := ⟨#[x.cps.getD (if k < 0 then k + x.length else k).toNat 0]⟩
noncomputable def itemOk (x : Str) (k : Int) : Bool := decide (-(x.length : Int) ≤ k) && decide (k < x.length)

noncomputable def itemPV : PV → PV → Option (PV × List Bool)
  | .str x, .int k => some (.str (charAt x k), [itemOk x k])
  | _, _ => Option.none

noncomputable def slicePV : PV → Option Int → Option Int → Option (PV × List Bool)
  | .str x, l, u => some (.str (Txt.slice x l u), [])
  | _, _, _ => Option.none

noncomputable def call1PV : PV → PV → Option (PV × List Bool)
  | .val (.builtin f), .str x =>
    bif f == "len" then some (.int x.length, [])
    else bif f == "ord" then some (.int (x.cps.getD 0 0 : Nat), [decide (x.length = 1)])
    else Option.none
  | _, _ => Option.none

noncomputable def orFold : List (Option (PV × List Bool)) → Option (PV × List Bool)
  | [] => Option.none
  | r :: rest => match rest with
    | [] => r
    | _ :: _ => match r with
      | some (v, o) => (match v.truth with
        | some c => (match orFold rest with
          | some (v', o') => some (PV.join c v v', o ++ o'.map (c || ·))
          | Option.none => Option.none)
        | Option.none => Option.none)
      | Option.none => Option.none
noncomputable def andFold : List (Option (PV × List Bool)) → Option (PV × List Bool)
  | [] => Option.none
  | r :: rest => match rest with
    | [] => r
    | _ :: _ => match r with
      | some (v, o) => (match v.truth with
        | some c => (match andFold rest with
          | some (v', o') => some (PV.join c v' v, o ++ o'.map (!c || ·))
          | Option.none => Option.none)
        | Option.none => Option.none)
      | Option.none => Option.none
noncomputable def orT : List (Option (Bool × List Bool)) → Option (Bool × List Bool)
  | [] => some (false, [])
  | some (c, o) :: rest => (match orT rest with
    | some (c', o') => some (c || c', o ++ o'.map (c || ·))
    | Option.none => Option.none)
  | Option.none :: _ => Option.none
noncomputable def andT : List (Option (Bool × List Bool)) → Option (Bool × List Bool)
  | [] => some (true, [])
  | some (c, o) :: rest => (match andT rest with
    | some (c', o') => some (c && c', o ++ o'.map (!c || ·))
    | Option.none => Option.none)
  | Option.none :: _ => Option.none

noncomputable def cmp1 (a b : Option (PV × List Bool)) (op : CmpOp) : Option (Bool × List Bool) := match a, b with
  | some (p, o), some (q, o') => (cmpPV op p q).map fun c => (c, o ++ o')
  | _, _ => Option.none
noncomputable def cmp2 (a b c : Option (PV × List Bool)) (op op' : CmpOp) : Option (Bool × List Bool) := match a, b, c with
  | some (p, o), some (q, o'), some (r, o'') => (match cmpPV op p q, cmpPV op' q r with
    | some c₁, some c₂ => some (c₁ && c₂, o ++ o' ++ o''.map (!c₁ || ·))
    | _, _ => Option.none)
  | _, _, _ => Option.none

section
variable (nm : Str → Option PV) (att : Addr → Str → Option (PV × List Bool))

noncomputable def bound? (f : PySem.Expr → Option (PV × List Bool)) : Option PySem.Expr → Option (Option Int × List Bool)
  | Option.none => some (Option.none, [])
  | some e => match f e with
    | some (.int i, o) => some (some i, o)
    | _ => Option.none

noncomputable def ev : Nat → PySem.Expr → Option (PV × List Bool)
  | 0, _ => Option.none
  | n + 1, e => match e with
    | .Name x _ => (nm x).map fun p => (p, [])
    | .Constant c _ _ => constPV c
    | .UnaryOp op e _ => (match op, ev n e with
      | .Not, some (v, o) => v.truth.map fun r => (.bool (!r), o)
      | .USub, some (.int i, o) => some (.int (-i), o)
      | _, _ => Option.none)
    | .BoolOp .Or es _ => orFold (es.map (ev n))
    | .BoolOp .And es _ => andFold (es.map (ev n))
    | .BinOp l op r _ => (match ev n l, ev n r with
      | some (p, o), some (q, o') => (binPV op p q).map fun r => (r.1, o ++ o' ++ r.2)
      | _, _ => Option.none)
    | .Compare l [op] [r] _ => bif behindInMarks op r then Option.none else (cmp1 (ev n l) (ev n r) op).map fun r => (.bool r.1, r.2)
    | .Compare l [op, op'] [r, r'] _ => bif lastMarks [op, op'] [r, r'] then Option.none else (cmp2 (ev n l) (ev n r) (ev n r') op op').map fun r => (.bool r.1, r.2)
    | .Subscript (.Name v _) (.Slice lo hi Option.none _) _ => (match nm v, bound? (ev n) lo, bound? (ev n) hi with
      | some p, some (l, o'), some (u, o'') => (slicePV p l u).map fun r => (r.1, o' ++ o'' ++ r.2)
      | _, _, _ => Option.none)
    | .Subscript v i _ => (match ev n v, ev n i with
      | some (p, o), some (q, o') => (itemPV p q).map fun r => (r.1, o ++ o' ++ r.2)
      | _, _ => Option.none)
    | .Call (.Name f _) [e] [] _ => (match nm f, ev n e with
      | some p, some (q, o) => (call1PV p q).map fun r => (r.1, o ++ r.2)
      | _, _ => Option.none)
    | .Call (.Attribute (.Name ob _) name ap) [e] [] pos => (match nm ob, ev n e with
      | some (.str x), some (.str y, o') => bif key name == [115, 116, 97, 114, 116, 115, 119, 105, 116, 104] && ap.endLine == pos.line then some (.bool (Txt.startswith x y), o') else Option.none
      | _, _ => Option.none)
    | .Attribute (.Name x _) a _ => (match nm x with
      | some (.val (.ref r)) => att r a
      | _ => Option.none)
    | _ => Option.none

noncomputable def tr : Nat → PySem.Expr → Option (Bool × List Bool)
  | 0, _ => Option.none
  | n + 1, e => match e with
    | .UnaryOp .Not e _ => (tr n e).map fun r => (!r.1, r.2)
    | .BoolOp .Or es _ => orT (es.map (tr n))
    | .BoolOp .And es _ => andT (es.map (tr n))
    | .IfExp .. => Option.none
    | .Compare l [op] [r] _ => bif behindInMarks op r then Option.none else cmp1 (ev nm att n l) (ev nm att n r) op
    | .Compare l [op, op'] [r, r'] _ => bif lastMarks [op, op'] [r, r'] then Option.none else cmp2 (ev nm att n l) (ev nm att n r) (ev nm att n r') op op'
    | .Compare .. => Option.none
    | e => (match ev nm att n e with
      | some (v, o) => v.truth.map fun r => (r, o)
      | Option.none => Option.none)
end
end Mine

namespace Mine
open PySem PySem.W PySem.Calls PyProof.Rows

theorem keeps_refl (s : Shared) : Keeps s s := ⟨s.heap, s.toks, rfl, fun _ _ e => e⟩
theorem keeps_tok {s₀ s : Shared} (h : Keeps s₀ s) (k : Nat) : Keeps s₀ { s with toks := k } := by
  obtain ⟨h', tk, rfl, hk⟩ := h
  exact ⟨h', k, rfl, hk⟩
theorem keeps_heap {s₀ s : Shared} (h : Keeps s₀ s) {g : Heap} (hg : ∀ b o, s.heap.get? b = some o → g.get? b = some o) (k : Nat) : Keeps s₀ { s with heap := g, toks := k } := by
  obtain ⟨h', tk, rfl, hk⟩ := h
  exact ⟨g, k, rfl, fun b o e => hg b o (hk b o e)⟩
theorem keeps_trans {s₀ s s' : Shared} (h : Keeps s₀ s) (h' : Keeps s s') : Keeps s₀ s' := by
  obtain ⟨g, tk, rfl, hk⟩ := h'
  exact keeps_heap h hk tk

theorem small_le {x : Str} (h : small x = true) : x.length ≤ 16777216 := of_decide_eq_true h
theorem small_line {x : Str} (h : small x = true) : x.length ≤ sizeLine := by rw [sizeLine_eq]; exact small_le h
theorem small_fit {x : Str} (h : small x = true) : ¬ (x.length : Int) ≥ 2 ^ 63 := by have := small_le h; omega

noncomputable def AllT (l : List Bool) : Prop := ∀ b ∈ l, b = true
theorem allT_nil : AllT [] := fun _ h => nomatch h
theorem AllT.left {l l' : List Bool} (h : AllT (l ++ l')) : AllT l := fun b hb => h b (List.mem_append_left _ hb)
theorem AllT.right {l l' : List Bool} (h : AllT (l ++ l')) : AllT l' := fun b hb => h b (List.mem_append_right _ hb)
theorem AllT.or_false {l : List Bool} (h : AllT (l.map (false || ·))) : AllT l := fun b hb => by simpa using h (false || b) (List.mem_map.mpr ⟨b, hb, rfl⟩)
theorem AllT.or_not_true {l : List Bool} (h : AllT (l.map (!true || ·))) : AllT l := fun b hb => by simpa using h (!true || b) (List.mem_map.mpr ⟨b, hb, rfl⟩)
theorem AllT.one {b : Bool} (h : AllT [b]) : b = true := h b (.head _)

section
variable {prog : Program} {w : World} {A : Around} {E : Value → Shared → Prop} {env : Env} {s₀ s : Shared}

theorem truth_sound {p : PV} {c : Bool} {v : Value} {Q : Bool → Shared → Prop} (h : p.truth = some c) (hv : p.Is v) (hs : Keeps s₀ s) (k : ∀ s', Keeps s₀ s' → Q c s') :
    wpAny (model prog w) A (truthy v) Q E s := by
  cases p with
  | any => cases h
  | val _ => cases h
  | none => cases h; cases hv; exact truthy_none (k s hs)
  | bool b => cases h; cases hv; exact wpAny_truthy_bool (k s hs)
  | int i => cases h; obtain ⟨t, rfl⟩ := hv; exact P.truthy_int (k s hs)
  | str x => cases h; obtain ⟨ho, t, rfl⟩ := hv; exact P.truthy_str (small_fit ho) (k _ (keeps_tok hs _))

theorem cmp_sound {op : CmpOp} {p q : PV} {c : Bool} {a b : Value} {Q : Value → Shared → Prop} (h : cmpPV op p q = some c) (ha : p.Is a) (hb : q.Is b) (k : Q (.bool c) s) :
    wpAny (model prog w) A (compareOp op a b) Q E s := by
  cases p <;> cases q <;> first | (cases h; done) | skip
  · obtain ⟨t, rfl⟩ := ha; obtain ⟨u, rfl⟩ := hb
    cases op <;> first | (cases h; done) | skip
    · cases h; exact P.eq_int k
    · cases h; exact P.ne_int k
    · cases h; exact P.lt_int k
    · cases h; exact P.le_int k
    · cases h; exact P.ge_int k
  · obtain ⟨_, t, rfl⟩ := ha; obtain ⟨_, u, rfl⟩ := hb
    cases op <;> first | (cases h; done) | skip
    · cases h; exact P.eq_str k
    · cases h; exact P.ne_str k
    · cases h; exact P.lt_str k
    · cases h; exact P.le_str k
    · cases h; exact P.in_str k
    · cases h; exact P.notIn_str k

theorem str_empty_append {x y : Str} (h : (x.length == 0) = true) : x ++ y = y := by
  have : x.cps.size = 0 := by simpa [Str.length] using h
  exact Str.ext' (by rw [Str.cps_append, Array.eq_empty_of_size_eq_zero this]; simp)
theorem str_append_empty {x y : Str} (h : (y.length == 0) = true) : x ++ y = x := by
  have : y.cps.size = 0 := by simpa [Str.length] using h
  exact Str.ext' (by rw [Str.cps_append, Array.eq_empty_of_size_eq_zero this]; simp)

theorem bin_sound {op : Operator} {p q r : PV} {o : List Bool} {a b : Value} {Q : Value → Shared → Prop} (h : binPV op p q = some (r, o)) (ho : AllT o) (ha : p.Is a) (hb : q.Is b) (hs : Keeps s₀ s)
    (k : ∀ v s', r.Is v → Keeps s₀ s' → Q v s') : wpAny (model prog w) A (binaryOp op a b) Q E s := by
  cases p <;> cases q <;> first | (cases h; done) | skip
  · obtain ⟨t, rfl⟩ := ha; obtain ⟨u, rfl⟩ := hb
    cases op <;> first | (cases h; done) | skip
    · cases h; exact P.add_int (k _ _ ⟨_, rfl⟩ (keeps_tok hs _))
    · cases h; exact P.sub_int (k _ _ ⟨_, rfl⟩ (keeps_tok hs _))
  · obtain ⟨_, t, rfl⟩ := ha; obtain ⟨_, u, rfl⟩ := hb
    cases op <;> first | (cases h; done) | skip
    cases h
    have ho := ho.one
    refine P.add_str ?_
    split
    · rename_i e; exact k _ _ ⟨ho, u, by rw [str_empty_append e]⟩ hs
    · split
      · rename_i e; exact k _ _ ⟨ho, t, by rw [str_append_empty e]⟩ hs
      · exact ⟨small_line ho, k _ _ ⟨ho, _, rfl⟩ (keeps_tok hs _)⟩

theorem const_sound {c : Const} {kd : Nat} {pos : Pos} {r : PV} {o : List Bool} {Q : Value → Shared → Prop} (h : constPV c = some (r, o)) (hs : Keeps s₀ s) (k : ∀ v s', r.Is v → Keeps s₀ s' → Q v s') :
    wpAny (model prog w) A (eval (.Constant c kd pos) env) Q E s := by
  cases c <;> first | (cases h; done) | skip
  · cases h; exact Constant_none (k _ _ rfl hs)
  · cases h; exact Constant_bool (k _ _ rfl hs)
  · cases h; exact wpAny_Constant_int (k _ _ ⟨_, rfl⟩ (keeps_tok hs _))
  · rename_i x
    simp only [constPV] at h
    cases hx : small x with
    | false => rw [hx] at h; cases h
    | true => rw [hx] at h; cases h; exact Constant_str (k _ _ ⟨hx, _, rfl⟩ (keeps_tok hs _))

theorem small_one (c : Nat) : small ⟨#[c]⟩ = true := by unfold small; exact decide_eq_true (by show 1 ≤ 16777216; omega)
theorem item_sound {p q r : PV} {o : List Bool} {a b : Value} {Q : Value → Shared → Prop} (h : itemPV p q = some (r, o)) (ho : AllT o) (ha : p.Is a) (hb : q.Is b) (hs : Keeps s₀ s)
    (k : ∀ v s', r.Is v → Keeps s₀ s' → Q v s') : wpAny (model prog w) A (getItem a b) Q E s := by
  cases p <;> cases q <;> first | (cases h; done) | skip
  rename_i x i
  obtain ⟨hsm, t, rfl⟩ := ha; obtain ⟨u, rfl⟩ := hb
  cases h
  have ho := ho.one
  simp only [itemOk, Bool.and_eq_true, decide_eq_true_eq] at ho
  have hl := small_le hsm
  refine P.getItem_str (c := x.cps.getD (if i < 0 then i + x.length else i).toNat 0) ?_ ?_ (k _ _ ⟨small_one _, _, rfl⟩ (keeps_tok hs _))
  · simp only [Bool.or_eq_false_iff, decide_eq_false_iff_not]; omega
  · have hlen : x.length = x.cps.size := rfl
    have hj : (0 ≤ (if i < 0 then i + (x.length : Int) else i) ∧ (if i < 0 then i + (x.length : Int) else i) < x.length) := by split <;> omega
    have h2 : (if i < 0 then i + (x.length : Int) else i).toNat < x.cps.size := by omega
    have e : seqIndex? i x.length = some (if i < 0 then i + (x.length : Int) else i).toNat := by
      show (if (decide (0 ≤ (if i < 0 then i + (x.length : Int) else i)) && decide ((if i < 0 then i + (x.length : Int) else i) < (x.length : Int))) = true then some (if i < 0 then i + (x.length : Int) else i).toNat else Option.none) = _
      rw [if_pos (by simp only [Bool.and_eq_true, decide_eq_true_eq]; exact hj)]
    rw [e]
    show x.cps[(if i < 0 then i + (x.length : Int) else i).toNat]? = _
    rw [Array.getElem?_eq_getElem h2, Array.getD_eq_getD_getElem?, Array.getElem?_eq_getElem h2]
    rfl
end
end Mine

namespace Mine
open PySem PySem.W PySem.Calls PyProof.Rows

section
variable (prog : Program) (w : World) (A : Around) (E : Value → Shared → Prop) (env : Env) (s₀ : Shared)
noncomputable def NmOk (nm : Str → Option PV) : Prop := ∀ x p, nm x = some p → ∀ s, Keeps s₀ s → ∀ pos (Q : Value → Shared → Prop), (∀ v, p.Is v → Q v s) → wpAny (model prog w) A (eval (.Name x pos) env) Q E s
noncomputable def AttOk (att : Addr → Str → Option (PV × List Bool)) : Prop := ∀ r a p o, att r a = some (p, o) → AllT o → ∀ s, Keeps s₀ s → ∀ (Q : Value → Shared → Prop), (∀ v s', p.Is v → Keeps s₀ s' → Q v s') → wpAny (model prog w) A (getAttr (.ref r) a true) Q E s
noncomputable def EvS (e : PySem.Expr) (r : PV × List Bool) : Prop := AllT r.2 → ∀ s, Keeps s₀ s → ∀ (Q : Value → Shared → Prop), (∀ v s', r.1.Is v → Keeps s₀ s' → Q v s') → wpAny (model prog w) A (eval e env) Q E s
noncomputable def TrS (e : PySem.Expr) (r : Bool × List Bool) : Prop := AllT r.2 → ∀ s, Keeps s₀ s → ∀ (Q : Bool → Shared → Prop), (∀ s', Keeps s₀ s' → Q r.1 s') → wpAny (model prog w) A (isTrue e env (eval e env)) Q E s
end

section
variable {prog : Program} {w : World} {A : Around} {E : Value → Shared → Prop} {env : Env} {s₀ : Shared} {nm : Str → Option PV} {att : Addr → Str → Option (PV × List Bool)}

theorem ev_not_slice {n : Nat} {lo hi st : Option PySem.Expr} {p : Pos} : ev nm att n (.Slice lo hi st p) = Option.none := by cases n <;> rfl
theorem ev_not_star {n : Nat} {e : PySem.Expr} {p : Pos} : ev nm att n (.Starred e p) = Option.none := by cases n <;> rfl
theorem star_plain {n : Nat} {e : PySem.Expr} {rest : List PySem.Expr} {r : PV × List Bool} (h : ev nm att n e = some r) : starEach (e :: rest) env = (false, eval e env) :: starEach rest env := by
  cases e <;> first | rfl | (rw [ev_not_star] at h; cases h)
theorem sub_plain {n : Nat} {i : PySem.Expr} {r : PV × List Bool} (h : ev nm att n i = some r) (o v : Value) : subscripted i false o v = operate [o, v] (getItem o v) := by
  cases i <;> first | rfl | (rw [ev_not_slice] at h; cases h)

theorem orFold_sound {n : Nat} (ih : ∀ e r, ev nm att n e = some r → EvS prog w A E env s₀ e r) : ∀ (es : List PySem.Expr) (pos : Pos) (r : PV × List Bool), orFold (es.map (ev nm att n)) = some r → EvS prog w A E env s₀ (.BoolOp .Or es pos) r
  | [], _, _, h => nomatch h
  | [e], pos, r, h => fun ho s hs Q k => BoolOp_one (ih e r h ho s hs Q k)
  | e :: e' :: rest, pos, r, h => by
    intro ho s hs Q k
    simp only [List.map_cons, orFold] at h
    split at h
    · rename_i v o h1
      split at h
      · rename_i c h2
        split at h
        · rename_i v' o' h3
          cases h
          refine BoolOp_or (ih e _ h1 ho.left s hs _ fun a s₁ ha hs₁ => ?_)
          refine truth_sound h2 ha hs₁ fun s₂ hs₂ => ?_
          cases c with
          | true => exact k _ _ (PV.is_join_true ha) hs₂
          | false => exact orFold_sound ih (e' :: rest) pos (v', o') h3 ho.right.or_false s₂ hs₂ _ fun b s₃ hb hs₃ => k _ _ (PV.is_join_false hb) hs₃
        · cases h
      · cases h
    · cases h

theorem andFold_sound {n : Nat} (ih : ∀ e r, ev nm att n e = some r → EvS prog w A E env s₀ e r) : ∀ (es : List PySem.Expr) (pos : Pos) (r : PV × List Bool), andFold (es.map (ev nm att n)) = some r → EvS prog w A E env s₀ (.BoolOp .And es pos) r
  | [], _, _, h => nomatch h
  | [e], pos, r, h => fun ho s hs Q k => BoolOp_one (ih e r h ho s hs Q k)
  | e :: e' :: rest, pos, r, h => by
    intro ho s hs Q k
    simp only [List.map_cons, andFold] at h
    split at h
    · rename_i v o h1
      split at h
      · rename_i c h2
        split at h
        · rename_i v' o' h3
          cases h
          refine BoolOp_and (ih e _ h1 ho.left s hs _ fun a s₁ ha hs₁ => ?_)
          refine truth_sound h2 ha hs₁ fun s₂ hs₂ => ?_
          cases c with
          | false => exact k _ _ (PV.is_join_false ha) hs₂
          | true => exact andFold_sound ih (e' :: rest) pos (v', o') h3 ho.right.or_not_true s₂ hs₂ _ fun b s₃ hb hs₃ => k _ _ (PV.is_join_true hb) hs₃
        · cases h
      · cases h
    · cases h

theorem bound_sound {n : Nat} (ih : ∀ e r, ev nm att n e = some r → EvS prog w A E env s₀ e r) {x : Option PySem.Expr} {l : Option Int} {o : List Bool} (h : bound? (ev nm att n) x = some (l, o)) (ho : AllT o) {s : Shared} (hs : Keeps s₀ s)
    {Q : Value → Shared → Prop} (k : ∀ l' s', l'.map (·.1) = l → Keeps s₀ s' → Q (partValue l') s') : wpAny (model prog w) A (evalPart x env) Q E s := by
  cases x with
  | none => cases h; exact wpAny_pure (k Option.none s rfl hs)
  | some e =>
    simp only [bound?] at h
    split at h
    · rename_i i o' h1
      cases h
      refine ih e _ h1 ho s hs _ fun v s' hv hs' => ?_
      obtain ⟨t, rfl⟩ := hv
      exact k (some (i, t)) s' rfl hs'
    · cases h

theorem slice_sound {p : PV} {l u : Option Int} {r : PV} {o : List Bool} {a : Value} {l' u' : Option (Int × Tok)} {s : Shared} {Q : Value → Shared → Prop} (h : slicePV p l u = some (r, o)) (ha : p.Is a)
    (hl : l'.map (·.1) = l) (hu : u'.map (·.1) = u) (hs : Keeps s₀ s) (k : ∀ v s', r.Is v → Keeps s₀ s' → Q v s') :
    ∃ x t l u, a = .str x t ∧ partValue l' = partValue l ∧ partValue u' = partValue u ∧
        (sliceMade x t l u Option.none).post Q { s with heap := s.heap.push { cls := .type "slice", data := .fields #[partValue l', partValue u', .none] } } := by
  cases p <;> first | (cases h; done) | skip
  cases h
  obtain ⟨ho, t, rfl⟩ := ha
  refine ⟨_, t, l', u', rfl, rfl, rfl, ?_⟩
  have hk : ∀ tk, Keeps s₀ { s with heap := s.heap.push { cls := .type "slice", data := .fields #[partValue l', partValue u', .none] }, toks := tk } := fun tk => keeps_heap hs (fun b o e => Heap.get?_push_of_some _ e) tk
  refine post_val_or_str ⟨?_, fun t' kk => ?_⟩
  · rename_i x
    have := Txt.slice_le x l u
    refine Nat.le_trans ?_ (small_line ho)
    subst hl hu
    exact this
  · rename_i x
    have h9 : small (Txt.slice x l u) = true := decide_eq_true (Nat.le_trans (Txt.slice_le x l u) (small_le ho))
    refine k _ _ ⟨h9, t', ?_⟩ (hk kk)
    subst hl hu
    rfl

theorem call1_sound {p q r : PV} {o : List Bool} {f a : Value} {s : Shared} {Q : Value → Shared → Prop} (h : call1PV p q = some (r, o)) (ho : AllT o) (hf : p.Is f) (ha : q.Is a) (hs : Keeps s₀ s)
    (k : ∀ v s', r.Is v → Keeps s₀ s' → Q v s') : wpAny (model prog w) A (call f [a]) Q E s := by
  unfold call1PV at h
  split at h
  · rename_i g x
    obtain ⟨hsm, t, rfl⟩ := ha
    cases hf
    cases h1 : (g == "len") with
    | true =>
      rw [h1] at h
      cases h
      cases beq_iff_eq.mp h1
      exact P.len_str (small_fit hsm) (k _ _ ⟨_, rfl⟩ (keeps_tok hs _))
    | false =>
      rw [h1] at h
      cases h2 : (g == "ord") with
      | true =>
        rw [h2] at h
        cases h
        cases beq_iff_eq.mp h2
        exact ord_of_one (of_decide_eq_true ho.one) (k _ _ ⟨_, rfl⟩ (keeps_tok hs _))
      | false => rw [h2] at h; cases h
  · cases h

theorem builtin_of_call1 {p q : PV} {r : PV × List Bool} {f : Value} (h : call1PV p q = some r) (hf : p.Is f) : ∃ id, f = .builtin id := by
  unfold call1PV at h
  split at h
  · cases hf; exact ⟨_, rfl⟩
  · cases h

theorem cmp1_sound {n : Nat} (ih : ∀ e r, ev nm att n e = some r → EvS prog w A E env s₀ e r) {l r : PySem.Expr} {op : CmpOp} {c : Bool} {o : List Bool} (h : cmp1 (ev nm att n l) (ev nm att n r) op = some (c, o)) (ho : AllT o) {s : Shared} (hs : Keeps s₀ s)
    {Q : Value → Shared → Prop} (k : ∀ s', Keeps s₀ s' → Q (.bool c) s') :
    wpAny (model prog w) A (eval l env) (fun a s₁ => wpAny (model prog w) A (eval r env) (fun b s₂ => wpAny (model prog w) A (compareOp op a b) Q E s₂) E s₁) E s := by
  unfold cmp1 at h
  split at h
  · rename_i p o₁ q o₂ h1 h2
    cases h3 : cmpPV op p q with
    | none => rw [h3] at h; cases h
    | some c' =>
      rw [h3] at h
      cases h
      exact ih l _ h1 ho.left s hs _ fun a s₁ ha hs₁ => ih r _ h2 ho.right s₁ hs₁ _ fun b s₂ hb hs₂ => cmp_sound h3 ha hb (k s₂ hs₂)
  · cases h

theorem ev_sound (hn : NmOk prog w A E env s₀ nm) (ha : AttOk prog w A E s₀ att) : ∀ n e r, ev nm att n e = some r → EvS prog w A E env s₀ e r := by
  intro n
  induction n with
  | zero => intro e r h; cases h
  | succ n ih =>
    intro e r h
    unfold ev at h
    split at h
    · rename_i x pos
      cases hx : nm x with
      | none => rw [hx] at h; cases h
      | some p => rw [hx] at h; cases h; exact fun _ s hs Q k => hn x p hx s hs pos Q fun v hv => k v s hv hs
    · exact fun _ s hs Q k => const_sound h hs k
    · rename_i op e pos
      split at h
      · rename_i v o h1
        cases h2 : v.truth with
        | none => rw [h2] at h; cases h
        | some c =>
          rw [h2] at h; cases h
          intro ho s hs Q k
          exact UnaryOp_ (ih e _ h1 ho s hs _ fun a s₁ ha' hs₁ => not_of (truth_sound h2 ha' hs₁ fun s₂ hs₂ => k _ _ rfl hs₂))
      · rename_i i o h1
        cases h
        intro ho s hs Q k
        refine UnaryOp_ (ih e _ h1 ho s hs _ fun a s₁ ha' hs₁ => ?_)
        obtain ⟨t, rfl⟩ := ha'
        exact P.neg_int (k _ _ ⟨_, rfl⟩ (keeps_tok hs₁ _))
      · cases h
    · exact orFold_sound ih _ _ r h
    · exact andFold_sound ih _ _ r h
    · rename_i l op r' pos
      split at h
      · rename_i p o q o' h1 h2
        cases h3 : binPV op p q with
        | none => rw [h3] at h; cases h
        | some t =>
          rw [h3] at h; cases h
          intro ho s hs Q k
          exact wpAny_BinOp (ih l _ h1 ho.left.left s hs _ fun a s₁ ha' hs₁ => ih r' _ h2 ho.left.right s₁ hs₁ _ fun b s₂ hb hs₂ => bin_sound h3 ho.right ha' hb hs₂ k)
      · cases h
    · rename_i l op r' pos
      cases hb : behindInMarks op r' with
      | true => rw [hb] at h; cases h
      | false =>
        rw [hb] at h
        simp only [cond_false] at h
        cases h3 : cmp1 (ev nm att n l) (ev nm att n r') op with
        | none => rw [h3] at h; cases h
        | some t =>
          obtain ⟨c, o⟩ := t
          rw [h3] at h; cases h
          intro ho s hs Q k
          exact wpAny_Compare1 (cmp1_sound ih h3 ho hs fun s' hs' => k _ _ rfl hs') hb
    · rename_i l op op' r₁ r₂ pos
      cases hb : lastMarks [op, op'] [r₁, r₂] with
      | true => rw [hb] at h; cases h
      | false =>
        rw [hb] at h
        simp only [cond_false] at h
        cases h3 : cmp2 (ev nm att n l) (ev nm att n r₁) (ev nm att n r₂) op op' with
        | none => rw [h3] at h; cases h
        | some t =>
          obtain ⟨c, o⟩ := t
          rw [h3] at h; cases h
          unfold cmp2 at h3
          split at h3
          · rename_i p o₁ q o₂ z o₃ e1 e2 e3
            split at h3
            · rename_i c₁ c₂ e4 e5
              cases h3
              intro ho s hs Q k
              refine Compare_chain (ih l _ e1 ho.left.left s hs _ fun a s₁ ha' hs₁ => ?_) hb
              refine chain_link (ih r₁ _ e2 ho.left.right s₁ hs₁ _ fun b s₂ hb' hs₂ => cmp_sound e4 ha' hb' (wpAny_truthy_bool ?_))
              cases c₁ with
              | false => exact k _ _ rfl hs₂
              | true => exact chain_last (ih r₂ _ e3 ho.right.or_not_true s₂ hs₂ _ fun d s₃ hd hs₃ => cmp_sound e5 hb' hd (k _ _ rfl hs₃))
            · cases h3
          · cases h3
    · rename_i v pv lo hi ps pos
      split at h
      · rename_i p l o' u o'' h1 h2 h3
        cases h4 : slicePV p l u with
        | none => rw [h4] at h; cases h
        | some t =>
          obtain ⟨t1, t2⟩ := t
          rw [h4] at h; cases h
          intro ho s hs Q k
          refine wpAny_Subscript_str_slice (hn v p h1 s hs _ _ fun a ha' => ?_)
          refine bound_sound ih h2 ho.left.left hs fun l' s₁ hl' hs₁ => ?_
          refine bound_sound ih h3 ho.left.right hs₁ fun u' s₂ hu' hs₂ => ?_
          exact slice_sound h4 ha' hl' hu' hs₂ k
      · cases h
    · rename_i v i pos hne
      split at h
      · rename_i p o q o' h1 h2
        cases h3 : itemPV p q with
        | none => rw [h3] at h; cases h
        | some t =>
          obtain ⟨t1, t2⟩ := t
          rw [h3] at h; cases h
          intro ho s hs Q k
          refine Subscript_ (ih v _ h1 ho.left.left s hs _ fun a s₁ ha' hs₁ => ih i _ h2 ho.left.right s₁ hs₁ _ fun b s₂ hb hs₂ => ?_)
          cases p <;> cases q <;> first | (cases h3; done) | skip
          obtain ⟨hsm, t, rfl⟩ := ha'; obtain ⟨u, rfl⟩ := hb
          exact tail_any (typeIs_str _ _ _) F.slot_str_getitem.lookup (item_sound h3 ho.right ⟨hsm, t, rfl⟩ ⟨u, rfl⟩ hs₂ k) (sub_plain h2 _ _)
      · cases h
    · rename_i f pf e pos
      split at h
      · rename_i p q o h1 h2
        cases h3 : call1PV p q with
        | none => rw [h3] at h; cases h
        | some t =>
          obtain ⟨t1, t2⟩ := t
          rw [h3] at h; cases h
          intro ho s hs Q k
          refine Call_Name (trees := backTo pos (starEach [e] env)) rfl (hn f p h1 s hs _ _ fun fv hf => ?_)
          obtain ⟨id, rfl⟩ := builtin_of_call1 h3 hf
          refine PyProof.Rows.callWith_builtin1 (args_cons (ih e _ h2 ho.left s hs _ fun a s₁ ha' hs₁ => args_nil (call1_sound h3 ho.right hf ha' hs₁ k)) (star_plain h2)) (star_plain h2)
      · cases h
    · rename_i ob po name pa e pos
      split at h
      · rename_i x y o' h1 h2
        cases hk : (key name == [115, 116, 97, 114, 116, 115, 119, 105, 116, 104] && pa.endLine == pos.line) with
        | false => rw [hk] at h; cases h
        | true =>
          rw [hk] at h; cases h
          simp only [Bool.and_eq_true] at hk
          have hname : name = ("startswith" : Str) := key_inj ((beq_iff_eq.mp hk.1).trans (by decide +kernel))
          subst hname
          have hst := star_plain (env := env) (rest := []) h2
          intro ho s hs Q k
          refine wpAny_Call_method_lateS rfl (by rw [hst]; rfl) hk.2 (hn ob _ h1 s hs _ _ fun a ha' => ?_)
          obtain ⟨_, t, rfl⟩ := ha'
          rw [hst]
          refine SB.startswith (ih e _ h2 ho s hs _ fun b s₁ hb hs₁ => ?_)
          obtain ⟨_, u, rfl⟩ := hb
          exact ⟨y, u, rfl, k _ _ rfl hs₁⟩
      · cases h
    · rename_i x px a pos
      split at h
      · rename_i r' h1
        obtain ⟨p, o⟩ := r
        intro ho s hs Q k
        refine Attribute_Name_ (hn x _ h1 s hs _ _ fun v hv => ?_)
        cases hv
        exact ha r' a p o h ho s hs Q k
      · cases h
    · cases h

theorem orT_sound {n : Nat} (ih : ∀ e r, tr nm att n e = some r → TrS prog w A E env s₀ e r) : ∀ (es : List PySem.Expr) (pos : Pos) (whole : Sem Value) (r : Bool × List Bool), orT (es.map (tr nm att n)) = some r →
    AllT r.2 → ∀ s, Keeps s₀ s → ∀ (Q : Bool → Shared → Prop), (∀ s', Keeps s₀ s' → Q r.1 s') → wpAny (model prog w) A (isTrue (.BoolOp .Or es pos) env whole) Q E s
  | [], _, _, r, h => fun _ s hs Q k => by cases h; exact isTrue_or_nil (k s hs)
  | e :: rest, pos, whole, r, h => by
    intro ho s hs Q k
    rw [List.map_cons] at h
    cases h1 : tr nm att n e with
    | none => rw [h1] at h; cases h
    | some t =>
      obtain ⟨c, o⟩ := t
      rw [h1] at h
      simp only [orT] at h
      split at h
      · rename_i c' o' h2
        cases h
        refine isTrue_or (ih e _ h1 ho.left s hs _ fun s₁ hs₁ => ?_)
        cases c with
        | true => exact k _ hs₁
        | false => exact orT_sound ih rest pos whole (c', o') h2 ho.right.or_false s₁ hs₁ _ k
      · cases h
theorem andT_sound {n : Nat} (ih : ∀ e r, tr nm att n e = some r → TrS prog w A E env s₀ e r) : ∀ (es : List PySem.Expr) (pos : Pos) (whole : Sem Value) (r : Bool × List Bool), andT (es.map (tr nm att n)) = some r →
    AllT r.2 → ∀ s, Keeps s₀ s → ∀ (Q : Bool → Shared → Prop), (∀ s', Keeps s₀ s' → Q r.1 s') → wpAny (model prog w) A (isTrue (.BoolOp .And es pos) env whole) Q E s
  | [], _, _, r, h => fun _ s hs Q k => by cases h; exact isTrue_and_nil (k s hs)
  | e :: rest, pos, whole, r, h => by
    intro ho s hs Q k
    rw [List.map_cons] at h
    cases h1 : tr nm att n e with
    | none => rw [h1] at h; cases h
    | some t =>
      obtain ⟨c, o⟩ := t
      rw [h1] at h
      simp only [andT] at h
      split at h
      · rename_i c' o' h2
        cases h
        refine isTrue_and (ih e _ h1 ho.left s hs _ fun s₁ hs₁ => ?_)
        cases c with
        | false => exact k _ hs₁
        | true => exact andT_sound ih rest pos whole (c', o') h2 ho.right.or_not_true s₁ hs₁ _ k
      · cases h

theorem tr_sound (hn : NmOk prog w A E env s₀ nm) (ha : AttOk prog w A E s₀ att) : ∀ n e r, tr nm att n e = some r → TrS prog w A E env s₀ e r := by
  intro n
  induction n with
  | zero => intro e r h; cases h
  | succ n ih =>
    have ih' := ev_sound (prog := prog) (w := w) (A := A) (E := E) (env := env) (s₀ := s₀) hn ha n
    intro e r h
    unfold tr at h
    split at h
    · rename_i e pos
      cases h1 : tr nm att n e with
      | none => rw [h1] at h; cases h
      | some t =>
        obtain ⟨c, o⟩ := t
        rw [h1] at h; cases h
        exact fun ho s hs Q k => isTrue_not (ih e _ h1 ho s hs _ k)
    · exact fun ho s hs Q k => orT_sound ih _ _ _ r h ho s hs Q k
    · exact fun ho s hs Q k => andT_sound ih _ _ _ r h ho s hs Q k
    · cases h
    · rename_i l op r' pos
      cases hb : behindInMarks op r' with
      | true => rw [hb] at h; cases h
      | false =>
        rw [hb] at h
        simp only [cond_false] at h
        obtain ⟨c, o⟩ := r
        exact fun ho s hs Q k => wpAny_isTrue_Compare1 (cmp1_sound ih' h ho hs fun s' hs' => wpAny_truthy_bool (k _ hs')) hb
    · rename_i l op op' r₁ r₂ pos
      cases hb : lastMarks [op, op'] [r₁, r₂] with
      | true => rw [hb] at h; cases h
      | false =>
        rw [hb] at h
        simp only [cond_false] at h
        unfold cmp2 at h
        split at h
        · rename_i p o₁ q o₂ z o₃ e1 e2 e3
          split at h
          · rename_i c₁ c₂ e4 e5
            cases h
            intro ho s hs Q k
            refine isTrue_chain (ih' l _ e1 ho.left.left s hs _ fun a s₁ ha' hs₁ => ?_) hb
            refine test_link (ih' r₁ _ e2 ho.left.right s₁ hs₁ _ fun b s₂ hb' hs₂ => cmp_sound e4 ha' hb' (wpAny_truthy_bool ?_))
            cases c₁ with
            | false => exact k _ hs₂
            | true => exact test_last (ih' r₂ _ e3 ho.right.or_not_true s₂ hs₂ _ fun d s₃ hd hs₃ => cmp_sound e5 hb' hd (wpAny_truthy_bool (k _ hs₃)))
          · cases h
        · cases h
    · cases h
    · rename_i n1 n2 n3 n4 n5 n6 n7
      split at h
      · rename_i v o h1
        cases h2 : v.truth with
        | none => rw [h2] at h; cases h
        | some c =>
          rw [h2] at h; cases h
          intro ho s hs Q k
          refine isTrue_plain (ih' e _ h1 ho s hs _ fun a s₁ ha' hs₁ => truth_sound h2 ha' hs₁ k) ?_
          cases e <;> first | rfl | skip
          all_goals first | (exact absurd rfl (n4 _ _ _ _)) | (exact absurd rfl (n7 _ _ _ _)) | skip
          · rename_i op es pos
            cases op
            · exact absurd rfl (n3 _ _)
            · exact absurd rfl (n2 _ _)
          · rename_i op e pos
            cases op <;> first | rfl | exact absurd rfl (n1 _ _)
      · cases h
end
end Mine

namespace Mine
open PySem PySem.W PySem.Calls PyProof.Rows

noncomputable abbrev Sto := List (List Nat × PV)
noncomputable def keq : List Nat → List Nat → Bool
  | [], [] => true
  | a :: x, b :: y => Nat.beq a b && keq x y
  | _, _ => false
theorem keq_iff : ∀ {x y : List Nat}, keq x y = true ↔ x = y
  | [], [] => by simp [keq]
  | [], _ :: _ => by simp [keq]
  | _ :: _, [] => by simp [keq]
  | a :: x, b :: y => by simp [keq, keq_iff (x := x) (y := y)]
theorem keq_refl (x : List Nat) : keq x x = true := keq_iff.mpr rfl

noncomputable def look : Sto → List Nat → Option PV
  | [], _ => Option.none
  | (k, p) :: r, x => bif keq k x then some p else look r x
noncomputable def put : Sto → List Nat → PV → Sto
  | [], x, p => [(x, p)]
  | (k, q) :: r, x, p => bif keq k x then (k, p) :: r else (k, q) :: put r x p
noncomputable def puts (σ : Sto) : Sto → Sto
  | [] => σ
  | (k, p) :: r => puts (put σ k p) r
noncomputable def lookA (σ : Sto) (k : List Nat) : PV := (look σ k).getD .any

theorem look_put (σ : Sto) (k x : List Nat) (p : PV) : look (put σ k p) x = bif keq k x then some p else look σ x := by
  induction σ with
  | nil => rfl
  | cons a r ih =>
    obtain ⟨k', q⟩ := a
    simp only [put]
    cases h : keq k' k with
    | true =>
      have := keq_iff.mp h; subst this
      simp only [cond_true, look]
      cases keq k' x <;> rfl
    | false =>
      simp only [cond_false, look, ih]
      cases h1 : keq k' x with
      | false => rfl
      | true =>
        have := keq_iff.mp h1; subst this
        cases h2 : keq k k' with
        | false => rfl
        | true => have := keq_iff.mp h2; subst this; rw [keq_refl] at h; cases h
theorem look_puts_off {k : List Nat} : ∀ (δ σ : Sto), (∀ e ∈ δ, e.1 ≠ k) → look (puts σ δ) k = look σ k
  | [], _, _ => rfl
  | (k', p) :: r, σ, h => by
    have h1 : keq k' k = false := by cases e : keq k' k with | false => rfl | true => exact absurd (keq_iff.mp e) (h (k', p) (.head _))
    rw [puts, look_puts_off r _ fun e he => h e (.tail _ he), look_put, h1]; rfl
theorem look_puts_fun {k : List Nat} {g : List Nat → PV} : ∀ (ks : List (List Nat)) (σ : Sto), look (puts σ (ks.map fun k => (k, g k))) k = if k ∈ ks then some (g k) else look σ k
  | [], _ => by simp [puts]
  | k' :: r, σ => by
    rw [List.map_cons, puts, look_puts_fun r, look_put]
    by_cases hm : k ∈ r
    · simp [hm]
    · cases e : keq k' k with
      | true => have := keq_iff.mp e; subst this; simp
      | false =>
        have : k ≠ k' := fun q => by subst q; rw [keq_refl] at e; cases e
        simp [hm, this]
theorem puts_append (σ δ δ' : Sto) : puts σ (δ ++ δ') = puts (puts σ δ) δ' := by
  induction δ generalizing σ with
  | nil => rfl
  | cons a r ih => obtain ⟨k, p⟩ := a; simp only [List.cons_append, puts, ih]

noncomputable def joinD (c : Bool) (σ δ₁ δ₂ : Sto) : Sto := ((δ₁.map (·.1)) ++ (δ₂.map (·.1))).map fun k => (k, PV.join c (lookA (puts σ δ₁) k) (lookA (puts σ δ₂) k))

noncomputable def Rep (σ : Sto) (m : Str → Option Value) : Prop := ∀ x p, look σ (key x) = some p → p ≠ .any → ∃ v, m x = some v ∧ p.Is v

theorem Rep.put {σ : Sto} {m : Str → Option Value} (R : Rep σ m) {x : Str} {p : PV} {v : Value} (hv : p.Is v) : Rep (put σ (key x) p) (fun y => if y = x then some v else m y) := by
  intro y q hq hne
  rw [look_put] at hq
  by_cases hy : y = x
  · subst hy
    rw [keq_refl] at hq
    cases hq
    exact ⟨v, by simp, hv⟩
  · have : keq (key x) (key y) = false := by cases e : keq (key x) (key y) with | false => rfl | true => exact absurd (key_inj (keq_iff.mp e)).symm hy
    rw [this] at hq
    obtain ⟨u, hu, hi⟩ := R y q hq hne
    exact ⟨u, by simp [hy, hu], hi⟩
theorem Rep.join_true {σ δ₁ δ₂ : Sto} {m : Str → Option Value} (R : Rep (puts σ δ₁) m) : Rep (puts σ (joinD true σ δ₁ δ₂)) m := by
  intro x p hp hne
  unfold joinD at hp
  rw [look_puts_fun (g := fun k => PV.join true (lookA (puts σ δ₁) k) (lookA (puts σ δ₂) k))] at hp
  split at hp
  · cases hp
    rcases PV.join_true (lookA (puts σ δ₁) (key x)) (lookA (puts σ δ₂) (key x)) with e | e
    · rw [e] at hne ⊢
      cases h : look (puts σ δ₁) (key x) with
      | none => rw [lookA, h] at hne; exact absurd rfl hne
      | some q => rw [lookA, h] at hne ⊢; exact R x q h hne
    · exact absurd e hne
  · rename_i hn
    refine R x p ?_ hne
    rw [look_puts_off _ _ fun e he q => hn (List.mem_append_left _ (List.mem_map.mpr ⟨e, he, q⟩))]
    exact hp
theorem Rep.join_false {σ δ₁ δ₂ : Sto} {m : Str → Option Value} (R : Rep (puts σ δ₂) m) : Rep (puts σ (joinD false σ δ₁ δ₂)) m := by
  intro x p hp hne
  unfold joinD at hp
  rw [look_puts_fun (g := fun k => PV.join false (lookA (puts σ δ₁) k) (lookA (puts σ δ₂) k))] at hp
  split at hp
  · cases hp
    rcases PV.join_false (lookA (puts σ δ₁) (key x)) (lookA (puts σ δ₂) (key x)) with e | e
    · rw [e] at hne ⊢
      cases h : look (puts σ δ₂) (key x) with
      | none => rw [lookA, h] at hne; exact absurd rfl hne
      | some q => rw [lookA, h] at hne ⊢; exact R x q h hne
    · exact absurd e hne
  · rename_i hn
    refine R x p ?_ hne
    rw [look_puts_off _ _ fun e he q => hn (List.mem_append_right _ (List.mem_map.mpr ⟨e, he, q⟩))]
    exact hp

/-- the names: the frame's own (loc), and what the others are known to be (γ) -/
noncomputable def nmOf (loc : List (List Nat)) (γ σ : Sto) (x : Str) : Option PV :=
  bif loc.any (keq (key x)) then (match look σ (key x) with
    | some .any => Option.none
    | r => r)
  else look γ (key x)

section
variable (loc : List (List Nat)) (γ : Sto) (att : Addr → Str → Option (PV × List Bool))

noncomputable def seqE (f : Stmt → Sto → Option (Sto × List Bool)) : List Stmt → Sto → Option (Sto × List Bool)
  | [], _ => some ([], [])
  | st :: rest, σ => match f st σ with
    | some (δ, o) => (match seqE f rest (puts σ δ) with
      | some (δ', o') => some (δ ++ δ', o ++ o')
      | Option.none => Option.none)
    | Option.none => Option.none

noncomputable def fuel : Nat := 12
noncomputable def ex : Nat → Stmt → Sto → Option (Sto × List Bool)
  | 0, _, _ => Option.none
  | n + 1, st, σ => match st with
    | .Assign [.Name x _] e _ => bif loc.any (keq (key x)) then (match ev (nmOf loc γ σ) att fuel e with
      | some (p, o) => some ([(key x, p)], o)
      | Option.none => Option.none) else Option.none
    | .Assign [.Name x _, .Name y _] (.Constant c _ _) _ => bif loc.any (keq (key x)) && loc.any (keq (key y)) then (match constPV c with
      | some (p, o) => some ([(key x, p), (key y, p)], o)
      | Option.none => Option.none) else Option.none
    | .Assign [.Name x _, .Name y _, .Name z _] (.Constant c _ _) _ => bif loc.any (keq (key x)) && (loc.any (keq (key y)) && loc.any (keq (key z))) then (match constPV c with
      | some (p, o) => some ([(key x, p), (key y, p), (key z, p)], o)
      | Option.none => Option.none) else Option.none
    | .Assign [.Name x _, .Name y _, .Name z _, .Name u _] (.Constant c _ _) _ => bif loc.any (keq (key x)) && (loc.any (keq (key y)) && (loc.any (keq (key z)) && loc.any (keq (key u)))) then (match constPV c with
      | some (p, o) => some ([(key x, p), (key y, p), (key z, p), (key u, p)], o)
      | Option.none => Option.none) else Option.none
    | .AugAssign (.Name x _) .Add e _ => bif loc.any (keq (key x)) then (match nmOf loc γ σ x, ev (nmOf loc γ σ) att fuel e with
      | some (.int a), some (.int b, o) => some ([(key x, .int (a + b))], o)
      | _, _ => Option.none) else Option.none
    | .If t b e _ => (match tr (nmOf loc γ σ) att fuel t, seqE (ex n) b σ, seqE (ex n) e σ with
      | some (c, oc), some (δ₁, o₁), some (δ₂, o₂) => some (joinD c σ δ₁ δ₂, oc ++ (o₁.map (!c || ·) ++ o₂.map (c || ·)))
      | _, _, _ => Option.none)
    | _ => Option.none
end

section
variable (prog : Program) (w : World) (A : Around) (E : Value → Shared → Prop) (env : Env) (h₀ : Heap) (L : Addr) (news : List (Addr × Obj)) (s₀ : Shared)

/-- the state between two statements -/
noncomputable def At (σ : Sto) (s : Shared) : Prop := ∃ h tk m, s = { s₀ with heap := h, toks := tk } ∧ Fr h₀ L h m ∧ News h₀ L h news ∧ Rep σ m
noncomputable def LocOk (loc : List (List Nat)) : Prop := ∀ x : Str, loc.any (keq (key x)) = true → env.kindOf x = some .local ∧ (x == ("__debug__" : Str)) = false
noncomputable def GloOk (loc : List (List Nat)) (γ : Sto) : Prop := ∀ x p, loc.any (keq (key x)) = false → look γ (key x) = some p → ∀ s m, Fr h₀ L s.heap m → News h₀ L s.heap news → ∀ pos (Q : Value → Shared → Prop), (∀ v, p.Is v → Q v s) → wpAny (model prog w) A (eval (.Name x pos) env) Q E s
noncomputable def AttH (att : Addr → Str → Option (PV × List Bool)) : Prop := ∀ r a p o, att r a = some (p, o) → AllT o → ∀ s m, Fr h₀ L s.heap m → News h₀ L s.heap news → ∀ (Q : Value → Shared → Prop), (∀ v tk, p.Is v → Q v { s with toks := tk }) → wpAny (model prog w) A (getAttr (.ref r) a true) Q E s
structure FrOk : Prop where
  kind : env.scope.kind = .function
  loc : env.locals = L
end

section
variable {prog : Program} {w : World} {A : Around} {E : Value → Shared → Prop} {env : Env} {h₀ : Heap} {L : Addr} {news : List (Addr × Obj)} {s₀ : Shared} {loc : List (List Nat)} {γ : Sto} {att : Addr → Str → Option (PV × List Bool)}

theorem At.keeps {σ : Sto} {s s' : Shared} (h : At h₀ L news s₀ σ s) (k : Keeps s s') : At h₀ L news s₀ σ s' := by
  obtain ⟨g, tk, m, rfl, F, N, R⟩ := h
  obtain ⟨g', tk', rfl, hk⟩ := k
  exact ⟨g', tk', m, rfl, F.keeps hk, N.grown hk, R⟩

theorem nmOk (fo : FrOk env L) (lo : LocOk env loc) (go : GloOk prog w A E env h₀ L news loc γ) {σ : Sto} {s : Shared} (h : At h₀ L news s₀ σ s) : NmOk prog w A E env s (nmOf loc γ σ) := by
  intro x p hx s' hs' pos Q k
  obtain ⟨g, tk, m, rfl, F, N, R⟩ := h.keeps hs'
  unfold nmOf at hx
  cases hl : loc.any (keq (key x)) with
  | true =>
    rw [hl] at hx
    simp only [cond_true] at hx
    have hne : look σ (key x) = some p ∧ p ≠ .any := by
      split at hx
      · cases hx
      · rename_i q; exact ⟨hx, fun e => by subst e; exact q hx⟩
    obtain ⟨v, hv, hi⟩ := R x p hne.1 hne.2
    have hF := F.ns
    rw [← fo.loc] at hF
    exact wpAny_Name (wpAny_loadName_local fo.kind (lo x hl).1 hF hv (k v hi)) (lo x hl).2
  | false =>
    rw [hl] at hx
    exact go x p hl hx _ m F N pos Q k

theorem attOk (ao : AttH prog w A E h₀ L news att) {σ : Sto} {s : Shared} (h : At h₀ L news s₀ σ s) : AttOk prog w A E s att := by
  intro r a p o hr ho s' hs' Q k
  obtain ⟨g, tk, m, rfl, F, N, R⟩ := h.keeps hs'
  exact ao r a p o hr ho _ m F N Q fun v tk' hv => k v _ hv (keeps_tok hs' _)

theorem store_sound (fo : FrOk env L) {σ : Sto} {s : Shared} (h : At h₀ L news s₀ σ s) {x : Str} (hx : env.kindOf x = some .local) {p : PV} {v : Value} (hv : p.Is v) {Q : Unit → Shared → Prop} (k : ∀ s', At h₀ L news s₀ (put σ (key x) p) s' → Q () s') :
    wpAny (model prog w) A (storeName env x v) Q E s := by
  obtain ⟨g, tk, m, rfl, F, N, R⟩ := h
  have hF := F.ns
  rw [← fo.loc] at hF
  refine wpAny_storeName_local hx hF (fun h' hn hs => k _ ⟨h', _, _, rfl, ?_, ?_, R.put hv⟩) (by rw [fo.kind]; rfl)
  · rw [fo.loc] at hn hs; exact F.set hn hs
  · rw [fo.loc] at hs; exact N.set hs

theorem ev_swaps {nm : Str → Option PV} {n : Nat} {e : PySem.Expr} {r : PV × List Bool} (h : ev nm att n e = some r) (t : Option PySem.Expr) (l : Nat) (env : Env) : swapsWith e t l env = pure false := by
  cases n with
  | zero => cases h
  | succ n => cases e <;> first | rfl | (cases h; done)

noncomputable def ExS (prog : Program) (w : World) (A : Around) (E : Value → Shared → Prop) (env : Env) (h₀ : Heap) (L : Addr) (news : List (Addr × Obj)) (s₀ : Shared) (t : Sem Flow) (σ σ' : Sto) : Prop :=
  ∀ s, At h₀ L news s₀ σ s → ∀ (Q : Flow → Shared → Prop), (∀ s', At h₀ L news s₀ σ' s' → Q .next s') → wpAny (model prog w) A t Q E s

theorem seq_sound {f : Stmt → Sto → Option (Sto × List Bool)} (ih : ∀ st σ δ o, f st σ = some (δ, o) → AllT o → ExS prog w A E env h₀ L news s₀ (exec st env) σ (puts σ δ)) :
    ∀ (b : List Stmt) (σ δ : Sto) (o : List Bool), seqE f b σ = some (δ, o) → AllT o → ExS prog w A E env h₀ L news s₀ (execs b env) σ (puts σ δ)
  | [], σ, δ, o, h, _ => by cases h; exact fun s hs Q k => wpAny_execs_nil (k s hs)
  | st :: rest, σ, δ, o, h, ho => by
    simp only [seqE] at h
    split at h
    · rename_i δ₁ o₁ h1
      split at h
      · rename_i δ₂ o₂ h2
        cases h
        intro s hs Q k
        refine wpAny_execs_cons (ih st σ _ _ h1 ho.left s hs _ fun s₁ hs₁ => ?_)
        refine seq_sound ih rest _ _ _ h2 ho.right s₁ hs₁ Q fun s₂ hs₂ => k s₂ ?_
        rw [puts_append]; exact hs₂
      · cases h
    · cases h

theorem assign_sound (fo : FrOk env L) {σ : Sto} {s : Shared} (h : At h₀ L news s₀ σ s) {x : Str} {px : Pos} (hx : env.kindOf x = some .local) {p : PV} {v : Value} (hv : p.Is v) {Q : Unit → Shared → Prop} (k : ∀ s', At h₀ L news s₀ (put σ (key x) p) s' → Q () s') :
    wpAny (model prog w) A (assign (.Name x px) env v) Q E s := wpAny_assign_Name (store_sound fo h hx hv k)

theorem wpAny_Assign_four {M : Model} {A : Around} {E : Value → Shared → Prop} {s : Shared} {env : Env} {t₁ t₂ t₃ t₄ value : PySem.Expr} {pos : Pos} {Q : Flow → Shared → Prop}
    (h : wpAny M A (eval value env) (fun v s₁ => wpAny M A (assign t₁ env v) (fun _ s₂ => wpAny M A (assign t₂ env v) (fun _ s₃ => wpAny M A (assign t₃ env v) (fun _ s₄ => wpAny M A (assign t₄ env v) (fun _ => Q .next) E s₄) E s₃) E s₂) E s₁) E s)
    (he : (assignEach [t₁, t₂, t₃, t₄] env).map (·.2) = [assign t₁ env, assign t₂ env, assign t₃ env, assign t₄ env] := by rfl)
    (hw : swappedStores [t₁, t₂, t₃, t₄] value env = pure Option.none := by rfl) :
    wpAny M A (exec (.Assign [t₁, t₂, t₃, t₄] value pos) env) Q E s := by
  refine wpAny_Assign_stores (wpAny_mono h (fun v s₁ h₁ => ?_) fun _ _ x => x) rfl hw
  rw [he]
  exact wpAny_bind (wpAny_holding (wpAny_mono h₁ (fun _ s₂ h₂ => wpAny_bind (wpAny_holding (wpAny_mono h₂ (fun _ s₃ h₃ => wpAny_bind (wpAny_holding h₃)) fun _ _ x => x))) fun _ _ x => x))

theorem ex_sound (fo : FrOk env L) (lo : LocOk env loc) (go : GloOk prog w A E env h₀ L news loc γ) (ao : AttH prog w A E h₀ L news att) : ∀ n st σ δ o, ex loc γ att n st σ = some (δ, o) → AllT o → ExS prog w A E env h₀ L news s₀ (exec st env) σ (puts σ δ) := by
  intro n
  induction n with
  | zero => intro st σ δ o h; cases h
  | succ n ih =>
    intro st σ δ o h ho s hs Q k
    have hev := ev_sound (nmOk fo lo go hs) (attOk ao hs)
    have htr := tr_sound (nmOk fo lo go hs) (attOk ao hs)
    unfold ex at h
    split at h
    · rename_i x px e pos
      cases hl : loc.any (keq (key x)) with
      | false => rw [hl] at h; cases h
      | true =>
        rw [hl] at h
        simp only [cond_true] at h
        split at h
        · rename_i p o' h1
          cases h
          exact wpAny_Assign_Name (hev _ _ _ h1 ho s (keeps_refl s) _ fun v s₁ hv hs₁ => store_sound fo (hs.keeps hs₁) (lo x hl).1 hv fun s₂ hs₂ => k _ hs₂) (ev_swaps h1 _ _ _)
        · cases h
    · rename_i x px y py c kd ps pos
      cases hl : (loc.any (keq (key x)) && loc.any (keq (key y))) with
      | false => rw [hl] at h; cases h
      | true =>
        rw [hl] at h
        simp only [cond_true] at h
        simp only [Bool.and_eq_true] at hl
        split at h
        · rename_i p o' h1
          cases h
          exact wpAny_Assign_two (const_sound h1 (keeps_refl s) fun v s₁ hv hs₁ => assign_sound fo (hs.keeps hs₁) (lo x hl.1).1 hv fun s₂ hs₂ => assign_sound fo hs₂ (lo y hl.2).1 hv fun s₃ hs₃ => k _ hs₃)
        · cases h
    · rename_i x px y py z pz c kd ps pos
      cases hl : (loc.any (keq (key x)) && (loc.any (keq (key y)) && loc.any (keq (key z)))) with
      | false => rw [hl] at h; cases h
      | true =>
        rw [hl] at h
        simp only [cond_true] at h
        simp only [Bool.and_eq_true] at hl
        split at h
        · rename_i p o' h1
          cases h
          exact wpAny_Assign_three (const_sound h1 (keeps_refl s) fun v s₁ hv hs₁ => assign_sound fo (hs.keeps hs₁) (lo x hl.1).1 hv fun s₂ hs₂ => assign_sound fo hs₂ (lo y hl.2.1).1 hv fun s₃ hs₃ => assign_sound fo hs₃ (lo z hl.2.2).1 hv fun s₄ hs₄ => k _ hs₄)
        · cases h
    · rename_i x px y py z pz u pu c kd ps pos
      cases hl : (loc.any (keq (key x)) && (loc.any (keq (key y)) && (loc.any (keq (key z)) && loc.any (keq (key u))))) with
      | false => rw [hl] at h; cases h
      | true =>
        rw [hl] at h
        simp only [cond_true] at h
        simp only [Bool.and_eq_true] at hl
        split at h
        · rename_i p o' h1
          cases h
          exact wpAny_Assign_four (const_sound h1 (keeps_refl s) fun v s₁ hv hs₁ => assign_sound fo (hs.keeps hs₁) (lo x hl.1).1 hv fun s₂ hs₂ => assign_sound fo hs₂ (lo y hl.2.1).1 hv fun s₃ hs₃ => assign_sound fo hs₃ (lo z hl.2.2.1).1 hv fun s₄ hs₄ => assign_sound fo hs₄ (lo u hl.2.2.2).1 hv fun s₅ hs₅ => k _ hs₅)
        · cases h
    · rename_i x px e pos
      cases hl : loc.any (keq (key x)) with
      | false => rw [hl] at h; cases h
      | true =>
        rw [hl] at h
        simp only [cond_true] at h
        split at h
        · rename_i a b o' h0 h1
          cases h
          refine wpAny_AugAssign_Name ?_
          unfold nmOf at h0
          rw [hl] at h0
          simp only [cond_true] at h0
          obtain ⟨g, tk, m, rfl, F, N, R⟩ := hs
          have hlk : look σ (key x) = some (.int a) := by
            split at h0
            · cases h0
            · exact h0
          obtain ⟨v, hv, t, rfl⟩ := R x (.int a) hlk (by intro e; cases e)
          have hF := F.ns
          rw [← fo.loc] at hF
          have hs' : At h₀ L news s₀ σ { s₀ with heap := g, toks := tk } := ⟨g, tk, m, rfl, F, N, R⟩
          refine wpAny_loadName_local fo.kind (lo x hl).1 hF hv ?_
          refine hev _ _ _ h1 ho _ (keeps_refl _) _ fun u s₁ hu hs₁ => ?_
          obtain ⟨t', rfl⟩ := hu
          exact P.iadd_int (store_sound fo (hs'.keeps (keeps_tok hs₁ _)) (lo x hl).1 (p := .int (a + b)) ⟨_, rfl⟩ fun s₂ hs₂ => k _ hs₂)
        · cases h
    · rename_i t b e pos
      split at h
      · rename_i c oc δ₁ o₁ δ₂ o₂ h1 h2 h3
        cases h
        refine wpAny_If (htr _ _ _ h1 ho.left s (keeps_refl s) _ fun s₁ hs₁ => ?_)
        cases c with
        | true =>
          refine seq_sound ih b σ δ₁ o₁ h2 ho.right.left.or_not_true s₁ (hs.keeps hs₁) Q fun s₂ hs₂ => k s₂ ?_
          obtain ⟨g, tk, m, rfl, F, N, R⟩ := hs₂
          exact ⟨g, tk, m, rfl, F, N, R.join_true⟩
        | false =>
          refine seq_sound ih e σ δ₂ o₂ h3 ho.right.right.or_false s₁ (hs.keeps hs₁) Q fun s₂ hs₂ => k s₂ ?_
          obtain ⟨g, tk, m, rfl, F, N, R⟩ := hs₂
          exact ⟨g, tk, m, rfl, F, N, R.join_false⟩
      · cases h
    · cases h
end
end Mine

namespace Mine
open PySem PySem.W PySem.Calls PyProof.Rows

/-! attribute stores on one's own object -/
theorem isStr_put (name a : Str) (hsh : Int) (t : Tok) (v : Value) : ∀ es : List DictEntry, (putL name hsh (.str name t) v es).find? (·.key.isStr a) = if a = name then some (((es.find? (·.key.isStr name)).map fun e => ⟨e.hash, e.key, v⟩).getD ⟨hsh, .str name t, v⟩) else es.find? (·.key.isStr a)
  | [] => by
    by_cases h : a = name
    · subst h; simp [putL, Value.isStr]
    · have : (name == a) = false := beq_eq_false_iff_ne.mpr (Ne.symm h)
      simp [putL, Value.isStr, this, h]
  | e :: r => by
    have ih := isStr_put name a hsh t v r
    unfold putL
    cases h : e.key.isStr name with
    | true =>
      simp only [if_true, List.find?_cons]
      by_cases ha : a = name
      · subst ha; simp [h]
      · have h2 : e.key.isStr a = false := by
          cases hk : e.key with
          | str x u =>
            rw [hk] at h
            have hx : x = name := by simpa [Value.isStr] using h
            simpa [Value.isStr, hx] using fun q => ha q.symm
          | _ => rfl
        simp [h2, ha]
    | false =>
      simp only [Bool.false_eq_true, if_false, List.find?_cons]
      rw [ih]
      by_cases ha : a = name
      · subst ha; simp [h]
      · simp [ha]
theorem refKey_put (name : Str) (hsh : Int) (t : Tok) (v : Value) : ∀ es : List DictEntry, es.any (·.refKey) = false → (putL name hsh (.str name t) v es).any (·.refKey) = false
  | [], _ => rfl
  | e :: r, h => by
    simp only [List.any_cons, Bool.or_eq_false_iff] at h
    unfold putL
    cases e.key.isStr name with
    | true => simp only [if_true, List.any_cons, Bool.or_eq_false_iff]; exact ⟨h.1, h.2⟩
    | false => simp only [Bool.false_eq_true, if_false, List.any_cons, Bool.or_eq_false_iff]; exact ⟨h.1, refKey_put name hsh t v r h.2⟩
theorem length_put (name : Str) (hsh : Int) (k v : Value) : ∀ es : List DictEntry, (putL name hsh k v es).length ≤ es.length + 1
  | [] => by simp [putL]
  | e :: r => by
    unfold putL
    split
    · simp
    · have := length_put name hsh k v r
      simp only [List.length_cons]; omega

noncomputable def RepD (τ : Sto) (es : List DictEntry) : Prop := (es.any (·.refKey) = false ∧ ∀ a, look τ (key a) = Option.none → es.find? (·.key.isStr a) = Option.none) ∧ ∀ a p, look τ (key a) = some p → p ≠ .any → ∃ v, getL a es = some (some v) ∧ p.Is v
theorem RepD.some {τ : Sto} {es : List DictEntry} (R : RepD τ es) (name : Str) : (getL name es).isSome = true := by
  unfold getL
  split
  · rfl
  · rw [if_neg (by rw [R.1.1]; decide)]; rfl
theorem RepD.put {τ : Sto} {es : List DictEntry} (R : RepD τ es) {name : Str} {hsh : Int} {t : Tok} {p : PV} {v : Value} (hv : p.Is v) : RepD (put τ (key name) p) (putL name hsh (.str name t) v es) := by
  refine ⟨⟨refKey_put _ _ _ _ _ R.1.1, fun a hq => ?_⟩, fun a q hq hne => ?_⟩
  · rw [look_put] at hq
    by_cases ha : a = name
    · subst ha
      rw [keq_refl] at hq
      cases hq
    · have : keq (key name) (key a) = false := by cases e : keq (key name) (key a) with | false => rfl | true => exact absurd (key_inj (keq_iff.mp e)).symm ha
      rw [this] at hq
      rw [isStr_put, if_neg ha]
      exact R.1.2 a hq
  rw [look_put] at hq
  by_cases ha : a = name
  · subst ha
    rw [keq_refl] at hq
    cases hq
    refine ⟨v, ?_, hv⟩
    unfold getL
    rw [isStr_put, if_pos rfl]
    cases es.find? (·.key.isStr a) <;> rfl
  · have : keq (key name) (key a) = false := by cases e : keq (key name) (key a) with | false => rfl | true => exact absurd (key_inj (keq_iff.mp e)).symm ha
    rw [this] at hq
    obtain ⟨u, hu, hi⟩ := R.2 a q hq hne
    refine ⟨u, ?_, hi⟩
    unfold getL at hu ⊢
    rw [isStr_put, if_neg ha]
    split at hu
    · rename_i e he; first | exact hu | (rw [he]; exact hu)
    · rename_i he; split at hu <;> cases hu
theorem RepD.nil : RepD [] [] := ⟨⟨rfl, fun _ _ => rfl⟩, fun _ _ h => nomatch h⟩
theorem RepD.absent {τ : Sto} {es : List DictEntry} (R : RepD τ es) {a : Str} (h : look τ (key a) = Option.none) : getL a es = Option.some Option.none := by
  unfold getL
  rw [R.1.2 a h]
  simp only
  rw [if_neg (by rw [R.1.1]; decide)]

section
variable (h₀ : Heap) (L : Addr) (news : List (Addr × Obj)) (s₀ : Shared) (C x dx : Addr)
noncomputable def AtO (N : Nat) (σ τ : Sto) (s : Shared) : Prop := ∃ h tk m es n, s = { s₀ with heap := h, toks := tk } ∧ Fr h₀ L h m ∧ News h₀ L h ((x, instObj C dx) :: (dx, dictOf es n) :: news) ∧ Rep σ m ∧ RepD τ es ∧ es.length ≤ N
end

section
variable {prog : Program} {w : World} {A : Around} {E : Value → Shared → Prop} {env : Env} {h₀ : Heap} {L : Addr} {news : List (Addr × Obj)} {s₀ : Shared} {loc : List (List Nat)} {γ : Sto} {att : Addr → Str → Option (PV × List Bool)} {C x dx : Addr} {K : Frag}

theorem AtO.keeps {N : Nat} {σ τ : Sto} {s s' : Shared} (h : AtO h₀ L news s₀ C x dx N σ τ s) (k : Keeps s s') : AtO h₀ L news s₀ C x dx N σ τ s' := by
  obtain ⟨g, tk, m, es, n, rfl, F, Nw, R, D, l⟩ := h
  obtain ⟨g', tk', rfl, hk⟩ := k
  exact ⟨g', tk', m, es, n, rfl, F.keeps hk, Nw.grown hk, R, D, l⟩
theorem AtO.at {N : Nat} {σ τ : Sto} {s : Shared} (h : AtO h₀ L news s₀ C x dx N σ τ s) : At h₀ L news s₀ σ s := by
  obtain ⟨g, tk, m, es, n, rfl, F, Nw, R, D, l⟩ := h
  exact ⟨g, tk, m, rfl, F, fun p hp => Nw p (.tail _ (.tail _ hp)), R⟩

/-- what the class must be like -/
structure ClsOk (K : Frag) (C : Addr) : Prop where
  set : findIn K (.ref C) "__setattr__" = some (some (.builtin "object.__setattr__"))
  over : plainOver K C = true
  dict : hasDictIn K C = true
noncomputable def takes (K : Frag) (C : Addr) (a : Str) : Bool := match takerIn K C a with
  | some Option.none => true
  | _ => false
theorem takes_eq {a : Str} (h : takes K C a = true) : takerIn K C a = some Option.none := by
  unfold takes at h
  split at h
  · assumption
  · cases h

theorem attr_store (X : K.In h₀) (c : ClsOk K C) (hxd : x ≠ dx) (hoff : ∀ p ∈ news, p.1 ≠ dx) {N : Nat} {σ τ : Sto} {s : Shared} (h : AtO h₀ L news s₀ C x dx N σ τ s) (hN : N < 1000) {a : Str} (ht : takes K C a = true) {p : PV} {v : Value} (hv : p.Is v)
    {Q : Unit → Shared → Prop} (k : ∀ s', AtO h₀ L news s₀ C x dx (N + 1) σ (put τ (key a) p) s' → Q () s') : wpAny (model prog w) A (setAttr (.ref x) a v) Q E s := by
  obtain ⟨g, tk, m, es, n, rfl, F, Nw, R, D, l⟩ := h
  have l' := length_put a (PyData.keyHash w.params a) (.str a (tk + 1)) v es
  refine set_dict F X Nw (InstAt.of_news Nw (.head _) (.tail _ (.head _))) rfl c.set c.over (takes_eq ht) c.dict (D.some a) rfl (Upd.tail hxd (Upd.head hoff)) (by dsimp only; omega) fun h' F' N' => ?_
  exact k _ ⟨h', _, m, _, _, rfl, F', N', R, D.put hv, by dsimp only; omega⟩

noncomputable def exO (K : Frag) (C x : Addr) (nm : Str → Option PV) : List Stmt → Sto → Option (Sto × List Bool)
  | [], τ => some (τ, [])
  | st :: rest, τ => match st with
    | .Assign [.Attribute (.Name o _) a _] e _ => bif takes K C a then (match nm o, ev nm (fun _ _ => Option.none) fuel e with
      | some (.val (.ref r)), some (p, ob) => (exO K C x nm rest (put τ (key a) p)).map fun z => (z.1, ob ++ decide (r = x) :: z.2)
      | _, _ => Option.none) else Option.none
    | _ => Option.none

theorem exO_sound (fo : FrOk env L) (lo : LocOk env loc) (go : GloOk prog w A E env h₀ L news loc γ) (X : K.In h₀) (c : ClsOk K C) (hxd : x ≠ dx) (hoff : ∀ p ∈ news, p.1 ≠ dx) {σ : Sto} : ∀ (b : List Stmt) (N : Nat) (τ τ' : Sto) (o : List Bool), exO K C x (nmOf loc γ σ) b τ = some (τ', o) → AllT o → N + b.length ≤ 1000 →
    ∀ s, AtO h₀ L news s₀ C x dx N σ τ s → ∀ (Q : Flow → Shared → Prop), (∀ s', AtO h₀ L news s₀ C x dx (N + b.length) σ τ' s' → Q .next s') → wpAny (model prog w) A (execs b env) Q E s
  | [], N, τ, τ', o, h, _, _ => fun s hs Q k => by cases h; exact wpAny_execs_nil (k s hs)
  | st :: rest, N, τ, τ', o, h, ho, hN => by
    intro s hs Q k
    unfold exO at h
    split at h
    · rename_i o' po a pa e pos
      cases ht : takes K C a with
      | false => rw [ht] at h; cases h
      | true =>
        rw [ht] at h
        simp only [cond_true] at h
        split at h
        · rename_i r p ob h1 h2
          cases h3 : exO K C x (nmOf loc γ σ) rest (put τ (key a) p) with
          | none => rw [h3] at h; cases h
          | some z =>
            rw [h3] at h
            cases h
            have hr : r = x := of_decide_eq_true (ho.right _ (.head _))
            rw [hr] at h1
            have hn := nmOk fo lo go hs.at
            have hev := ev_sound (A := A) (E := E) (att := fun _ _ => Option.none) hn (fun r a p o h => nomatch h)
            simp only [List.length_cons] at hN k
            refine wpAny_execs_cons (plainObj_wpAny_Assign_Attribute (hev _ _ _ h2 ho.left s (keeps_refl s) _ fun v s₁ hv hs₁ => ?_) (ev_swaps h2 _ _ _))
            refine hn o' _ h1 s₁ hs₁ _ _ fun ov (hov : ov = _) => ?_
            rw [hov]
            refine attr_store X c hxd hoff (hs.keeps hs₁) (by omega) ht hv fun s₂ hs₂ => ?_
            refine exO_sound fo lo go X c hxd hoff rest (N + 1) _ _ _ h3 (fun b hb => ho.right b (.tail _ hb)) (by omega) s₂ hs₂ Q fun s₃ hs₃ => k s₃ ?_
            rw [show N + (rest.length + 1) = N + 1 + rest.length by omega]
            exact hs₃
        · cases h
    · cases h
end
end Mine

namespace Mine
open PySem PySem.W PySem.Calls PyProof.Rows

noncomputable abbrev PRG : Program := PySem.Challenge.rw_qm0002_02.row.prog
noncomputable abbrev KK (P : Params) : Frag := frag P

noncomputable def fdAt (K : Frag) (a : Addr) : FuncData := match K.lookup a with
  | some ⟨_, _, .func f, _⟩ => f
  | _ => default
noncomputable def objAt (K : Frag) (a : Addr) : Obj := (K.lookup a).getD default
noncomputable def bodyAt (K : Frag) (a : Addr) : List Stmt := match (fdAt K a).body with
  | .stmts b => b
  | _ => []
noncomputable def fnK (K : Frag) (f : Addr) : FuncData := fnOf (fdAt K f).name (fdAt K f).qualname (fdAt K f).params (bodyAt K f) (fdAt K f).scope (fdAt K f).defaults (fdAt K f).kwdefaults (fdAt K f).doc (fdAt K f).pyModule (fdAt K f).annotations (fdAt K f).code (fdAt K f).closureTuple
structure FnOk (K : Frag) (f : Addr) : Prop where
  look : K.lookup f = some ⟨(objAt K f).cls, (objAt K f).dict, .func (fnK K f), (objAt K f).slots⟩
  code : codeIn K (fdAt K f).code (fdAt K f).qualname = true
  co : (fdAt K f).scope.isCoroutine = false
  gen : (fdAt K f).scope.isGenerator = false
  kind : (fdAt K f).scope.kind = .function
noncomputable abbrev envK (K : Frag) (f L : Addr) : Env := envOf (fdAt K f).qualname (fdAt K f).scope L f (fdAt K f).code
noncomputable def noCell (K : Frag) (f : Addr) : Bool := (fdAt K f).scope.names.all fun x => !decide (x.2 = .cell)
theorem noCell_of {K : Frag} {f : Addr} (h : noCell K f = true) : ∀ x ∈ (fdAt K f).scope.names, x.2 ≠ .cell := fun x hx => by
  have := List.all_eq_true.mp h x hx
  simpa using this
noncomputable def locals (K : Frag) (f : Addr) (binds : List (Str × Value)) : Bool := binds.all fun x => decide ((fdAt K f).scope.names.lookup x.1 = some .local)

theorem enterK {K : Frag} {prog : Program} {w : World} {A A₀ : Around} {s : Shared} {L : Addr} {h₀ base : Heap} {m mg mb : Str → Option Value} {news : List (Addr × Obj)} {p : Program} {loose : List Str} {mean : ExcName → Option Value} {env : Env} {outer : List Env}
    {R : Result → Shared → Prop} {f : Addr} {args : Args} {binds : List (Str × Value)} (fn : FnOk K f)
    (B : Below A₀ base outer h₀) (F : Fr h₀ L s.heap m) (X₀ : K.In h₀) (N : News h₀ L s.heap news) (T : Top p loose mean mg mb h₀) (hA : A.frames = some (env :: outer)) (hf : env.frame = some L) (hke : env.scope.kind = .function)
    (hroom : A.depth < recursionLimit) (hbind : bindArgs (fnK K f) args = pure binds) (hcell : noCell K f = true) (hloc : locals K f binds = true)
    (h : ∀ g L' h₁, Fr h₀ L g m → Fr g L' h₁ (fun y => binds.reverse.lookup y) → News g L' h₁ news → Below A base (env :: outer) g → K.In g → Top p loose mean mg mb g →
      wpAny (model prog w) (A.deeper (envK K f L')) (execs (bodyAt K f) (envK K f L'))
        (fun fl s' => LeaveK h₀ L m g R (match fl with | .ret v => v | _ => .none) s')
        (fun e s' => wpAny (model prog w) (A.deeper (envK K f L')) (leaving (envK K f L') e) (fun _ s'' => R (.error e) s'') (fun e' s'' => R (.error e') s'') s')
        { s with heap := h₁, toks := s.toks + binds.length }) : codeAny (model prog w) A (.call (.ref f) args) R s :=
  code_def B F X₀ N T hA hf hke fn.look fn.code hroom (BindsTo.of_eq hbind) (locs hloc) h fn.co fn.gen fn.kind (noCell_of hcell)

theorem rep_nil (m : Str → Option Value) : Rep [] m := fun _ _ h => nomatch h
noncomputable def stoOf (σ : Sto) : List (Str × Value × PV) → Sto
  | [] => σ
  | (n, _, p) :: r => stoOf (put σ (key n) p) r
theorem rep_binds_aux : ∀ (l : List (Str × Value × PV)) (done : List (Str × Value)) (σ : Sto), (∀ t ∈ l, t.2.2.Is t.2.1) → Rep σ (fun y => done.reverse.lookup y) → Rep (stoOf σ l) (fun y => (done ++ l.map fun t => (t.1, t.2.1)).reverse.lookup y)
  | [], done, σ, _, R => by simpa [stoOf] using R
  | (n, v, p) :: r, done, σ, h, R => by
    have := rep_binds_aux r (done ++ [(n, v)]) (put σ (key n) p) (fun t ht => h t (.tail _ ht)) (by
      rw [lookup_reverse_snoc]
      exact R.put (h (n, v, p) (.head _)))
    simpa [stoOf] using this
theorem rep_binds (l : List (Str × Value × PV)) (h : ∀ t ∈ l, t.2.2.Is t.2.1) : Rep (stoOf [] l) (fun y => (l.map fun t => (t.1, t.2.1)).reverse.lookup y) := by
  simpa using rep_binds_aux l [] [] h (rep_nil _)

/-- the names of a frame, by the scope -/
noncomputable def locB (sc : Scope) (loc : List (List Nat)) : Bool := loc.all fun k => decide (sc.names.lookup ⟨k.toArray⟩ = some .local) && !((⟨k.toArray⟩ : Str) == ("__debug__" : Str))
theorem locOk_of {env : Env} {loc : List (List Nat)} (hk : env.kindOf = fun x => env.scope.names.lookup x) (h : locB env.scope loc = true) : LocOk env loc := by
  intro x hx
  obtain ⟨k, hk', he⟩ := List.any_eq_true.mp hx
  have := keq_iff.mp he
  have hx' : x = ⟨k.toArray⟩ := Str.ext' (by rw [← this]; simp [key])
  have h1 := List.all_eq_true.mp h k hk'
  simp only [Bool.and_eq_true, decide_eq_true_eq, Bool.not_eq_true'] at h1
  rw [hx', hk]
  exact h1
theorem frOk_envK {K : Frag} {f L : Addr} (fn : FnOk K f) : FrOk (envK K f L) L := ⟨fn.kind, rfl⟩

theorem sa_fn (P : Params) : FnOk (KK P) 293 := ⟨by kernel_rfl, by kernel_rfl, by kernel_rfl, by kernel_rfl, by kernel_rfl⟩
theorem sa_cls (P : Params) : ClsOk (KK P) 296 := ⟨by kernel_rfl, by kernel_rfl, by kernel_rfl⟩
noncomputable def saF : List (List Nat) := [[115, 99, 97, 108, 97, 114], [101, 109, 112, 116, 121], [109, 117, 108, 116, 105, 108, 105, 110, 101], [97, 108, 108, 111, 119, 95, 102, 108, 111, 119, 95, 112, 108, 97, 105, 110], [97, 108, 108, 111, 119, 95, 98, 108, 111, 99, 107, 95, 112, 108, 97, 105, 110], [97, 108, 108, 111, 119, 95, 115, 105, 110, 103, 108, 101, 95, 113, 117, 111, 116, 101, 100], [97, 108, 108, 111, 119, 95, 100, 111, 117, 98, 108, 101, 95, 113, 117, 111, 116, 101, 100], [97, 108, 108, 111, 119, 95, 98, 108, 111, 99, 107]]
noncomputable def saLoc : List (List Nat) := [115, 101, 108, 102] :: saF
noncomputable def saVals (v : Str) (b2 b3 b4 b5 b6 b7 b8 : Bool) : Sto := [([115, 99, 97, 108, 97, 114], .str v), ([101, 109, 112, 116, 121], .bool b2), ([109, 117, 108, 116, 105, 108, 105, 110, 101], .bool b3), ([97, 108, 108, 111, 119, 95, 102, 108, 111, 119, 95, 112, 108, 97, 105, 110], .bool b4), ([97, 108, 108, 111, 119, 95, 98, 108, 111, 99, 107, 95, 112, 108, 97, 105, 110], .bool b5), ([97, 108, 108, 111, 119, 95, 115, 105, 110, 103, 108, 101, 95, 113, 117, 111, 116, 101, 100], .bool b6), ([97, 108, 108, 111, 119, 95, 100, 111, 117, 98, 108, 101, 95, 113, 117, 111, 116, 101, 100], .bool b7), ([97, 108, 108, 111, 119, 95, 98, 108, 111, 99, 107], .bool b8)]
noncomputable def saSig (x : Addr) (v : Str) (b2 b3 b4 b5 b6 b7 b8 : Bool) : Sto := ([115, 101, 108, 102], .val (.ref x)) :: saVals v b2 b3 b4 b5 b6 b7 b8
noncomputable def saKw (v1 : Value) (b2 b3 b4 b5 b6 b7 b8 : Bool) : List (Str × Value) := [("scalar", v1), ("empty", .bool b2), ("multiline", .bool b3), ("allow_flow_plain", .bool b4), ("allow_block_plain", .bool b5), ("allow_single_quoted", .bool b6), ("allow_double_quoted", .bool b7), ("allow_block", .bool b8)]
theorem sa_run (P : Params) (x : Addr) (v : Str) (b2 b3 b4 b5 b6 b7 b8 : Bool) :
    exO (KK P) 296 x (nmOf saLoc [] (saSig x v b2 b3 b4 b5 b6 b7 b8)) (bodyAt (KK P) 293) [] = some (saVals v b2 b3 b4 b5 b6 b7 b8, List.replicate 8 (decide (x = x))) := by kernel_rfl
theorem sa_len (P : Params) : (bodyAt (KK P) 293).length = 8 := by kernel_rfl
theorem sa_bind (P : Params) (x : Addr) (v1 : Value) (b2 b3 b4 b5 b6 b7 b8 : Bool) : bindArgs (fnK (KK P) 293) ⟨.ref x :: [], saKw v1 b2 b3 b4 b5 b6 b7 b8⟩ = pure ((Str.ofString "self", Value.ref x) :: saKw v1 b2 b3 b4 b5 b6 b7 b8) := by kernel_rfl
theorem sa_loc (P : Params) (x : Addr) (v1 : Value) (b2 b3 b4 b5 b6 b7 b8 : Bool) : locals (KK P) 293 ((Str.ofString "self", Value.ref x) :: saKw v1 b2 b3 b4 b5 b6 b7 b8) = true := by kernel_rfl
theorem sa_rep (x : Addr) (v : Str) (t : Tok) (hv : small v = true) (b2 b3 b4 b5 b6 b7 b8 : Bool) : Rep (saSig x v b2 b3 b4 b5 b6 b7 b8) (fun y => ((Str.ofString "self", Value.ref x) :: saKw (.str v t) b2 b3 b4 b5 b6 b7 b8).reverse.lookup y) := by
  have h := rep_binds [("self", .ref x, .val (.ref x)), ("scalar", .str v t, .str v), ("empty", .bool b2, .bool b2), ("multiline", .bool b3, .bool b3), ("allow_flow_plain", .bool b4, .bool b4), ("allow_block_plain", .bool b5, .bool b5), ("allow_single_quoted", .bool b6, .bool b6), ("allow_double_quoted", .bool b7, .bool b7), ("allow_block", .bool b8, .bool b8)] (by
    intro t' ht'
    simp only [List.mem_cons, List.not_mem_nil, or_false] at ht'
    rcases ht' with rfl | rfl | rfl | rfl | rfl | rfl | rfl | rfl | rfl <;> first | rfl | exact ⟨hv, _, rfl⟩)
  exact h

/-- the call of ScalarAnalysis -/
theorem sa_ok {w : World} {p : Program} {loose : List Str} {mean : ExcName → Option Value} {mg mb : Str → Option Value} {A A₀ : Around} {env : Env} {outer : List Env} {base h₀ : Heap} {L : Addr} {m : Str → Option Value} {news : List (Addr × Obj)} {s : Shared}
    {Q E : Value → Shared → Prop} {v : Str} {t : Tok} {b2 b3 b4 b5 b6 b7 b8 : Bool} (hv : small v = true)
    (B : Below A₀ base outer h₀) (F : Fr h₀ L s.heap m) (X : (KK w.params).In h₀) (N : News h₀ L s.heap news) (T : Top p loose mean mg mb h₀) (hA : A.frames = some (env :: outer)) (hf : env.frame = some L) (hke : env.scope.kind = .function) (hd : A.depth + 1 < recursionLimit)
    (ret : ∀ (x dx n : Nat) (es : List DictEntry) (h' : Heap) (tk' : Nat), Fr h₀ L h' m → News h₀ L h' ((x, instObj 296 dx) :: (dx, dictOf es n) :: news) → (∀ q ∈ news, q.1 < dx) → dx < x → RepD (saVals v b2 b3 b4 b5 b6 b7 b8) es → Q (.ref x) { s with heap := h', toks := tk' }) :
    wpAny (model PRG w) A (call (.ref 296) [] (saKw (.str v t) b2 b3 b4 b5 b6 b7 b8)) Q E s := by
  refine call_cls F X N (by kernel_rfl) (fI := 293) (by kernel_rfl) (by kernel_rfl) ?_
  intro x dx h' F' N' l1 l2
  refine enterK (sa_fn w.params) B F' X N' T (by exact hA) hf hke (by exact hd) (sa_bind _ _ _ _ _ _ _ _ _ _) (by kernel_rfl) (sa_loc _ _ _ _ _ _ _ _ _ _) ?_
  intro g L' h₁ FG F1 N1 B1 X1 T1
  refine exO_sound (loc := saLoc) (γ := []) (frOk_envK (sa_fn w.params)) (locOk_of rfl (by kernel_rfl)) (fun x p _ h => nomatch h) X1 (sa_cls w.params) (Nat.ne_of_gt l2) (fun p hp => Nat.ne_of_lt (l1 p hp)) _ 0 [] _ _ (sa_run w.params x v b2 b3 b4 b5 b6 b7 b8)
    (fun b hb => by rw [(List.mem_replicate.mp hb).2]; exact decide_eq_true rfl) (by rw [sa_len]; decide) _ (s₀ := s) ⟨h₁, _, _, [], 0, rfl, F1, N1, sa_rep x v t hv _ _ _ _ _ _ _, RepD.nil, by simp⟩ _ fun s' hs' => ?_
  obtain ⟨h2, tk2, m2, es, n, rfl, F2, N2, R2, D2, _⟩ := hs'
  refine leaveK_ F2 N2 fun F3 N3 => ⟨rfl, ?_⟩
  exact ret x dx n es h2 tk2 F3 N3 l1 l2 D2
end Mine

namespace Mine
open PySem PySem.W PySem.Calls PyProof.Rows

noncomputable def whileOf : Option Stmt → PySem.Expr × List Stmt × Pos
  | some (.While t b _ p) => (t, b, p)
  | _ => (default, [], default)
noncomputable def runB (loc : List (List Nat)) (γ : Sto) (att : Addr → Str → Option (PV × List Bool)) (b : List Stmt) (σ : Sto) : Option (Sto × List Bool) :=
  (seqE (ex loc γ att 6) b σ).map fun r => (puts σ r.1, r.2)

noncomputable abbrev anB (P : Params) : List Stmt := bodyAt (KK P) 629
noncomputable def anLoop (P : Params) : PySem.Expr × List Stmt × Pos := whileOf ((anB P)[17]?)

noncomputable def k_self : List Nat := [115, 101, 108, 102]
noncomputable def k_sca : List Nat := [115, 99, 97, 108, 97, 114]
noncomputable def k_bi : List Nat := [98, 108, 111, 99, 107, 95, 105, 110, 100, 105, 99, 97, 116, 111, 114, 115]
noncomputable def k_fi : List Nat := [102, 108, 111, 119, 95, 105, 110, 100, 105, 99, 97, 116, 111, 114, 115]
noncomputable def k_lb : List Nat := [108, 105, 110, 101, 95, 98, 114, 101, 97, 107, 115]
noncomputable def k_sp : List Nat := [115, 112, 101, 99, 105, 97, 108, 95, 99, 104, 97, 114, 97, 99, 116, 101, 114, 115]
noncomputable def k_ls : List Nat := [108, 101, 97, 100, 105, 110, 103, 95, 115, 112, 97, 99, 101]
noncomputable def k_lk : List Nat := [108, 101, 97, 100, 105, 110, 103, 95, 98, 114, 101, 97, 107]
noncomputable def k_ts : List Nat := [116, 114, 97, 105, 108, 105, 110, 103, 95, 115, 112, 97, 99, 101]
noncomputable def k_tk : List Nat := [116, 114, 97, 105, 108, 105, 110, 103, 95, 98, 114, 101, 97, 107]
noncomputable def k_bs : List Nat := [98, 114, 101, 97, 107, 95, 115, 112, 97, 99, 101]
noncomputable def k_sb : List Nat := [115, 112, 97, 99, 101, 95, 98, 114, 101, 97, 107]
noncomputable def k_pw : List Nat := [112, 114, 101, 99, 101, 100, 101, 100, 95, 98, 121, 95, 119, 104, 105, 116, 101, 115, 112, 97, 99, 101]
noncomputable def k_fw : List Nat := [102, 111, 108, 108, 111, 119, 101, 100, 95, 98, 121, 95, 119, 104, 105, 116, 101, 115, 112, 97, 99, 101]
noncomputable def k_ps : List Nat := [112, 114, 101, 118, 105, 111, 117, 115, 95, 115, 112, 97, 99, 101]
noncomputable def k_pk : List Nat := [112, 114, 101, 118, 105, 111, 117, 115, 95, 98, 114, 101, 97, 107]
noncomputable def k_idx : List Nat := [105, 110, 100, 101, 120]
noncomputable def k_ch : List Nat := [99, 104]
noncomputable def k_uc : List Nat := [117, 110, 105, 99, 111, 100, 101, 95, 99, 104, 97, 114, 97, 99, 116, 101, 114, 115]
noncomputable def k_afp : List Nat := [97, 108, 108, 111, 119, 95, 102, 108, 111, 119, 95, 112, 108, 97, 105, 110]
noncomputable def k_abp : List Nat := [97, 108, 108, 111, 119, 95, 98, 108, 111, 99, 107, 95, 112, 108, 97, 105, 110]
noncomputable def k_asq : List Nat := [97, 108, 108, 111, 119, 95, 115, 105, 110, 103, 108, 101, 95, 113, 117, 111, 116, 101, 100]
noncomputable def k_adq : List Nat := [97, 108, 108, 111, 119, 95, 100, 111, 117, 98, 108, 101, 95, 113, 117, 111, 116, 101, 100]
noncomputable def k_ab : List Nat := [97, 108, 108, 111, 119, 95, 98, 108, 111, 99, 107]
noncomputable def anLoc : List (List Nat) := [k_self, k_sca, k_bi, k_fi, k_lb, k_sp, k_ls, k_lk, k_ts, k_tk, k_bs, k_sb, k_pw, k_fw, k_ps, k_pk, k_idx, k_ch, k_uc, k_afp, k_abp, k_asq, k_adq, k_ab]
structure St where
  bi : Bool
  fi : Bool
  lb : Bool
  sp : Bool
  ls : Bool
  lk : Bool
  ts : Bool
  tk : Bool
  bs : Bool
  sb : Bool
  pw : Bool
  fw : Bool
  ps : Bool
  pk : Bool
noncomputable def sig (x : Addr) (v : Str) (i : Int) (t : St) : Sto := [(k_self, .val (.ref x)), (k_sca, .str v), (k_bi, .bool t.bi), (k_fi, .bool t.fi), (k_lb, .bool t.lb), (k_sp, .bool t.sp), (k_ls, .bool t.ls), (k_lk, .bool t.lk), (k_ts, .bool t.ts), (k_tk, .bool t.tk), (k_bs, .bool t.bs), (k_sb, .bool t.sb), (k_pw, .bool t.pw), (k_fw, .bool t.fw), (k_ps, .bool t.ps), (k_pk, .bool t.pk), (k_idx, .int i)]

noncomputable def anGlo : Sto := [([108, 101, 110], .val (.builtin "len")), ([83, 99, 97, 108, 97, 114, 65, 110, 97, 108, 121, 115, 105, 115], .val (.ref 296))]
noncomputable def anAtt (x : Addr) (wide : Bool) (r : Addr) (a : Str) : Option (PV × List Bool) := bif keq (key a) [97, 108, 108, 111, 119, 95, 117, 110, 105, 99, 111, 100, 101] then some (.bool wide, [decide (r = x)]) else Option.none

theorem an_len (P : Params) : (anB P).length = 31 := by kernel_rfl
theorem an_loop_len (P : Params) : (anLoop P).2.1.length = 8 := by kernel_rfl

noncomputable def eqs (c : Str) (l : String) : Bool := c.cps.toList == (Str.ofString l).cps.toList
noncomputable def nes (c : Str) (l : String) : Bool := c.cps.toList != (Str.ofString l).cps.toList
noncomputable def les (l : String) (c : Str) : Bool := !decide (c.cps.toList < (Str.ofString l).cps.toList)
noncomputable def sel (c : Str) (l : String) : Bool := !decide ((Str.ofString l).cps.toList < c.cps.toList)
noncomputable def lts (c : Str) (l : String) : Bool := decide (c.cps.toList < (Str.ofString l).cps.toList)
noncomputable def isWs (c : Str) : Bool := inS "\u0000 \t\u000d\n\u0085\u2028\u2029" c
noncomputable def isBr (c : Str) : Bool := inS "\n\u0085\u2028\u2029" c
noncomputable def isHd (c : Str) : Bool := inS "#,[]{}&*!|>'\"%@`" c
noncomputable def isPr (c : Str) : Bool := eqs c "\n" || (les " " c && sel c "~" || false)
noncomputable def isUn (c : Str) : Bool := (eqs c "\u0085" || (les "\u00a0" c && sel c "\ud7ff" || (les "\ue000" c && sel c "\ufffd" || (les "𐀀" c && lts c "􏿿" || false)))) && (nes c "\ufeff" && true)

/-- one turn of the loop -/
noncomputable def stepA (wide : Bool) (v : Str) (i : Int) (t : St) : St :=
  { bi := bif i == 0 then (bif eqs (charAt v i) "-" && (t.fw && true) then true else bif inS "?:" (charAt v i) then (bif t.fw then true else bif isHd (charAt v i) then true else t.bi) else bif isHd (charAt v i) then true else t.bi)
      else (bif eqs (charAt v i) "#" && (t.pw && true) then true else bif eqs (charAt v i) ":" then (bif t.fw then true else t.bi) else t.bi)
    fi := bif i == 0 then (bif eqs (charAt v i) "-" && (t.fw && true) then true else bif inS "?:" (charAt v i) then true else bif isHd (charAt v i) then true else t.fi)
      else (bif eqs (charAt v i) "#" && (t.pw && true) then true else bif eqs (charAt v i) ":" then true else bif inS ",?[]{}" (charAt v i) then true else t.fi)
    lb := bif isBr (charAt v i) then true else t.lb
    sp := bif !(isPr (charAt v i)) then (bif isUn (charAt v i) then (bif !wide then true else t.sp) else true) else t.sp
    ls := bif eqs (charAt v i) " " then (bif i == 0 then true else t.ls) else t.ls
    lk := bif eqs (charAt v i) " " then t.lk else bif isBr (charAt v i) then (bif i == 0 then true else t.lk) else t.lk
    ts := bif eqs (charAt v i) " " then (bif i == v.length - 1 then true else t.ts) else t.ts
    tk := bif eqs (charAt v i) " " then t.tk else bif isBr (charAt v i) then (bif i == v.length - 1 then true else t.tk) else t.tk
    bs := bif eqs (charAt v i) " " then (bif t.pk then true else t.bs) else t.bs
    sb := bif eqs (charAt v i) " " then t.sb else bif isBr (charAt v i) then (bif t.ps then true else t.sb) else t.sb
    pw := isWs (charAt v i)
    fw := bif decide (i + 1 + 1 ≥ v.length) then decide (i + 1 + 1 ≥ v.length) else isWs (charAt v (i + 1 + 1))
    ps := bif eqs (charAt v i) " " then true else bif isBr (charAt v i) then false else false
    pk := bif eqs (charAt v i) " " then false else bif isBr (charAt v i) then true else false }
noncomputable def okA (x : Addr) (v : Str) (i : Int) : List Bool :=
  [itemOk v i, !!isPr (charAt v i) || (!isUn (charAt v i) || decide (x = x)), decide (i + 1 + 1 ≥ v.length) || itemOk v (i + 1 + 1)]
theorem an_body (P : Params) (x : Addr) (wide : Bool) (v : Str) (i : Int) (t : St) :
    runB anLoc anGlo (anAtt x wide) (anLoop P).2.1 (sig x v i t) = some (sig x v (i + 1) (stepA wide v i t) ++ [(k_ch, .str (charAt v i)), (k_uc, .any)], okA x v i) := by kernel_rfl

noncomputable def st0 (v : Str) : St :=
  { bi := bif Txt.startswith v "---" || (Txt.startswith v "..." || false) then true else false
    fi := bif Txt.startswith v "---" || (Txt.startswith v "..." || false) then true else false
    lb := false, sp := false, ls := false, lk := false, ts := false, tk := false, bs := false, sb := false, pw := true
    fw := bif ((v.length : Int) == 1) then ((v.length : Int) == 1) else isWs (charAt v 1)
    ps := false, pk := false }
theorem an_pre (P : Params) (x : Addr) (wide : Bool) (v : Str) :
    runB anLoc anGlo (anAtt x wide) (((anB P).drop 1).take 16) [(k_self, .val (.ref x)), (k_sca, .str v)] = some (sig x v 0 (st0 v), [((v.length : Int) == 1) || itemOk v 1]) := by kernel_rfl

structure Res where
  ml : Bool
  fp : Bool
  bp : Bool
  sq : Bool
  bl : Bool
noncomputable def resA (t : St) : Res :=
  { ml := t.lb
    fp := bif t.fi then false else bif t.lb then false else bif t.sb || (t.sp || false) then false else bif t.bs then false else bif t.ls || (t.lk || (t.ts || (t.tk || false))) then false else true
    bp := bif t.bi then false else bif t.lb then false else bif t.sb || (t.sp || false) then false else bif t.bs then false else bif t.ls || (t.lk || (t.ts || (t.tk || false))) then false else true
    sq := bif t.sb || (t.sp || false) then false else bif t.bs then false else true
    bl := bif t.sb || (t.sp || false) then false else bif t.ts then false else true }
noncomputable def sigR (r : Res) : Sto := [(k_afp, .bool r.fp), (k_abp, .bool r.bp), (k_asq, .bool r.sq), (k_adq, .bool true), (k_ab, .bool r.bl)]
theorem an_post (P : Params) (x : Addr) (wide : Bool) (v : Str) (i : Int) (t : St) :
    runB anLoc anGlo (anAtt x wide) (((anB P).drop 18).take 12) (sig x v i t) = some (sig x v i t ++ sigR (resA t), []) := by kernel_rfl

/-! gluing -/
section
variable {prog : Program} {w : World} {A : Around} {E : Value → Shared → Prop} {env : Env} {h₀ : Heap} {L : Addr} {news : List (Addr × Obj)} {s₀ : Shared} {loc : List (List Nat)} {γ : Sto} {att : Addr → Str → Option (PV × List Bool)}
theorem seqA_sound {f : Stmt → Sto → Option (Sto × List Bool)} (ih : ∀ st σ δ o, f st σ = some (δ, o) → AllT o → ExS prog w A E env h₀ L news s₀ (exec st env) σ (puts σ δ)) {rest : List Stmt} {Q : Flow → Shared → Prop} :
    ∀ (b : List Stmt) (σ δ : Sto) (o : List Bool), seqE f b σ = some (δ, o) → AllT o → ∀ s, At h₀ L news s₀ σ s → (∀ s', At h₀ L news s₀ (puts σ δ) s' → wpAny (model prog w) A (execs rest env) Q E s') → wpAny (model prog w) A (execs (b ++ rest) env) Q E s
  | [], σ, δ, o, h, _ => by cases h; exact fun s hs k => k s hs
  | st :: b, σ, δ, o, h, ho => by
    simp only [seqE] at h
    split at h
    · rename_i δ₁ o₁ h1
      split at h
      · rename_i δ₂ o₂ h2
        cases h
        intro s hs k
        rw [List.cons_append]
        refine wpAny_execs_cons (ih st σ _ _ h1 ho.left s hs _ fun s₁ hs₁ => ?_)
        refine seqA_sound ih b _ _ _ h2 ho.right s₁ hs₁ fun s₂ hs₂ => k s₂ ?_
        rw [puts_append]; exact hs₂
      · cases h
    · cases h
/-- a block of the fragment, then the rest -/
theorem run_then (fo : FrOk env L) (lo : LocOk env loc) (go : GloOk prog w A E env h₀ L news loc γ) (ao : AttH prog w A E h₀ L news att) {b rest whole : List Stmt} {σ σ' : Sto} {o : List Bool} {Q : Flow → Shared → Prop} {s : Shared} (h : runB loc γ att b σ = some (σ', o)) (ho : AllT o)
    (hs : At h₀ L news s₀ σ s) (hw : whole = b ++ rest) (k : ∀ s', At h₀ L news s₀ σ' s' → wpAny (model prog w) A (execs rest env) Q E s') : wpAny (model prog w) A (execs whole env) Q E s := by
  subst hw
  unfold runB at h
  cases h1 : seqE (ex loc γ att 6) b σ with
  | none => rw [h1] at h; cases h
  | some r =>
    obtain ⟨δ, o'⟩ := r
    rw [h1] at h
    cases h
    exact seqA_sound (ex_sound fo lo go ao 6) b σ δ o' h1 ho s hs k
theorem run_end (fo : FrOk env L) (lo : LocOk env loc) (go : GloOk prog w A E env h₀ L news loc γ) (ao : AttH prog w A E h₀ L news att) {b : List Stmt} {σ σ' : Sto} {o : List Bool} {Q : Flow → Shared → Prop} {s : Shared} (h : runB loc γ att b σ = some (σ', o)) (ho : AllT o)
    (hs : At h₀ L news s₀ σ s) (k : ∀ s', At h₀ L news s₀ σ' s' → Q .next s') : wpAny (model prog w) A (execs b env) Q E s :=
  run_then fo lo go ao h ho hs (List.append_nil b).symm fun s' hs' => wpAny_execs_nil (k s' hs')

noncomputable def IsL : List (Str × PV) → List Value → Prop
  | [], [] => True
  | (_, p) :: l, v :: vs => p.Is v ∧ IsL l vs
  | _, _ => False
noncomputable def evK (f : PySem.Expr → Option (PV × List Bool)) : List Keyword → Option (List (Str × PV) × List Bool)
  | [] => some ([], [])
  | ⟨some n, e, _⟩ :: r => (match f e, evK f r with
    | some (p, o), some (l, o') => some ((n, p) :: l, o ++ o')
    | _, _ => Option.none)
  | ⟨Option.none, _, _⟩ :: _ => Option.none
theorem evK_sound {nm : Str → Option PV} {s₁ : Shared} (hn : NmOk prog w A E env s₁ nm) (ha : AttOk prog w A E s₁ att) {n : Nat} {pos : Pos} : ∀ (kws : List Keyword) (l : List (Str × PV)) (o : List Bool), evK (ev nm att n) kws = some (l, o) → AllT o → ∀ s, Keeps s₁ s → ∀ (Q : List Value → Shared → Prop),
    (∀ ks s', IsL l ks → Keeps s₁ s' → Q ks s') → wpAny (model prog w) A (evalAll ((backToKw pos (keywordEach kws env)).map (·.2))) Q E s
  | [], l, o, h, _ => by cases h; exact fun s hs Q k => kwAll_nil (k [] s trivial hs)
  | ⟨some nme, e, p⟩ :: r, l, o, h, ho => by
    simp only [evK] at h
    split at h
    · rename_i pv o₁ l' o₂ h1 h2
      cases h
      intro s hs Q k
      exact kwAll_cons (ev_sound hn ha n e _ h1 ho.left s hs _ fun v s' hv hs' => evK_sound hn ha r l' o₂ h2 ho.right s' hs' _ fun ks s'' hk hs'' => k (v :: ks) s'' ⟨hv, hk⟩ hs'')
    · cases h
  | ⟨Option.none, _, _⟩ :: _, _, _, h, _ => nomatch h
theorem evK_names {nm : Str → Option PV} {n : Nat} {pos : Pos} {env : Env} : ∀ (kws : List Keyword) (l : List (Str × PV)) (o : List Bool), evK (ev nm att n) kws = some (l, o) →
    (backToKw pos (keywordEach kws env)).filterMap (·.1) = l.map (·.1) ∧ (backToKw pos (keywordEach kws env)).all (·.1.isSome) = true ∧ (backToKw pos (keywordEach kws env)).any (·.1.isNone) = false
  | [], l, o, h => by cases h; exact ⟨rfl, rfl, rfl⟩
  | ⟨some nme, e, p⟩ :: r, l, o, h => by
    simp only [evK] at h
    split at h
    · rename_i pv o₁ l' o₂ h1 h2
      cases h
      obtain ⟨a, b, c⟩ := evK_names (pos := pos) (env := env) r l' o₂ h2
      refine ⟨?_, ?_, ?_⟩
      · show List.filterMap (·.1) ((some nme, _) :: backToKw pos (keywordEach r env)) = _
        simp only [List.filterMap_cons, List.map_cons, a]
      · show List.all ((some nme, _) :: backToKw pos (keywordEach r env)) _ = true
        simp only [List.all_cons, b, Option.isSome_some, Bool.and_true]
      · show List.any ((some nme, _) :: backToKw pos (keywordEach r env)) _ = false
        simp only [List.any_cons, c, Option.isNone_some, Bool.or_false]
    · cases h
  | ⟨Option.none, _, _⟩ :: _, _, _, h => nomatch h
end
end Mine

namespace Mine
open PySem PySem.W PySem.Calls PyProof.Rows

noncomputable def stA (wide : Bool) (v : Str) : Nat → St
  | 0 => st0 v
  | k + 1 => stepA wide v k (stA wide v k)
noncomputable def anRes (v : Str) (wide : Bool) : Sto :=
  bif (v.length : Int) != 0 then
    saVals v false (resA (stA wide v v.length)).ml (resA (stA wide v v.length)).fp (resA (stA wide v v.length)).bp (resA (stA wide v v.length)).sq true (resA (stA wide v v.length)).bl
  else saVals v true false false true true true false

noncomputable def ifOf : Option Stmt → PySem.Expr × List Stmt × Pos
  | some (.If a b _ d) => (a, b, d)
  | _ => (default, [], default)
noncomputable def retOf : Option Stmt → Str × Pos × List Keyword × Pos × Pos
  | some (.Return (some (.Call (.Name f p) _ kws q)) r) => (f, p, kws, q, r)
  | _ => (Str.empty, default, [], default, default)
noncomputable def an0 (P : Params) := ifOf ((anB P)[0]?)
noncomputable def an0r (P : Params) := retOf ((an0 P).2.1[0]?)
noncomputable def anEnd (P : Params) := retOf ((anB P)[30]?)
noncomputable def retS (r : Str × Pos × List Keyword × Pos × Pos) : Stmt := .Return (some (.Call (.Name r.1 r.2.1) [] r.2.2.1 r.2.2.2.1)) r.2.2.2.2
theorem an_cut0 (P : Params) : anB P = .If (an0 P).1 [retS (an0r P)] [] (an0 P).2.2 :: (anB P).drop 1 := by kernel_rfl
theorem an_cut1 (P : Params) : (anB P).drop 1 = ((anB P).drop 1).take 16 ++ .While (anLoop P).1 (anLoop P).2.1 [] (anLoop P).2.2 :: (anB P).drop 18 := by kernel_rfl
theorem an_cut2 (P : Params) : (anB P).drop 18 = ((anB P).drop 18).take 12 ++ [retS (anEnd P)] := by kernel_rfl

noncomputable abbrev anNm (σ : Sto) := nmOf anLoc anGlo σ
noncomputable def saPairs (v : Str) (b2 b3 b4 b5 b6 b7 b8 : Bool) : List (Str × PV) := [("scalar", .str v), ("empty", .bool b2), ("multiline", .bool b3), ("allow_flow_plain", .bool b4), ("allow_block_plain", .bool b5), ("allow_single_quoted", .bool b6), ("allow_double_quoted", .bool b7), ("allow_block", .bool b8)]
noncomputable def sig0 (x : Addr) (v : Str) : Sto := [(k_self, .val (.ref x)), (k_sca, .str v)]
theorem an_test0 (P : Params) (x : Addr) (wide : Bool) (v : Str) : tr (anNm (sig0 x v)) (anAtt x wide) fuel (an0 P).1 = some (!((v.length : Int) != 0), []) := by kernel_rfl
theorem an_kw0 (P : Params) (x : Addr) (wide : Bool) (v : Str) : evK (ev (anNm (sig0 x v)) (anAtt x wide) fuel) (an0r P).2.2.1 = some (saPairs v true false false true true true false, []) := by kernel_rfl
theorem an_kwE (P : Params) (x : Addr) (wide : Bool) (v : Str) (i : Int) (t : St) : evK (ev (anNm (sig x v i t ++ sigR (resA t))) (anAtt x wide) fuel) (anEnd P).2.2.1 = some (saPairs v false (resA t).ml (resA t).fp (resA t).bp (resA t).sq true (resA t).bl, []) := by kernel_rfl
theorem an_nm0 (P : Params) (σ : Sto) : anNm σ (an0r P).1 = some (.val (.ref 296)) := by kernel_rfl
theorem an_nmE (P : Params) (σ : Sto) : anNm σ (anEnd P).1 = some (.val (.ref 296)) := by kernel_rfl
theorem an_testW (P : Params) (x : Addr) (wide : Bool) (v : Str) (i : Int) (t : St) : tr (anNm (sig x v i t)) (anAtt x wide) fuel (anLoop P).1 = some (decide (i < v.length), []) := by kernel_rfl
theorem an_fn (P : Params) : FnOk (KK P) 629 := ⟨by kernel_rfl, by kernel_rfl, by kernel_rfl, by kernel_rfl, by kernel_rfl⟩
theorem an_bind (P : Params) (x : Addr) (v : Value) : bindArgs (fnK (KK P) 629) ⟨[.ref x, v], []⟩ = pure [(Str.ofString "self", Value.ref x), (Str.ofString "scalar", v)] := by kernel_rfl
theorem an_rep (x : Addr) (v : Str) (t : Tok) (hv : small v = true) : Rep (sig0 x v) (fun y => [(Str.ofString "self", Value.ref x), (Str.ofString "scalar", Value.str v t)].reverse.lookup y) := by
  have h := rep_binds [("self", .ref x, .val (.ref x)), ("scalar", .str v t, .str v)] (by
    intro t' ht'
    simp only [List.mem_cons, List.not_mem_nil, or_false] at ht'
    rcases ht' with rfl | rfl
    · rfl
    · exact ⟨hv, _, rfl⟩)
  exact h

section
variable {prog : Program} {w : World} {A : Around} {E : Value → Shared → Prop} {env : Env} {h₀ : Heap} {L : Addr} {news : List (Addr × Obj)}
theorem gloOk_nil {loc : List (List Nat)} : GloOk prog w A E env h₀ L news loc [] := fun _ _ _ h => nomatch h
theorem gloOk_cons {loc : List (List Nat)} {k : List Nat} {p : PV} {γ : Sto} (h : ∀ s m, Fr h₀ L s.heap m → News h₀ L s.heap news → ∀ pos (Q : Value → Shared → Prop), (∀ v, p.Is v → Q v s) → wpAny (model prog w) A (eval (.Name ⟨k.toArray⟩ pos) env) Q E s)
    (r : GloOk prog w A E env h₀ L news loc γ) : GloOk prog w A E env h₀ L news loc ((k, p) :: γ) := by
  intro x q hl hq s m F N pos Q hk
  simp only [look] at hq
  cases e : keq k (key x) with
  | true =>
    rw [e] at hq
    cases hq
    have hx : x = ⟨k.toArray⟩ := Str.ext' (by rw [keq_iff.mp e]; simp [key])
    subst hx
    exact h s m F N pos Q hk
  | false =>
    rw [e] at hq
    exact r x q hl hq s m F N pos Q hk
theorem Rep.weaken {σ ρ : Sto} {m : Str → Option Value} (R : Rep (σ ++ ρ) m) : Rep σ m := by
  intro x p hp hne
  refine R x p ?_ hne
  clear R hne
  induction σ with
  | nil => cases hp
  | cons a r ih =>
    obtain ⟨k, q⟩ := a
    simp only [List.cons_append, look] at hp ⊢
    cases e : keq k (key x) with
    | true => rw [e] at hp; exact hp
    | false => rw [e] at hp; exact ih hp
end

section
variable {w : World} {p : Program} {loose : List Str} {mean : ExcName → Option Value} {mg mb : Str → Option Value} {A : Around} {E : Value → Shared → Prop} {g : Heap} {L : Addr} {news : List (Addr × Obj)}
theorem an_glo (X : (KK w.params).In g) (T : Top p loose mean mg mb g) : GloOk PRG w A E (envK (KK w.params) 629 L) g L news anLoc anGlo := by
  refine gloOk_cons (fun s m F N pos Q k => ?_) (gloOk_cons (fun s m F N pos Q k => ?_) gloOk_nil)
  · exact nameX_B (cl := []) F X (topRead_of T) (by kernel_rfl) (by decide +kernel) (by decide) (k _ rfl) (by kernel_rfl) (by kernel_rfl) (by decide +kernel)
  · exact nameX_K (cl := []) F X (topRead_of T) (by kernel_rfl) (k _ rfl) (by kernel_rfl) (by kernel_rfl) (by decide +kernel)
theorem an_att {x dx : Addr} {es : List DictEntry} {n : Nat} {wide : Bool} (X : (KK w.params).In g) (hi : (x, instObj 736 dx) ∈ news) (hdx : (dx, dictOf es n) ∈ news) (hg : getL "allow_unicode" es = some (some (.bool wide))) : AttH PRG w A E g L news (anAtt x wide) := by
  intro r a q o hq ho s m F N Q k
  unfold anAtt at hq
  cases e : keq (key a) [97, 108, 108, 111, 119, 95, 117, 110, 105, 99, 111, 100, 101] with
  | false => rw [e] at hq; cases hq
  | true =>
    rw [e] at hq
    cases hq
    have hr : r = x := of_decide_eq_true ho.one
    have ha : a = "allow_unicode" := key_inj ((keq_iff.mp e).trans (by decide +kernel))
    subst hr ha
    exact get_own F X (InstAt.of_news N hi hdx) (by kernel_rfl) (by kernel_rfl) (attr := Option.none) (by kernel_rfl) (by kernel_rfl) hg rfl (k _ _ rfl)
end

theorem isL_sa {v : Str} {b2 b3 b4 b5 b6 b7 b8 : Bool} : ∀ {ks : List Value}, IsL (saPairs v b2 b3 b4 b5 b6 b7 b8) ks → ∃ t, small v = true ∧ ((saPairs v b2 b3 b4 b5 b6 b7 b8).map (·.1)).zip ks = saKw (.str v t) b2 b3 b4 b5 b6 b7 b8 := by
  intro ks h
  unfold saPairs at h
  match ks, h with
  | [v1, v2, v3, v4, v5, v6, v7, v8], h =>
    obtain ⟨⟨hs, t, rfl⟩, h2, h3, h4, h5, h6, h7, h8, _⟩ := h
    cases h2; cases h3; cases h4; cases h5; cases h6; cases h7; cases h8
    exact ⟨t, hs, rfl⟩

section
variable {w : World} {p : Program} {loose : List Str} {mean : ExcName → Option Value} {mg mb : Str → Option Value} {A A₀ : Around} {env : Env} {outer : List Env} {base h₀ : Heap} {L : Addr} {m : Str → Option Value} {news : List (Addr × Obj)} {s : Shared}

/-- return ScalarAnalysis(..) at the end of a way -/
theorem sa_ret {E : Value → Shared → Prop} {Q : Flow → Shared → Prop} {loc : List (List Nat)} {γ σ : Sto} {att : Addr → Str → Option (PV × List Bool)} {r : Str × Pos × List Keyword × Pos × Pos} {v : Str} {b2 b3 b4 b5 b6 b7 b8 : Bool} {s₀ : Shared}
    (fo : FrOk env L) (lo : LocOk env loc) (go : GloOk PRG w A E env h₀ L news loc γ) (ao : AttH PRG w A E h₀ L news att) (hs : At h₀ L news s₀ σ s)
    (hnm : nmOf loc γ σ r.1 = some (.val (.ref 296))) (hkw : evK (ev (nmOf loc γ σ) att fuel) r.2.2.1 = some (saPairs v b2 b3 b4 b5 b6 b7 b8, []))
    (B : Below A₀ base outer h₀) (X : (KK w.params).In h₀) (T : Top p loose mean mg mb h₀) (hA : A.frames = some (env :: outer)) (hf : env.frame = some L) (hd : A.depth + 1 < recursionLimit)
    (ret : ∀ (x dx n : Nat) (es : List DictEntry) (h' : Heap) (tk' : Nat) (m' : Str → Option Value), Fr h₀ L h' m' → News h₀ L h' ((x, instObj 296 dx) :: (dx, dictOf es n) :: news) → (∀ q ∈ news, q.1 < dx) → dx < x → RepD (saVals v b2 b3 b4 b5 b6 b7 b8) es → Q (.ret (.ref x)) { s₀ with heap := h', toks := tk' }) :
    wpAny (model PRG w) A (execs [retS r] env) Q E s := by
  have hn := nmOk fo lo go hs
  refine wpAny_execs_cons (wpAny_Return_some (wpAny_Call_Name_kw (hn r.1 _ hnm s (keeps_refl s) _ _ fun f hf' => ?_)))
  cases hf'
  obtain ⟨n1, n2, n3⟩ := evK_names (pos := r.2.2.2.1) (env := env) _ _ _ hkw
  refine callWith_KW0 (first := []) X (by kernel_rfl) n2 (evK_sound hn (attOk ao hs) _ _ _ hkw allT_nil s (keeps_refl s) _ fun ks s' hk hs' => ?_) (by rw [n3]; rfl)
  obtain ⟨h, tk, m, rfl, F, N, R⟩ := hs.keeps hs'
  refine ⟨X.keeps F.keep, ?_⟩
  obtain ⟨t, hv, e⟩ := isL_sa hk
  rw [n1, e]
  exact sa_ok hv B F X N T hA hf fo.kind hd fun x dx n es h' tk' F' N' l1 l2 D => ret x dx n es h' tk' m F' N' l1 l2 D

theorem execs_cut {M : Model} {A : Around} {E : Value → Shared → Prop} {env : Env} {s : Shared} {whole rest : List Stmt} {st : Stmt} {Q : Flow → Shared → Prop} (hw : whole = st :: rest)
    (h : wpAny M A (exec st env) (fun f s' => match f with | .next => wpAny M A (execs rest env) Q E s' | f => Q f s') E s) : wpAny M A (execs whole env) Q E s := by
  subst hw
  exact wpAny_execs_cons h
theorem okA_all {x : Addr} {v : Str} {k : Nat} (h : k < v.length) : AllT (okA x v k) := by
  have e1 : itemOk v k = true := by simp only [itemOk, Bool.and_eq_true, decide_eq_true_eq]; omega
  have e2 : (decide ((k : Int) + 1 + 1 ≥ v.length) || itemOk v ((k : Int) + 1 + 1)) = true := by
    simp only [itemOk, Bool.or_eq_true, Bool.and_eq_true, decide_eq_true_eq]; omega
  intro b hb
  simp only [okA, List.mem_cons, List.not_mem_nil, or_false] at hb
  rcases hb with rfl | rfl | rfl
  · exact e1
  · simp
  · exact e2

/-- the body of analyze_scalar, over its parts -/
theorem an_core {Q : Flow → Shared → Prop} {x : Addr} {v : Str} {wide : Bool}
    {b b1 b18 pre post bW : List Stmt} {t0 tW : PySem.Expr} {p0 pW : Pos} {r0 rE : Str × Pos × List Keyword × Pos × Pos}
    (cut0 : b = .If t0 [retS r0] [] p0 :: b1) (cut1 : b1 = pre ++ .While tW bW [] pW :: b18) (cut2 : b18 = post ++ [retS rE])
    (test0 : tr (anNm (sig0 x v)) (anAtt x wide) fuel t0 = some (!((v.length : Int) != 0), [])) (nm0 : ∀ σ, anNm σ r0.1 = some (.val (.ref 296))) (nmE : ∀ σ, anNm σ rE.1 = some (.val (.ref 296)))
    (kw0 : evK (ev (anNm (sig0 x v)) (anAtt x wide) fuel) r0.2.2.1 = some (saPairs v true false false true true true false, []))
    (kwE : ∀ i t, evK (ev (anNm (sig x v i t ++ sigR (resA t))) (anAtt x wide) fuel) rE.2.2.1 = some (saPairs v false (resA t).ml (resA t).fp (resA t).bp (resA t).sq true (resA t).bl, []))
    (hpre : runB anLoc anGlo (anAtt x wide) pre (sig0 x v) = some (sig x v 0 (st0 v), [((v.length : Int) == 1) || itemOk v 1]))
    (testW : ∀ i t, tr (anNm (sig x v i t)) (anAtt x wide) fuel tW = some (decide (i < v.length), []))
    (hbody : ∀ i t, runB anLoc anGlo (anAtt x wide) bW (sig x v i t) = some (sig x v (i + 1) (stepA wide v i t) ++ [(k_ch, .str (charAt v i)), (k_uc, .any)], okA x v i))
    (hpost : ∀ i t, runB anLoc anGlo (anAtt x wide) post (sig x v i t) = some (sig x v i t ++ sigR (resA t), []))
    (fo : FrOk env L) (lo : LocOk env anLoc) (go : GloOk PRG w A (fun _ _ => False) env h₀ L news anLoc anGlo) (ao : AttH PRG w A (fun _ _ => False) h₀ L news (anAtt x wide))
    {s₀ : Shared} (hs0 : At h₀ L news s₀ (sig0 x v) s)
    (B : Below A₀ base outer h₀) (X : (KK w.params).In h₀) (T : Top p loose mean mg mb h₀) (hA : A.frames = some (env :: outer)) (hf : env.frame = some L) (hd : A.depth + 1 < recursionLimit)
    (fin : ∀ (x dx n : Nat) (es : List DictEntry) (h' : Heap) (tk' : Nat) (m' : Str → Option Value), Fr h₀ L h' m' → News h₀ L h' ((x, instObj 296 dx) :: (dx, dictOf es n) :: news) → (∀ q ∈ news, q.1 < dx) → dx < x → RepD (anRes v wide) es → Q (.ret (.ref x)) { s₀ with heap := h', toks := tk' }) :
    wpAny (model PRG w) A (execs b env) Q (fun _ _ => False) s := by
  refine execs_cut cut0 (wpAny_If ?_)
  refine (tr_sound (nmOk fo lo go hs0) (attOk ao hs0) _ _ _ test0 allT_nil _ (keeps_refl _) _ fun s1 hs1 => ?_)
  have hs1 := hs0.keeps hs1
  cases hc : ((v.length : Int) != 0) with
  | false =>
    show wpAny _ _ (execs [retS r0] _) _ _ _
    refine sa_ret fo lo go ao hs1 (nm0 _) kw0 B X T hA hf hd ?_
    intro x dx n es h' tk' m' F' N' l1 l2 D
    refine fin x dx n es h' tk' m' F' N' l1 l2 ?_
    unfold anRes; rw [hc]; exact D
  | true =>
    show wpAny _ _ (execs [] _) _ _ _
    refine wpAny_execs_nil ?_
    dsimp only
    have hlen : 0 < v.length := by
      have : (v.length : Int) ≠ 0 := by simpa using hc
      omega
    refine run_then fo lo go ao hpre ?_ hs1 cut1 fun s2 hs2 => ?_
    · intro b hb
      cases List.mem_singleton.mp hb
      simp only [itemOk, Bool.or_eq_true, Bool.and_eq_true, decide_eq_true_eq, beq_iff_eq]
      omega
    obtain ⟨h2, tk2, m2, rfl, F2, N2, R2⟩ := hs2
    refine wpAny_execs_cons (While_inv (fun n m₁ news₁ => news₁ = news ∧ ∃ k : Nat, k ≤ v.length ∧ n = v.length - k ∧ Rep (sig x v k (stA wide v k)) m₁) F2 N2 (n₀ := v.length) ⟨rfl, 0, by omega, by omega, R2⟩ ?_ PassesOwn.never)
    rintro n m₁ news₁ h₁ tk₁ F₁ N₁ ⟨rfl, k, hk, hn, R₁⟩
    have hs3 : At h₀ L news₁ s₀ (sig x v k (stA wide v k)) { s₀ with heap := h₁, toks := tk₁ } := ⟨h₁, tk₁, m₁, rfl, F₁, N₁, R₁⟩
    refine tr_sound (nmOk fo lo go hs3) (attOk ao hs3) _ _ _ (testW k _) allT_nil _ (keeps_refl _) _ fun s4 hs4 => ?_
    have hs4 := hs3.keeps hs4
    by_cases hlt : k < v.length
    · rw [if_pos (by simp only [decide_eq_true_eq]; omega)]
      refine run_end fo lo go ao (hbody k (stA wide v k)) (okA_all hlt) hs4 fun s5 hs5 => ?_
      obtain ⟨h5, tk5, m5, rfl, F5, N5, R5⟩ := hs5
      exact WhileStep.intro F5 N5 (n' := v.length - (k + 1)) (by omega) ⟨rfl, k + 1, by omega, rfl, R5.weaken⟩
    · rw [if_neg (by simp only [decide_eq_true_eq]; omega)]
      have hk' : k = v.length := by omega
      subst hk'
      refine run_then fo lo go ao (hpost _ _) allT_nil hs4 cut2 fun s5 hs5 => ?_
      refine sa_ret fo lo go ao hs5 (nmE _) (kwE _ _) B X T hA hf hd ?_
      intro x dx n es h' tk' m' F' N' l1 l2 D
      refine fin x dx n es h' tk' m' F' N' l1 l2 ?_
      unfold anRes; rw [hc]; exact D

theorem an_ok {Q E : Value → Shared → Prop} {x dx : Addr} {es : List DictEntry} {n : Nat} {v : Str} {t : Tok} {wide : Bool} (hv : small v = true)
    (B : Below A₀ base outer h₀) (F : Fr h₀ L s.heap m) (X : (KK w.params).In h₀) (N : News h₀ L s.heap news) (T : Top p loose mean mg mb h₀) (hA : A.frames = some (env :: outer)) (hf : env.frame = some L) (hke : env.scope.kind = .function) (hd : A.depth + 2 < recursionLimit)
    (hi : (x, instObj 736 dx) ∈ news) (hdx : (dx, dictOf es n) ∈ news) (hg : getL "allow_unicode" es = some (some (.bool wide)))
    (ret : ∀ (x dx n : Nat) (es : List DictEntry) (h' : Heap) (tk' : Nat), Fr h₀ L h' m → News h₀ L h' ((x, instObj 296 dx) :: (dx, dictOf es n) :: news) → (∀ q ∈ news, q.1 < dx) → dx < x → RepD (anRes v wide) es → Q (.ref x) { s with heap := h', toks := tk' }) :
    wpAny (model PRG w) A (call (.ref 629) [.ref x, .str v t]) Q E s := by
  refine wpAny_call (enterK (an_fn w.params) B F X N T hA hf hke (Nat.lt_of_le_of_lt (Nat.le_add_right _ 2) hd) (an_bind _ _ _) (by kernel_rfl) (by kernel_rfl) ?_)
  intro g L' h₁ FG F1 N1 B1 X1 T1
  refine wpAny_mono (E := fun _ _ => False) ?_ (fun _ _ h => h) (fun _ _ h => h.elim)
  have fo := frOk_envK (L := L') (an_fn w.params)
  have lo : LocOk (envK (KK w.params) 629 L') anLoc := locOk_of rfl (by kernel_rfl)
  have go := an_glo (A := A.deeper (envK (KK w.params) 629 L')) (E := fun _ _ => False) (L := L') (news := news) X1 T1
  have ao := an_att (A := A.deeper (envK (KK w.params) 629 L')) (E := fun _ _ => False) (L := L') X1 hi hdx hg
  have hs0 : At g L' news s (sig0 x v) { s with heap := h₁, toks := s.toks + 2 } := ⟨h₁, _, _, rfl, F1, N1, an_rep x v t hv⟩
  refine an_core (an_cut0 w.params) (an_cut1 w.params) (an_cut2 w.params) (an_test0 w.params x wide v) (an_nm0 w.params) (an_nmE w.params) (an_kw0 w.params x wide v) (an_kwE w.params x wide v) (an_pre w.params x wide v) (an_testW w.params x wide v) (an_body w.params x wide v) (an_post w.params x wide v) fo lo go ao hs0 B1 X1 T1 (Around.frames_deeper hA) rfl hd ?_
  intro x dx n es h' tk' m' F' N' l1 l2 D
  exact leaveK_ F' N' fun F3 N3 => ret x dx n es h' tk' F3 N3 l1 l2 D
end
end Mine

namespace Mine
open PySem PySem.W PySem.Calls PyProof.Rows

section
variable {prog : Program} {w : World} {A : Around} {E : Value → Shared → Prop} {env : Env} {s s₁ : Shared}

noncomputable def KeepH (h h' : Heap) : Prop := ∀ b o, h.get? b = some o → h'.get? b = some o
theorem Keeps.heap {s s' : Shared} (k : Keeps s s') : KeepH s.heap s'.heap := by obtain ⟨h, t, rfl, hk⟩ := k; exact hk

/-- a source that is walked: its items are ds -/
noncomputable def Src (prog : Program) (w : World) (A : Around) (s : Shared) {α : Type} (ds : List α) (R : α → Value → Prop) (it : Value) (s₂ : Shared) : Prop :=
  ∃ I fp wr P St, it = .ref I ∧ Walks prog w A I fp wr ds.length P St ∧ ds.length ≤ sizeLine ∧ St 0 s₂.heap ∧ (∀ b ∈ fp, b < s₂.heap.objs.size) ∧ (∀ b ∈ wr, s.heap.get? b = none) ∧ Keeps s s₂ ∧ ∀ i v, P i v → ∃ a, ds[i]? = some a ∧ R a v

theorem get_size_none (h : Heap) : h.get? h.objs.size = none := by
  cases e : h.get? h.objs.size with
  | none => rfl
  | some o => exact absurd (Heap.lt_size e) (Nat.lt_irrefl _)
theorem none_of_keeps {s s' : Shared} (k : Keeps s s') {b : Addr} (h : s'.heap.get? b = none) : s.heap.get? b = none := by
  cases e : s.heap.get? b with
  | none => rfl
  | some o => rw [Keeps.heap k b o e] at h; cases h

noncomputable def SignOf (c : Nat) (v : Value) : Prop := ∃ u, v = .str ⟨#[c]⟩ u
theorem src_str {y : Str} {t : Tok} (hh : A.handled = none) (hy : small y = true) (k : Keeps s s₁) {Q : Value → Shared → Prop} (hQ : ∀ it s₂, Src prog w A s y.cps.toList SignOf it s₂ → Q it s₂) : wpAny (model prog w) A (pyIter (.str y t)) Q E s₁ := by
  refine wpAny_pyIter_str fun o St W hst => hQ _ _ ?_
  refine ⟨s₁.heap.objs.size, [s₁.heap.objs.size], [s₁.heap.objs.size], SignAt y, St, rfl, ?_, ?_, hst, ?_, ?_, ?_, ?_⟩
  · have := W A hh
    rwa [show y.cps.size = y.cps.toList.length from rfl] at this
  · exact small_line hy
  · intro b hb
    show b < (s₁.heap.push o).objs.size
    rw [Heap.size_push, List.mem_singleton.mp hb]
    exact Nat.lt_succ_self _
  · intro b hb
    rw [List.mem_singleton.mp hb]
    exact none_of_keeps k (get_size_none _)
  · exact keeps_trans k ⟨_, _, rfl, fun b o e => Heap.get?_push_of_some _ e⟩
  · rintro i v ⟨c, u, hc, rfl⟩
    exact ⟨c, by simpa using hc, u, rfl⟩
theorem src_list {ax : Addr} {items : Array Value} {α : Type} {ds : List α} {R : α → Value → Prop} (hh : A.handled = none) (hl : s₁.heap.IsList ax items) (hsz : ds.length ≤ sizeLine) (hlen : items.size = ds.length)
    (hR : ∀ (i : Nat) (v : Value), items[i]? = some v → ∃ a, ds[i]? = some a ∧ R a v) (k : Keeps s s₁) {Q : Value → Shared → Prop} (hQ : ∀ it s₂, Src prog w A s ds R it s₂ → Q it s₂) : wpAny (model prog w) A (pyIter (.ref ax)) Q E s₁ := by
  have hlt : ax < s₁.heap.objs.size := by obtain ⟨_, e, _⟩ := hl; exact Heap.lt_size e
  refine wpAny_pyIter_list hl (hQ _ _ ?_)
  refine ⟨s₁.heap.objs.size, [s₁.heap.objs.size, ax], [s₁.heap.objs.size], fun i v => items[i]? = some v, fun i h => h.IsListIter s₁.heap.objs.size ax i ∧ h.IsList ax items, rfl, ?_, hsz, ⟨⟨_, Heap.get?_push_size _ rfl, rfl, rfl⟩, hl.push _⟩, ?_, ?_, ?_, hR⟩
  · rw [← hlen]; exact Walks.list hh _ ax (Nat.ne_of_lt hlt) items
  · intro b hb
    show b < (s₁.heap.push _).objs.size
    rw [Heap.size_push]
    rcases List.mem_cons.mp hb with rfl | hb
    · exact Nat.lt_succ_self _
    · rw [List.mem_singleton.mp hb]; exact Nat.lt_succ_of_lt hlt
  · intro b hb
    rw [List.mem_singleton.mp hb]
    exact none_of_keeps k (get_size_none _)
  · exact keeps_trans k ⟨_, _, rfl, fun b o e => Heap.get?_push_of_some _ e⟩

theorem paired_get {α β : Type} {F : α → β → Prop} : ∀ {l : List α} {l' : List β}, Paired F l l' → l'.length = l.length ∧ ∀ (j : Nat) (a : α) (b : β), l[j]? = some a → l'[j]? = some b → F a b
  | [], [], _ => ⟨rfl, fun _ _ _ h => by simp at h⟩
  | x :: l, y :: l', h => by
    cases h with
    | cons h1 h2 =>
      obtain ⟨e, r⟩ := paired_get h2
      refine ⟨by simp [e], fun j a b ha hb => ?_⟩
      cases j with
      | zero => simp at ha hb; subst ha hb; exact h1
      | succ j => exact r j a b (by simpa using ha) (by simpa using hb)

/-- a list comprehension over such a source, its items and its results told -/
theorem comp_list {α : Type} {ds : List α} {R : α → Value → Prop} {G : α → Value → Prop} {elt iter : PySem.Expr} {x : Str} {px pos : Pos} {scope : Scope} {cl : List (Str × Addr)} {Q : Value → Shared → Prop}
    (hclos : closureFor scope env = pure cl) (hcell : ∀ y ∈ scope.names, y.2 ≠ .cell) (hkind : scope.kind = .function) (hnames : ∀ y ∈ scope.names, y.2 = .local → scope.names.lookup y.1 = some .local) (hx : scope.names.lookup x = some .local)
    (hs : ∀ x, foldedSetIterable iter env x = pure x) (hRf : ∀ a a' v, R a v → R a' v → a = a')
    (hiter : wpAny (model prog w) A (eval iter env) (fun xv s₁ => wpAny (model prog w) A (pyIter xv) (Src prog w A s ds R) E s₁) E s)
    (helt : ∀ C a v s₃ m₃ E', a ∈ ds → R a v → s₃.heap.Ns C m₃ → m₃ x = some v → KeepH s.heap s₃.heap → wpAny (model prog w) A (eval elt (compEnvC scope cl C env)) (fun r s₄ => G a r ∧ Keeps s₃ s₄) E' s₃)
    (k : ∀ D ys s', Keeps s s' → s.heap.get? D = Option.none → s'.heap.IsList D ys → ys.size = ds.length → (∀ (j : Nat) (a : α) (r : Value), ds[j]? = some a → ys[j]? = some r → G a r) → Q (.ref D) s') :
    wpAny (model prog w) A (eval (.ListComp elt [⟨.Name x px, iter, [], 0⟩] scope pos) env) Q E s := by
  refine wpAny_ListComp_free (fun _ => true) (fun v r => ∀ a, R a v → G a r) hclos hcell hkind hnames hx (wpAny_mono hiter (fun xv s₁ h₁ => wpAny_mono h₁ (fun it s₂ h₂ => ?_) fun _ _ e => e) fun _ _ e => e) hs
  obtain ⟨I, fp, wr, P, St, rfl, W, hsz, hst, hfp, hwr, hk, hP⟩ := h₂
  have up : ∀ h', (∀ b o, b ∉ wr → s₂.heap.get? b = some o → h'.get? b = some o) → KeepH s.heap h' := fun h' hk' b o e => hk' b o (fun hb => by rw [hwr b hb] at e; cases e) (Keeps.heap hk b o e)
  refine ⟨I, fp, wr, ds.length, P, St, rfl, W, hsz, hst, hfp, ⟨?_, ?_⟩, ?_⟩
  · intro C i v s₃ m₃ E' _ hPv hn hm hk' _
    exact wpAny_tests_nil ⟨rfl, keeps_refl _⟩
  · intro C i v s₃ m₃ E' _ hPv _ hn hm hk' _
    obtain ⟨a, ha, hR⟩ := hP i v hPv
    exact wpAny_mono (helt C a v s₃ m₃ E' (List.mem_of_getElem? ha) hR hn hm (up _ hk')) (fun r s₄ h₄ => ⟨fun a' ha' => hRf a a' v hR ha' ▸ h₄.1, h₄.2⟩) fun _ _ e => e
  · intro D h' tk ys vs hD hl _ hlen hPv hF hk'
    have hf : vs.filter (fun _ => true) = vs := List.filter_eq_self.mpr fun _ _ => rfl
    rw [hf] at hF
    obtain ⟨e1, e2⟩ := paired_get hF
    have e3 : ys.size = ds.length := by rw [← hlen, ← e1]; rfl
    obtain ⟨g₂, tk₂, rfl, hkk⟩ := hk
    refine k D ys _ ⟨h', tk, rfl, up _ hk'⟩ (none_of_keeps ⟨g₂, tk₂, rfl, hkk⟩ hD) hl e3 fun j a r ha hr => ?_
    have hj : j < vs.length := by rw [hlen]; exact (List.getElem?_eq_some_iff.mp ha).1
    obtain ⟨a', ha', hR⟩ := hP j vs[j] (hPv j vs[j] (List.getElem?_eq_getElem hj))
    rw [ha] at ha'
    cases ha'
    exact e2 j vs[j] r (List.getElem?_eq_getElem hj) (by rw [← hr]; simp) a hR

theorem all_keeps {l : Addr} {ys : Array Value} {bs : List Bool} {Q : Value → Shared → Prop} (hh : A.handled = none) (hl : s.heap.IsList l ys) (hlen : ys.size = bs.length) (hb : ∀ (i : Nat) (v : Value), ys[i]? = some v → ∃ b, bs[i]? = some b ∧ v = .bool b)
    (k : ∀ s', Keeps s s' → Q (.bool (bs.all id)) s') : wpAny (model prog w) A (call (.builtin "all") [.ref l]) Q E s := by
  have hlt : l < s.heap.objs.size := by obtain ⟨_, e, _⟩ := hl; exact Heap.lt_size e
  refine call_all_walk (wpAny_pyIter_list hl ?_)
  refine ⟨s.heap.objs.size, [s.heap.objs.size, l], [s.heap.objs.size], ys.size, _, _, fun i => (bs[i]?).getD true, rfl, Walks.list (A := A.in1) hh _ l (Nat.ne_of_lt hlt) ys,
    ⟨⟨_, Heap.get?_push_size _ rfl, rfl, rfl⟩, hl.push _⟩, fun i v s' Q' E' hP hQ => ?_, fun h' tk hk => ?_⟩
  · obtain ⟨b, e, rfl⟩ := hb i v hP
    simp only [e, Option.getD_some] at hQ
    exact wpAny_truthy_bool hQ
  · have e : ((List.range ys.size).all fun i => (bs[i]?).getD true) = bs.all id := by
      rw [hlen]
      have := all_rangeD bs id
      rw [← this]
      congr 1
    rw [e]
    exact k _ ⟨h', tk, rfl, fun b o eb => hk b o (fun hm => by rw [List.mem_singleton.mp hm] at eb; exact Nat.lt_irrefl _ (Heap.lt_size eb)) (Heap.get?_push_of_some _ eb)⟩
end
end Mine

namespace Mine
open PySem PySem.W PySem.Calls PyProof.Rows

section
variable {prog : Program} {w : World} {A : Around} {E : Value → Shared → Prop} {env : Env} {s s₁ : Shared}

theorem keeps_of {s s' : Shared} (k : Keeps s s') {h : Heap} (tk : Nat) (hk : KeepH s.heap h) : Keeps s { s' with heap := h, toks := tk } := by
  obtain ⟨g, t, rfl, _⟩ := k
  exact ⟨h, tk, rfl, hk⟩

/-- a source of pairs -/
noncomputable def SrcP (prog : Program) (w : World) (A : Around) (s : Shared) {α : Type} (ds : List α) (R : α → Value → Value → Prop) (it : Value) (s₂ : Shared) : Prop :=
  ∃ I fp wr Pt St Mid, it = .ref I ∧ WalksU prog w A I fp wr ds.length Pt St Mid ∧ ds.length ≤ sizeLine ∧ St 0 s₂.heap ∧ (∀ b ∈ fp, b < s₂.heap.objs.size) ∧ (∀ b ∈ wr, s.heap.get? b = Option.none) ∧
    (∀ i h, St i h → ∀ b ∈ wr, (h.get? b).isSome = true) ∧ Keeps s s₂ ∧ ∀ (i : Nat) vals, Pt i vals → ∃ a x y, ds[i]? = some a ∧ vals = #[x, y] ∧ R a x y

/-- what is known of a result that stands in the new list, whatever becomes of the addresses in bad -/
structure ResOk {α : Type} (G : List Addr → α → Value → Heap → Prop) : Prop where
  mono : ∀ bad a r h h', G bad a r h → (∀ b o, b ∉ bad → h.get? b = some o → h'.get? b = some o) → G bad a r h'

noncomputable def EltP (G : List Addr → α → Value → Heap → Prop) (a : α) (s₃ : Shared) (r : Value) (s₄ : Shared) : Prop :=
  Keeps s₃ s₄ ∧ ∀ bad, (∀ b ∈ bad, (s₃.heap.get? b).isSome = true) → G bad a r s₄.heap

theorem comp_pairs {α : Type} {ds : List α} {R : α → Value → Value → Prop} {G : List Addr → α → Value → Heap → Prop} {elt iter : PySem.Expr} {x y : Str} {px py tp pos : Pos} {kk : Nat} {scope : Scope} {cl : List (Str × Addr)} {use : Option (Value → Sem Unit)} {cpos : Pos} {Q : Value → Shared → Prop}
    (hh : A.handled = Option.none) (hclos : closureFor scope env = pure cl) (hcell : ∀ y ∈ scope.names, y.2 ≠ .cell) (hkind : scope.kind = .function) (hnames : ∀ y ∈ scope.names, y.2 = .local → scope.names.lookup y.1 = some .local) (hx : scope.names.lookup x = some .local) (hy : scope.names.lookup y = some .local) (hxy : x ≠ y)
    (hs : ∀ x, foldedSetIterable iter env x = pure x) (hG : ResOk G)
    (hiter : wpAny (model prog w) A (eval iter env) (fun xv s₁ => wpAny (model prog w) A (pyIter xv) (SrcP prog w A s ds R) E s₁) E s)
    (helt : ∀ C a v u s₃ m₃ E', a ∈ ds → R a v u → s₃.heap.Ns C m₃ → m₃ x = some v → m₃ y = some u → KeepH s.heap s₃.heap → wpAny (model prog w) A (eval elt (compEnvC scope cl C env)) (EltP G a s₃) E' s₃)
    (k : ∀ D C ys s', Keeps s s' → s.heap.get? D = Option.none → s.heap.get? C = Option.none → C ≠ D → s'.heap.IsList D ys → ys.size = ds.length → (∃ wr, ∀ (j : Nat) (a : α) (r : Value), ds[j]? = some a → ys[j]? = some r → G (C :: D :: wr) a r s'.heap) → (∃ m, s'.heap.Ns C m) → compPost (model prog w) A E use Q (.ref D) C (.ok .next) s') :
    wpAny (model prog w) A (comprehension (.ListComp elt [⟨.Tuple [.Name x px, .Name y py] kk tp, iter, [], 0⟩] scope pos) scope env cpos (newList []) false (eval iter env) use) Q E s := by
  refine wpAny_comprehension_free rfl hs hclos hkind hnames (wpAny_mono hiter (fun xv s₁ h₁ => wpAny_mono h₁ (fun it s₂ h₂ => ?_) fun _ _ e => e) fun _ _ e => e)
  obtain ⟨I, fp, wr, Pt, St, Mid, rfl, W, hsz, hst, hfp, hwr, hwr', hk, hP⟩ := h₂
  refine wpAny_newObj_type (wpAny_newFunctionEnv hcell (by intro y hy; simp at hy) (fun h₁ hns₁ hsb₁ => ?_) hkind)
  dsimp only at hns₁ hsb₁ ⊢
  generalize hH2 : s₂.heap.push { cls := .type "list", dict := Option.none, data := .seq ([] : List Value).toArray } = H2 at hns₁ hsb₁ ⊢
  have hC : H2.objs.size = s₂.heap.objs.size + 1 := by rw [← hH2, Heap.size_push]
  have hDC : H2.objs.size ≠ s₂.heap.objs.size := by rw [hC]; exact Nat.succ_ne_self _
  have below : ∀ b, b < s₂.heap.objs.size → b ≠ H2.objs.size ∧ b ≠ s₂.heap.objs.size := fun b hb => ⟨by rw [hC]; exact Nat.ne_of_lt (Nat.lt_succ_of_lt hb), Nat.ne_of_lt hb⟩
  have old : KeepH s₂.heap h₁ := fun b o e => hsb₁.extBut b o (below b (Heap.lt_size e)).1 (Heap.get?_push_of_some _ (hH2 ▸ Heap.get?_push_of_some _ e))
  have hacc : h₁.PlainList s₂.heap.objs.size #[] := ⟨_, hsb₁.extBut _ _ (Ne.symm hDC) (Heap.get?_push_of_some _ (hH2 ▸ Heap.get?_push_size _ rfl))⟩
  have hDf : s₂.heap.objs.size ∉ fp := fun hm => Nat.lt_irrefl _ (hfp _ hm)
  have hCf : H2.objs.size ∉ fp := fun hm => by have := hfp _ hm; rw [hC] at this; exact Nat.lt_irrefl _ (Nat.lt_of_succ_lt this)
  have hDw : s₂.heap.objs.size ∉ wr := fun hm => hDf (W.sub _ hm)
  have hCw : H2.objs.size ∉ wr := fun hm => hCf (W.sub _ hm)
  have hst₁ : St 0 h₁ := W.frame _ _ _ hst fun b _ o e => old b o e
  have fresh : ∀ a, s₂.heap.objs.size ≤ a → s.heap.get? a = Option.none := fun a ha => none_of_keeps hk (by
    cases e : s₂.heap.get? a with
    | none => rfl
    | some o' => exact absurd (Heap.lt_size e) (Nat.not_lt.mpr ha))
  have hD0 := fresh _ (Nat.le_refl s₂.heap.objs.size)
  have hC0 := fresh H2.objs.size (by rw [hC]; exact Nat.le_succ _)
  have loop : ∀ s₃ : Shared, s₃ = { s₂ with heap := h₁, toks := s₂.toks + ([] : List (Str × Value)).length } →
      codeAny (model prog w) A (.compLoop (.ListComp elt [⟨.Tuple [.Name x px, .Name y py] kk tp, iter, [], 0⟩] scope pos) 0 (.ref I) (.ref s₂.heap.objs.size) (compEnvC scope cl H2.objs.size env))
        (compPost (model prog w) A E use Q (.ref s₂.heap.objs.size) H2.objs.size) s₃ := by
    rintro s₃ rfl
    refine kcp_loop (fun n s' => ∃ h' tk i ys m', s' = { s₂ with heap := h', toks := tk } ∧ i ≤ ds.length ∧ n = ds.length + 1 - i ∧ ys.size = i ∧ St i h' ∧ h'.Ns H2.objs.size m' ∧ h'.PlainList s₂.heap.objs.size ys ∧ KeepH s.heap h' ∧
      ∀ (j : Nat) (a : α) (r : Value), ds[j]? = some a → ys[j]? = some r → G (H2.objs.size :: s₂.heap.objs.size :: wr) a r h') ?_ (ds.length + 1)
      ⟨h₁, _, 0, #[], _, rfl, Nat.zero_le _, rfl, rfl, hst₁, hns₁, hacc, fun b o e => old b o (Keeps.heap hk b o e), fun j a r _ hr => by simp at hr⟩
    rintro n s' ⟨h', tk, i, ys, m', rfl, hi, rfl, hys, hst', hn', hl', hkp, hg⟩
    by_cases hlt : i < ds.length
    · refine W.item i _ _ _ hlt hst' fun T vals h₂ tk₂ hPv hT hMid hk₂ => ?_
      obtain ⟨a, v, u, ha, rfl, hR⟩ := hP i vals hPv
      refine W.go _ _ _ i T _ _ _ hMid fun h₃ hst₃ hk₃ => ?_
      have hT₃ : h₃.IsTuple T #[v, u] := let ⟨o, e, r⟩ := hT; ⟨o, hk₃ T o (W.apart _ _ _ hMid) e, r⟩
      have hn₃ : h₃.Ns H2.objs.size m' := (hn'.at' fun o e => hk₂ _ o hCw e).at' fun o e => hk₃ _ o hCw e
      refine kcp_assign (env := compEnvC scope cl H2.objs.size env) hh hT₃ (lookup_relabel_local hx) (lookup_relabel_local hy) (by simp [compEnvC, relabel, hkind]) hn₃ fun h₄ tk₄ hn₄ hk₄ => ?_
      have kk₄ : ∀ b o, b ∉ H2.objs.size :: s₂.heap.objs.size :: wr → h'.get? b = some o → h₄.get? b = some o := fun b o hb e => by
        simp only [List.mem_cons, not_or] at hb
        exact hk₄ b o hb.1 (hk₃ b o hb.2.2 (hk₂ b o hb.2.2 e))
      have kp₄ : KeepH s.heap h₄ := fun b o e => hk₄ b o (fun q => by rw [q] at e; rw [show (compEnvC scope cl H2.objs.size env).locals = H2.objs.size from rfl, hC0] at e; cases e) (hk₃ b o (fun q => by rw [hwr b q] at e; cases e) (hk₂ b o (fun q => by rw [hwr b q] at e; cases e) (hkp b o e)))
      have hst₄ : St (i + 1) h₄ := W.frame _ _ _ hst₃ fun b hb o e => hk₄ b o (fun q => hCf (by have q' : b = H2.objs.size := q; rw [← q']; exact hb)) e
      have hl₄ : h₄.PlainList s₂.heap.objs.size ys := hl'.at fun o e => hk₄ _ o (Ne.symm hDC) (hk₃ _ o hDw (hk₂ _ o hDw e))
      refine wpAny_mono (helt H2.objs.size a v u _ _ _ (List.mem_of_getElem? ha) hR hn₄ (by simp [hxy]) (by simp) kp₄) (fun r s₅ h₅ => ?_) fun _ _ e => e
      obtain ⟨⟨h₅, tk₅, rfl, hk₅⟩, hnew⟩ := h₅
      have gnew := hnew (H2.objs.size :: s₂.heap.objs.size :: wr) (by
        intro b hb
        simp only [List.mem_cons] at hb
        rcases hb with rfl | rfl | hb
        · obtain ⟨o, _, _, e, _⟩ := hn₄; show (h₄.get? _).isSome = true; rw [show H2.objs.size = (compEnvC scope cl H2.objs.size env).locals from rfl, e]; rfl
        · obtain ⟨_, e⟩ := hl₄; show (h₄.get? _).isSome = true; rw [e]; rfl
        · exact hwr' _ _ hst₄ b hb)
      refine wpAny_list_append_plain (hsz := by omega) (hl₄.at fun o e => hk₅ _ o e) fun h₆ hl₆ hs₆ => ?_
      refine ⟨ds.length + 1 - (i + 1), by omega, h₆, tk₅, i + 1, ys.push r, _, rfl, hlt, rfl, by simp [hys], W.frame _ _ _ hst₄ fun b hb o e => hs₆.extBut b o (fun q => hDf (q ▸ hb)) (hk₅ b o e), (hn₄.keeps hk₅).sameBut hs₆ hDC, hl₆,
        fun b o e => hs₆.extBut b o (fun q => by rw [q, hD0] at e; cases e) (hk₅ b o (kp₄ b o e)), fun j a' r' ha' hr' => ?_⟩
      have up : ∀ b o, b ∉ H2.objs.size :: s₂.heap.objs.size :: wr → h₅.get? b = some o → h₆.get? b = some o := fun b o hb e => hs₆.extBut b o (fun q => hb (by simp [q])) e
      by_cases hj : j < ys.size
      · rw [Array.getElem?_push_lt hj] at hr'
        refine hG.mono _ _ _ _ _ (hG.mono _ _ _ _ _ (hg j a' r' ha' (by rw [Array.getElem?_eq_getElem hj]; exact hr')) fun b o hb e => hk₅ b o (kk₄ b o hb e)) up
      · have hje : j = ys.size := by
          have h9 : j < (ys.push r).size := by
            rcases Nat.lt_or_ge j (ys.push r).size with h | h
            · exact h
            · rw [Array.getElem?_eq_none h] at hr'; cases hr'
          rw [Array.size_push] at h9; omega
        subst hje
        rw [Array.getElem?_push_size] at hr'
        cases hr'
        rw [hys, ha] at ha'
        cases ha'
        exact hG.mono _ _ _ _ _ gnew up
    · have hin : i = ds.length := by omega
      subst hin
      refine W.done _ _ _ hst' fun h₂ tk₂ hk₂ => ?_
      refine k s₂.heap.objs.size H2.objs.size ys _ (keeps_of hk tk₂ fun b o e => hk₂ b o (fun q => by rw [hwr b q] at e; cases e) (hkp b o e)) hD0 hC0 hDC (hl'.at fun o e => hk₂ _ o hDw e).isList hys ⟨wr, fun j a r ha hr => ?_⟩ ⟨_, hn'.at' fun o e => hk₂ _ o hCw e⟩
      exact hG.mono _ _ _ _ _ (hg j a r ha hr) fun b o hb e => hk₂ b o (fun q => hb (by simp [q])) e
  exact codeAny_compStart_list (loop _ rfl) (W.self 0 _ _ _ hst₁ (loop _ rfl))
end
end Mine

namespace Mine
open PySem PySem.W PySem.Calls PyProof.Rows

/-- what zip asks of an iterator over the signs of y -/
structure Nxt (prog : Program) (w : World) (I : Addr) (y : Str) (It : Nat → Heap → Prop) : Prop where
  item : ∀ (A : Around) (E : Value → Shared → Prop) (i c : Nat) (s : Shared) (Q : Value → Shared → Prop), It i s.heap → y.cps[i]? = some c →
    (∀ h' tk, It (i + 1) h' → Heap.SameBut I s.heap h' → Q (.str ⟨#[c]⟩ s.toks) { s with heap := h', toks := tk }) → wpAny (model prog w) A (Builtin.SmallTypes.nextOf (.ref I)) Q E s
  done : ∀ (A : Around) (E : Value → Shared → Prop) (i : Nat) (s : Shared) (Q : Value → Shared → Prop), A.handled = Option.none → It i s.heap → y.cps[i]? = Option.none →
    (∀ h' e, Heap.ExtBut I s.heap h' → (∃ o, h'.get? e = some o ∧ o.cls = .type "StopIteration") → E (.ref e) { s with heap := h' }) → wpAny (model prog w) A (Builtin.SmallTypes.nextOf (.ref I)) Q E s
  keep : ∀ i h h', It i h → (∀ o, h.get? I = some o → h'.get? I = some o) → It i h'
  here : ∀ i h, It i h → ∃ o, h.get? I = some o

section
variable {prog : Program} {w : World} {A : Around} {E : Value → Shared → Prop} {s : Shared}

theorem nxa_item {it : Addr} {x : Str} {t : Tok} {i c : Nat} {Q : Value → Shared → Prop}
    (hit : s.heap.IsStrIter it "str_ascii_iterator" x t i) (hx : x.cps[i]? = some c) (hQ : ∀ h' tk, h'.IsStrIter it "str_ascii_iterator" x t (i + 1) → Heap.SameBut it s.heap h' → Q (.str ⟨#[c]⟩ s.toks) { s with heap := h', toks := tk }) :
    wpAny (model prog w) A (Builtin.SmallTypes.nextOf (.ref it)) Q E s := by
  have hit' := hit
  obtain ⟨o, ho, hc, hd⟩ := hit'
  unfold Builtin.SmallTypes.nextOf
  refine wpAny_bind (wpAny_callSpecial?_slot (name := Str.ofString "__next__") hit.typeIs F.slot_str_ascii_iterator_next (wpAny_call_entry F.slot_str_ascii_iterator_next hit.typeIs F.entry_str_ascii_iterator_next ?_ (F.args_str_ascii_iterator_next_1 _)))
  show wpAny _ _ (field (.ref it) 0 >>= _) _ _ s
  refine wpAny_bind (wpAny_field ho hd (x := .str x t) rfl ?_)
  show wpAny _ _ (field (.ref it) 1 >>= _) _ _ s
  refine wpAny_bind (wpAny_field ho hd (x := .int i 0) rfl ?_)
  simp only [Int.toNat_natCast, hx]
  refine wpAny_bind (wpAny_setField ho hd (by simp) (wpAny_bind (wpAny_mkStr (wpAny_pure ⟨_, rfl, wpAny_pure (hQ _ _ ?_ (Heap.SameBut.update ..))⟩) (by show 1 ≤ sizeLine; decide))))
  exact ⟨_, Heap.get?_update_self _ ho (Obj.isFreed_of_fields (Obj.data_mapFields hd _)), (Obj.cls_mapFields ..).trans hc, by rw [Obj.data_mapFields hd]; simp [rawInt]⟩
theorem nxa_done {it : Addr} {x : Str} {t : Tok} {i : Nat} {Q : Value → Shared → Prop} (hh : A.handled = Option.none)
    (hit : s.heap.IsStrIter it "str_ascii_iterator" x t i) (hx : x.cps[i]? = Option.none) (hE : ∀ h' e, Heap.ExtBut it s.heap h' → (∃ o, h'.get? e = some o ∧ o.cls = .type "StopIteration") → E (.ref e) { s with heap := h' }) :
    wpAny (model prog w) A (Builtin.SmallTypes.nextOf (.ref it)) Q E s := by
  have hit' := hit
  obtain ⟨o, ho, hc, hd⟩ := hit'
  unfold Builtin.SmallTypes.nextOf
  refine wpAny_bind (wpAny_callSpecial?_slot (name := Str.ofString "__next__") hit.typeIs F.slot_str_ascii_iterator_next (wpAny_call_entry F.slot_str_ascii_iterator_next hit.typeIs F.entry_str_ascii_iterator_next ?_ (F.args_str_ascii_iterator_next_1 _)))
  show wpAny _ _ (field (.ref it) 0 >>= _) _ _ s
  refine wpAny_bind (wpAny_field ho hd (x := .str x t) rfl ?_)
  show wpAny _ _ (field (.ref it) 1 >>= _) _ _ s
  refine wpAny_bind (wpAny_field ho hd (x := .int i 0) rfl ?_)
  simp only [Int.toNat_natCast, hx]
  refine wpAny_bind (wpAny_rule (wpAny_bind (wpAny_setField ho hd (by simp) (wpAny_bind (wpAny_letGo ?_)))))
  show wpAny _ _ (newExc (.type "StopIteration") [] >>= _) _ _ _
  refine wpAny_bind ?_
  simp only [newExc, newTuple]
  refine wpAny_bind (wpAny_newObj_type ?_ (by size_fits))
  refine wpAny_bind (m := firstArgMember _ _) (wpAny_of_eq (a := Value.none) (by first | rfl | (simp only [firstArgMember]; rfl)) ?_)
  refine wpAny_newObj_type ?_ (by size_fits)
  simp only [raiseNew]
  refine wpAny_bind (wpAny_handled ?_)
  rw [show A.in1.handled = Option.none from hh]
  refine wpAny_bind (wpAny_pure (wpAny_throw ?_))
  exact hE _ _ (((Heap.SameBut.update ..).extBut.push _).push _) ⟨_, Heap.get?_push_size _ rfl, rfl⟩
theorem nxa_nxt (I : Addr) (x : Str) (t : Tok) : Nxt prog w I x (fun i h => h.IsStrIter I "str_ascii_iterator" x t i) where
  item := fun A E i c s Q hit hx hQ => nxa_item hit hx hQ
  done := fun A E i s Q hh hit hx hE => nxa_done hh hit hx hE
  keep := fun i h h' hit hk => let ⟨o, ho, r⟩ := hit; ⟨o, hk o ho, r⟩
  here := fun i h hit => let ⟨o, ho, _⟩ := hit; ⟨o, ho⟩
theorem nxw_item {it : Addr} {x : Str} {t : Tok} {i c : Nat} {Q : Value → Shared → Prop}
    (hit : s.heap.IsStrIter it "str_iterator" x t i) (hx : x.cps[i]? = some c) (hQ : ∀ h' tk, h'.IsStrIter it "str_iterator" x t (i + 1) → Heap.SameBut it s.heap h' → Q (.str ⟨#[c]⟩ s.toks) { s with heap := h', toks := tk }) :
    wpAny (model prog w) A (Builtin.SmallTypes.nextOf (.ref it)) Q E s := by
  have hit' := hit
  obtain ⟨o, ho, hc, hd⟩ := hit'
  unfold Builtin.SmallTypes.nextOf
  refine wpAny_bind (wpAny_callSpecial?_slot (name := Str.ofString "__next__") hit.typeIs F.slot_str_iterator_next (wpAny_call_entry F.slot_str_iterator_next hit.typeIs F.entry_str_iterator_next ?_ (F.args_str_iterator_next_1 _)))
  show wpAny _ _ (field (.ref it) 0 >>= _) _ _ s
  refine wpAny_bind (wpAny_field ho hd (x := .str x t) rfl ?_)
  show wpAny _ _ (field (.ref it) 1 >>= _) _ _ s
  refine wpAny_bind (wpAny_field ho hd (x := .int i 0) rfl ?_)
  simp only [Int.toNat_natCast, hx]
  refine wpAny_bind (wpAny_setField ho hd (by simp) (wpAny_bind (wpAny_mkStr (wpAny_pure ⟨_, rfl, wpAny_pure (hQ _ _ ?_ (Heap.SameBut.update ..))⟩) (by show 1 ≤ sizeLine; decide))))
  exact ⟨_, Heap.get?_update_self _ ho (Obj.isFreed_of_fields (Obj.data_mapFields hd _)), (Obj.cls_mapFields ..).trans hc, by rw [Obj.data_mapFields hd]; simp [rawInt]⟩
theorem nxw_done {it : Addr} {x : Str} {t : Tok} {i : Nat} {Q : Value → Shared → Prop} (hh : A.handled = Option.none)
    (hit : s.heap.IsStrIter it "str_iterator" x t i) (hx : x.cps[i]? = Option.none) (hE : ∀ h' e, Heap.ExtBut it s.heap h' → (∃ o, h'.get? e = some o ∧ o.cls = .type "StopIteration") → E (.ref e) { s with heap := h' }) :
    wpAny (model prog w) A (Builtin.SmallTypes.nextOf (.ref it)) Q E s := by
  have hit' := hit
  obtain ⟨o, ho, hc, hd⟩ := hit'
  unfold Builtin.SmallTypes.nextOf
  refine wpAny_bind (wpAny_callSpecial?_slot (name := Str.ofString "__next__") hit.typeIs F.slot_str_iterator_next (wpAny_call_entry F.slot_str_iterator_next hit.typeIs F.entry_str_iterator_next ?_ (F.args_str_iterator_next_1 _)))
  show wpAny _ _ (field (.ref it) 0 >>= _) _ _ s
  refine wpAny_bind (wpAny_field ho hd (x := .str x t) rfl ?_)
  show wpAny _ _ (field (.ref it) 1 >>= _) _ _ s
  refine wpAny_bind (wpAny_field ho hd (x := .int i 0) rfl ?_)
  simp only [Int.toNat_natCast, hx]
  refine wpAny_bind (wpAny_rule (wpAny_bind (wpAny_setField ho hd (by simp) (wpAny_bind (wpAny_letGo ?_)))))
  show wpAny _ _ (newExc (.type "StopIteration") [] >>= _) _ _ _
  refine wpAny_bind ?_
  simp only [newExc, newTuple]
  refine wpAny_bind (wpAny_newObj_type ?_ (by size_fits))
  refine wpAny_bind (m := firstArgMember _ _) (wpAny_of_eq (a := Value.none) (by first | rfl | (simp only [firstArgMember]; rfl)) ?_)
  refine wpAny_newObj_type ?_ (by size_fits)
  simp only [raiseNew]
  refine wpAny_bind (wpAny_handled ?_)
  rw [show A.in1.handled = Option.none from hh]
  refine wpAny_bind (wpAny_pure (wpAny_throw ?_))
  exact hE _ _ (((Heap.SameBut.update ..).extBut.push _).push _) ⟨_, Heap.get?_push_size _ rfl, rfl⟩
theorem nxw_nxt (I : Addr) (x : Str) (t : Tok) : Nxt prog w I x (fun i h => h.IsStrIter I "str_iterator" x t i) where
  item := fun A E i c s Q hit hx hQ => nxw_item hit hx hQ
  done := fun A E i s Q hh hit hx hE => nxw_done hh hit hx hE
  keep := fun i h h' hit hk => let ⟨o, ho, r⟩ := hit; ⟨o, hk o ho, r⟩
  here := fun i h hit => let ⟨o, ho, _⟩ := hit; ⟨o, ho⟩

/-- the addresses of a zip differ -/
structure ZAp (z TI TO i1 i2 : Addr) : Prop where
  TIz : TI ≠ z
  TOz : TO ≠ z
  i1z : i1 ≠ z
  i2z : i2 ≠ z
  TITO : TI ≠ TO
  TIi1 : TI ≠ i1
  TIi2 : TI ≠ i2
  TOi1 : TO ≠ i1
  TOi2 : TO ≠ i2
  i12 : i1 ≠ i2

theorem zips_item {z TI TO i1 i2 : Addr} {x y : Str} {It1 It2 : Nat → Heap → Prop} {k c d : Nat} {a b : Value} {Q : Value → Shared → Prop} (N1 : Nxt prog w i1 x It1) (N2 : Nxt prog w i2 y It2) (D : ZAp z TI TO i1 i2)
    (hz : IsZip s.heap z TI TO .none) (hTI : IsPair s.heap TI (.ref i1) (.ref i2)) (hTO : IsPair s.heap TO a b) (h1 : It1 k s.heap) (h2 : It2 k s.heap) (hx : x.cps[k]? = some c) (hy : y.cps[k]? = some d)
    (hQ : ∀ (h' : Heap) (tk : Nat) (T : Addr) (u v : Tok), IsZip h' z TI TO (rawInt (T : Nat)) → IsPair h' TO (.str ⟨#[c]⟩ u) (.str ⟨#[d]⟩ v) → It1 (k + 1) h' → It2 (k + 1) h' → IsPair h' T (.str ⟨#[c]⟩ u) (.str ⟨#[d]⟩ v) → T ≠ z → T ≠ TO → T ≠ i1 → T ≠ i2 →
      (∀ e o, e ≠ z → e ≠ TO → e ≠ i1 → e ≠ i2 → s.heap.get? e = some o → h'.get? e = some o) → Q (.ref T) { s with heap := h', toks := tk }) :
    wpAny (model prog w) A (Builtin.«zip.__next__» ⟨[.ref z], []⟩) (fun fin s' => ∃ v, fin = .done (.ret v) ∧ Q v s') E s := by
  show wpAny _ _ (field (.ref z) 2 >>= _) _ _ _
  refine wpAny_bind (wpAny_field hz rfl (x := .bool false) rfl ?_)
  show wpAny _ _ (field (.ref z) 3 >>= _) _ _ _
  refine wpAny_bind (wpAny_field hz rfl (x := .ref TI) rfl ?_)
  refine wpAny_bind (wpAny_seqItems hTI rfl ?_)
  show wpAny _ _ (Builtin.SmallTypes.ownedTupleIsFree (.ref z) >>= _) _ _ _
  refine wpAny_bind ?_
  unfold Builtin.SmallTypes.ownedTupleIsFree
  refine wpAny_bind (wpAny_field hz rfl (x := .none) rfl (wpAny_pure ?_))
  simp only [if_true]
  refine wpAny_bind (wpAny_rule ?_)
  refine wpAny_bind (wpAny_field hz rfl (x := .ref TO) rfl ?_)
  refine wpAny_bind (wpAny_setField_rec hz (by simp) fun h₁ hz₁ hs₁ => ?_)
  replace hz₁ : IsZip h₁ z TI TO .ellipsis := hz₁
  refine wpAny_bind ?_
  simp only [List.zipIdx_cons, List.zipIdx_nil, List.forIn_cons, List.forIn_nil]
  refine wpAny_bind (wpAny_bind (wpAny_onRaise ?_))
  show wpAny _ _ (Builtin.SmallTypes.nextOf (.ref i1) >>= _) _ _ _
  refine wpAny_bind (N1.item _ _ k c _ _ (N1.keep _ _ _ h1 fun o e => hs₁.extBut _ o D.i1z e) hx fun h₂ tk₂ h1₂ hs₂ => wpAny_pure ?_)
  dsimp only at hs₂ ⊢
  have hTO₂ : IsPair h₂ TO a b := hs₂.extBut _ _ D.TOi1 (hs₁.extBut _ _ D.TOz hTO)
  refine wpAny_bind (wpAny_seqItems hTO₂ rfl ?_)
  refine wpAny_bind (wpAny_updateSeq_pair hTO₂ fun h₃ hTO₃ hs₃ => ?_)
  replace hTO₃ : IsPair h₃ TO _ b := hTO₃
  refine wpAny_bind (wpAny_letGo (wpAny_pure ?_))
  refine wpAny_bind (wpAny_bind (wpAny_onRaise ?_))
  show wpAny _ _ (Builtin.SmallTypes.nextOf (.ref i2) >>= _) _ _ _
  refine wpAny_bind (N2.item _ _ k d _ _ (N2.keep _ _ _ h2 fun o e => hs₃.extBut _ o D.TOi2.symm (hs₂.extBut _ o D.i12.symm (hs₁.extBut _ o D.i2z e))) hy fun h₄ tk₄ h2₄ hs₄ => wpAny_pure ?_)
  dsimp only at hs₄ ⊢
  have hTO₄ : IsPair h₄ TO _ b := hs₄.extBut _ _ D.TOi2 hTO₃
  refine wpAny_bind (wpAny_seqItems hTO₄ rfl ?_)
  refine wpAny_bind (wpAny_updateSeq_pair hTO₄ fun h₅ hTO₅ hs₅ => ?_)
  replace hTO₅ : IsPair h₅ TO _ _ := hTO₅
  refine wpAny_bind (wpAny_letGo (wpAny_pure (wpAny_pure ?_)))
  refine wpAny_bind (wpAny_seqItems hTO₅ rfl ?_)
  refine wpAny_bind (wpAny_newTuple ?_)
  have hz₅ : IsZip h₅ z TI TO .ellipsis := hs₅.extBut _ _ D.TOz.symm (hs₄.extBut _ _ D.i2z.symm (hs₃.extBut _ _ D.TOz.symm (hs₂.extBut _ _ D.i1z.symm hz₁)))
  have hk₅ : ∀ e o, e ≠ z → e ≠ TO → e ≠ i1 → e ≠ i2 → s.heap.get? e = some o → h₅.get? e = some o := fun e o c1 c2 c3 c4 q =>
    hs₅.extBut _ _ c2 (hs₄.extBut _ _ c4 (hs₃.extBut _ _ c2 (hs₂.extBut _ _ c3 (hs₁.extBut _ _ c1 q))))
  have h1₅ : It1 (k + 1) h₅ := N1.keep _ _ _ h1₂ fun o e => hs₅.extBut _ o D.TOi1.symm (hs₄.extBut _ o D.i12 (hs₃.extBut _ o D.TOi1.symm e))
  have h2₅ : It2 (k + 1) h₅ := N2.keep _ _ _ h2₄ fun o e => hs₅.extBut _ o D.TOi2.symm e
  have hzlt : z < h₅.objs.size := Heap.lt_size hz₅
  have hTOlt : TO < h₅.objs.size := Heap.lt_size hTO₅
  have hi1lt : i1 < h₅.objs.size := by obtain ⟨_, e⟩ := N1.here _ _ h1₅; exact Heap.lt_size e
  have hi2lt : i2 < h₅.objs.size := by obtain ⟨_, e⟩ := N2.here _ _ h2₅; exact Heap.lt_size e
  show wpAny _ _ (Builtin.SmallTypes.ownedTupleHandOut (.ref z) (.ref h₅.objs.size) >>= _) _ _ _
  refine wpAny_bind ?_
  unfold Builtin.SmallTypes.ownedTupleHandOut
  have hz₆ := Heap.get?_push_of_some { cls := .type "tuple", data := .seq #[.str ⟨#[c]⟩ s.toks, .str ⟨#[d]⟩ tk₂] } hz₅
  refine wpAny_bind (wpAny_setField_rec hz₆ (by simp) fun h₇ hz₇ hs₇ => ?_)
  replace hz₇ : IsZip h₇ z TI TO (rawInt h₅.objs.size) := hz₇
  refine wpAny_setField_rec hz₇ (by simp) fun h₈ hz₈ hs₈ => ?_
  replace hz₈ : IsZip h₈ z TI TO (rawInt h₅.objs.size) := hz₈
  have up : ∀ e o, e ≠ z → h₅.get? e = some o → h₈.get? e = some o := fun e o c1 q => hs₈.extBut _ _ c1 (hs₇.extBut _ _ c1 (Heap.get?_push_of_some _ q))
  have hT₈ := hs₈.extBut _ _ (Nat.ne_of_gt hzlt) (hs₇.extBut _ _ (Nat.ne_of_gt hzlt) (Heap.get?_push_size h₅ (o := { cls := .type "tuple", data := .seq #[.str ⟨#[c]⟩ s.toks, .str ⟨#[d]⟩ tk₂] }) rfl))
  refine wpAny_pure ⟨_, rfl, ?_⟩
  exact hQ h₈ _ h₅.objs.size s.toks tk₂ hz₈ (up _ _ D.TOz hTO₅) (N1.keep _ _ _ h1₅ fun o e => up _ o D.i1z e) (N2.keep _ _ _ h2₅ fun o e => up _ o D.i2z e) hT₈ (Nat.ne_of_gt hzlt) (Nat.ne_of_gt hTOlt) (Nat.ne_of_gt hi1lt) (Nat.ne_of_gt hi2lt)
    fun e o c1 c2 c3 c4 q => up e o c1 (hk₅ e o c1 c2 c3 c4 q)

theorem zips_end {z TI TO i1 i2 : Addr} {x y : Str} {It1 It2 : Nat → Heap → Prop} {k : Nat} {a b : Value} {Q : Fin → Shared → Prop} (N1 : Nxt prog w i1 x It1) (N2 : Nxt prog w i2 y It2) (hh : A.handled = Option.none) (D : ZAp z TI TO i1 i2)
    (hz : IsZip s.heap z TI TO .none) (hTI : IsPair s.heap TI (.ref i1) (.ref i2)) (hTO : IsPair s.heap TO a b) (h1 : It1 k s.heap) (h2 : It2 k s.heap) (hend : x.cps[k]? = Option.none ∨ y.cps[k]? = Option.none)
    (hE : ∀ h' tk e, (∀ c o, c ≠ z → c ≠ TO → c ≠ i1 → c ≠ i2 → s.heap.get? c = some o → h'.get? c = some o) → (∃ o, h'.get? e = some o ∧ o.cls = .type "StopIteration") → E (.ref e) { s with heap := h', toks := tk }) :
    wpAny (model prog w) A (Builtin.«zip.__next__» ⟨[.ref z], []⟩) Q E s := by
  show wpAny _ _ (field (.ref z) 2 >>= _) _ _ _
  refine wpAny_bind (wpAny_field hz rfl (x := .bool false) rfl ?_)
  show wpAny _ _ (field (.ref z) 3 >>= _) _ _ _
  refine wpAny_bind (wpAny_field hz rfl (x := .ref TI) rfl ?_)
  refine wpAny_bind (wpAny_seqItems hTI rfl ?_)
  show wpAny _ _ (Builtin.SmallTypes.ownedTupleIsFree (.ref z) >>= _) _ _ _
  refine wpAny_bind ?_
  unfold Builtin.SmallTypes.ownedTupleIsFree
  refine wpAny_bind (wpAny_field hz rfl (x := .none) rfl (wpAny_pure ?_))
  simp only [if_true]
  refine wpAny_bind (wpAny_rule ?_)
  refine wpAny_bind (wpAny_field hz rfl (x := .ref TO) rfl ?_)
  refine wpAny_bind (wpAny_setField_rec hz (by simp) fun h₁ hz₁ hs₁ => ?_)
  replace hz₁ : IsZip h₁ z TI TO .ellipsis := hz₁
  refine wpAny_bind ?_
  simp only [List.zipIdx_cons, List.zipIdx_nil, List.forIn_cons, List.forIn_nil]
  refine wpAny_bind (wpAny_bind (wpAny_onRaise ?_))
  show wpAny _ _ (Builtin.SmallTypes.nextOf (.ref i1) >>= _) _ _ _
  have h1' := N1.keep _ _ h₁ h1 fun o e => hs₁.extBut _ o D.i1z e
  cases hx : x.cps[k]? with
  | none =>
    refine wpAny_bind (N1.done _ _ k _ _ hh h1' hx fun h₂ e hs₂ he => ?_)
    obtain ⟨oe, hoe, hce⟩ := he
    have hz₂ : IsZip h₂ z TI TO .ellipsis := hs₂ _ _ D.i1z.symm hz₁
    have hez : e ≠ z := fun q => by subst q; rw [hz₂] at hoe; cases hoe; simp at hce
    exact wpAny_setField_rec hz₂ (by simp) fun h₃ _ hs₃ => hE h₃ _ e (fun c o c1 _ c3 _ q => hs₃.extBut _ _ c1 (hs₂ _ _ c3 (hs₁.extBut _ _ c1 q))) ⟨oe, hs₃.extBut _ _ hez hoe, hce⟩
  | some c =>
    have hy : y.cps[k]? = Option.none := by rcases hend with h | h; rw [hx] at h; cases h; exact h
    refine wpAny_bind (N1.item _ _ k c _ _ h1' hx fun h₂ tk₂ h1₂ hs₂ => wpAny_pure ?_)
    dsimp only at hs₂ ⊢
    have hTO₂ : IsPair h₂ TO a b := hs₂.extBut _ _ D.TOi1 (hs₁.extBut _ _ D.TOz hTO)
    refine wpAny_bind (wpAny_seqItems hTO₂ rfl ?_)
    refine wpAny_bind (wpAny_updateSeq_pair hTO₂ fun h₃ hTO₃ hs₃ => ?_)
    refine wpAny_bind (wpAny_letGo (wpAny_pure ?_))
    refine wpAny_bind (wpAny_bind (wpAny_onRaise ?_))
    show wpAny _ _ (Builtin.SmallTypes.nextOf (.ref i2) >>= _) _ _ _
    refine wpAny_bind (N2.done _ _ k _ _ hh (N2.keep _ _ _ h2 fun o e => hs₃.extBut _ o D.TOi2.symm (hs₂.extBut _ o D.i12.symm (hs₁.extBut _ o D.i2z e))) hy fun h₄ e hs₄ he => ?_)
    dsimp only at hs₄ ⊢
    obtain ⟨oe, hoe, hce⟩ := he
    have hz₄ : IsZip h₄ z TI TO .ellipsis := hs₄ _ _ D.i2z.symm (hs₃.extBut _ _ D.TOz.symm (hs₂.extBut _ _ D.i1z.symm hz₁))
    have hez : e ≠ z := fun q => by subst q; rw [hz₄] at hoe; cases hoe; simp at hce
    exact wpAny_setField_rec hz₄ (by simp) fun h₅ _ hs₅ => hE h₅ _ e (fun c o c1 c2 c3 c4 q => hs₅.extBut _ _ c1 (hs₄ _ _ c4 (hs₃.extBut _ _ c2 (hs₂.extBut _ _ c3 (hs₁.extBut _ _ c1 q))))) ⟨oe, hs₅.extBut _ _ hez hoe, hce⟩

noncomputable def ZSt (z TI TO i1 i2 : Addr) (It1 It2 : Nat → Heap → Prop) (f0 : Value) (j : Nat) (h : Heap) : Prop :=
  IsZip h z TI TO f0 ∧ IsPair h TI (.ref i1) (.ref i2) ∧ (∃ a b, IsPair h TO a b) ∧ It1 j h ∧ It2 j h

theorem zips_walks (hh : A.handled = Option.none) {z TI TO i1 i2 : Addr} {x y : Str} {It1 It2 : Nat → Heap → Prop} (N1 : Nxt prog w i1 x It1) (N2 : Nxt prog w i2 y It2) (D : ZAp z TI TO i1 i2) :
    WalksU prog w A z [z, TI, TO, i1, i2] [z, TO, i1, i2] (x.cps.toList.zip y.cps.toList).length
      (fun i vals => ∃ c d u v, x.cps[i]? = some c ∧ y.cps[i]? = some d ∧ vals = #[.str ⟨#[c]⟩ u, .str ⟨#[d]⟩ v])
      (ZSt z TI TO i1 i2 It1 It2 .none) (fun i T h => ZSt z TI TO i1 i2 It1 It2 (rawInt T) (i + 1) h ∧ T ≠ z ∧ T ≠ TO ∧ T ≠ i1 ∧ T ≠ i2) where
  sub := fun c hc => by simp at hc ⊢; rcases hc with rfl | rfl | rfl | rfl <;> simp
  frame := fun i h h' hst hk => by
    obtain ⟨hz, hTI, ⟨a, b, hTO⟩, h1, h2⟩ := hst
    exact ⟨hk z (by simp) _ hz, hk TI (by simp) _ hTI, ⟨a, b, hk TO (by simp) _ hTO⟩, N1.keep _ _ _ h1 fun o e => hk i1 (by simp) o e, N2.keep _ _ _ h2 fun o e => hk i2 (by simp) o e⟩
  item := fun i s Q E hi hst hQ => by
    obtain ⟨hz, hTI, ⟨a, b, hTO⟩, h1, h2⟩ := hst
    rw [List.length_zip] at hi
    have hix : i < x.cps.size := by have : x.cps.toList.length = x.cps.size := rfl; omega
    have hiy : i < y.cps.size := by have : y.cps.toList.length = y.cps.size := rfl; omega
    have hT : s.TypeIs (.ref z) "zip" := ⟨_, hz, rfl⟩
    unfold pyNext
    refine wpAny_bind (wpAny_attempt (wpAny_callSpecial?_slot (name := Str.ofString "__next__") hT F.slot_zip_next (wpAny_call_entry F.slot_zip_next hT F.entry_zip_next
      (zips_item N1 N2 D hz hTI hTO h1 h2 (Array.getElem?_eq_getElem hix) (Array.getElem?_eq_getElem hiy) fun h' tk T u v a1 a2 a3 a4 a5 t1 t2 t3 t4 hk => wpAny_pure ?_) (F.args_zip_next_1 _))))
    exact hQ T _ h' tk ⟨_, _, u, v, Array.getElem?_eq_getElem hix, Array.getElem?_eq_getElem hiy, rfl⟩ ⟨_, a5, rfl, _, rfl⟩ ⟨⟨a1, hk _ _ D.TIz D.TITO D.TIi1 D.TIi2 hTI, ⟨_, _, a2⟩, a3, a4⟩, t1, t2, t3, t4⟩
      fun c o hc e => hk c o (fun q => hc (by simp [q])) (fun q => hc (by simp [q])) (fun q => hc (by simp [q])) (fun q => hc (by simp [q])) e
  go := fun elts k pos i T s Q E hm hQ => by
    obtain ⟨⟨hz, hTI, ⟨a, b, hTO⟩, h1, h2⟩, _⟩ := hm
    exact wpAny_letOwnedTupleGo_zip hz fun h' hz' hs' => hQ h' ⟨hz', hs'.extBut _ _ D.TIz hTI, ⟨a, b, hs'.extBut _ _ D.TOz hTO⟩, N1.keep _ _ _ h1 fun o e => hs'.extBut _ o D.i1z e, N2.keep _ _ _ h2 fun o e => hs'.extBut _ o D.i2z e⟩
      fun c o hc e => hs'.extBut _ _ (fun q => hc (by simp [q])) e
  apart := fun i T h hm hT => by
    obtain ⟨_, t1, t2, t3, t4⟩ := hm
    simp at hT
    rcases hT with rfl | rfl | rfl | rfl
    · exact t1 rfl
    · exact t2 rfl
    · exact t3 rfl
    · exact t4 rfl
  done := fun s Q E hst hQ => by
    obtain ⟨hz, hTI, ⟨a, b, hTO⟩, h1, h2⟩ := hst
    have hend : x.cps[(x.cps.toList.zip y.cps.toList).length]? = Option.none ∨ y.cps[(x.cps.toList.zip y.cps.toList).length]? = Option.none := by
      rw [List.length_zip]
      have e1 : x.cps.toList.length = x.cps.size := rfl
      have e2 : y.cps.toList.length = y.cps.size := rfl
      rcases Nat.le_total x.cps.size y.cps.size with h | h
      · left; exact Array.getElem?_eq_none (by omega)
      · right; exact Array.getElem?_eq_none (by omega)
    have hT : s.TypeIs (.ref z) "zip" := ⟨_, hz, rfl⟩
    unfold pyNext
    refine wpAny_bind (wpAny_attempt (wpAny_callSpecial?_slot (name := Str.ofString "__next__") hT F.slot_zip_next
      (wpAny_call_entry F.slot_zip_next hT F.entry_zip_next (zips_end N1 N2 hh D hz hTI hTO h1 h2 hend fun h' tk e hk he => ?_) (F.args_zip_next_1 _))))
    obtain ⟨o, ho, hc⟩ := he
    refine wpAny_bind (wpAny_isInstance (T := "StopIteration") (b := true) ⟨o, ho, hc⟩ isSubtype_stop ?_)
    exact wpAny_pure (hQ _ _ fun c o hc e => hk c o (fun q => hc (by simp [q])) (fun q => hc (by simp [q])) (fun q => hc (by simp [q])) (fun q => hc (by simp [q])) e)
  self := fun i s Q E hst hQ => wpAny_pyIter_zip hst.1 hQ

noncomputable def itCls (x : Str) : String := if x.cps.all (· < 128) = true then "str_ascii_iterator" else "str_iterator"
noncomputable def itObj (x : Str) (t : Tok) : Obj := { cls := .type (itCls x), data := .fields #[.str x t, .int 0 0] }
theorem iter_obj {x : Str} {t : Tok} {Q : Value → Shared → Prop} (hQ : Q (.ref s.heap.objs.size) { s with heap := s.heap.push (itObj x t) }) : wpAny (model prog w) A (pyIter (.str x t)) Q E s := by
  unfold itObj itCls at hQ
  cases ha : x.cps.all (· < 128) with
  | false => rw [ha] at hQ; exact wpAny_pyIter_wide ha hQ
  | true => rw [ha] at hQ; exact wpAny_pyIter_ascii ha hQ
theorem itObj_nxt (I : Addr) (x : Str) (t : Tok) : Nxt prog w I x (fun i h => h.IsStrIter I (itCls x) x t i) := by
  unfold itCls
  cases ha : x.cps.all (· < 128) with
  | false => exact nxw_nxt I x t
  | true => exact nxa_nxt I x t

noncomputable abbrev zH1 (h : Heap) (x : Str) (t : Tok) : Heap := h.push (itObj x t)
noncomputable abbrev zH2 (h : Heap) (x : Str) (t : Tok) (y : Str) (u : Tok) : Heap := (zH1 h x t).push (itObj y u)
noncomputable abbrev zH3 (h : Heap) (x : Str) (t : Tok) (y : Str) (u : Tok) : Heap := (zH2 h x t y u).push { cls := .type "tuple", data := .seq #[.ref h.objs.size, .ref (zH1 h x t).objs.size] }
noncomputable abbrev zH4 (h : Heap) (x : Str) (t : Tok) (y : Str) (u : Tok) : Heap := (zH3 h x t y u).push { cls := .type "tuple", data := .seq #[.none, .none] }
noncomputable abbrev zH5 (h : Heap) (x : Str) (t : Tok) (y : Str) (u : Tok) : Heap := (zH4 h x t y u).push { cls := .type "zip", data := .fields #[.none, .bool false, .bool false, .ref (zH2 h x t y u).objs.size, .ref (zH3 h x t y u).objs.size] }
theorem meets_zips (x : Str) (t : Tok) (y : Str) (u : Tok) :
    Meets (Builtin.«zip.__new__» ⟨[.type "zip", .str x t, .str y u], []⟩) (fun _ R s => R (.ok (.ret (.ref (zH4 s.heap x t y u).objs.size))) { s with heap := zH5 s.heap x t y u }) :=
  .of_wp fun prog w A R s h => by
    unfold Builtin.«zip.__new__»
    refine wpAny_bind ?_
    unfold Builtin.SmallTypes.newClass
    show wpAny _ _ (isType (.type "zip") >>= _) _ _ _
    refine wpAny_bind (wpAny_of_eq (a := true) rfl ?_)
    show wpAny _ _ (isSubtype (.type "zip") (.type "zip") >>= _) _ _ _
    refine wpAny_bind (wpAny_of_eq sub_zip ?_)
    refine wpAny_pure ?_
    show wpAny _ _ (Builtin.SmallTypes.iterAll [.str x t, .str y u] >>= fun its => newTuple its >>= fun a => newTuple (its.map fun _ => Value.none) >>= fun b =>
      Builtin.SmallTypes.newRecord (.type "zip") (Builtin.SmallTypes.ownedTupleFields ++ [Value.bool false, a, b]) >>= fun r => ret r) _ _ _
    refine wpAny_bind ?_
    unfold Builtin.SmallTypes.iterAll
    simp only [List.forIn_cons, List.forIn_nil]
    refine wpAny_bind (wpAny_bind (wpAny_bind (wpAny_holding (iter_obj (wpAny_pure ?_)))))
    refine wpAny_bind (wpAny_bind (wpAny_holding (iter_obj (wpAny_pure (wpAny_pure (wpAny_pure ?_))))))
    dsimp only
    refine wpAny_bind (wpAny_newTuple (hsz := by show 2 ≤ sizeLine; decide) ?_)
    refine wpAny_bind (wpAny_newTuple (hsz := by show 2 ≤ sizeLine; decide) ?_)
    refine wpAny_bind ?_
    unfold Builtin.SmallTypes.newRecord
    refine wpAny_newObj_type (hd := by delta Builtin.SmallTypes.ownedTupleFields; simp [sizeOk, sizeLine_eq]) ?_
    exact wpAny_pure ⟨_, rfl, h⟩

theorem neA {n a b : Nat} (h : a ≠ b) : @Ne Nat (n + a) (n + b) := fun e => h (Nat.add_left_cancel e)
theorem ltA {n a b : Nat} (h : a < b) : @LT.lt Nat _ (n + a) (n + b) := Nat.add_lt_add_left h n
theorem nltA (n a : Nat) : ¬ @LT.lt Nat _ (n + a) n := Nat.not_lt.mpr (Nat.le_add_right n a)
noncomputable def PairOf (p : Nat × Nat) (v u : Value) : Prop := SignOf p.1 v ∧ SignOf p.2 u
/-- zip of two texts as a source of pairs -/
theorem src_zip {s s₁ : Shared} {x y : Str} {t u : Tok} (hh : A.handled = Option.none) (hx : small x = true) (k : Keeps s s₁) {Q : Value → Shared → Prop}
    (hQ : ∀ z s₂, (∀ it s₃, it = z → s₃ = s₂ → SrcP prog w A s (x.cps.toList.zip y.cps.toList) PairOf it s₃) → (∀ (Q' : Value → Shared → Prop), Q' z s₂ → wpAny (model prog w) A (pyIter z) Q' E s₂) → Q z s₂) :
    wpAny (model prog w) A (call (.type "zip") [.str x t, .str y u]) Q E s₁ := by
  refine callType_new F.called_zip (by decide) (F.typeCall_zip_2 _ _) (F.newCall_zip_2 _ _) (fun obj => F.args_object_init_3 obj _ _) F.entry_zip_new (meets_zips x t y u) ?_
  have z1 : (zH1 s₁.heap x t).objs.size = s₁.heap.objs.size + 1 := Heap.size_push ..
  have z2 : (zH2 s₁.heap x t y u).objs.size = s₁.heap.objs.size + 2 := by rw [Heap.size_push, z1]
  have z3 : (zH3 s₁.heap x t y u).objs.size = s₁.heap.objs.size + 3 := by rw [Heap.size_push, z2]
  have z4 : (zH4 s₁.heap x t y u).objs.size = s₁.heap.objs.size + 4 := by rw [Heap.size_push, z3]
  have z5 : (zH5 s₁.heap x t y u).objs.size = s₁.heap.objs.size + 5 := by rw [Heap.size_push, z4]
  have g5 : (zH5 s₁.heap x t y u).get? (zH4 s₁.heap x t y u).objs.size = some _ := Heap.get?_push_size _ rfl
  have g4 : (zH5 s₁.heap x t y u).get? (zH3 s₁.heap x t y u).objs.size = some _ := Heap.get?_push_of_some _ (Heap.get?_push_size _ rfl)
  have g3 : (zH5 s₁.heap x t y u).get? (zH2 s₁.heap x t y u).objs.size = some _ := Heap.get?_push_of_some _ (Heap.get?_push_of_some _ (Heap.get?_push_size _ rfl))
  have g2 : (zH5 s₁.heap x t y u).get? (zH1 s₁.heap x t).objs.size = some (itObj y u) := Heap.get?_push_of_some _ (Heap.get?_push_of_some _ (Heap.get?_push_of_some _ (Heap.get?_push_size _ rfl)))
  have g1 : (zH5 s₁.heap x t y u).get? s₁.heap.objs.size = some (itObj x t) := Heap.get?_push_of_some _ (Heap.get?_push_of_some _ (Heap.get?_push_of_some _ (Heap.get?_push_of_some _ (Heap.get?_push_size _ rfl))))
  have up : KeepH s₁.heap (zH5 s₁.heap x t y u) := fun b o e => Heap.get?_push_of_some _ (Heap.get?_push_of_some _ (Heap.get?_push_of_some _ (Heap.get?_push_of_some _ (Heap.get?_push_of_some _ e))))
  have hz : IsZip (zH5 s₁.heap x t y u) (s₁.heap.objs.size + 4) (s₁.heap.objs.size + 2) (s₁.heap.objs.size + 3) .none := by
    have := g5; rw [z4] at this; exact this.trans (by rw [z2, z3])
  have hTI : IsPair (zH5 s₁.heap x t y u) (s₁.heap.objs.size + 2) (.ref s₁.heap.objs.size) (.ref (s₁.heap.objs.size + 1)) := by
    have := g3; rw [z2] at this; exact this.trans (by rw [z1])
  have hTO : IsPair (zH5 s₁.heap x t y u) (s₁.heap.objs.size + 3) .none .none := by
    have := g4; rw [z3] at this; exact this
  rw [z1] at g2
  have D : ZAp (s₁.heap.objs.size + 4) (s₁.heap.objs.size + 2) (s₁.heap.objs.size + 3) s₁.heap.objs.size (s₁.heap.objs.size + 1) := ⟨neA (by decide), neA (by decide), neA (a := 0) (by decide), neA (by decide), neA (by decide), neA (b := 0) (by decide), neA (by decide), neA (b := 0) (by decide), neA (by decide), neA (a := 0) (by decide)⟩
  have W := zips_walks (prog := prog) (w := w) (A := A) hh (itObj_nxt s₁.heap.objs.size x t) (itObj_nxt (s₁.heap.objs.size + 1) y u) D
  show _ ∧ _
  rw [z4]
  refine ⟨⟨_, hz, rfl⟩, hQ _ _ ?_ fun Q' h => wpAny_pyIter_zip hz h⟩
  rintro it s₃ rfl rfl
  refine ⟨_, _, _, _, _, _, rfl, W, ?_, ⟨hz, hTI, ⟨_, _, hTO⟩, ⟨_, g1, rfl, rfl⟩, ⟨_, g2, rfl, rfl⟩⟩, ?_, ?_, ?_, ?_, ?_⟩
  · rw [List.length_zip]
    have := small_line hx
    have e1 : x.cps.toList.length = x.length := rfl
    omega
  · intro b hb
    show b < (zH5 s₁.heap x t y u).objs.size
    rw [z5]
    simp only [List.mem_cons, List.not_mem_nil, or_false] at hb
    rcases hb with rfl | rfl | rfl | rfl | rfl
    · exact ltA (by decide)
    · exact ltA (by decide)
    · exact ltA (by decide)
    · exact ltA (a := 0) (by decide)
    · exact ltA (by decide)
  · intro b hb
    refine none_of_keeps k ?_
    cases e : s₁.heap.get? b with
    | none => rfl
    | some o =>
      have := Heap.lt_size e
      simp only [List.mem_cons, List.not_mem_nil, or_false] at hb
      rcases hb with rfl | rfl | rfl | rfl
      · exact absurd this (nltA _ _)
      · exact absurd this (nltA _ _)
      · exact absurd this (nltA _ 0)
      · exact absurd this (nltA _ _)
  · intro i h hst b hb
    obtain ⟨a1, a2, ⟨_, _, a3⟩, a4, a5⟩ := hst
    simp only [List.mem_cons, List.not_mem_nil, or_false] at hb
    rcases hb with rfl | rfl | rfl | rfl
    · rw [a1]; rfl
    · rw [a3]; rfl
    · obtain ⟨_, e, _⟩ := a4; rw [e]; rfl
    · obtain ⟨_, e, _⟩ := a5; rw [e]; rfl
  · exact keeps_of k _ fun b o e => up b o (Keeps.heap k b o e)
  · rintro i vals ⟨c, d, v1, v2, hc, hd, rfl⟩
    refine ⟨(c, d), _, _, ?_, rfl, ⟨_, rfl⟩, ⟨_, rfl⟩⟩
    rw [List.getElem?_zip_eq_some]
    exact ⟨by simpa using hc, by simpa using hd⟩
end
end Mine

namespace Mine
open PySem PySem.W PySem.Calls PyProof.Rows

section
variable {prog : Program} {w : World} {A : Around} {E : Value → Shared → Prop} {s s₁ : Shared}
noncomputable def refOf : Option Value → Addr
  | some (.ref a) => a
  | _ => 0
noncomputable def seqOf : Option Obj → Array Value
  | some ⟨_, _, .seq xs _, _⟩ => xs
  | _ => #[]
theorem seqOf_tuple {h : Heap} {T : Addr} {xs : Array Value} (x : h.IsTuple T xs) : seqOf (h.get? T) = xs := by
  obtain ⟨⟨c, d, dat, sl⟩, e, _, n, hd⟩ := x
  rw [e]
  cases hd
  rfl
/-- a list of pairs as a source -/
theorem src_pairs {ax : Addr} {items : Array Value} {ds : List (Nat × Nat)} (hh : A.handled = Option.none) (hl : s₁.heap.IsList ax items) (hsz : ds.length ≤ sizeLine) (hlen : items.size = ds.length)
    (hR : ∀ (i : Nat) (v : Value), items[i]? = some v → ∃ T x y p, v = .ref T ∧ s₁.heap.IsTuple T #[x, y] ∧ ds[i]? = some p ∧ PairOf p x y) (k : Keeps s s₁) {Q : Value → Shared → Prop} (hQ : ∀ it s₂, SrcP prog w A s ds PairOf it s₂ → Q it s₂) :
    wpAny (model prog w) A (pyIter (.ref ax)) Q E s₁ := by
  have hlt : ax < s₁.heap.objs.size := by obtain ⟨_, e, _⟩ := hl; exact Heap.lt_size e
  have hT : ∀ j, j < items.size → items[j]? = some (.ref (refOf (items[j]?))) ∧ s₁.heap.IsTuple (refOf (items[j]?)) (seqOf (s₁.heap.get? (refOf (items[j]?)))) ∧ ∃ p x y, ds[j]? = some p ∧ seqOf (s₁.heap.get? (refOf (items[j]?))) = #[x, y] ∧ PairOf p x y := by
    intro j hj
    obtain ⟨T, x, y, p, e, ht, hp, hP⟩ := hR j items[j] (Array.getElem?_eq_getElem hj)
    have e' : items[j]? = some (.ref T) := by rw [Array.getElem?_eq_getElem hj, e]
    have e2 : seqOf (s₁.heap.get? T) = #[x, y] := seqOf_tuple ht
    rw [e']
    exact ⟨rfl, by show s₁.heap.IsTuple T (seqOf (s₁.heap.get? T)); rw [e2]; exact ht, p, x, y, hp, e2, hP⟩
  refine wpAny_pyIter_list hl (hQ _ _ ?_)
  have W := WalksU.listOfTuples (prog := prog) (w := w) hh s₁.heap.objs.size ax (Nat.ne_of_lt hlt) items (fun j => refOf (items[j]?)) (fun j => seqOf (s₁.heap.get? (refOf (items[j]?)))) (fun j hj => (hT j hj).1)
    (fun j hj => by obtain ⟨o, e, _⟩ := (hT j hj).2.1; exact Nat.ne_of_lt (Heap.lt_size e))
  rw [hlen] at W
  refine ⟨_, _, _, _, _, _, rfl, W.bound, hsz, ⟨⟨_, Heap.get?_push_size _ rfl, rfl, rfl⟩, hl.push _, fun k hk => (hT k (by omega)).2.1.push _⟩, ?_, ?_, ?_, ?_, ?_⟩
  · intro b hb
    show b < (s₁.heap.push _).objs.size
    rw [Heap.size_push]
    simp only [List.mem_cons, List.mem_map, List.mem_range] at hb
    rcases hb with rfl | rfl | ⟨j, hj, rfl⟩
    · exact Nat.lt_succ_self _
    · exact Nat.lt_succ_of_lt hlt
    · obtain ⟨o, e, _⟩ := (hT j (by omega)).2.1; exact Nat.lt_succ_of_lt (Heap.lt_size e)
  · intro b hb
    rw [List.mem_singleton.mp hb]
    exact none_of_keeps k (get_size_none _)
  · intro i h hst b hb
    rw [List.mem_singleton.mp hb]
    obtain ⟨_, e, _⟩ := hst.1
    rw [e]; rfl
  · exact keeps_of k _ fun b o e => Heap.get?_push_of_some _ (Keeps.heap k b o e)
  · rintro i vals ⟨hi, rfl⟩
    obtain ⟨p, x, y, hp, e, hP⟩ := (hT i (by omega)).2.2
    exact ⟨p, x, y, hp, e, hP⟩

/-- results that are bools -/
noncomputable def BoolG {α : Type} (f : α → Bool) : List Addr → α → Value → Heap → Prop := fun _ a r _ => r = .bool (f a)
theorem boolG_ok {α : Type} (f : α → Bool) : ResOk (BoolG f) := ⟨fun _ _ _ _ _ h _ => h⟩
/-- results that are new pairs -/
noncomputable def PairG : List Addr → Nat × Nat → Value → Heap → Prop := fun bad p r h => ∃ T x y, r = .ref T ∧ T ∉ bad ∧ h.IsTuple T #[x, y] ∧ PairOf p x y
theorem pairG_ok : ResOk PairG := ⟨fun bad p r h h' g hk => by
  obtain ⟨T, x, y, e, hb, ⟨o, ho, r⟩, hP⟩ := g
  exact ⟨T, x, y, e, hb, ⟨o, hk T o hb ho, r⟩, hP⟩⟩
end
end Mine

namespace Mine
open PySem PySem.W PySem.Calls PyProof.Rows
noncomputable abbrev sdB (P : Params) : List Stmt := bodyAt (KK P) 783
noncomputable def sk_c : List Nat := [99]
noncomputable def sk_wide : List Nat := [119, 105, 100, 101]
noncomputable def sk_n : List Nat := [110]
noncomputable def sdLoc : List (List Nat) := [sk_c, sk_wide, sk_n]
noncomputable def sdGlo : Sto := [([111, 114, 100], .val (.builtin "ord"))]
noncomputable def sdSig (c : Nat) (wide : Bool) : Sto := [(sk_c, .str ⟨#[c]⟩), (sk_wide, .bool wide)]
noncomputable def sdSig1 (c : Nat) (wide : Bool) : Sto := [(sk_c, .str ⟨#[c]⟩), (sk_wide, .bool wide), (sk_n, .int (c : Int))]
noncomputable def noAtt : Addr → Str → Option (PV × List Bool) := fun _ _ => Option.none
noncomputable def retE : Option Stmt → PySem.Expr × Pos
  | some (.Return (some e) p) => (e, p)
  | _ => (default, default)
noncomputable def retSt (r : PySem.Expr × Pos) : Stmt := .Return (some r.1) r.2
noncomputable def sdIf (P : Params) := ifOf ((sdB P)[1]?)
noncomputable def sdR1 (P : Params) := retE ((sdIf P).2.1[0]?)
noncomputable def sdR2 (P : Params) := retE ((sdB P)[2]?)
noncomputable def sdA (n : Int) : Bool := (n == 10) || ((decide (32 ≤ n) && decide (n ≤ 126)) || false)
noncomputable def sdU (n : Int) : Bool := bif n == 133 then n == 133 else bif (decide (160 ≤ n) && decide (n ≤ 55295)) then (decide (160 ≤ n) && decide (n ≤ 55295)) else bif (decide (57344 ≤ n) && decide (n ≤ 65533)) then (decide (57344 ≤ n) && decide (n ≤ 65533)) else (decide (65536 ≤ n) && decide (n ≤ 1114110))
noncomputable def sdW (n : Int) (wide : Bool) : Bool := bif wide then (bif n != 65279 then sdU n else n != 65279) else wide
noncomputable def standsF (wide : Bool) (c : Nat) : Bool := bif sdA c then true else sdW c wide
theorem sd_cut (P : Params) : sdB P = (sdB P).take 1 ++ [.If (sdIf P).1 [retSt (sdR1 P)] [] (sdIf P).2.2, retSt (sdR2 P)] := by kernel_rfl
theorem sd_run (P : Params) (c : Nat) (wide : Bool) : runB sdLoc sdGlo noAtt ((sdB P).take 1) (sdSig c wide) = some (sdSig1 c wide, [decide ((⟨#[c]⟩ : Str).length = 1)]) := by kernel_rfl
theorem sd_test (P : Params) (c : Nat) (wide : Bool) : tr (nmOf sdLoc sdGlo (sdSig1 c wide)) noAtt fuel (sdIf P).1 = some (sdA c, []) := by kernel_rfl
theorem sd_r1 (P : Params) (c : Nat) (wide : Bool) : ev (nmOf sdLoc sdGlo (sdSig1 c wide)) noAtt fuel (sdR1 P).1 = some (.bool true, []) := by kernel_rfl
theorem sd_r2 (P : Params) (c : Nat) (wide : Bool) : ev (nmOf sdLoc sdGlo (sdSig1 c wide)) noAtt fuel (sdR2 P).1 = some (.bool (sdW c wide), []) := by kernel_rfl
theorem sd_fn (P : Params) : FnOk (KK P) 783 := ⟨by kernel_rfl, by kernel_rfl, by kernel_rfl, by kernel_rfl, by kernel_rfl⟩
theorem sd_bind (P : Params) (a b : Value) : bindArgs (fnK (KK P) 783) ⟨[a, b], []⟩ = pure [(Str.ofString "c", a), (Str.ofString "wide", b)] := by kernel_rfl
theorem sd_rep (c : Nat) (t : Tok) (wide : Bool) : Rep (sdSig c wide) (fun y => [(Str.ofString "c", Value.str ⟨#[c]⟩ t), (Str.ofString "wide", Value.bool wide)].reverse.lookup y) := by
  have h := rep_binds [("c", .str ⟨#[c]⟩ t, .str ⟨#[c]⟩), ("wide", .bool wide, .bool wide)] (by
    intro t' ht'
    simp only [List.mem_cons, List.not_mem_nil, or_false] at ht'
    rcases ht' with rfl | rfl
    · exact ⟨small_one c, _, rfl⟩
    · rfl)
  exact h

/-- entering a def, with what of the heap stays in sight -/
theorem enterKG {K : Frag} {prog : Program} {w : World} {A A₀ : Around} {s : Shared} {L : Addr} {h₀ base : Heap} {m mg mb : Str → Option Value} {news : List (Addr × Obj)} {p : Program} {loose : List Str} {mean : ExcName → Option Value} {env : Env} {outer : List Env}
    {R : Result → Shared → Prop} {f : Addr} {args : Args} {binds : List (Str × Value)} (fn : FnOk K f)
    (B : Below A₀ base outer h₀) (F : Fr h₀ L s.heap m) (X₀ : K.In h₀) (N : News h₀ L s.heap news) (T : Top p loose mean mg mb h₀) (hA : A.frames = some (env :: outer)) (hf : env.frame = some L) (hke : env.scope.kind = .function)
    (hroom : A.depth < recursionLimit) (hbind : bindArgs (fnK K f) args = pure binds) (hcell : noCell K f = true) (hloc : locals K f binds = true)
    (h : ∀ g L' h₁, Fr h₀ L g m → Fr g L' h₁ (fun y => binds.reverse.lookup y) → News g L' h₁ news → Below A base (env :: outer) g → K.In g → Top p loose mean mg mb g → GSub s.heap g (news.map (·.1)) →
      wpAny (model prog w) (A.deeper (envK K f L')) (execs (bodyAt K f) (envK K f L'))
        (fun fl s' => LeaveK h₀ L m g R (match fl with | .ret v => v | _ => .none) s')
        (fun e s' => wpAny (model prog w) (A.deeper (envK K f L')) (leaving (envK K f L') e) (fun _ s'' => R (.error e) s'') (fun e' s'' => R (.error e') s'') s')
        { s with heap := h₁, toks := s.toks + binds.length }) : codeAny (model prog w) A (.call (.ref f) args) R s :=
  code_defG B F X₀ N T hA hf hke fn.look fn.code hroom (BindsTo.of_eq hbind) (locs hloc) h fn.co fn.gen fn.kind (noCell_of hcell)

section
variable {w : World} {p : Program} {loose : List Str} {mean : ExcName → Option Value} {mg mb : Str → Option Value} {A A₀ : Around} {env : Env} {outer : List Env} {base h₀ : Heap} {L : Addr} {m : Str → Option Value} {news : List (Addr × Obj)} {s : Shared}
theorem attH_no {prog : Program} {E : Value → Shared → Prop} : AttH prog w A E h₀ L news noAtt := fun _ _ _ _ h => nomatch h

theorem sd_core {Q : Flow → Shared → Prop} {c : Nat} {wide : Bool} {b pre : List Stmt} {t : PySem.Expr} {pt : Pos} {r1 r2 : PySem.Expr × Pos}
    (cut : b = pre ++ [.If t [retSt r1] [] pt, retSt r2]) (hrun : runB sdLoc sdGlo noAtt pre (sdSig c wide) = some (sdSig1 c wide, [decide ((⟨#[c]⟩ : Str).length = 1)]))
    (htest : tr (nmOf sdLoc sdGlo (sdSig1 c wide)) noAtt fuel t = some (sdA c, [])) (h1 : ev (nmOf sdLoc sdGlo (sdSig1 c wide)) noAtt fuel r1.1 = some (.bool true, [])) (h2 : ev (nmOf sdLoc sdGlo (sdSig1 c wide)) noAtt fuel r2.1 = some (.bool (sdW c wide), []))
    (fo : FrOk env L) (lo : LocOk env sdLoc) (go : GloOk PRG w A (fun _ _ => False) env h₀ L news sdLoc sdGlo) {s₀ : Shared} (hs : At h₀ L news s₀ (sdSig c wide) s)
    (fin : ∀ (h' : Heap) (tk' : Nat) (m' : Str → Option Value), Fr h₀ L h' m' → News h₀ L h' news → Q (.ret (.bool (standsF wide c))) { s₀ with heap := h', toks := tk' }) :
    wpAny (model PRG w) A (execs b env) Q (fun _ _ => False) s := by
  refine run_then fo lo go attH_no hrun (fun b hb => by cases List.mem_singleton.mp hb; exact decide_eq_true rfl) hs cut fun s1 hs1 => ?_
  refine wpAny_execs_cons (wpAny_If (tr_sound (nmOk fo lo go hs1) (attOk attH_no hs1) _ _ _ htest allT_nil _ (keeps_refl _) _ fun s2 hs2 => ?_))
  have hs2 := hs1.keeps hs2
  unfold standsF at fin
  cases hc : sdA c with
  | true =>
    rw [hc] at fin
    show wpAny _ _ (execs [retSt r1] _) _ _ _
    refine wpAny_execs_cons (wpAny_Return_some (ev_sound (nmOk fo lo go hs2) (attOk attH_no hs2) _ _ _ h1 allT_nil _ (keeps_refl _) _ fun v s3 hv hs3 => ?_))
    cases hv
    obtain ⟨h, tk, m, rfl, F, N, _⟩ := hs2.keeps hs3
    exact fin h tk m F N
  | false =>
    rw [hc] at fin
    show wpAny _ _ (execs [] _) _ _ _
    refine wpAny_execs_nil ?_
    refine wpAny_execs_cons (wpAny_Return_some (ev_sound (nmOk fo lo go hs2) (attOk attH_no hs2) _ _ _ h2 allT_nil _ (keeps_refl _) _ fun v s3 hv hs3 => ?_))
    cases hv
    obtain ⟨h, tk, m, rfl, F, N, _⟩ := hs2.keeps hs3
    exact fin h tk m F N

theorem sd_ok {Q E : Value → Shared → Prop} {c : Nat} {t : Tok} {wide : Bool}
    (B : Below A₀ base outer h₀) (F : Fr h₀ L s.heap m) (X : (KK w.params).In h₀) (T : Top p loose mean mg mb h₀) (hA : A.frames = some (env :: outer)) (hf : env.frame = some L) (hke : env.scope.kind = .function) (hd : A.depth < recursionLimit)
    (ret : ∀ s', Keeps s s' → Q (.bool (standsF wide c)) s') :
    wpAny (model PRG w) A (call (.ref 783) [.str ⟨#[c]⟩ t, .bool wide]) Q E s := by
  refine wpAny_call (enterKG (news := []) (sd_fn w.params) B F X News.nil T hA hf hke hd (sd_bind _ _ _) (by kernel_rfl) (by kernel_rfl) ?_)
  intro g L' h₁ FG F1 N1 B1 X1 T1 G1
  refine wpAny_mono (E := fun _ _ => False) ?_ (fun _ _ h => h) (fun _ _ h => h.elim)
  have go : GloOk PRG w (A.deeper (envK (KK w.params) 783 L')) (fun _ _ => False) (envK (KK w.params) 783 L') g L' [] sdLoc sdGlo :=
    gloOk_cons (fun s m F N pos Q k => nameX_B (cl := []) F X1 (topRead_of T1) (by kernel_rfl) (by decide +kernel) (by decide) (k _ rfl) (by kernel_rfl) (by kernel_rfl) (by decide +kernel)) gloOk_nil
  refine sd_core (sd_cut w.params) (sd_run w.params c wide) (sd_test w.params c wide) (sd_r1 w.params c wide) (sd_r2 w.params c wide) (frOk_envK (sd_fn w.params)) (locOk_of rfl (by kernel_rfl)) go (s₀ := s) ⟨h₁, _, _, rfl, F1, N1, sd_rep c t wide⟩ ?_
  intro h' tk' m' F' N'
  exact leaveK_ F' N' fun _ _ => ret _ ⟨h', tk', rfl, fun b o e => F'.keep b o (G1 b o e (by simp))⟩
end
end Mine

namespace Mine
open PySem PySem.W PySem.Calls PyProof.Rows

/-- a source all of whose parts are new -/
noncomputable def SrcF (prog : Program) (w : World) (A : Around) (s : Shared) {α : Type} (ds : List α) (R : α → Value → Prop) (it : Value) (s₂ : Shared) : Prop :=
  ∃ I fp wr P St, it = .ref I ∧ Walks prog w A I fp wr ds.length P St ∧ St 0 s₂.heap ∧ (∀ b ∈ fp, s.heap.get? b = Option.none) ∧ (∀ i h, St i h → ∀ b ∈ fp, (h.get? b).isSome = true) ∧ Keeps s s₂ ∧ ∀ i v, P i v → ∃ a, ds[i]? = some a ∧ R a v

section
variable {prog : Program} {w : World} {A : Around} {E : Value → Shared → Prop} {env : Env} {h₀ : Heap} {L : Addr} {s₀ s s₁ : Shared}

theorem srcF_str {y : Str} {t : Tok} (hh : A.handled = Option.none) (k : Keeps s s₁) {Q : Value → Shared → Prop} (hQ : ∀ it s₂, SrcF prog w A s y.cps.toList SignOf it s₂ → Q it s₂) : wpAny (model prog w) A (pyIter (.str y t)) Q E s₁ := by
  refine iter_obj (hQ _ _ ?_)
  have hI : s.heap.get? s₁.heap.objs.size = Option.none := none_of_keeps k (get_size_none _)
  refine ⟨s₁.heap.objs.size, [s₁.heap.objs.size], [s₁.heap.objs.size], SignAt y, fun i h => h.IsStrIter s₁.heap.objs.size (itCls y) y t i, rfl, ?_, ⟨_, Heap.get?_push_size _ rfl, rfl, rfl⟩, ?_, ?_, ?_, ?_⟩
  · rw [show y.cps.toList.length = y.cps.size from rfl]
    unfold itCls
    cases ha : y.cps.all (· < 128) with
    | false => exact Walks.strWide hh _ y t
    | true => exact Walks.strAscii hh _ y t
  · intro b hb
    rw [List.mem_singleton.mp hb]; exact hI
  · intro i h hst b hb
    obtain ⟨o, e, _⟩ := hst
    rw [List.mem_singleton.mp hb, e]; rfl
  · exact keeps_trans k ⟨_, _, rfl, fun b o e => Heap.get?_push_of_some _ e⟩
  · rintro i v ⟨c, u, hc, rfl⟩
    exact ⟨c, by simpa using hc, u, rfl⟩

theorem srcF_list {ax : Addr} {items : Array Value} {α : Type} {ds : List α} {R : α → Value → Prop} (hh : A.handled = Option.none) (hl : s₁.heap.IsList ax items) (hlen : items.size = ds.length) (hax : s.heap.get? ax = Option.none)
    (hR : ∀ (i : Nat) (v : Value), items[i]? = some v → ∃ a, ds[i]? = some a ∧ R a v) (k : Keeps s s₁) {Q : Value → Shared → Prop} (hQ : ∀ it s₂, SrcF prog w A s ds R it s₂ → Q it s₂) : wpAny (model prog w) A (pyIter (.ref ax)) Q E s₁ := by
  have hlt : ax < s₁.heap.objs.size := by obtain ⟨_, e, _⟩ := hl; exact Heap.lt_size e
  refine wpAny_pyIter_list hl (hQ _ _ ?_)
  have hI : s.heap.get? s₁.heap.objs.size = Option.none := none_of_keeps k (get_size_none _)
  refine ⟨s₁.heap.objs.size, [s₁.heap.objs.size, ax], [s₁.heap.objs.size], fun i v => items[i]? = some v, fun i h => h.IsListIter s₁.heap.objs.size ax i ∧ h.IsList ax items, rfl, ?_, ⟨⟨_, Heap.get?_push_size _ rfl, rfl, rfl⟩, hl.push _⟩, ?_, ?_, ?_, hR⟩
  · rw [← hlen]; exact Walks.list hh _ ax (Nat.ne_of_lt hlt) items
  · intro b hb
    simp only [List.mem_cons, List.not_mem_nil, or_false] at hb
    rcases hb with rfl | rfl
    · exact hI
    · exact hax
  · intro i h hst b hb
    obtain ⟨⟨o, e, _⟩, ⟨o', e', _⟩⟩ := hst
    simp only [List.mem_cons, List.not_mem_nil, or_false] at hb
    rcases hb with rfl | rfl
    · rw [e]; rfl
    · rw [e']; rfl
  · exact keeps_trans k ⟨_, _, rfl, fun b o e => Heap.get?_push_of_some _ e⟩

theorem at_but {news : List (Addr × Obj)} {σ : Sto} {h h' : Heap} {tk tk' : Nat} (hs : At h₀ L news s₀ σ { s₀ with heap := h, toks := tk }) (wr : List Addr) (h1 : ∀ b ∈ wr, h₀.get? b = Option.none) (h2 : L ∉ wr) (h3 : ∀ p ∈ news, p.1 ∉ wr)
    (hk : ∀ b o, b ∉ wr → h.get? b = some o → h'.get? b = some o) : At h₀ L news s₀ σ { s₀ with heap := h', toks := tk' } := by
  obtain ⟨g, t, m, e, F, N, R⟩ := hs
  cases e
  exact ⟨h', tk', m, rfl, ⟨F.ns.at' fun o e => hk L o h2 e, fun b o e => hk b o (fun hb => by rw [h1 b hb] at e; cases e) (F.keep b o e), F.above⟩, fun p hp => ⟨hk _ _ (h3 p hp) (N p hp).1, (N p hp).2⟩, R⟩

/-- a for loop over a source, its state told turn by turn -/
theorem for_src {α : Type} {ds : List α} {R : α → Value → Prop} {pv : α → PV} {iter : PySem.Expr} {x : Str} {px pos : Pos} {body : List Stmt} {Q : Flow → Shared → Prop} (NI : Nat → List (Addr × Obj) → Prop) (adr : List Addr) (σ : Nat → Sto) {n₀ : List (Addr × Obj)}
    (fo : FrOk env L) (hx : env.kindOf x = some .local) (hs : ∀ x, foldedSetIterable iter env x = pure x) (hadr : ∀ i n, NI i n → n.map (·.1) = adr) (hR : ∀ a v, R a v → (pv a).Is v)
    (hni : NI 0 n₀) (hat : At h₀ L n₀ s₀ (σ 0) s)
    (hiter : wpAny (model prog w) A (eval iter env) (fun xv s₁ => wpAny (model prog w) A (pyIter xv) (SrcF prog w A s ds R) (fun _ _ => False) s₁) (fun _ _ => False) s)
    (turn : ∀ i a s' extra n, ds[i]? = some a → NI i n → (∀ q ∈ extra, q.1 ∉ adr) → At h₀ L (extra ++ n) s₀ (put (σ i) (key x) (pv a)) s' → wpAny (model prog w) A (execs body env) (fun f s'' => f = .next ∧ ∃ n', NI (i + 1) n' ∧ At h₀ L (extra ++ n') s₀ (σ (i + 1)) s'') (fun _ _ => False) s')
    (done : ∀ s' n, NI ds.length n → At h₀ L n s₀ (σ ds.length) s' → Q .next s') :
    wpAny (model prog w) A (exec (.For (.Name x px) iter body [] pos) env) Q (fun _ _ => False) s := by
  refine wpAny_For (wpAny_mono hiter (fun xv s₁ h₁ => wpAny_mono h₁ (fun it s₂ h₂ => ?_) fun _ _ e => e) fun _ _ e => e) hs
  obtain ⟨I, fp, wr, P, St, rfl, W, hst, hfp, hhere, hk, hP⟩ := h₂
  obtain ⟨g, tk, m, rfl, F, N, Rp⟩ := hat
  have f1 : ∀ b ∈ fp, h₀.get? b = Option.none := fun b hb => by
    cases e : h₀.get? b with
    | none => rfl
    | some o => have := F.keep b o e; have h9 := hfp b hb; rw [this] at h9; cases h9
  have f2 : L ∉ fp := fun hb => by
    obtain ⟨o, _, _, e, _⟩ := F.ns
    have h9 := hfp L hb; rw [e] at h9; cases h9
  have f4 : ∀ b ∈ fp, b ∉ adr := fun b hb hm => by
    rw [← hadr 0 _ hni] at hm
    obtain ⟨q, hq, e⟩ := List.mem_map.mp hm
    have := (N q hq).1
    have h9 := hfp b hb
    rw [← e, this] at h9; cases h9
  have f3 : ∀ i n, NI i n → ∀ p ∈ n, p.1 ∉ fp := fun i n hn p hp hb => f4 _ hb (by rw [← hadr i n hn]; exact List.mem_map_of_mem hp)
  have w1 : ∀ b ∈ wr, h₀.get? b = Option.none := fun b hb => f1 b (W.sub b hb)
  have w2 : L ∉ wr := fun hb => f2 (W.sub _ hb)
  have w3 : ∀ i n, NI i n → ∀ p ∈ n, p.1 ∉ wr := fun i n hn p hp hb => f3 i n hn p hp (W.sub _ hb)
  have hat0 : At h₀ L n₀ s₀ (σ 0) s₂ := (At.keeps ⟨g, tk, m, rfl, F, N, Rp⟩ hk)
  refine codeAny_forLoop (fun n s' => ∃ i nn, i ≤ ds.length ∧ n = ds.length + 1 - i ∧ St i s'.heap ∧ NI i nn ∧ At h₀ L nn s₀ (σ i) s') ?_ (ds.length + 1) ⟨0, _, Nat.zero_le _, rfl, hst, hni, hat0⟩
  rintro n s' ⟨i, nn, hi, rfl, hst', hnn, hat'⟩
  obtain ⟨g', tk', m', rfl, F', N', R'⟩ := hat'
  have hat'' : At h₀ L nn s₀ (σ i) { s₀ with heap := g', toks := tk' } := ⟨g', tk', m', rfl, F', N', R'⟩
  by_cases hlt : i < ds.length
  · refine W.item i _ _ _ hlt hst' fun v h₁ tk₁ hPv hst₁ hk₁ => ?_
    obtain ⟨a, ha, hRa⟩ := hP i v hPv
    have at1 : At h₀ L nn s₀ (σ i) { s₀ with heap := h₁, toks := tk₁ } := at_but hat'' wr w1 w2 (w3 i nn hnn) hk₁
    obtain ⟨g1, tk1, m1, e1, F1, N1, R1⟩ := at1
    cases e1
    have at1 : At h₀ L (fp.map (fun b => (b, (h₁.get? b).getD default)) ++ nn) s₀ (σ i) { s₀ with heap := h₁, toks := tk₁ } := by
      refine ⟨h₁, tk₁, m1, rfl, F1, fun p hp => ?_, R1⟩
      rcases List.mem_append.mp hp with hp | hp
      · obtain ⟨b, hb, rfl⟩ := List.mem_map.mp hp
        obtain ⟨o, e⟩ := Option.isSome_iff_exists.mp (hhere _ _ hst₁ b hb)
        refine ⟨?_, fun q => f2 (q ▸ hb), f1 b hb⟩
        show h₁.get? b = some ((h₁.get? b).getD default)
        rw [e]; rfl
      · exact N1 p hp
    have cast : ∀ (t : Sem Unit) (Qx : Unit → Shared → Prop) (Ex : Value → Shared → Prop) (sx : Shared), wpAny (model prog w) A t Qx (fun _ _ => False) sx → wpAny (model prog w) A t Qx Ex sx := fun t Qx Ex sx h => wpAny_mono h (fun _ _ x => x) fun _ _ x => x.elim
    refine cast _ _ _ _ (assign_sound fo at1 hx (hR a v hRa) fun s₃ at3 => ?_)
    have hoff : ∀ q ∈ fp.map (fun b => (b, (h₁.get? b).getD default)), q.1 ∉ adr := by
      intro q hq
      obtain ⟨b, hb, rfl⟩ := List.mem_map.mp hq
      exact f4 b hb
    refine wpAny_mono (turn i a s₃ _ nn ha hnn hoff at3) (fun f s₄ h₄ => ?_) fun _ _ x => x.elim
    obtain ⟨rfl, n', hn', at4⟩ := h₄
    obtain ⟨g4, tk4, m4, rfl, F4, N4, R4⟩ := at4
    refine ⟨ds.length + 1 - (i + 1), by omega, i + 1, n', hlt, rfl, ?_, hn', ⟨g4, tk4, m4, rfl, F4, fun p hp => N4 p (List.mem_append_right _ hp), R4⟩⟩
    refine W.frame _ _ _ hst₁ fun b hb o e => ?_
    have := (N4 (b, (h₁.get? b).getD default) (List.mem_append_left _ (List.mem_map.mpr ⟨b, hb, rfl⟩))).1
    rw [e] at this
    exact this
  · have hin : i = ds.length := by omega
    subst hin
    refine W.done _ _ _ hst' fun h₁ tk₁ hk₁ => ?_
    exact wpAny_execs_nil (done _ nn hnn (at_but hat'' wr w1 w2 (w3 _ nn hnn) hk₁))
end
end Mine

namespace Mine
open PySem PySem.W PySem.Calls PyProof.Rows

section
variable {prog : Program} {w : World} {A : Around} {E : Value → Shared → Prop} {env : Env} {s : Shared}

/-- an expression that comes to a bool, from any state that keeps s -/
structure EvB (prog : Program) (w : World) (A : Around) (E : Value → Shared → Prop) (env : Env) (s : Shared) (e : PySem.Expr) (b : Bool) : Prop where
  run : ∀ s₁, Keeps s s₁ → ∀ Q : Value → Shared → Prop, (∀ s', Keeps s s' → Q (.bool b) s') → wpAny (model prog w) A (eval e env) Q E s₁
theorem evB_not {e : PySem.Expr} {b : Bool} {p : Pos} (h : EvB prog w A E env s e b) : EvB prog w A E env s (.UnaryOp .Not e p) (!b) :=
  ⟨fun s₁ k₁ Q k => UnaryOp_ (h.run s₁ k₁ _ fun s₂ k₂ => not_of (wpAny_truthy_bool (k s₂ k₂)))⟩
theorem evB_or1 {e : PySem.Expr} {b : Bool} {p : Pos} (h : EvB prog w A E env s e b) : EvB prog w A E env s (.BoolOp .Or [e] p) b :=
  ⟨fun s₁ k₁ Q k => BoolOp_one (h.run s₁ k₁ Q k)⟩
theorem evB_or {e e' : PySem.Expr} {rest : List PySem.Expr} {b b' : Bool} {p : Pos} (h : EvB prog w A E env s e b) (h' : EvB prog w A E env s (.BoolOp .Or (e' :: rest) p) b') : EvB prog w A E env s (.BoolOp .Or (e :: e' :: rest) p) (b || b') := by
  refine ⟨fun s₁ k₁ Q k => ?_⟩
  refine BoolOp_or (h.run s₁ k₁ _ fun s₂ k₂ => wpAny_truthy_bool ?_)
  cases b with
  | true => exact k _ k₂
  | false => exact h'.run s₂ k₂ _ fun s₃ k₃ => k _ k₃
theorem evB_ev {nm : Str → Option PV} {att : Addr → Str → Option (PV × List Bool)} {n : Nat} {e : PySem.Expr} {b : Bool} {o : List Bool} (hn : NmOk prog w A E env s nm) (ha : AttOk prog w A E s att) (h : ev nm att n e = some (.bool b, o)) (ho : AllT o) : EvB prog w A E env s e b :=
  ⟨fun s₁ k₁ Q k => ev_sound hn ha n e _ h ho s₁ k₁ Q fun v s' hv hs' => by cases hv; exact k s' hs'⟩

theorem attOk_no {s : Shared} : AttOk prog w A E s noAtt := fun _ _ _ _ h => nomatch h

/-- `all` of a list comprehension with one name -/
theorem evB_all {α : Type} {ds : List α} {R : α → Value → Prop} {g : α → Bool} {elt iter : PySem.Expr} {f x : Str} {fp px pos cp : Pos} {scope : Scope} {cl : List (Str × Addr)}
    (hh : A.handled = Option.none) (hf : ∀ s₁, Keeps s s₁ → ∀ Q : Value → Shared → Prop, Q (.builtin "all") s₁ → wpAny (model prog w) A (eval (.Name f fp) env) Q E s₁)
    (hclos : closureFor scope env = pure cl) (hcell : ∀ y ∈ scope.names, y.2 ≠ .cell) (hkind : scope.kind = .function) (hnames : ∀ y ∈ scope.names, y.2 = .local → scope.names.lookup y.1 = some .local) (hx : scope.names.lookup x = some .local)
    (hs : ∀ x, foldedSetIterable iter env x = pure x) (hRf : ∀ a a' v, R a v → R a' v → a = a')
    (hiter : ∀ s₁, Keeps s s₁ → wpAny (model prog w) A (eval iter env) (fun xv s₂ => wpAny (model prog w) A (pyIter xv) (Src prog w A s₁ ds R) E s₂) E s₁)
    (helt : ∀ C a v s₃ m₃ E', a ∈ ds → R a v → s₃.heap.Ns C m₃ → m₃ x = some v → KeepH s.heap s₃.heap → wpAny (model prog w) A (eval elt (compEnvC scope cl C env)) (fun r s₄ => r = .bool (g a) ∧ Keeps s₃ s₄) E' s₃) :
    EvB prog w A E env s (.Call (.Name f fp) [.ListComp elt [⟨.Name x px, iter, [], 0⟩] scope pos] [] cp) (ds.all g) := by
  refine ⟨fun s₁ k₁ Q k => ?_⟩
  refine Call_Name (trees := backTo cp (starEach [.ListComp elt [⟨.Name x px, iter, [], 0⟩] scope pos] env)) rfl (hf s₁ k₁ _ ?_)
  refine PyProof.Rows.callWith_builtin1 (args_cons (comp_list (G := fun a r => r = .bool (g a)) hclos hcell hkind hnames hx hs hRf (hiter s₁ k₁)
    (fun C a v s₃ m₃ E' ha hv hn hm hk => helt C a v s₃ m₃ E' ha hv hn hm fun b o e => hk b o (Keeps.heap k₁ b o e)) fun D ys s' k' _ hl hlen hG => args_nil ?_) rfl) rfl
  have e : ds.all g = (ds.map g).all id := by simp [List.all_map]
  rw [e] at k
  refine all_keeps hh hl (by simpa using hlen) (fun i v hv => ?_) fun s'' k'' => k s'' (keeps_trans (keeps_trans k₁ k') k'')
  have hi : i < ds.length := by
    rw [← hlen]
    rcases Nat.lt_or_ge i ys.size with h | h
    · exact h
    · rw [Array.getElem?_eq_none h] at hv; cases hv
  exact ⟨g ds[i], by simp [hi], hG i ds[i] v (List.getElem?_eq_getElem hi) hv⟩

/-- `all` of a list comprehension with two names -/
theorem evB_all2 {α : Type} {ds : List α} {R : α → Value → Value → Prop} {g : α → Bool} {elt iter : PySem.Expr} {f x y : Str} {fp px py tp pos cp : Pos} {kk : Nat} {scope : Scope} {cl : List (Str × Addr)}
    (hh : A.handled = Option.none) (hf : ∀ s₁, Keeps s s₁ → ∀ Q : Value → Shared → Prop, Q (.builtin "all") s₁ → wpAny (model prog w) A (eval (.Name f fp) env) Q E s₁)
    (hclos : closureFor scope env = pure cl) (hcell : ∀ y ∈ scope.names, y.2 ≠ .cell) (hkind : scope.kind = .function) (hnames : ∀ y ∈ scope.names, y.2 = .local → scope.names.lookup y.1 = some .local) (hx : scope.names.lookup x = some .local) (hy : scope.names.lookup y = some .local) (hxy : x ≠ y)
    (hs : ∀ x, foldedSetIterable iter env x = pure x)
    (hiter : ∀ s₁, Keeps s s₁ → wpAny (model prog w) A (eval iter env) (fun xv s₂ => wpAny (model prog w) A (pyIter xv) (SrcP prog w A s₁ ds R) E s₂) E s₁)
    (helt : ∀ C a v u s₃ m₃ E', a ∈ ds → R a v u → s₃.heap.Ns C m₃ → m₃ x = some v → m₃ y = some u → KeepH s.heap s₃.heap → wpAny (model prog w) A (eval elt (compEnvC scope cl C env)) (fun r s₄ => r = .bool (g a) ∧ Keeps s₃ s₄) E' s₃) :
    EvB prog w A E env s (.Call (.Name f fp) [.ListComp elt [⟨.Tuple [.Name x px, .Name y py] kk tp, iter, [], 0⟩] scope pos] [] cp) (ds.all g) := by
  refine ⟨fun s₁ k₁ Q k => ?_⟩
  refine Call_Name (trees := backTo cp (starEach [.ListComp elt [⟨.Tuple [.Name x px, .Name y py] kk tp, iter, [], 0⟩] scope pos] env)) rfl (hf s₁ k₁ _ ?_)
  refine PyProof.Rows.callWith_builtin1 (args_cons ?_ rfl) rfl
  rw [eval_ListComp]
  refine comp_pairs (G := BoolG g) (use := Option.none) hh hclos hcell hkind hnames hx hy hxy hs (boolG_ok g) (hiter s₁ k₁) (fun C a v u s₃ m₃ E' ha hv hn hm hm' hk => ?_) fun D C ys s' k' hD hC hCD hl hlen hG hN => ?_
  · refine wpAny_mono (helt C a v u s₃ m₃ E' ha hv hn hm hm' fun b o e => hk b o (Keeps.heap k₁ b o e)) (fun r s₄ h₄ => ⟨h₄.2, fun _ _ => h₄.1⟩) fun _ _ e => e
  obtain ⟨m, hm⟩ := hN
  obtain ⟨wr, hG⟩ := hG
  refine ⟨m, hm, fun h' hs' => args_nil ?_⟩
  have e : ds.all g = (ds.map g).all id := by simp [List.all_map]
  rw [e] at k
  have hl' : h'.IsList D ys := by
    obtain ⟨o, eo, r⟩ := hl
    exact ⟨o, (hs'.2 D (Ne.symm hCD)).trans eo, r⟩
  have k2 : Keeps s₁ { s' with heap := h' } := by
    obtain ⟨g', tk, rfl, hk⟩ := k'
    exact ⟨h', tk, rfl, fun b o e => (hs'.2 b (fun q => by rw [q, hC] at e; cases e)).trans (hk b o e)⟩
  refine all_keeps hh hl' (by simpa using hlen) (fun i v hv => ?_) fun s'' k'' => k s'' (keeps_trans (keeps_trans k₁ k2) k'')
  have hi : i < ds.length := by
    rw [← hlen]
    rcases Nat.lt_or_ge i ys.size with h | h
    · exact h
    · rw [Array.getElem?_eq_none h] at hv; cases hv
  exact ⟨g ds[i], by simp [hi], hG i ds[i] v (List.getElem?_eq_getElem hi) hv⟩

/-- what the names of a comprehension mean that are not its own -/
noncomputable def GloC (prog : Program) (w : World) (A : Around) (E : Value → Shared → Prop) (env' : Env) (s : Shared) (γ : Sto) : Prop :=
  ∀ x p, look γ (key x) = some p → ∀ s', KeepH s.heap s'.heap → ∀ pos (Q : Value → Shared → Prop), (∀ v, p.Is v → Q v s') → wpAny (model prog w) A (eval (.Name x pos) env') Q E s'
theorem nm_comp {env' : Env} {C : Addr} {m : Str → Option Value} {loc : List (List Nat)} {γ σ : Sto} {s₃ : Shared} (hn : s₃.heap.Ns C m) (hR : Rep σ m) (fo : FrOk env' C) (lo : LocOk env' loc) (hγ : GloC prog w A E env' s γ) (hk : KeepH s.heap s₃.heap) :
    NmOk prog w A E env' s₃ (nmOf loc γ σ) := by
  intro x p hx s' hs' pos Q k
  unfold nmOf at hx
  cases hl : loc.any (keq (key x)) with
  | true =>
    rw [hl] at hx
    simp only [cond_true] at hx
    have hne : look σ (key x) = some p ∧ p ≠ .any := by
      split at hx
      · cases hx
      · rename_i q; exact ⟨hx, fun e => by subst e; exact q hx⟩
    obtain ⟨v, hv, hi⟩ := hR x p hne.1 hne.2
    have hF : s'.heap.Ns env'.locals m := by rw [fo.loc]; exact hn.at' fun o e => Keeps.heap hs' _ o e
    exact wpAny_Name (wpAny_loadName_local fo.kind (lo x hl).1 hF hv (k v hi)) (lo x hl).2
  | false =>
    rw [hl] at hx
    exact hγ x p hx s' (fun b o e => Keeps.heap hs' b o (hk b o e)) pos Q k
theorem gloC_nil {env' : Env} : GloC prog w A E env' s [] := fun _ _ h => nomatch h
theorem gloC_cons {env' : Env} {k : List Nat} {p : PV} {γ : Sto} (h : ∀ s', KeepH s.heap s'.heap → ∀ pos (Q : Value → Shared → Prop), (∀ v, p.Is v → Q v s') → wpAny (model prog w) A (eval (.Name ⟨k.toArray⟩ pos) env') Q E s')
    (r : GloC prog w A E env' s γ) : GloC prog w A E env' s ((k, p) :: γ) := by
  intro x q hq s' hk pos Q k'
  simp only [look] at hq
  cases e : keq k (key x) with
  | true =>
    rw [e] at hq
    cases hq
    have hx : x = ⟨k.toArray⟩ := Str.ext' (by rw [keq_iff.mp e]; simp [key])
    subst hx
    exact h s' hk pos Q k'
  | false =>
    rw [e] at hq
    exact r x q hq s' hk pos Q k'
theorem rep_one {x : Str} {p : PV} {v : Value} {m : Str → Option Value} (hm : m x = some v) (hv : p.Is v) : Rep [(key x, p)] m := by
  intro y q hq _
  simp only [look] at hq
  cases e : keq (key x) (key y) with
  | true => rw [e] at hq; cases hq; cases key_inj (keq_iff.mp e); exact ⟨v, hm, hv⟩
  | false => rw [e] at hq; cases hq
theorem rep_two {x y : Str} {p q : PV} {v u : Value} {m : Str → Option Value} (hm : m x = some v) (hv : p.Is v) (hm' : m y = some u) (hu : q.Is u) : Rep [(key x, p), (key y, q)] m := by
  intro z r hr _
  simp only [look] at hr
  cases e : keq (key x) (key z) with
  | true => rw [e] at hr; cases hr; cases key_inj (keq_iff.mp e); exact ⟨v, hm, hv⟩
  | false =>
    rw [e] at hr
    simp only [cond_false] at hr
    cases e' : keq (key y) (key z) with
    | true => rw [e'] at hr; cases hr; cases key_inj (keq_iff.mp e'); exact ⟨u, hm', hu⟩
    | false => rw [e'] at hr; cases hr
theorem helt_ev {env' : Env} {C : Addr} {m : Str → Option Value} {loc : List (List Nat)} {γ σ : Sto} {s₃ : Shared} {elt : PySem.Expr} {b : Bool} {o : List Bool} (hev : ev (nmOf loc γ σ) noAtt fuel elt = some (.bool b, o)) (ho : AllT o)
    (hn : s₃.heap.Ns C m) (hR : Rep σ m) (fo : FrOk env' C) (lo : LocOk env' loc) (hγ : GloC prog w A E env' s γ) (hk : KeepH s.heap s₃.heap) :
    wpAny (model prog w) A (eval elt env') (fun r s₄ => r = .bool b ∧ Keeps s₃ s₄) E s₃ :=
  (evB_ev (nm_comp hn hR fo lo hγ hk) attOk_no hev ho).run s₃ (keeps_refl _) _ fun s' k => ⟨rfl, k⟩

/-- x = e, for such an expression -/
theorem assign_B {h₀ : Heap} {L : Addr} {news : List (Addr × Obj)} {s₀ : Shared} {σ : Sto} {x : Str} {px ap : Pos} {e : PySem.Expr} {b : Bool} {Q : Flow → Shared → Prop} (fo : FrOk env L) (hx : env.kindOf x = some .local) (hs : At h₀ L news s₀ σ s) (he : EvB prog w A E env s e b)
    (hsw : swapsWith e (some (.Name x px)) ap.line env = pure false) (k : ∀ s', At h₀ L news s₀ (put σ (key x) (.bool b)) s' → Q .next s') : wpAny (model prog w) A (exec (.Assign [.Name x px] e ap) env) Q E s :=
  wpAny_Assign_Name (he.run s (keeps_refl s) _ fun s₁ k₁ => store_sound fo (hs.keeps k₁) hx (p := .bool b) rfl fun s₂ hs₂ => k s₂ hs₂) hsw
end
end Mine

namespace Mine
open PySem PySem.W PySem.Calls PyProof.Rows

section
variable {prog : Program} {w : World} {A : Around} {E : Value → Shared → Prop} {env : Env} {s : Shared}

theorem setItem_neg {l : Addr} {items : Array Value} {n : Nat} {k : Int} {t : Tok} {v : Value} {Q : Unit → Shared → Prop} (ho : s.heap.get? l = some (listOf items n))
    (h0 : k < 0) (h1 : -(items.size : Int) ≤ k) (hfit : -(2 ^ 63) ≤ k)
    (hQ : ∀ h' n', h'.get? l = some (listOf (items.setIfInBounds (k + items.size).toNat v) n') → Heap.SameBut l s.heap h' → Q () { s with heap := h' }) :
    wpAny (model prog w) A (setItem (.ref l) (.int k t) v) Q E s := by
  have hl : s.heap.IsList l items := ⟨_, ho, rfl, n, rfl⟩
  have hd : (listOf items n).data = .seq items n := rfl
  unfold setItem
  try with_reducible refine wpAny_holding ?_
  first | refine wpAny_bind (wpAny_pure ?_) | skip
  refine wpAny_bind (wpAny_sequenceKey hl.typeIs (by decide) ?_)
  refine wpAny_bind (wpAny_callSpecial?_slot (name := Str.ofString "__setitem__") hl.typeIs slot_list_setitem
    (wpAny_call_entry slot_list_setitem hl.typeIs entry_list_setitem ?_ (args_list_setitem _ _ _)))
  show wpAny _ _ (Builtin.List.listSubscript? (.int k t) >>= _) _ _ s
  refine wpAny_bind (wpAny_listSubscript_int (fitsIndex_neg h0 hfit) ?_)
  clear hfit
  have hidx := seqIndex_neg h0 h1
  have hj : (k + items.size).toNat < items.size := by omega
  obtain ⟨j, rfl⟩ : ∃ j : Nat, k = Int.negSucc j := by
    cases k with
    | ofNat n => exact absurd h0 (Int.not_lt.mpr (Int.natCast_nonneg n))
    | negSucc n => exact ⟨n, rfl⟩
  show wpAny _ _ ((Builtin.List.listItems (.ref l) >>= fun xs => pure ((seqIndex? (Int.negSucc j) xs.size).bind fun i => xs[i]?.map (i, ·))) >>= _) _ _ s
  refine wpAny_bind (wpAny_bind ?_)
  show wpAny _ _ (seqItems? (.ref l) >>= _) _ _ s
  refine wpAny_bind (wpAny_seqItems ho hd (wpAny_pure (wpAny_pure ?_)))
  rw [hidx]
  simp only [Option.bind_some, Array.getElem?_eq_getElem hj, Option.map_some]
  generalize (Int.negSucc j + (items.size : Int)).toNat = i at hj hQ ⊢
  obtain ⟨n', hd'⟩ := Obj.data_mapSeq hd (·.setIfInBounds i v)
  have hfin : (s.heap.update l (Obj.mapSeq (·.setIfInBounds i v))).get? l = some (listOf (items.setIfInBounds i v) n') := by
    rw [Heap.get?_update_self _ ho (Obj.isFreed_of_seq hd')]
    cases hd'
    rfl
  refine wpAny_bind (wpAny_setSeqItemAt ho hd ?_)
  first
    | exact wpAny_bind (wpAny_pure (wpAny_pure ⟨.none, rfl, wpAny_pure (hQ _ _ hfin (Heap.SameBut.update ..))⟩))
    | exact wpAny_pure ⟨.none, rfl, wpAny_pure (hQ _ _ hfin (Heap.SameBut.update ..))⟩
end

/-- the items of a list are these texts -/
noncomputable def Wd (ws : List Str) (items : Array Value) : Prop := items.size = ws.length ∧ ∀ (i : Nat) (v : Value), items[i]? = some v → ∃ a, ws[i]? = some a ∧ (PV.str a).Is v
theorem Wd.push {ws : List Str} {items : Array Value} (h : Wd ws items) {a : Str} {v : Value} (hv : (PV.str a).Is v) : Wd (ws ++ [a]) (items.push v) := by
  refine ⟨by simp [h.1], fun i u hu => ?_⟩
  by_cases hi : i < items.size
  · rw [Array.getElem?_push_lt hi] at hu
    obtain ⟨b, hb, hi'⟩ := h.2 i u (by rw [Array.getElem?_eq_getElem hi]; exact hu)
    exact ⟨b, by rw [List.getElem?_append_left (by rw [← h.1]; exact hi)]; exact hb, hi'⟩
  · have h9 : i < (items.push v).size := by
      rcases Nat.lt_or_ge i (items.push v).size with h | h
      · exact h
      · rw [Array.getElem?_eq_none h] at hu; cases hu
    rw [Array.size_push] at h9
    have : i = items.size := by omega
    subst this
    rw [Array.getElem?_push_size] at hu
    cases hu
    exact ⟨a, by rw [h.1]; simp, hv⟩
theorem Wd.set {ws : List Str} {items : Array Value} (h : Wd ws items) {k : Nat} {a : Str} {v : Value} (hv : (PV.str a).Is v) : Wd (ws.set k a) (items.setIfInBounds k v) := by
  refine ⟨by simp [h.1], fun i u hu => ?_⟩
  have hi : i < items.size := by
    rcases Nat.lt_or_ge i items.size with h | h
    · exact h
    · rw [Array.getElem?_eq_none (by simpa using h)] at hu; cases hu
  rw [Array.getElem?_setIfInBounds] at hu
  rw [List.getElem?_set]
  by_cases hk : k = i
  · subst hk
    rw [if_pos rfl, if_pos hi] at hu
    cases hu
    exact ⟨a, by rw [if_pos rfl, if_pos (h.1 ▸ hi)], hv⟩
  · rw [if_neg hk] at hu ⊢
    exact h.2 i u hu
theorem Wd.at {ws : List Str} {items : Array Value} (h : Wd ws items) {k : Nat} (hk : k < ws.length) : ∃ v, items[k]? = some v ∧ (PV.str ws[k]).Is v := by
  have hk' : k < items.size := by rw [h.1]; exact hk
  obtain ⟨a, ha, hv⟩ := h.2 k items[k] (Array.getElem?_eq_getElem hk')
  rw [List.getElem?_eq_getElem hk] at ha
  cases ha
  exact ⟨_, Array.getElem?_eq_getElem hk', hv⟩

noncomputable def WS : Str := " \t\u000d\n\u0085\u2028\u2029"
noncomputable def wstep (ws : List Str) (c : Nat) : List Str := bif inS WS ⟨#[c]⟩ then ws ++ [("" : Str)] else ws.set (ws.length - 1) (ws.getD (ws.length - 1) ("" : Str) ++ ⟨#[c]⟩)
noncomputable def wordsF (cs : List Nat) : List Str := cs.foldl wstep [""]
theorem wordsF_snoc (cs : List Nat) (c : Nat) : wordsF (cs ++ [c]) = wstep (wordsF cs) c := by simp [wordsF, List.foldl_append]
theorem wordsF_take {cs : List Nat} {i c : Nat} (h : cs[i]? = some c) : wordsF (cs.take (i + 1)) = wstep (wordsF (cs.take i)) c := by
  rw [List.take_add_one, h]
  exact wordsF_snoc _ _
theorem str_len_one (c : Nat) : (⟨#[c]⟩ : Str).length = 1 := rfl
theorem wstep_ok {ws : List Str} {n c : Nat} (h : 0 < ws.length ∧ ws.length ≤ n + 1 ∧ ∀ x ∈ ws, x.length ≤ n) : 0 < (wstep ws c).length ∧ (wstep ws c).length ≤ n + 1 + 1 ∧ ∀ x ∈ wstep ws c, x.length ≤ n + 1 := by
  obtain ⟨h1, h2, h3⟩ := h
  unfold wstep
  cases inS WS ⟨#[c]⟩ with
  | true =>
    refine ⟨by simp, by simp [h2], fun x hx => ?_⟩
    simp only [cond_true, List.mem_append, List.mem_singleton] at hx
    rcases hx with hx | rfl
    · exact Nat.le_succ_of_le (h3 x hx)
    · exact Nat.zero_le _
  | false =>
    refine ⟨by simpa using h1, by simpa using Nat.le_succ_of_le h2, fun x hx => ?_⟩
    rcases List.mem_or_eq_of_mem_set hx with hx | rfl
    · exact Nat.le_succ_of_le (h3 x hx)
    · rw [Str.length_append, str_len_one]
      have : ws.getD (ws.length - 1) ("" : Str) ∈ ws := by
        rw [List.getD_eq_getElem?_getD, List.getElem?_eq_getElem (by omega)]
        exact List.getElem_mem _
      exact Nat.succ_le_succ (h3 _ this)
theorem wordsF_ok (cs : List Nat) : 0 < (wordsF cs).length ∧ (wordsF cs).length ≤ cs.length + 1 ∧ ∀ x ∈ wordsF cs, x.length ≤ cs.length := by
  have : ∀ (r : List Nat), 0 < (wordsF r.reverse).length ∧ (wordsF r.reverse).length ≤ r.length + 1 ∧ ∀ x ∈ wordsF r.reverse, x.length ≤ r.length := by
    intro r
    induction r with
    | nil => refine ⟨by decide, by decide, fun x hx => ?_⟩; cases List.mem_singleton.mp hx; exact Nat.le_refl 0
    | cons c r ih => rw [List.reverse_cons, wordsF_snoc]; exact wstep_ok ih
  have h := this cs.reverse
  simpa using h

theorem upd_mid {d : Addr} {o o' : Obj} {r : List (Addr × Obj)} (h2 : ∀ p ∈ r, p.1 ≠ d) : ∀ {e : List (Addr × Obj)}, (∀ p ∈ e, p.1 ≠ d) → Upd d o o' (e ++ (d, o) :: r) (e ++ (d, o') :: r)
  | [], _ => .head h2
  | p :: e, h => .tail (h p (.head _)) (upd_mid h2 fun q hq => h q (.tail _ hq))

section
variable {w : World} {A : Around} {E : Value → Shared → Prop} {env : Env} {s s₀ : Shared} {h₀ : Heap} {L : Addr} {prog : Program}

theorem callWith_bF {M : Model} {pos : Pos} {id : String} {first : List Value} {e : PySem.Expr} {Q : Value → Shared → Prop} (h : wpAny M A (eval e env) (fun v s₁ => wpAny M A (call (.builtin id) (first ++ [v])) Q E s₁) E s) (he : starEach [e] env = [(false, eval e env)]) :
    wpAny M A (callWith pos (.builtin id) first (backTo pos (starEach [e] env)) []) Q E s := by
  have hsp := args_cons (pos := pos) (rest := []) (Q := fun vs s₁ => wpAny M A (call (.builtin id) (first ++ vs)) Q E s₁) (wpAny_mono h (fun v s₁ h₁ => args_nil h₁) fun _ _ x => x) he
  rw [he] at hsp ⊢
  exact callWith_builtin rfl (evalArgs_plain hsp)

/-- words[k] read, k an int constant -/
theorem item_list {nm : Str → Option PV} {n : Nat} {aw : Addr} {items : Array Value} {i : PySem.Expr} {k : Int} {v : Value} {wn : Str} {wp sp : Pos} {Q : Value → Shared → Prop} (hn : NmOk prog w A E env s nm) (hw : nm wn = some (.val (.ref aw))) (hi : ev nm noAtt n i = some (.int k, []))
    (hl : s.heap.IsList aw items) (hk : (0 ≤ k ∧ k < 2 ^ 63 ∧ items[k.toNat]? = some v) ∨ (k < 0 ∧ -(items.size : Int) ≤ k ∧ -(2 ^ 63) ≤ k ∧ items[(k + items.size).toNat]? = some v)) (s₁ : Shared) (k₁ : Keeps s s₁) (hQ : ∀ s', Keeps s s' → Q v s') :
    wpAny (model prog w) A (eval (.Subscript (.Name wn wp) i sp) env) Q E s₁ := by
  refine Subscript_ (hn wn _ hw s₁ k₁ _ _ fun x hx => ?_)
  cases hx
  refine ev_sound hn attOk_no n i _ hi allT_nil s₁ k₁ _ fun y s₂ hy k₂ => ?_
  obtain ⟨t, rfl⟩ := hy
  have hl' : s₂.heap.IsList aw items := by obtain ⟨o, e, r⟩ := hl; exact ⟨o, Keeps.heap k₂ _ _ e, r⟩
  refine tail_any hl'.typeIs F.slot_list_getitem.lookup ?_ (sub_plain hi _ _)
  rcases hk with ⟨a, b, c⟩ | ⟨a, b, c, d⟩
  · exact wpAny_getItem_list hl' a b c (hQ s₂ k₂)
  · exact wpAny_getItem_list_neg hl' a b c d (hQ s₂ k₂)

/-- one turn of the loop that gathers words -/
theorem words_turn {c : Nat} {ws : List Str} {items : Array Value} {cnt : Nat} {aw : Addr} {news extra : List (Addr × Obj)} {σ γ : Sto} {loc : List (List Nat)} {t e1 i1 i2 : PySem.Expr} {wn cn : Str} {p1 ap cp xp p2 sp p3 sp2 p4 bp asp ip : Pos} {Q : Flow → Shared → Prop}
    (fo : FrOk env L) (lo : LocOk env loc) (go : ∀ E n, GloOk prog w A E env h₀ L n loc γ) (hint : interactive env = false) (hline : (ap.endLine == cp.line) = true)
    (htest : tr (nmOf loc γ σ) noAtt fuel t = some (inS WS ⟨#[c]⟩, [])) (he1 : ev (nmOf loc γ σ) noAtt fuel e1 = some (.str "", [])) (hi1 : ev (nmOf loc γ σ) noAtt fuel i1 = some (.int (-1), [])) (hi2 : ev (nmOf loc γ σ) noAtt fuel i2 = some (.int (-1), []))
    (hw : nmOf loc γ σ wn = some (.val (.ref aw))) (hc : nmOf loc γ σ cn = some (.str ⟨#[c]⟩)) (hst : starEach [e1] env = [(false, eval e1 env)])
    (hws : 0 < ws.length) (hsz : ws.length ≤ sizeLine) (hlen : ∀ x ∈ ws, x.length + 1 ≤ 16777216) (hit : Wd ws items) (hex : ∀ q ∈ extra, q.1 ≠ aw) (hnw : ∀ q ∈ news, q.1 ≠ aw)
    (hs : At h₀ L (extra ++ (aw, listOf items cnt) :: news) s₀ σ s)
    (k : ∀ s' items' cnt', Wd (wstep ws c) items' → At h₀ L (extra ++ (aw, listOf items' cnt') :: news) s₀ σ s' → Q .next s') :
    wpAny (model prog w) A (execs [.If t [.Expr (.Call (.Attribute (.Name wn p1) "append" ap) [e1] [] cp) xp] [.Assign [.Subscript (.Name wn p2) i1 sp] (.BinOp (.Subscript (.Name wn p3) i2 sp2) .Add (.Name cn p4) bp) asp] ip] env) Q E s := by
  have hnm := nmOk fo lo (go E _) hs
  refine wpAny_execs_cons (wpAny_If (tr_sound hnm attOk_no _ _ _ htest allT_nil _ (keeps_refl _) _ fun s1 k1 => ?_))
  have hs1 := hs.keeps k1
  have hnm := nmOk fo lo (go E _) hs1
  unfold wstep at k
  cases hb : inS WS ⟨#[c]⟩ with
  | true =>
    rw [hb] at k
    simp only [cond_true, cond_false] at k
    show wpAny _ _ (execs [_] _) _ _ _
    refine wpAny_execs_cons (wpAny_Expr ?_ hint rfl)
    refine wpAny_Call_method rfl (by rw [hst]; rfl) hline PySem.F.plainAttrs_list PySem.F.slot_list_append PySem.F.type_list_append (hnm wn _ hw _ (keeps_refl _) _ _ fun x hx => ?_)
    cases hx
    have hmem : (aw, listOf items cnt) ∈ extra ++ (aw, listOf items cnt) :: news := List.mem_append_right _ (.head _)
    obtain ⟨g1, tk1, m1, rfl, F1, N1, R1⟩ := id hs1
    refine ⟨⟨_, (N1 _ hmem).1, rfl⟩, fun a e => by cases e; exact ⟨_, (N1 _ hmem).1, rfl⟩, ?_⟩
    refine callWith_bF (ev_sound hnm attOk_no _ _ _ he1 allT_nil _ (keeps_refl _) _ fun v s2 hv k2 => ?_) hst
    obtain ⟨g2, tk2, m2, rfl, F2, N2, R2⟩ := hs1.keeps k2
    refine append_K F2 N2 (upd_mid hnw hex) (fun h' F' N' => ?_) (by rw [hit.1]; exact hsz)
    refine wpAny_execs_nil ?_
    exact wpAny_execs_nil (k _ _ _ (hit.push hv) ⟨h', tk2, m2, rfl, F', N', R2⟩)
  | false =>
    rw [hb] at k
    simp only [cond_true, cond_false] at k
    show wpAny _ _ (execs [_] _) _ _ _
    have hlast : ws.length - 1 < ws.length := by omega
    obtain ⟨v, hv, hvi⟩ := hit.at hlast
    have hmem : (aw, listOf items cnt) ∈ extra ++ (aw, listOf items cnt) :: news := List.mem_append_right _ (.head _)
    obtain ⟨g1, tk1, m1, rfl, F1, N1, R1⟩ := id hs1
    have hsz0 := hit.1
    have hidx : ((-1 : Int) + items.size).toNat = ws.length - 1 := by rw [hsz0]; omega
    refine wpAny_execs_cons (wpAny_Assign_Subscript (wpAny_BinOp (item_list hnm hw hi2 ⟨_, (N1 _ hmem).1, rfl, cnt, rfl⟩ (.inr ⟨by decide, by omega, by decide, by rw [hidx]; exact hv⟩) _ (keeps_refl _) fun s2 k2 => ?_)) rfl)
    refine hnm cn _ hc _ k2 _ _ fun u hu => ?_
    have hsm : small (ws[ws.length - 1] ++ (⟨#[c]⟩ : Str)) = true := by
      unfold small
      refine decide_eq_true ?_
      rw [Str.length_append, str_len_one]
      exact hlen _ (List.getElem_mem _)
    refine bin_sound (p := .str ws[ws.length - 1]) (q := .str ⟨#[c]⟩) (op := .Add) rfl (fun b hb => by cases List.mem_singleton.mp hb; exact hsm) hvi hu k2 fun r s3 hr k3 => ?_
    have hnm3 := nmOk fo lo (go E _) (hs1.keeps k3)
    refine hnm3 wn _ hw _ (keeps_refl _) _ _ fun x hx => ?_
    cases hx
    refine ev_sound hnm3 attOk_no _ _ _ hi1 allT_nil _ (keeps_refl _) _ fun y s4 hy k4 => ?_
    obtain ⟨t', rfl⟩ := hy
    obtain ⟨g4, tk4, m4, rfl, F4, N4, R4⟩ := (hs1.keeps k3).keeps k4
    refine setItem_neg (N4 _ hmem).1 (by decide) (by omega) (by decide) fun h' n' ho' hs' => ?_
    rw [hidx] at ho'
    have hz := N4 _ hmem
    refine wpAny_execs_nil ?_
    refine wpAny_execs_nil (k _ _ n' (hit.set (k := ws.length - 1) (a := ws.getD (ws.length - 1) ("" : Str) ++ (⟨#[c]⟩ : Str)) (v := r) ?_) ⟨h', tk4, m4, rfl, F4.change hs' hz.2.1 hz.2.2, ?_, R4⟩)
    · rw [List.getD_eq_getElem?_getD, List.getElem?_eq_getElem hlast]; exact hr
    · exact news_set N4 hex hnw hs' ho'
end
end Mine

namespace Mine
open PySem PySem.W PySem.Calls PyProof.Rows

section
variable {prog : Program} {w : World} {A : Around} {E : Value → Shared → Prop} {env : Env} {s s₀ : Shared} {h₀ : Heap} {L : Addr} {news : List (Addr × Obj)}

/-- the ledger holds a list of these pairs -/
noncomputable def PairsIn (news : List (Addr × Obj)) (ap : Addr) (ds : List (Nat × Nat)) : Prop := ∀ h₀ L h, News h₀ L h news → ∃ items, h.IsList ap items ∧ items.size = ds.length ∧
  ∀ (i : Nat) (v : Value), items[i]? = some v → ∃ T x y p, v = .ref T ∧ h.IsTuple T #[x, y] ∧ ds[i]? = some p ∧ PairOf p x y
noncomputable def WordsIn (news : List (Addr × Obj)) (aw : Addr) (ws : List Str) : Prop := ∀ h₀ L h, News h₀ L h news → ∃ items, h.IsList aw items ∧ Wd ws items

noncomputable def PairH (hs : Heap) : List Addr → Nat × Nat → Value → Heap → Prop := fun bad p r h => ∃ T x y, r = .ref T ∧ T ∉ bad ∧ hs.get? T = Option.none ∧ h.IsTuple T #[x, y] ∧ PairOf p x y
theorem pairH_ok (hs : Heap) : ResOk (PairH hs) := ⟨fun bad p r h h' g hk => by
  obtain ⟨T, x, y, e, hb, hn, ⟨o, ho, r⟩, hP⟩ := g
  exact ⟨T, x, y, e, hb, hn, ⟨o, hk T o hb ho, r⟩, hP⟩⟩

theorem callWith_t2 {M : Model} {pos : Pos} {T : String} {e1 e2 : PySem.Expr} {Q : Value → Shared → Prop} (h : wpAny M A (eval e1 env) (fun v s₁ => wpAny M A (eval e2 env) (fun u s₂ => wpAny M A (call (.type T) [v, u]) Q E s₂) E s₁) E s) (he : starEach [e1, e2] env = [(false, eval e1 env), (false, eval e2 env)]) :
    wpAny M A (callWith pos (.type T) [] (backTo pos (starEach [e1, e2] env)) []) Q E s := by
  have he2 : starEach [e2] env = [(false, eval e2 env)] := by
    have : starEach (e1 :: [e2]) env = (false, eval e1 env) :: starEach [e2] env := by
      have h1 : starEach (e1 :: [e2]) env = (starEach [e1] env) ++ starEach [e2] env := by cases e1 <;> rfl
      cases e1 <;> first | rfl | (rw [h1] at he; cases he)
    rw [this] at he
    exact (List.cons.inj he).2
  have hsp := args_cons (pos := pos) (rest := [e2]) (Q := fun vs s₁ => wpAny M A (call (.type T) vs) Q E s₁) (wpAny_mono h (fun v s₁ h₁ => args_cons (rest := []) (wpAny_mono h₁ (fun u s₂ h₂ => args_nil h₂) fun _ _ x => x) he2) fun _ _ x => x) (by rw [he, he2])
  rw [he] at hsp ⊢
  exact PyProof.Rows.callWith_type rfl (evalArgs_plain hsp)

theorem pairs_stmt {ds : List (Nat × Nat)} {v u : Str} {σ γ : Sto} {loc : List (List Nat)} {y zn a b : Str} {e1 e2 : PySem.Expr} {py zp cp pa pb tp pa' pb' tp' pos spos : Pos} {k1 kk : Nat} {scope : Scope} {cl : List (Str × Addr)} {Q : Flow → Shared → Prop}
    (fo : FrOk env L) (lo : LocOk env loc) (go : ∀ E n, GloOk prog w A E env h₀ L n loc γ) (hh : A.handled = Option.none)
    (hsw : swapsWith (.ListComp (.Tuple [.Name a pa, .Name b pb] k1 tp) [⟨.Tuple [.Name a pa', .Name b pb'] kk tp', .Call (.Name zn zp) [e1, e2] [] cp, [], 0⟩] scope pos) (some (.Name y py)) spos.line env = pure true)
    (hclos : closureFor scope env = pure cl) (hcell : ∀ y ∈ scope.names, y.2 ≠ .cell) (hkind : scope.kind = .function) (hnames : ∀ y ∈ scope.names, y.2 = .local → scope.names.lookup y.1 = some .local) (hx : scope.names.lookup a = some .local) (hy : scope.names.lookup b = some .local) (hxy : a ≠ b) (hyl : env.kindOf y = some .local)
    (hda : (a == ("__debug__" : Str)) = false) (hdb : (b == ("__debug__" : Str)) = false)
    (hz : nmOf loc γ σ zn = some (.val (.type "zip"))) (he1 : ev (nmOf loc γ σ) noAtt fuel e1 = some (.str v, [])) (he2 : ev (nmOf loc γ σ) noAtt fuel e2 = some (.str u, []))
    (hds : ds = v.cps.toList.zip u.cps.toList)
    (hs : At h₀ L news s₀ σ s)
    (k : ∀ s' news' D, (∀ p ∈ news, p ∈ news') → PairsIn news' D ds → At h₀ L news' s₀ (put σ (key y) (.val (.ref D))) s' → Q .next s') :
    wpAny (model prog w) A (exec (.Assign [.Name y py] (.ListComp (.Tuple [.Name a pa, .Name b pb] k1 tp) [⟨.Tuple [.Name a pa', .Name b pb'] kk tp', .Call (.Name zn zp) [e1, e2] [] cp, [], 0⟩] scope pos) spos) env) Q E s := by
  subst hds
  have hnm := nmOk fo lo (go E _) hs
  rw [exec_Assign_Name_used _ _ _ _ hsw]
  refine wpAny_bind (wpAny_standAt (wpAny_bind ?_))
  show wpAny _ A (do let _ ← comprehension (.ListComp (.Tuple [.Name a pa, .Name b pb] k1 tp) [⟨.Tuple [.Name a pa', .Name b pb'] kk tp', .Call (.Name zn zp) [e1, e2] [] cp, [], 0⟩] scope pos) scope env _ (newList []) false (eval (.Call (.Name zn zp) [e1, e2] [] cp) env) (some (assign (.Name y py) env))) _ _ s
  refine wpAny_bind (wpAny_mono (comp_pairs (Q := fun _ s' => Q .next s') (use := some (assign (.Name y py) env)) (G := PairH s.heap) (ds := v.cps.toList.zip u.cps.toList) (R := PairOf) hh hclos hcell hkind hnames hx hy hxy (fun _ => rfl) (pairH_ok _) ?_ ?_ ?_) (fun _ s' hq => wpAny_pure (wpAny_pure hq)) fun _ _ e => e)
  · have hst : starEach [e1, e2] env = [(false, eval e1 env), (false, eval e2 env)] := by rw [star_plain he1, star_plain he2]; rfl
    refine Call_Name (trees := backTo cp (starEach [e1, e2] env)) rfl (hnm zn _ hz _ (keeps_refl _) _ _ fun f hf => ?_)
    cases hf
    refine callWith_t2 (ev_sound hnm attOk_no _ _ _ he1 allT_nil _ (keeps_refl _) _ fun x1 s1 hx1 k1 => ev_sound hnm attOk_no _ _ _ he2 allT_nil _ k1 _ fun x2 s2 hx2 k2 => ?_) hst
    obtain ⟨hv, t1, rfl⟩ := hx1
    obtain ⟨_, t2, rfl⟩ := hx2
    exact src_zip hh hv k2 fun z s₂ h1 h2 => h2 _ (h1 _ _ rfl rfl)
  · intro C p x1 x2 s₃ m₃ E' _ hR hn hma hmb hk
    have lka : (compEnvC scope cl C env).kindOf a = some .local := lookup_relabel_local hx
    have lkb : (compEnvC scope cl C env).kindOf b = some .local := lookup_relabel_local hy
    have hkc : (compEnvC scope cl C env).scope.kind = .function := hkind
    refine Tuple_ (args_cons (wpAny_Name (wpAny_loadName_local hkc lka hn hma (args_cons (wpAny_Name (wpAny_loadName_local hkc lkb hn hmb (args_nil ?_)) hdb) rfl)) hda) rfl)
    refine wpAny_newObj_type ⟨⟨_, _, rfl, fun b o e => Heap.get?_push_of_some _ e⟩, fun bad hbad => ?_⟩ (by show 2 ≤ sizeLine; rw [sizeLine_eq]; decide)
    refine ⟨s₃.heap.objs.size, x1, x2, rfl, fun hm => ?_, ?_, ⟨_, Heap.get?_push_size _ rfl, rfl, _, rfl⟩, hR⟩
    · have := hbad _ hm
      rw [get_size_none] at this; cases this
    · cases e : s.heap.get? s₃.heap.objs.size with
      | none => rfl
      | some o => have := hk _ _ e; rw [get_size_none] at this; cases this
  · intro D C ys s' k' hD hC hCD hl hlen hG hN
    obtain ⟨wr, hG⟩ := hG
    obtain ⟨mC, hmC⟩ := hN
    obtain ⟨oC, _, _, eC, _⟩ := id hmC
    obtain ⟨oD, eD, rD⟩ := id hl
    obtain ⟨g1, tk1, m1, rfl, F1, N1, R1⟩ := id hs
    obtain ⟨g, tk, m, rfl, F, N, R⟩ := hs.keeps k'
    have hfr : ∀ T, g1.get? T = Option.none → T ≠ L ∧ h₀.get? T = Option.none := fun T hT => by
      refine ⟨fun q => ?_, ?_⟩
      · obtain ⟨o, _, _, e, _⟩ := F1.ns
        rw [q, e] at hT
        cases hT
      · cases e : h₀.get? T with
        | none => rfl
        | some o => rw [F1.keep _ _ e] at hT; cases hT
    have hys : ∀ r ∈ ys.toList, ∃ T x y p, ∃ j : Nat, r = .ref T ∧ T ≠ C ∧ T ≠ D ∧ g1.get? T = Option.none ∧ g.IsTuple T #[x, y] ∧ (v.cps.toList.zip u.cps.toList)[j]? = some p ∧ PairOf p x y := by
      intro r hr
      obtain ⟨j, hj, e⟩ := List.mem_iff_getElem.mp hr
      have hj' : j < ys.size := by simpa using hj
      have hj2 : j < (v.cps.toList.zip u.cps.toList).length := by rw [← hlen]; exact hj'
      obtain ⟨T, x, y, e1, hb, hn, ht, hP⟩ := hG j _ r (List.getElem?_eq_getElem hj2) (by rw [Array.getElem?_eq_getElem hj']; rw [← e]; simp)
      exact ⟨T, x, y, _, j, e1, fun q => hb (by simp [q]), fun q => hb (by simp [q]), hn, ht, List.getElem?_eq_getElem hj2, hP⟩
    let tups : List (Addr × Obj) := ys.toList.map fun r => (refOf (some r), (g.get? (refOf (some r))).getD default)
    have htup : ∀ p ∈ tups, g.get? p.1 = some p.2 ∧ p.1 ≠ C ∧ p.1 ≠ D ∧ g1.get? p.1 = Option.none := by
      intro p hp
      obtain ⟨r, hr, rfl⟩ := List.mem_map.mp hp
      obtain ⟨T, x, y, p, j, rfl, h1, h2, h3, ⟨o, e, _⟩, _⟩ := hys r hr
      refine ⟨?_, h1, h2, h3⟩
      show g.get? T = some ((g.get? T).getD default)
      rw [e]; rfl
    have hnC : ∀ p ∈ news, p.1 ≠ C := fun p hp q => by have := (N1 p hp).1; rw [q, hC] at this; cases this
    have hat : At h₀ L ((C, oC) :: (tups ++ (D, oD) :: news)) s₀ σ { s₀ with heap := g, toks := tk } := by
      refine ⟨g, tk, m, rfl, F, fun p hp => ?_, R⟩
      rcases List.mem_cons.mp hp with rfl | hp
      · exact ⟨eC, hfr _ hC⟩
      rcases List.mem_append.mp hp with hp | hp
      · have := htup p hp
        exact ⟨this.1, hfr _ this.2.2.2⟩
      rcases List.mem_cons.mp hp with rfl | hp
      · exact ⟨eD, hfr _ hD⟩
      · exact N p hp
    show wpAny _ A (assign (.Name y py) env (.ref D)) _ _ _
    refine assign_sound fo hat hyl (p := .val (.ref D)) rfl fun s2 hs2 => ?_
    obtain ⟨g2, tk2, m2, rfl, F2, N2, R2⟩ := id hs2
    refine ⟨mC, hmC.at' fun o e => by rw [eC] at e; cases e; exact (N2 (C, oC) (.head _)).1, fun h' hs' => ?_⟩
    refine k _ (tups ++ (D, oD) :: news) D (fun p hp => List.mem_append_right _ (.tail _ hp)) ?_ ?_
    · intro hh₀ LL h Nx
      refine ⟨ys, ⟨oD, (Nx (D, oD) (List.mem_append_right _ (.head _))).1, rD⟩, hlen, fun i r hr => ?_⟩
      have hi : i < ys.size := by
        rcases Nat.lt_or_ge i ys.size with h | h
        · exact h
        · rw [Array.getElem?_eq_none h] at hr; cases hr
      have hi2 : i < (v.cps.toList.zip u.cps.toList).length := by rw [← hlen]; exact hi
      obtain ⟨T, x, y, rfl, hb, hn, ⟨o, e, r2⟩, hP⟩ := hG i _ r (List.getElem?_eq_getElem hi2) hr
      refine ⟨T, x, y, _, rfl, ⟨o, ?_, r2⟩, List.getElem?_eq_getElem hi2, hP⟩
      have hmem : (T, o) ∈ tups := by
        refine List.mem_map.mpr ⟨.ref T, ?_, ?_⟩
        · rw [Array.getElem?_eq_getElem hi] at hr
          rw [← Option.some.inj hr]
          simp
        · show (T, (g.get? T).getD default) = (T, o)
          rw [e]; rfl
      exact (Nx _ (List.mem_append_left _ hmem)).1
    · have : At h₀ L (tups ++ (D, oD) :: news) s₀ (put σ (key y) (.val (.ref D))) { s₀ with heap := g2, toks := tk2 } := ⟨g2, tk2, m2, rfl, F2, fun p hp => N2 p (.tail _ hp), R2⟩
      refine at_but this [C] (fun b hb => by rw [List.mem_singleton.mp hb]; exact (hfr _ hC).2) (fun hb => (hfr _ hC).1 (List.mem_singleton.mp hb).symm) (fun p hp hb => ?_) fun b o hb e => (hs'.2 b fun q => hb (by simp [q])).trans e
      have hb := List.mem_singleton.mp hb
      rcases List.mem_append.mp hp with hp | hp
      · exact (htup p hp).2.1 hb
      rcases List.mem_cons.mp hp with rfl | hp
      · exact hCD hb.symm
      · exact hnC p hp hb
end
end Mine

namespace Mine
open PySem PySem.W PySem.Calls PyProof.Rows

structure AllP where
  f : Str
  fp : Pos
  elt : PySem.Expr
  tgt : PySem.Expr
  iter : PySem.Expr
  scope : Scope
  lp : Pos
  cp : Pos
noncomputable def allE (p : AllP) : PySem.Expr := .Call (.Name p.f p.fp) [.ListComp p.elt [⟨p.tgt, p.iter, [], 0⟩] p.scope p.lp] [] p.cp
noncomputable def noAll : AllP := ⟨default, default, default, default, default, default, default, default⟩
noncomputable def allOf : PySem.Expr → AllP
  | .Call (.Name f fp) [.ListComp elt [⟨tgt, iter, _, _⟩] scope lp] _ cp => ⟨f, fp, elt, tgt, iter, scope, lp, cp⟩
  | _ => noAll
noncomputable def notOf : PySem.Expr → PySem.Expr × Pos
  | .UnaryOp _ e p => (e, p)
  | _ => default
noncomputable def orOf : PySem.Expr → List PySem.Expr × Pos
  | .BoolOp _ es p => (es, p)
  | _ => ([], default)
structure AsP where
  x : Str
  px : Pos
  e : PySem.Expr
  ap : Pos
noncomputable def asOf : Option Stmt → AsP
  | some (.Assign [.Name x px] e ap) => ⟨x, px, e, ap⟩
  | _ => ⟨default, default, default, default⟩
noncomputable def asS (p : AsP) : Stmt := .Assign [.Name p.x p.px] p.e p.ap

noncomputable def scopeB (sc : Scope) (locs : List Str) : Bool := sc.names.all (fun y => !decide (y.2 = .cell)) && (decide (sc.kind = .function) && (sc.names.all (fun y => !decide (y.2 = .local) || decide (sc.names.lookup y.1 = some .local)) && locs.all fun x => decide (sc.names.lookup x = some .local)))
theorem scope_of {sc : Scope} {locs : List Str} (h : scopeB sc locs = true) : (∀ y ∈ sc.names, y.2 ≠ .cell) ∧ sc.kind = .function ∧ (∀ y ∈ sc.names, y.2 = .local → sc.names.lookup y.1 = some .local) ∧ ∀ x ∈ locs, sc.names.lookup x = some .local := by
  simp only [scopeB, Bool.and_eq_true, List.all_eq_true, decide_eq_true_eq, Bool.not_eq_true', decide_eq_false_iff_not, Bool.or_eq_true] at h
  obtain ⟨h1, h2, h3, h4⟩ := h
  exact ⟨h1, h2, fun y hy e => (h3 y hy).resolve_left fun q => q e, h4⟩

section
variable {prog : Program} {w : World} {A : Around} {E : Value → Shared → Prop} {env : Env} {s s₀ : Shared} {h₀ : Heap} {L : Addr} {news : List (Addr × Obj)}

theorem all_ev {α : Type} {ds : List α} {pv : α → PV} {g : α → Bool} {p : AllP} {x : Str} {px : Pos} {cl : List (Str × Addr)} {γ : Sto} {nm : Str → Option PV} (htgt : p.tgt = .Name x px) (hsc : scopeB p.scope [x] = true) (hclos : closureFor p.scope env = pure cl) (hfs : ∀ x, foldedSetIterable p.iter env x = pure x)
    (hh : A.handled = Option.none) (hnm : NmOk prog w A E env s nm) (hall : nm p.f = some (.val (.builtin "all"))) (hinj : ∀ a a' v, (pv a).Is v → (pv a').Is v → a = a')
    (hsrc : ∀ s₁, Keeps s s₁ → wpAny (model prog w) A (eval p.iter env) (fun xv s₂ => wpAny (model prog w) A (pyIter xv) (Src prog w A s₁ ds (fun a v => (pv a).Is v)) E s₂) E s₁)
    (hglo : ∀ C E', GloC prog w A E' (compEnvC p.scope cl C env) s γ) (hloc : locB (relabel p.scope env) [key x] = true)
    (hev : ∀ a ∈ ds, ∃ o, ev (nmOf [key x] γ [(key x, pv a)]) noAtt fuel p.elt = some (.bool (g a), o) ∧ AllT o) : EvB prog w A E env s (allE p) (ds.all g) := by
  obtain ⟨f, fp, elt, tgt, iter, scope, lp, cp⟩ := p
  dsimp only at htgt hsc hclos hfs hall hsrc hglo hloc hev
  subst htgt
  obtain ⟨h1, h2, h3, h4⟩ := scope_of hsc
  refine evB_all hh (fun s₁ k₁ Q hQ => hnm f _ hall s₁ k₁ _ _ fun v hv => by cases hv; exact hQ) hclos h1 h2 h3 (h4 x (.head _)) hfs hinj hsrc fun C a v s₃ m₃ E' ha hv hn hm hk => ?_
  obtain ⟨o, he, ho⟩ := hev a ha
  exact helt_ev he ho hn (rep_one hm hv) (⟨h2, rfl⟩ : FrOk (compEnvC scope cl C env) C) (locOk_of rfl hloc) (hglo C E') hk

theorem all_ev2 {α : Type} {ds : List α} {pv pu : α → PV} {g : α → Bool} {p : AllP} {x y : Str} {px py tp : Pos} {kk : Nat} {cl : List (Str × Addr)} {γ : Sto} {nm : Str → Option PV} (htgt : p.tgt = .Tuple [.Name x px, .Name y py] kk tp) (hsc : scopeB p.scope [x, y] = true) (hxy : x ≠ y) (hclos : closureFor p.scope env = pure cl) (hfs : ∀ x, foldedSetIterable p.iter env x = pure x)
    (hh : A.handled = Option.none) (hnm : NmOk prog w A E env s nm) (hall : nm p.f = some (.val (.builtin "all")))
    (hsrc : ∀ s₁, Keeps s s₁ → wpAny (model prog w) A (eval p.iter env) (fun xv s₂ => wpAny (model prog w) A (pyIter xv) (SrcP prog w A s₁ ds (fun a v u => (pv a).Is v ∧ (pu a).Is u)) E s₂) E s₁)
    (hglo : ∀ C E', GloC prog w A E' (compEnvC p.scope cl C env) s γ) (hloc : locB (relabel p.scope env) [key x, key y] = true)
    (hev : ∀ a ∈ ds, ∃ o, ev (nmOf [key x, key y] γ [(key x, pv a), (key y, pu a)]) noAtt fuel p.elt = some (.bool (g a), o) ∧ AllT o) : EvB prog w A E env s (allE p) (ds.all g) := by
  obtain ⟨f, fp, elt, tgt, iter, scope, lp, cp⟩ := p
  dsimp only at htgt hsc hclos hfs hall hsrc hglo hloc hev
  subst htgt
  obtain ⟨h1, h2, h3, h4⟩ := scope_of hsc
  refine evB_all2 hh (fun s₁ k₁ Q hQ => hnm f _ hall s₁ k₁ _ _ fun v hv => by cases hv; exact hQ) hclos h1 h2 h3 (h4 x (.head _)) (h4 y (.tail _ (.head _))) hxy hfs hsrc fun C a v u s₃ m₃ E' ha hv hn hm hm' hk => ?_
  obtain ⟨o, he, ho⟩ := hev a ha
  exact helt_ev he ho hn (rep_two hm hv.1 hm' hv.2) (⟨h2, rfl⟩ : FrOk (compEnvC scope cl C env) C) (locOk_of rfl hloc) (hglo C E') hk

noncomputable def pvC (c : Nat) : PV := .str ⟨#[c]⟩
theorem pvC_inj {a a' : Nat} {v : Value} (h : (pvC a).Is v) (h' : (pvC a').Is v) : a = a' := by
  obtain ⟨_, t, rfl⟩ := h
  obtain ⟨_, t', e⟩ := h'
  cases e; rfl
theorem pvS_inj {a a' : Str} {v : Value} (h : (PV.str a).Is v) (h' : (PV.str a').Is v) : a = a' := by
  obtain ⟨_, t, rfl⟩ := h
  obtain ⟨_, t', e⟩ := h'
  cases e; rfl
theorem Src.mono {α : Type} {ds : List α} {R R' : α → Value → Prop} (hR : ∀ a v, R a v → R' a v) {it : Value} {s₂ : Shared} (h : Src prog w A s ds R it s₂) : Src prog w A s ds R' it s₂ := by
  obtain ⟨I, fp, wr, P, St, h1, h2, h3, h4, h5, h6, h7, h8⟩ := h
  exact ⟨I, fp, wr, P, St, h1, h2, h3, h4, h5, h6, h7, fun i v hv => let ⟨a, ha, r⟩ := h8 i v hv; ⟨a, ha, hR a v r⟩⟩
theorem SrcP.mono {α : Type} {ds : List α} {R R' : α → Value → Value → Prop} (hR : ∀ a v u, R a v u → R' a v u) {it : Value} {s₂ : Shared} (h : SrcP prog w A s ds R it s₂) : SrcP prog w A s ds R' it s₂ := by
  obtain ⟨I, fp, wr, P, St, Mid, h1, h2, h3, h4, h5, h6, h7, h8, h9⟩ := h
  exact ⟨I, fp, wr, P, St, Mid, h1, h2, h3, h4, h5, h6, h7, h8, fun i v hv => let ⟨a, x, y, ha, e, r⟩ := h9 i v hv; ⟨a, x, y, ha, e, hR a x y r⟩⟩
theorem src_ev_str {nm : Str → Option PV} {n : Nat} {e : PySem.Expr} {v : Str} {o : List Bool} (hh : A.handled = Option.none) (hnm : NmOk prog w A E env s nm) (he : ev nm noAtt n e = some (.str v, o)) (ho : AllT o) (s₁ : Shared) (k₁ : Keeps s s₁) :
    wpAny (model prog w) A (eval e env) (fun xv s₂ => wpAny (model prog w) A (pyIter xv) (Src prog w A s₁ v.cps.toList (fun c v => (pvC c).Is v)) E s₂) E s₁ := by
  have hnm1 : NmOk prog w A E env s₁ nm := fun x p hx s' hs' => hnm x p hx s' (keeps_trans k₁ hs')
  refine ev_sound hnm1 attOk_no _ _ _ he ho s₁ (keeps_refl _) _ fun x s₂ hx k₂ => ?_
  obtain ⟨hv, t, rfl⟩ := hx
  exact src_str hh hv k₂ fun it s₃ h => h.mono fun c v hc => let ⟨u, e⟩ := hc; ⟨small_one c, u, e⟩
theorem src_words {nm : Str → Option PV} {aw : Addr} {ws : List Str} {wn : Str} {wp : Pos} {σ : Sto} (hh : A.handled = Option.none) (hnm : NmOk prog w A E env s nm) (hw : nm wn = some (.val (.ref aw))) (hs : At h₀ L news s₀ σ s) (hin : WordsIn news aw ws) (hsz : ws.length ≤ sizeLine) (s₁ : Shared) (k₁ : Keeps s s₁) :
    wpAny (model prog w) A (eval (.Name wn wp) env) (fun xv s₂ => wpAny (model prog w) A (pyIter xv) (Src prog w A s₁ ws (fun a v => (PV.str a).Is v)) E s₂) E s₁ := by
  refine hnm wn _ hw s₁ k₁ _ _ fun v hv => ?_
  cases hv
  obtain ⟨g, tk, m, rfl, F, N, R⟩ := hs.keeps k₁
  obtain ⟨items, hl, hwd⟩ := hin _ _ _ N
  exact src_list hh hl hsz hwd.1 hwd.2 (keeps_refl _) fun it s₂ h => h
theorem src_pairsN {nm : Str → Option PV} {ap : Addr} {ds : List (Nat × Nat)} {wn : Str} {wp : Pos} {σ : Sto} (hh : A.handled = Option.none) (hnm : NmOk prog w A E env s nm) (hw : nm wn = some (.val (.ref ap))) (hs : At h₀ L news s₀ σ s) (hin : PairsIn news ap ds) (hsz : ds.length ≤ sizeLine) (s₁ : Shared) (k₁ : Keeps s s₁) :
    wpAny (model prog w) A (eval (.Name wn wp) env) (fun xv s₂ => wpAny (model prog w) A (pyIter xv) (SrcP prog w A s₁ ds (fun a v u => (pvC a.1).Is v ∧ (pvC a.2).Is u)) E s₂) E s₁ := by
  refine hnm wn _ hw s₁ k₁ _ _ fun v hv => ?_
  cases hv
  obtain ⟨g, tk, m, rfl, F, N, R⟩ := hs.keeps k₁
  obtain ⟨items, hl, hlen, hp⟩ := hin _ _ _ N
  refine src_pairs hh hl hsz hlen hp (keeps_refl _) fun it s₂ h => h.mono fun a v u hr => ?_
  obtain ⟨⟨t, e⟩, ⟨t', e'⟩⟩ := hr
  exact ⟨⟨small_one _, t, e⟩, ⟨small_one _, t', e'⟩⟩

/-- x in [c1, .., cn], texts all -/
theorem evB_in {l : PySem.Expr} {a : Str} {c1 c2 : Str} {k1 k2 : Nat} {p1 p2 lp cp : Pos} (hl : ∀ s₁, Keeps s s₁ → ∀ Q : Value → Shared → Prop, (∀ v s', (PV.str a).Is v → Keeps s s' → Q v s') → wpAny (model prog w) A (eval l env) Q E s₁) :
    EvB prog w A E env s (.Compare l [.In] [.List [.Constant (.str c1) k1 p1, .Constant (.str c2) k2 p2] lp] cp) ([c1, c2].any (· == a)) := by
  refine ⟨fun s₁ k₁ Q k => ?_⟩
  refine wpAny_Compare1 (hl s₁ k₁ _ fun v s₂ hv k₂ => List_ (args_cons (Constant_str (args_cons (Constant_str (args_nil ?_)) rfl)) rfl)) rfl
  refine wpAny_newObj_type ?_ (by show 2 ≤ sizeLine; rw [sizeLine_eq]; decide)
  obtain ⟨_, t, rfl⟩ := hv
  refine in_list_strs (vs := [.str c1 _, .str c2 _]) (ys := [c1, c2]) ⟨_, Heap.get?_push_size _ rfl, rfl, _, rfl⟩ (.cons _ _ (.cons _ _ .nil)) (k _ ?_)
  exact keeps_trans k₂ ⟨_, _, rfl, fun b o e => Heap.get?_push_of_some _ e⟩
end
end Mine

namespace Mine
open PySem PySem.W PySem.Calls PyProof.Rows

noncomputable abbrev duB (P : Params) : List Stmt := bodyAt (KK P) 788
noncomputable abbrev duEnv (P : Params) (L : Addr) : Env := envOfC (fdAt (KK P) 788).qualname (fdAt (KK P) 788).scope L 788 (fdAt (KK P) 788).code

noncomputable def dk_value : List Nat := [118, 97, 108, 117, 101]
noncomputable def dk_words : List Nat := [119, 111, 114, 100, 115]
noncomputable def dk_c : List Nat := [99]
noncomputable def dk_pairs : List Nat := [112, 97, 105, 114, 115]
noncomputable def dk_lines : List Nat := [108, 105, 110, 101, 115]
noncomputable def dk_strange : List Nat := [115, 116, 114, 97, 110, 103, 101]
noncomputable def dk_ahead : List Nat := [97, 104, 101, 97, 100]
noncomputable def dk_behind : List Nat := [98, 101, 104, 105, 110, 100]
noncomputable def dk_loose : List Nat := [108, 111, 111, 115, 101]
noncomputable def dk_head : List Nat := [104, 101, 97, 100]
noncomputable def dk_marked : List Nat := [109, 97, 114, 107, 101, 100]
noncomputable def dk_flowing : List Nat := [102, 108, 111, 119, 105, 110, 103]
noncomputable def dk_plain : List Nat := [112, 108, 97, 105, 110]
noncomputable def dk_single : List Nat := [115, 105, 110, 103, 108, 101]
noncomputable def dk_block : List Nat := [98, 108, 111, 99, 107]
noncomputable def dk_LINES : List Nat := [95, 108, 97, 119, 95, 76, 73, 78, 69, 83]
noncomputable def duLoc : List (List Nat) := [dk_value, dk_words, dk_c, dk_pairs, dk_lines, dk_strange, dk_ahead, dk_behind, dk_loose, dk_head, dk_marked, dk_flowing, dk_plain, dk_single, dk_block]
noncomputable def duGlo : Sto := [([97, 108, 108], .val (.builtin "all")), ([122, 105, 112], .val (.type "zip"))]
noncomputable def LINES : Str := "\n\u0085\u2028\u2029"
noncomputable def FLOW : Str := ",?[]{}:"
noncomputable def HEADS : Str := "#,[]{}&*!|>'\"%@`"
noncomputable def liGlo : Sto := [(dk_LINES, .str LINES)]
noncomputable abbrev duNm (σ : Sto) : Str → Option PV := nmOf duLoc duGlo σ

noncomputable def d0 (v : Str) : Sto := [(dk_value, .str v)]
noncomputable def d1 (v : Str) (aw : Addr) : Sto := [(dk_value, .str v), (dk_words, .val (.ref aw))]
noncomputable def d3 (v : Str) (aw ap : Addr) (bs : Sto) : Sto := (dk_value, .str v) :: (dk_words, .val (.ref aw)) :: (dk_pairs, .val (.ref ap)) :: bs

theorem du_len (P : Params) : (duB P).length = 16 := by kernel_rfl
theorem du_fn (P : Params) : FnOk (KK P) 788 := ⟨by kernel_rfl, by kernel_rfl, by kernel_rfl, by kernel_rfl, by kernel_rfl⟩
theorem du_loc (P : Params) (L : Addr) : locB (duEnv P L).scope duLoc = true := by kernel_rfl
theorem du_cells (P : Params) (L : Addr) : cellsFrom (L + 1) (fdAt (KK P) 788).scope.names [] = [(Str.ofString "wide", L + 1)] := by kernel_rfl
theorem du_int (P : Params) (L : Addr) : interactive (duEnv P L) = false := by kernel_rfl
theorem du_bind (P : Params) (a b : Value) : bindArgs (fnK (KK P) 788) ⟨[a, b], []⟩ = pure [(Str.ofString "value", a), (Str.ofString "wide", b)] := by kernel_rfl
theorem du_bl (P : Params) (L : Addr) (a b : Value) : bindL (duEnv P L).kindOf [(Str.ofString "value", a), (Str.ofString "wide", b)] (fun _ => Option.none) "value" = some a := by kernel_rfl
theorem du_bc (P : Params) (L : Addr) (a b : Value) : bindC (duEnv P L).kindOf [(Str.ofString "value", a), (Str.ofString "wide", b)] (fun _ => Option.none) "wide" = some b := by kernel_rfl
noncomputable def strTok : Option (Option Value) → Tok
  | some (some (.str _ t)) => t
  | _ => default
theorem du_lines (P : Params) : nsIn (KK P) mainGlobals ⟨dk_LINES.toArray⟩ = some (some (.str LINES (strTok (nsIn (KK P) mainGlobals ⟨dk_LINES.toArray⟩)))) := by kernel_rfl
theorem du_stands (P : Params) : nsIn (KK P) mainGlobals "_law_stands" = some (some (.ref 783)) := by kernel_rfl

/-- what the comprehensions say of one item -/
noncomputable def gLine (c : Nat) : Bool := !inS LINES ⟨#[c]⟩
noncomputable def gAhead (p : Nat × Nat) : Bool := !(bif (⟨#[p.1]⟩ : Str).cps.toList == (Str.ofString " ").cps.toList then inS LINES ⟨#[p.2]⟩ else (⟨#[p.1]⟩ : Str).cps.toList == (Str.ofString " ").cps.toList)
noncomputable def gBehind (p : Nat × Nat) : Bool := !(bif (⟨#[p.2]⟩ : Str).cps.toList == (Str.ofString " ").cps.toList then inS LINES ⟨#[p.1]⟩ else (⟨#[p.2]⟩ : Str).cps.toList == (Str.ofString " ").cps.toList)
noncomputable def gLoose (c : Nat) : Bool := bif (⟨#[c]⟩ : Str).cps.toList != (Str.ofString " ").cps.toList then !inS LINES ⟨#[c]⟩ else (⟨#[c]⟩ : Str).cps.toList != (Str.ofString " ").cps.toList
noncomputable def gWord (x : Str) : Bool := bif (Txt.slice x Option.none (some 1)).cps.toList != (Str.ofString "#").cps.toList then (Txt.slice x (some (-1)) Option.none).cps.toList != (Str.ofString ":").cps.toList else (Txt.slice x Option.none (some 1)).cps.toList != (Str.ofString "#").cps.toList
noncomputable def gFlow (c : Nat) : Bool := !inS FLOW ⟨#[c]⟩

noncomputable def du4 (P : Params) := asOf ((duB P)[4]?)
noncomputable def du4a (P : Params) := allOf (notOf (du4 P).e).1
theorem du4_s (P : Params) : (duB P)[4]? = some (asS (du4 P)) := by kernel_rfl
theorem du4_sc (P : Params) : scopeB (du4a P).scope [Str.ofString "c"] = true := by kernel_rfl
theorem du4_cl (P : Params) (L : Addr) : closureFor (du4a P).scope (duEnv P L) = pure [] := by kernel_rfl
theorem du4_lo (P : Params) (L : Addr) : locB (relabel (du4a P).scope (duEnv P L)) [key "c"] = true := by kernel_rfl
theorem du4_fs (P : Params) (L : Addr) (x : Value) : foldedSetIterable (du4a P).iter (duEnv P L) x = pure x := by kernel_rfl
theorem du4_all (P : Params) (σ : Sto) : duNm σ (du4a P).f = some (.val (.builtin "all")) := by kernel_rfl
theorem du4_x (P : Params) (L : Addr) : (duEnv P L).kindOf (du4 P).x = some .local := by kernel_rfl
theorem du4_sw (P : Params) (L : Addr) : swapsWith (du4 P).e (some (.Name (du4 P).x (du4 P).px)) (du4 P).ap.line (duEnv P L) = pure false := by kernel_rfl
noncomputable def du4p (P : Params) : Pos := match (du4a P).tgt with | .Name _ p => p | _ => default
theorem du4_t (P : Params) : (du4a P).tgt = .Name "c" (du4p P) := by kernel_rfl
theorem du4_k (P : Params) (L C : Addr) : (compEnvC (du4a P).scope [] C (duEnv P L)).kindOf ⟨dk_LINES.toArray⟩ = some .globalImplicit := by kernel_rfl
theorem du4_ev (P : Params) (c : Nat) : ev (nmOf [key "c"] liGlo [(key "c", pvC c)]) noAtt fuel (du4a P).elt = some (.bool (gLine c), []) := by kernel_rfl
theorem du4_e (P : Params) : (du4 P).e = .UnaryOp .Not (allE (du4a P)) (notOf (du4 P).e).2 := by kernel_rfl

noncomputable def du5 (P : Params) := asOf ((duB P)[5]?)
noncomputable def du5a (P : Params) := allOf (notOf (du5 P).e).1
theorem du5_s (P : Params) : (duB P)[5]? = some (asS (du5 P)) := by kernel_rfl
theorem du5_sc (P : Params) : scopeB (du5a P).scope [Str.ofString "c"] = true := by kernel_rfl
theorem du5_cl (P : Params) (L : Addr) : closureFor (du5a P).scope (duEnv P L) = pure [(Str.ofString "wide", L + 1)] := by kernel_rfl
theorem du5_lo (P : Params) (L : Addr) : locB (relabel (du5a P).scope (duEnv P L)) [key "c"] = true := by kernel_rfl
theorem du5_fs (P : Params) (L : Addr) (x : Value) : foldedSetIterable (du5a P).iter (duEnv P L) x = pure x := by kernel_rfl
theorem du5_all (P : Params) (σ : Sto) : duNm σ (du5a P).f = some (.val (.builtin "all")) := by kernel_rfl
theorem du5_x (P : Params) (L : Addr) : (duEnv P L).kindOf (du5 P).x = some .local := by kernel_rfl
theorem du5_sw (P : Params) (L : Addr) : swapsWith (du5 P).e (some (.Name (du5 P).x (du5 P).px)) (du5 P).ap.line (duEnv P L) = pure false := by kernel_rfl
noncomputable def du5p (P : Params) : Pos := match (du5a P).tgt with | .Name _ p => p | _ => default
theorem du5_t (P : Params) : (du5a P).tgt = .Name "c" (du5p P) := by kernel_rfl
theorem du5_e (P : Params) : (du5 P).e = .UnaryOp .Not (allE (du5a P)) (notOf (du5 P).e).2 := by kernel_rfl

noncomputable def du6 (P : Params) := asOf ((duB P)[6]?)
noncomputable def du6a (P : Params) := allOf (notOf (du6 P).e).1
theorem du6_s (P : Params) : (duB P)[6]? = some (asS (du6 P)) := by kernel_rfl
theorem du6_sc (P : Params) : scopeB (du6a P).scope [Str.ofString "a", Str.ofString "b"] = true := by kernel_rfl
theorem du6_cl (P : Params) (L : Addr) : closureFor (du6a P).scope (duEnv P L) = pure [] := by kernel_rfl
theorem du6_lo (P : Params) (L : Addr) : locB (relabel (du6a P).scope (duEnv P L)) [key "a", key "b"] = true := by kernel_rfl
theorem du6_fs (P : Params) (L : Addr) (x : Value) : foldedSetIterable (du6a P).iter (duEnv P L) x = pure x := by kernel_rfl
theorem du6_all (P : Params) (σ : Sto) : duNm σ (du6a P).f = some (.val (.builtin "all")) := by kernel_rfl
theorem du6_x (P : Params) (L : Addr) : (duEnv P L).kindOf (du6 P).x = some .local := by kernel_rfl
theorem du6_sw (P : Params) (L : Addr) : swapsWith (du6 P).e (some (.Name (du6 P).x (du6 P).px)) (du6 P).ap.line (duEnv P L) = pure false := by kernel_rfl
noncomputable def du6p (P : Params) : Pos × Pos × Nat × Pos := match (du6a P).tgt with | .Tuple [.Name _ p, .Name _ q] k r => (p, q, k, r) | _ => default
theorem du6_t (P : Params) : (du6a P).tgt = .Tuple [.Name "a" (du6p P).1, .Name "b" (du6p P).2.1] (du6p P).2.2.1 (du6p P).2.2.2 := by kernel_rfl
theorem du6_k (P : Params) (L C : Addr) : (compEnvC (du6a P).scope [] C (duEnv P L)).kindOf ⟨dk_LINES.toArray⟩ = some .globalImplicit := by kernel_rfl
theorem du6_ev (P : Params) (p : Nat × Nat) : ev (nmOf [key "a", key "b"] liGlo [(key "a", pvC p.1), (key "b", pvC p.2)]) noAtt fuel (du6a P).elt = some (.bool (gAhead p), []) := by kernel_rfl
theorem du6_e (P : Params) : (du6 P).e = .UnaryOp .Not (allE (du6a P)) (notOf (du6 P).e).2 := by kernel_rfl

noncomputable def du7 (P : Params) := asOf ((duB P)[7]?)
noncomputable def du7a (P : Params) := allOf (notOf (du7 P).e).1
theorem du7_s (P : Params) : (duB P)[7]? = some (asS (du7 P)) := by kernel_rfl
theorem du7_sc (P : Params) : scopeB (du7a P).scope [Str.ofString "a", Str.ofString "b"] = true := by kernel_rfl
theorem du7_cl (P : Params) (L : Addr) : closureFor (du7a P).scope (duEnv P L) = pure [] := by kernel_rfl
theorem du7_lo (P : Params) (L : Addr) : locB (relabel (du7a P).scope (duEnv P L)) [key "a", key "b"] = true := by kernel_rfl
theorem du7_fs (P : Params) (L : Addr) (x : Value) : foldedSetIterable (du7a P).iter (duEnv P L) x = pure x := by kernel_rfl
theorem du7_all (P : Params) (σ : Sto) : duNm σ (du7a P).f = some (.val (.builtin "all")) := by kernel_rfl
theorem du7_x (P : Params) (L : Addr) : (duEnv P L).kindOf (du7 P).x = some .local := by kernel_rfl
theorem du7_sw (P : Params) (L : Addr) : swapsWith (du7 P).e (some (.Name (du7 P).x (du7 P).px)) (du7 P).ap.line (duEnv P L) = pure false := by kernel_rfl
noncomputable def du7p (P : Params) : Pos × Pos × Nat × Pos := match (du7a P).tgt with | .Tuple [.Name _ p, .Name _ q] k r => (p, q, k, r) | _ => default
theorem du7_t (P : Params) : (du7a P).tgt = .Tuple [.Name "a" (du7p P).1, .Name "b" (du7p P).2.1] (du7p P).2.2.1 (du7p P).2.2.2 := by kernel_rfl
theorem du7_k (P : Params) (L C : Addr) : (compEnvC (du7a P).scope [] C (duEnv P L)).kindOf ⟨dk_LINES.toArray⟩ = some .globalImplicit := by kernel_rfl
theorem du7_ev (P : Params) (p : Nat × Nat) : ev (nmOf [key "a", key "b"] liGlo [(key "a", pvC p.1), (key "b", pvC p.2)]) noAtt fuel (du7a P).elt = some (.bool (gBehind p), []) := by kernel_rfl
theorem du7_e (P : Params) : (du7 P).e = .UnaryOp .Not (allE (du7a P)) (notOf (du7 P).e).2 := by kernel_rfl

noncomputable def du8 (P : Params) := asOf ((duB P)[8]?)
noncomputable def du8a (P : Params) := allOf (notOf (du8 P).e).1
theorem du8_s (P : Params) : (duB P)[8]? = some (asS (du8 P)) := by kernel_rfl
theorem du8_sc (P : Params) : scopeB (du8a P).scope [Str.ofString "c"] = true := by kernel_rfl
theorem du8_cl (P : Params) (L : Addr) : closureFor (du8a P).scope (duEnv P L) = pure [] := by kernel_rfl
theorem du8_lo (P : Params) (L : Addr) : locB (relabel (du8a P).scope (duEnv P L)) [key "c"] = true := by kernel_rfl
theorem du8_fs (P : Params) (L : Addr) (x : Value) : foldedSetIterable (du8a P).iter (duEnv P L) x = pure x := by kernel_rfl
theorem du8_all (P : Params) (σ : Sto) : duNm σ (du8a P).f = some (.val (.builtin "all")) := by kernel_rfl
theorem du8_x (P : Params) (L : Addr) : (duEnv P L).kindOf (du8 P).x = some .local := by kernel_rfl
theorem du8_sw (P : Params) (L : Addr) : swapsWith (du8 P).e (some (.Name (du8 P).x (du8 P).px)) (du8 P).ap.line (duEnv P L) = pure false := by kernel_rfl
noncomputable def du8p (P : Params) : Pos := match (du8a P).tgt with | .Name _ p => p | _ => default
theorem du8_t (P : Params) : (du8a P).tgt = .Name "c" (du8p P) := by kernel_rfl
theorem du8_k (P : Params) (L C : Addr) : (compEnvC (du8a P).scope [] C (duEnv P L)).kindOf ⟨dk_LINES.toArray⟩ = some .globalImplicit := by kernel_rfl
theorem du8_ev (P : Params) (c : Nat) : ev (nmOf [key "c"] liGlo [(key "c", pvC c)]) noAtt fuel (du8a P).elt = some (.bool (gLoose c), []) := by kernel_rfl
theorem du8_e (P : Params) : (du8 P).e = .UnaryOp .Not (allE (du8a P)) (notOf (du8 P).e).2 := by kernel_rfl

noncomputable def du10 (P : Params) := asOf ((duB P)[10]?)
noncomputable def du10a (P : Params) := allOf (notOf ((orOf (du10 P).e).1.getD 1 default)).1
theorem du10_s (P : Params) : (duB P)[10]? = some (asS (du10 P)) := by kernel_rfl
theorem du10_sc (P : Params) : scopeB (du10a P).scope [Str.ofString "w"] = true := by kernel_rfl
theorem du10_cl (P : Params) (L : Addr) : closureFor (du10a P).scope (duEnv P L) = pure [] := by kernel_rfl
theorem du10_lo (P : Params) (L : Addr) : locB (relabel (du10a P).scope (duEnv P L)) [key "w"] = true := by kernel_rfl
theorem du10_fs (P : Params) (L : Addr) (x : Value) : foldedSetIterable (du10a P).iter (duEnv P L) x = pure x := by kernel_rfl
theorem du10_all (P : Params) (σ : Sto) : duNm σ (du10a P).f = some (.val (.builtin "all")) := by kernel_rfl
theorem du10_x (P : Params) (L : Addr) : (duEnv P L).kindOf (du10 P).x = some .local := by kernel_rfl
theorem du10_sw (P : Params) (L : Addr) : swapsWith (du10 P).e (some (.Name (du10 P).x (du10 P).px)) (du10 P).ap.line (duEnv P L) = pure false := by kernel_rfl
noncomputable def du10p (P : Params) : Pos := match (du10a P).tgt with | .Name _ p => p | _ => default
theorem du10_t (P : Params) : (du10a P).tgt = .Name "w" (du10p P) := by kernel_rfl
theorem du10_ev (P : Params) (x : Str) : ev (nmOf [key "w"] [] [(key "w", .str x)]) noAtt fuel (du10a P).elt = some (.bool (gWord x), []) := by kernel_rfl
theorem du10_e (P : Params) : (du10 P).e = .BoolOp .Or [(orOf (du10 P).e).1.getD 0 default, .UnaryOp .Not (allE (du10a P)) (notOf ((orOf (du10 P).e).1.getD 1 default)).2] (orOf (du10 P).e).2 := by kernel_rfl

noncomputable def du11 (P : Params) := asOf ((duB P)[11]?)
noncomputable def du11a (P : Params) := allOf (notOf ((orOf (du11 P).e).1.getD 1 default)).1
theorem du11_s (P : Params) : (duB P)[11]? = some (asS (du11 P)) := by kernel_rfl
theorem du11_sc (P : Params) : scopeB (du11a P).scope [Str.ofString "c"] = true := by kernel_rfl
theorem du11_cl (P : Params) (L : Addr) : closureFor (du11a P).scope (duEnv P L) = pure [] := by kernel_rfl
theorem du11_lo (P : Params) (L : Addr) : locB (relabel (du11a P).scope (duEnv P L)) [key "c"] = true := by kernel_rfl
theorem du11_fs (P : Params) (L : Addr) (x : Value) : foldedSetIterable (du11a P).iter (duEnv P L) x = pure x := by kernel_rfl
theorem du11_all (P : Params) (σ : Sto) : duNm σ (du11a P).f = some (.val (.builtin "all")) := by kernel_rfl
theorem du11_x (P : Params) (L : Addr) : (duEnv P L).kindOf (du11 P).x = some .local := by kernel_rfl
theorem du11_sw (P : Params) (L : Addr) : swapsWith (du11 P).e (some (.Name (du11 P).x (du11 P).px)) (du11 P).ap.line (duEnv P L) = pure false := by kernel_rfl
noncomputable def du11p (P : Params) : Pos := match (du11a P).tgt with | .Name _ p => p | _ => default
theorem du11_t (P : Params) : (du11a P).tgt = .Name "c" (du11p P) := by kernel_rfl
theorem du11_ev (P : Params) (c : Nat) : ev (nmOf [key "c"] [] [(key "c", pvC c)]) noAtt fuel (du11a P).elt = some (.bool (gFlow c), []) := by kernel_rfl
theorem du11_e (P : Params) : (du11 P).e = .BoolOp .Or [(orOf (du11 P).e).1.getD 0 default, .UnaryOp .Not (allE (du11a P)) (notOf ((orOf (du11 P).e).1.getD 1 default)).2] (orOf (du11 P).e).2 := by kernel_rfl
end Mine

namespace Mine
open PySem PySem.W PySem.Calls PyProof.Rows

noncomputable def evL (f : PySem.Expr → Option (PV × List Bool)) : List PySem.Expr → Option (List PV × List Bool)
  | [] => some ([], [])
  | e :: r => match f e, evL f r with
    | some (p, o), some (ps, o') => some (p :: ps, o ++ o')
    | _, _ => Option.none
noncomputable def IsV : List PV → List Value → Prop
  | [], [] => True
  | p :: ps, v :: vs => p.Is v ∧ IsV ps vs
  | _, _ => False
theorem isV_len : ∀ {ps : List PV} {vs : List Value}, IsV ps vs → vs.length = ps.length
  | [], [], _ => rfl
  | _ :: _, _ :: _, h => by simp [isV_len h.2]
  | [], _ :: _, h => h.elim
  | _ :: _, [], h => h.elim

section
variable {prog : Program} {w : World} {A : Around} {E : Value → Shared → Prop} {env : Env} {s s₀ : Shared} {h₀ : Heap} {L : Addr} {news : List (Addr × Obj)}
theorem evL_sound {nm : Str → Option PV} {att : Addr → Str → Option (PV × List Bool)} {n : Nat} {pos : Pos} (hn : NmOk prog w A E env s nm) (ha : AttOk prog w A E s att) : ∀ (es : List PySem.Expr) (ps : List PV) (o : List Bool), evL (ev nm att n) es = some (ps, o) → AllT o → ∀ s₁, Keeps s s₁ → ∀ (Q : List Value → Shared → Prop),
    (∀ vs s', IsV ps vs → Keeps s s' → Q vs s') → wpAny (model prog w) A (spliced (backTo pos (starEach es env))) Q E s₁
  | [], ps, o, h, ho, s₁, k₁, Q, k => by cases h; exact args_nil (k [] s₁ trivial k₁)
  | e :: r, ps, o, h, ho, s₁, k₁, Q, k => by
    unfold evL at h
    split at h
    · rename_i p o1 ps' o2 h1 h2
      cases h
      exact args_cons (ev_sound hn ha n e _ h1 ho.left s₁ k₁ _ fun v s₂ hv k₂ => evL_sound hn ha r ps' o2 h2 ho.right s₂ k₂ _ fun vs s' hvs k' => k (v :: vs) s' ⟨hv, hvs⟩ k') (star_plain h1)
    · cases h
noncomputable abbrev tupObj (vals : List Value) : Obj := { cls := .type "tuple", data := .seq vals.toArray }
/-- return of a tuple -/
theorem ret_tup {loc : List (List Nat)} {γ σ : Sto} {att : Addr → Str → Option (PV × List Bool)} {es : List PySem.Expr} {kk : Nat} {p rp : Pos} {ps : List PV} {o : List Bool} {Q : Flow → Shared → Prop} (fo : FrOk env L) (lo : LocOk env loc) (go : GloOk prog w A E env h₀ L news loc γ) (ao : AttH prog w A E h₀ L news att)
    (hs : At h₀ L news s₀ σ s) (he : evL (ev (nmOf loc γ σ) att fuel) es = some (ps, o)) (ho : AllT o) (hsz : ps.length ≤ sizeLine)
    (fin : ∀ T vals h' tk' m', Fr h₀ L h' m' → News h₀ L h' ((T, tupObj vals) :: news) → IsV ps vals → Q (.ret (.ref T)) { s₀ with heap := h', toks := tk' }) :
    wpAny (model prog w) A (execs [.Return (some (.Tuple es kk p)) rp] env) Q E s := by
  refine wpAny_execs_cons (wpAny_Return_some (Tuple_ (evL_sound (nmOk fo lo go hs) (attOk ao hs) _ _ _ he ho s (keeps_refl _) _ fun vs s' hvs k' => ?_)))
  obtain ⟨g, tk, m, rfl, F, N, R⟩ := hs.keeps k'
  exact newTuple_N F N (fun h' F' N' => fin _ vs h' tk m F' N' hvs) (by rw [isV_len hvs]; exact hsz)

theorem cut_at {l : List Stmt} {i : Nat} {st : Stmt} (h : l[i]? = some st) : l.drop i = st :: l.drop (i + 1) := by
  obtain ⟨hi, e⟩ := List.getElem?_eq_some_iff.mp h
  rw [← e]; exact List.drop_eq_getElem_cons hi
theorem step_at {l : List Stmt} {i : Nat} {st : Stmt} {Q : Flow → Shared → Prop} (h : l[i]? = some st) (hx : wpAny (model prog w) A (exec st env) (fun f s' => match f with | .next => wpAny (model prog w) A (execs (l.drop (i + 1)) env) Q E s' | f => Q f s') E s) : wpAny (model prog w) A (execs (l.drop i) env) Q E s := execs_cut (cut_at h) hx
theorem step_B {l : List Stmt} {i : Nat} {p : AsP} {σ σ' : Sto} {b : Bool} {Q : Flow → Shared → Prop} (h : l[i]? = some (asS p)) (fo : FrOk env L) (hx : env.kindOf p.x = some .local) (hs : At h₀ L news s₀ σ s) (he : EvB prog w A E env s p.e b)
    (hsw : swapsWith p.e (some (.Name p.x p.px)) p.ap.line env = pure false) (hp : put σ (key p.x) (.bool b) = σ') (k : ∀ s', At h₀ L news s₀ σ' s' → wpAny (model prog w) A (execs (l.drop (i + 1)) env) Q E s') : wpAny (model prog w) A (execs (l.drop i) env) Q E s :=
  step_at h (assign_B fo hx hs he hsw fun s' hs' => k s' (by rw [← hp]; exact hs'))
theorem WordsIn.mono {news news' : List (Addr × Obj)} {aw : Addr} {ws : List Str} (h : ∀ p ∈ news, p ∈ news') (x : WordsIn news aw ws) : WordsIn news' aw ws := fun h₀ L h' N => x h₀ L h' fun p hp => N p (h p hp)
end

/-! the other statements of _law_due -/
structure WB where
  t : PySem.Expr
  e1 : PySem.Expr
  i1 : PySem.Expr
  i2 : PySem.Expr
  wn : Str
  cn : Str
  ps : List Pos
noncomputable def posAt (l : List Pos) (i : Nat) : Pos := l.getD i default
noncomputable def wbS (b : WB) : List Stmt := [.If b.t [.Expr (.Call (.Attribute (.Name b.wn (posAt b.ps 0)) "append" (posAt b.ps 1)) [b.e1] [] (posAt b.ps 2)) (posAt b.ps 3)] [.Assign [.Subscript (.Name b.wn (posAt b.ps 4)) b.i1 (posAt b.ps 5)] (.BinOp (.Subscript (.Name b.wn (posAt b.ps 6)) b.i2 (posAt b.ps 7)) .Add (.Name b.cn (posAt b.ps 8)) (posAt b.ps 9)) (posAt b.ps 10)] (posAt b.ps 11)]
noncomputable def wbOf : List Stmt → WB
  | [.If t [.Expr (.Call (.Attribute (.Name wn p0) _ p1) [e1] _ p2) p3] [.Assign [.Subscript (.Name _ p4) i1 p5] (.BinOp (.Subscript (.Name _ p6) i2 p7) _ (.Name cn p8) p9) p10] p11] => ⟨t, e1, i1, i2, wn, cn, [p0, p1, p2, p3, p4, p5, p6, p7, p8, p9, p10, p11]⟩
  | _ => ⟨default, default, default, default, default, default, []⟩
structure ForP where
  x : Str
  px : Pos
  it : Str
  ip : Pos
  body : List Stmt
  pos : Pos
noncomputable def forOf : Option Stmt → ForP
  | some (.For (.Name x px) (.Name it ip) body _ pos) => ⟨x, px, it, ip, body, pos⟩
  | _ => ⟨default, default, default, default, [], default⟩
noncomputable def forS (p : ForP) : Stmt := .For (.Name p.x p.px) (.Name p.it p.ip) p.body [] p.pos
noncomputable def tupOf : Option Stmt → List PySem.Expr × Nat × Pos × Pos
  | some (.Return (some (.Tuple es k p)) rp) => (es, k, p, rp)
  | _ => ([], 0, default, default)
noncomputable def tupS (t : List PySem.Expr × Nat × Pos × Pos) : Stmt := .Return (some (.Tuple t.1 t.2.1 t.2.2.1)) t.2.2.2

noncomputable def du0 (P : Params) := ifOf ((duB P)[0]?)
noncomputable def du0t (P : Params) := tupOf ((du0 P).2.1[0]?)
theorem du0_s (P : Params) : (duB P)[0]? = some (.If (du0 P).1 [tupS (du0t P)] [] (du0 P).2.2) := by kernel_rfl
theorem du0_test (P : Params) (v : Str) : tr (duNm (d0 v)) noAtt fuel (du0 P).1 = some (v.cps.toList == (Str.ofString "").cps.toList, []) := by kernel_rfl
theorem du0_ev (P : Params) (v : Str) : evL (ev (duNm (d0 v)) noAtt fuel) (du0t P).1 = some ([.str "", .bool true, .bool false, .bool false, .bool true, .bool true, .bool true, .bool false], []) := by kernel_rfl
noncomputable def du1 (P : Params) := asOf ((duB P)[1]?)
noncomputable def listOf1 : PySem.Expr → PySem.Expr × Pos
  | .List [e] p => (e, p)
  | _ => default
theorem du1_s (P : Params) : (duB P)[1]? = some (asS (du1 P)) := by kernel_rfl
theorem du1_e (P : Params) : (du1 P).e = .List [(listOf1 (du1 P).e).1] (listOf1 (du1 P).e).2 := by kernel_rfl
theorem du1_ev (P : Params) (v : Str) : ev (duNm (d0 v)) noAtt fuel (listOf1 (du1 P).e).1 = some (.str "", []) := by kernel_rfl
theorem du1_x (P : Params) (L : Addr) : (duEnv P L).kindOf (du1 P).x = some .local := by kernel_rfl
theorem du1_p (P : Params) (v : Str) (aw : Addr) : put (d0 v) (key (du1 P).x) (.val (.ref aw)) = d1 v aw := by kernel_rfl
noncomputable def du2 (P : Params) := forOf ((duB P)[2]?)
noncomputable def du2b (P : Params) := wbOf (du2 P).body
theorem du2_s (P : Params) : (duB P)[2]? = some (forS (du2 P)) := by kernel_rfl
theorem du2_b (P : Params) : (du2 P).body = wbS (du2b P) := by kernel_rfl
theorem du2_x (P : Params) (L : Addr) : (duEnv P L).kindOf (du2 P).x = some .local := by kernel_rfl
theorem du2_it (P : Params) (v : Str) (aw : Addr) : duNm (d1 v aw) (du2 P).it = some (.str v) := by kernel_rfl
noncomputable def d1c (v : Str) (aw : Addr) (c : Nat) : Sto := [(dk_value, .str v), (dk_words, .val (.ref aw)), (dk_c, pvC c)]
theorem du2_p (P : Params) (v : Str) (aw : Addr) (c : Nat) : put (d1 v aw) (key (du2 P).x) (pvC c) = d1c v aw c := by kernel_rfl
theorem du2_t (P : Params) (v : Str) (aw : Addr) (c : Nat) : tr (duNm (d1c v aw c)) noAtt fuel (du2b P).t = some (inS WS ⟨#[c]⟩, []) := by kernel_rfl
theorem du2_e1 (P : Params) (v : Str) (aw : Addr) (c : Nat) : ev (duNm (d1c v aw c)) noAtt fuel (du2b P).e1 = some (.str "", []) := by kernel_rfl
theorem du2_i1 (P : Params) (v : Str) (aw : Addr) (c : Nat) : ev (duNm (d1c v aw c)) noAtt fuel (du2b P).i1 = some (.int (-1), []) := by kernel_rfl
theorem du2_i2 (P : Params) (v : Str) (aw : Addr) (c : Nat) : ev (duNm (d1c v aw c)) noAtt fuel (du2b P).i2 = some (.int (-1), []) := by kernel_rfl
theorem du2_w (P : Params) (v : Str) (aw : Addr) (c : Nat) : duNm (d1c v aw c) (du2b P).wn = some (.val (.ref aw)) := by kernel_rfl
theorem du2_c (P : Params) (v : Str) (aw : Addr) (c : Nat) : duNm (d1c v aw c) (du2b P).cn = some (.str ⟨#[c]⟩) := by kernel_rfl
theorem du2_l (P : Params) : ((posAt (du2b P).ps 1).endLine == (posAt (du2b P).ps 2).line) = true := by kernel_rfl

structure PairP where
  y : Str
  zn : Str
  a : Str
  b : Str
  e1 : PySem.Expr
  e2 : PySem.Expr
  scope : Scope
  k1 : Nat
  kk : Nat
  ps : List Pos
noncomputable def pairOf : Option Stmt → PairP
  | some (.Assign [.Name y p0] (.ListComp (.Tuple [.Name a p1, .Name b p2] k1 p3) [⟨.Tuple [.Name _ p4, .Name _ p5] kk p6, .Call (.Name zn p7) [e1, e2] _ p8, _, _⟩] scope p9) p10) => ⟨y, zn, a, b, e1, e2, scope, k1, kk, [p0, p1, p2, p3, p4, p5, p6, p7, p8, p9, p10]⟩
  | _ => ⟨default, default, default, default, default, default, default, 0, 0, []⟩
noncomputable def pairL (p : PairP) : PySem.Expr := .ListComp (.Tuple [.Name p.a (posAt p.ps 1), .Name p.b (posAt p.ps 2)] p.k1 (posAt p.ps 3)) [⟨.Tuple [.Name p.a (posAt p.ps 4), .Name p.b (posAt p.ps 5)] p.kk (posAt p.ps 6), .Call (.Name p.zn (posAt p.ps 7)) [p.e1, p.e2] [] (posAt p.ps 8), [], 0⟩] p.scope (posAt p.ps 9)
noncomputable def pairS (p : PairP) : Stmt := .Assign [.Name p.y (posAt p.ps 0)] (pairL p) (posAt p.ps 10)
noncomputable def du3 (P : Params) := pairOf ((duB P)[3]?)
theorem du3_s (P : Params) : (duB P)[3]? = some (pairS (du3 P)) := by kernel_rfl
theorem du3_sw (P : Params) (L : Addr) : swapsWith (pairL (du3 P)) (some (.Name (du3 P).y (posAt (du3 P).ps 0))) (posAt (du3 P).ps 10).line (duEnv P L) = pure true := by kernel_rfl
theorem du3_sc (P : Params) : scopeB (du3 P).scope [(du3 P).a, (du3 P).b] = true := by kernel_rfl
theorem du3_cl (P : Params) (L : Addr) : closureFor (du3 P).scope (duEnv P L) = pure [] := by kernel_rfl
theorem du3_ab (P : Params) : decide ((du3 P).a = (du3 P).b) = false := by kernel_rfl
theorem du3_x (P : Params) (L : Addr) : (duEnv P L).kindOf (du3 P).y = some .local := by kernel_rfl
theorem du3_da (P : Params) : ((du3 P).a == ("__debug__" : Str)) = false := by kernel_rfl
theorem du3_db (P : Params) : ((du3 P).b == ("__debug__" : Str)) = false := by kernel_rfl
theorem du3_z (P : Params) (σ : Sto) : duNm σ (du3 P).zn = some (.val (.type "zip")) := by kernel_rfl
theorem du3_e1 (P : Params) (v : Str) (aw : Addr) : ev (duNm (d1 v aw)) noAtt fuel (du3 P).e1 = some (.str v, []) := by kernel_rfl
theorem du3_e2 (P : Params) (v : Str) (aw : Addr) : ev (duNm (d1 v aw)) noAtt fuel (du3 P).e2 = some (.str (Txt.slice v (some 1) Option.none), []) := by kernel_rfl
theorem du3_p (P : Params) (v : Str) (aw ap : Addr) : put (d1 v aw) (key (du3 P).y) (.val (.ref ap)) = d3 v aw ap [] := by kernel_rfl

noncomputable def du9 (P : Params) := asOf ((duB P)[9]?)
structure HeadP where
  e1 : PySem.Expr
  wn : Str
  i : PySem.Expr
  l3 : PySem.Expr
  ks : List Nat
  ps : List Pos
noncomputable def headOf : PySem.Expr → HeadP
  | .BoolOp _ [e1, .Compare (.Subscript (.Name wn p0) i p1) _ [.List [.Constant _ k1 p2, .Constant _ k2 p3] p4] p5, .Compare l3 _ [.List [.Constant _ k3 p6, .Constant _ k4 p7] p8] p9] p10 => ⟨e1, wn, i, l3, [k1, k2, k3, k4], [p0, p1, p2, p3, p4, p5, p6, p7, p8, p9, p10]⟩
  | _ => ⟨default, default, default, default, [], []⟩
noncomputable def headE (h : HeadP) : PySem.Expr := .BoolOp .Or [h.e1, .Compare (.Subscript (.Name h.wn (posAt h.ps 0)) h.i (posAt h.ps 1)) [.In] [.List [.Constant (.str "-") (h.ks.getD 0 0) (posAt h.ps 2), .Constant (.str "?") (h.ks.getD 1 0) (posAt h.ps 3)] (posAt h.ps 4)] (posAt h.ps 5), .Compare h.l3 [.In] [.List [.Constant (.str "---") (h.ks.getD 2 0) (posAt h.ps 6), .Constant (.str "...") (h.ks.getD 3 0) (posAt h.ps 7)] (posAt h.ps 8)] (posAt h.ps 9)] (posAt h.ps 10)
noncomputable def du9h (P : Params) := headOf (du9 P).e
theorem du9_s (P : Params) : (duB P)[9]? = some (asS (du9 P)) := by kernel_rfl
theorem du9_e (P : Params) : (du9 P).e = headE (du9h P) := by kernel_rfl
theorem du9_e1 (P : Params) (v : Str) (aw ap : Addr) (bs : Sto) : ev (duNm (d3 v aw ap bs)) noAtt fuel (du9h P).e1 = some (.bool (inS HEADS (charAt v 0)), [itemOk v 0]) := by kernel_rfl
theorem du9_i (P : Params) (v : Str) (aw ap : Addr) (bs : Sto) : ev (duNm (d3 v aw ap bs)) noAtt fuel (du9h P).i = some (.int 0, []) := by kernel_rfl
theorem du9_w (P : Params) (v : Str) (aw ap : Addr) (bs : Sto) : duNm (d3 v aw ap bs) (du9h P).wn = some (.val (.ref aw)) := by kernel_rfl
theorem du9_l3 (P : Params) (v : Str) (aw ap : Addr) (bs : Sto) : ev (duNm (d3 v aw ap bs)) noAtt fuel (du9h P).l3 = some (.str (Txt.slice v Option.none (some 3)), []) := by kernel_rfl
theorem du9_x (P : Params) (L : Addr) : (duEnv P L).kindOf (du9 P).x = some .local := by kernel_rfl
theorem du9_sw (P : Params) (L : Addr) : swapsWith (du9 P).e (some (.Name (du9 P).x (du9 P).px)) (du9 P).ap.line (duEnv P L) = pure false := by kernel_rfl

/-- the iterables of the comprehensions -/
theorem du4_it (P : Params) (v : Str) (aw ap : Addr) (bs : Sto) : ev (duNm (d3 v aw ap bs)) noAtt fuel (du4a P).iter = some (.str v, []) := by kernel_rfl
theorem du5_it (P : Params) (v : Str) (aw ap : Addr) (bs : Sto) : ev (duNm (d3 v aw ap bs)) noAtt fuel (du5a P).iter = some (.str v, []) := by kernel_rfl
theorem du8_it (P : Params) (v : Str) (aw ap : Addr) (bs : Sto) : ev (duNm (d3 v aw ap bs)) noAtt fuel (du8a P).iter = some (.str (charAt v 0 ++ charAt v (-1)), [itemOk v 0, itemOk v (-1), small (charAt v 0 ++ charAt v (-1))]) := by kernel_rfl
theorem du11_it (P : Params) (v : Str) (aw ap : Addr) (bs : Sto) : ev (duNm (d3 v aw ap bs)) noAtt fuel (du11a P).iter = some (.str v, []) := by kernel_rfl
noncomputable def nameOf : PySem.Expr → Str × Pos
  | .Name x p => (x, p)
  | _ => default
theorem du6_it (P : Params) : (du6a P).iter = .Name (nameOf (du6a P).iter).1 (nameOf (du6a P).iter).2 := by kernel_rfl
theorem du7_it (P : Params) : (du7a P).iter = .Name (nameOf (du7a P).iter).1 (nameOf (du7a P).iter).2 := by kernel_rfl
theorem du10_it (P : Params) : (du10a P).iter = .Name (nameOf (du10a P).iter).1 (nameOf (du10a P).iter).2 := by kernel_rfl
theorem du6_in (P : Params) (v : Str) (aw ap : Addr) (bs : Sto) : duNm (d3 v aw ap bs) (nameOf (du6a P).iter).1 = some (.val (.ref ap)) := by kernel_rfl
theorem du7_in (P : Params) (v : Str) (aw ap : Addr) (bs : Sto) : duNm (d3 v aw ap bs) (nameOf (du7a P).iter).1 = some (.val (.ref ap)) := by kernel_rfl
theorem du10_in (P : Params) (v : Str) (aw ap : Addr) (bs : Sto) : duNm (d3 v aw ap bs) (nameOf (du10a P).iter).1 = some (.val (.ref aw)) := by kernel_rfl

/-! the store, statement by statement -/
noncomputable def b1 (l : Bool) : Sto := [(dk_lines, .bool l)]
noncomputable def b2 (l s : Bool) : Sto := [(dk_lines, .bool l), (dk_strange, .bool s)]
noncomputable def b3 (l s a : Bool) : Sto := [(dk_lines, .bool l), (dk_strange, .bool s), (dk_ahead, .bool a)]
noncomputable def b4 (l s a b : Bool) : Sto := [(dk_lines, .bool l), (dk_strange, .bool s), (dk_ahead, .bool a), (dk_behind, .bool b)]
noncomputable def b5 (l s a b o : Bool) : Sto := [(dk_lines, .bool l), (dk_strange, .bool s), (dk_ahead, .bool a), (dk_behind, .bool b), (dk_loose, .bool o)]
noncomputable def b6 (l s a b o h : Bool) : Sto := [(dk_lines, .bool l), (dk_strange, .bool s), (dk_ahead, .bool a), (dk_behind, .bool b), (dk_loose, .bool o), (dk_head, .bool h)]
noncomputable def b7 (l s a b o h k : Bool) : Sto := [(dk_lines, .bool l), (dk_strange, .bool s), (dk_ahead, .bool a), (dk_behind, .bool b), (dk_loose, .bool o), (dk_head, .bool h), (dk_marked, .bool k)]
noncomputable def b8 (l s a b o h k f : Bool) : Sto := [(dk_lines, .bool l), (dk_strange, .bool s), (dk_ahead, .bool a), (dk_behind, .bool b), (dk_loose, .bool o), (dk_head, .bool h), (dk_marked, .bool k), (dk_flowing, .bool f)]
noncomputable def b11 (l s a b o h k f p i e : Bool) : Sto := [(dk_lines, .bool l), (dk_strange, .bool s), (dk_ahead, .bool a), (dk_behind, .bool b), (dk_loose, .bool o), (dk_head, .bool h), (dk_marked, .bool k), (dk_flowing, .bool f), (dk_plain, .bool p), (dk_single, .bool i), (dk_block, .bool e)]
section
variable (P : Params) (v : Str) (aw ap : Addr) (l s a b o h k f p i e : Bool)
theorem du4_p : put (d3 v aw ap []) (key (du4 P).x) (.bool l) = d3 v aw ap (b1 l) := by kernel_rfl
theorem du5_p : put (d3 v aw ap (b1 l)) (key (du5 P).x) (.bool s) = d3 v aw ap (b2 l s) := by kernel_rfl
theorem du6_p : put (d3 v aw ap (b2 l s)) (key (du6 P).x) (.bool a) = d3 v aw ap (b3 l s a) := by kernel_rfl
theorem du7_p : put (d3 v aw ap (b3 l s a)) (key (du7 P).x) (.bool b) = d3 v aw ap (b4 l s a b) := by kernel_rfl
theorem du8_p : put (d3 v aw ap (b4 l s a b)) (key (du8 P).x) (.bool o) = d3 v aw ap (b5 l s a b o) := by kernel_rfl
theorem du9_p : put (d3 v aw ap (b5 l s a b o)) (key (du9 P).x) (.bool h) = d3 v aw ap (b6 l s a b o h) := by kernel_rfl
theorem du10_p : put (d3 v aw ap (b6 l s a b o h)) (key (du10 P).x) (.bool k) = d3 v aw ap (b7 l s a b o h k) := by kernel_rfl
theorem du11_p : put (d3 v aw ap (b7 l s a b o h k)) (key (du11 P).x) (.bool f) = d3 v aw ap (b8 l s a b o h k f) := by kernel_rfl
theorem du10_h : ev (duNm (d3 v aw ap (b6 l s a b o h))) noAtt fuel ((orOf (du10 P).e).1.getD 0 default) = some (.bool h, []) := by kernel_rfl
theorem du11_h : ev (duNm (d3 v aw ap (b7 l s a b o h k))) noAtt fuel ((orOf (du11 P).e).1.getD 0 default) = some (.bool k, []) := by kernel_rfl
noncomputable def plainF : Bool := !(bif l then l else bif s then s else bif a then a else bif b then b else o)
noncomputable def threeF : Bool := !(bif s then s else bif a then a else b)
theorem du12_run : runB duLoc duGlo noAtt (((duB P).drop 12).take 3) (d3 v aw ap (b8 l s a b o h k f)) = some (d3 v aw ap (b11 l s a b o h k f (plainF l s a b o) (threeF s a b) (threeF s a ((charAt v (-1)).cps.toList == (Str.ofString " ").cps.toList))), [(s || (a || itemOk v (-1)))]) := by kernel_rfl
noncomputable def du15 : List PySem.Expr × Nat × Pos × Pos := tupOf ((duB P)[15]?)
theorem du15_s : (duB P).drop 12 = ((duB P).drop 12).take 3 ++ [tupS (du15 P)] := by kernel_rfl
theorem du15_ev : evL (ev (duNm (d3 v aw ap (b11 l s a b o h k f p i e))) noAtt fuel) (du15 P).1 = some ([.str v, .bool false, .bool l, .bool (bif p then !f else p), .bool (bif p then !k else p), .bool i, .bool true, .bool e], []) := by kernel_rfl
end
end Mine

namespace Mine
open PySem PySem.W PySem.Calls PyProof.Rows

/-! what _law_due computes -/
noncomputable def psOf (v : Str) : List (Nat × Nat) := v.cps.toList.zip (Txt.slice v (some 1) Option.none).cps.toList
noncomputable def linesF (v : Str) : Bool := !(v.cps.toList.all gLine)
noncomputable def strangeF (v : Str) (wide : Bool) : Bool := !(v.cps.toList.all (standsF wide))
noncomputable def aheadF (v : Str) : Bool := !((psOf v).all gAhead)
noncomputable def behindF (v : Str) : Bool := !((psOf v).all gBehind)
noncomputable def looseF (v : Str) : Bool := !((charAt v 0 ++ charAt v (-1)).cps.toList.all gLoose)
noncomputable def headF (v : Str) : Bool := inS HEADS (charAt v 0) || ([Str.ofString "-", Str.ofString "?"].any (· == (wordsF v.cps.toList).getD 0 ("" : Str)) || [Str.ofString "---", Str.ofString "..."].any (· == Txt.slice v Option.none (some 3)))
noncomputable def markedF (v : Str) : Bool := headF v || !((wordsF v.cps.toList).all gWord)
noncomputable def flowingF (v : Str) : Bool := markedF v || !(v.cps.toList.all gFlow)
noncomputable def pF (v : Str) (wide : Bool) : Bool := plainF (linesF v) (strangeF v wide) (aheadF v) (behindF v) (looseF v)
noncomputable def iF (v : Str) (wide : Bool) : Bool := threeF (strangeF v wide) (aheadF v) (behindF v)
noncomputable def eF (v : Str) (wide : Bool) : Bool := threeF (strangeF v wide) (aheadF v) ((charAt v (-1)).cps.toList == (Str.ofString " ").cps.toList)
noncomputable def dueF (v : Str) (wide : Bool) : List PV :=
  bif v.cps.toList == (Str.ofString "").cps.toList then [.str "", .bool true, .bool false, .bool false, .bool true, .bool true, .bool true, .bool false]
  else [.str v, .bool false, .bool (linesF v), .bool (bif pF v wide then !flowingF v else pF v wide), .bool (bif pF v wide then !markedF v else pF v wide), .bool (iF v wide), .bool true, .bool (eF v wide)]

section
variable {w : World} {p : Program} {loose : List Str} {mean : ExcName → Option Value} {mg mb : Str → Option Value} {A A₀ : Around} {outer : List Env} {base h₀ : Heap} {L : Addr} {news : List (Addr × Obj)} {s s₀ : Shared} {E : Value → Shared → Prop}

theorem du_glo {E : Value → Shared → Prop} {n : List (Addr × Obj)} (X : (KK w.params).In h₀) (T : Top p loose mean mg mb h₀) : GloOk PRG w A E (duEnv w.params L) h₀ L n duLoc duGlo := by
  refine gloOk_cons (fun s m F N pos Q k => ?_) (gloOk_cons (fun s m F N pos Q k => ?_) gloOk_nil)
  · exact nameX_B (cl := cellsFrom (L + 1) (fdAt (KK w.params) 788).scope.names []) F X (topRead_of T) (by kernel_rfl) (by decide +kernel) (by decide) (k _ rfl) (by kernel_rfl) (by kernel_rfl) (by decide +kernel)
  · exact nameX_B (cl := cellsFrom (L + 1) (fdAt (KK w.params) 788).scope.names []) F X (topRead_of T) (by kernel_rfl) (by decide +kernel) (by decide) (k _ rfl) (by kernel_rfl) (by kernel_rfl) (by decide +kernel)
theorem du_fo (P : Params) (L : Addr) : FrOk (duEnv P L) L := ⟨(du_fn P).kind, rfl⟩
theorem du_lo (P : Params) (L : Addr) : LocOk (duEnv P L) duLoc := locOk_of rfl (du_loc P L)

/-- _law_LINES, read in a comprehension -/
theorem li_glo {env : Env} {scope : Scope} {C : Addr} {σ : Sto} {E' : Value → Shared → Prop} (X : (KK w.params).In h₀) (T : Top p loose mean mg mb h₀) (hs : At h₀ L news s₀ σ s) (hg : env.globals = mainGlobals) (hk : scope.kind = .function) (hx : (compEnvC scope [] C env).kindOf ⟨dk_LINES.toArray⟩ = some .globalImplicit) :
    GloC PRG w A E' (compEnvC scope [] C env) s liGlo := by
  refine gloC_cons (fun s' hk' pos Q k => ?_) gloC_nil
  obtain ⟨g, tk, m, rfl, F, N, R⟩ := hs
  exact nameG_K (F.keeps hk') X (topRead_of T) (du_lines w.params) (k _ ⟨by decide +kernel, _, rfl⟩) hg hk hx (by decide +kernel)

/-- _law_stands(c, wide), in a comprehension -/
theorem stand_elt {env : Env} {scope : Scope} {cl : List (Str × Addr)} {C cw : Addr} {E' : Value → Shared → Prop} {sn cn wn : Str} {sp cp wp pos : Pos} {a : Nat} {u : Value} {wide : Bool} {s₃ : Shared} {m₃ : Str → Option Value} {oc : Obj} {σ : Sto}
    (B : Below A₀ base outer h₀) (X : (KK w.params).In h₀) (T : Top p loose mean mg mb h₀) (hA : A.frames = some (env :: outer)) (hf : env.frame = some L) (hke : env.scope.kind = .function) (hd : A.depth < recursionLimit)
    (hs : At h₀ L news s₀ σ s) (hc : (cw, oc) ∈ news) (hcd : oc.data = .cell (some (.bool wide))) (hg : env.globals = mainGlobals) (hk : scope.kind = .function)
    (ks : (compEnvC scope cl C env).kindOf sn = some .globalImplicit) (ns : nsIn (KK w.params) mainGlobals sn = some (some (.ref 783))) (kc : (compEnvC scope cl C env).kindOf cn = some .local) (kw : (compEnvC scope cl C env).kindOf wn = some .cell) (hcl : cl.lookup wn = some cw)
    (ds : (sn == ("__debug__" : Str)) = false) (dc : (cn == ("__debug__" : Str)) = false) (dw : (wn == ("__debug__" : Str)) = false)
    (hu : (pvC a).Is u) (hn : s₃.heap.Ns C m₃) (hm : m₃ cn = some u) (hkp : KeepH s.heap s₃.heap) :
    wpAny (model PRG w) A (eval (.Call (.Name sn sp) [.Name cn cp, .Name wn wp] [] pos) (compEnvC scope cl C env)) (fun r s₄ => r = .bool (standsF wide a) ∧ Keeps s₃ s₄) E' s₃ := by
  obtain ⟨g, tk, m, rfl, F, N, R⟩ := hs
  have F3 : Fr h₀ L s₃.heap m := F.keeps hkp
  have X3 : (KK w.params).In s₃.heap := X.keeps F3.keep
  obtain ⟨_, t, rfl⟩ := hu
  refine Call_Name (trees := backTo pos (starEach [.Name cn cp, .Name wn wp] (compEnvC scope cl C env))) rfl (nameG_K F3 X (topRead_of T) ns ?_ hg hk ks ds)
  refine callWith_K (first := []) X (by kernel_rfl) (args_cons (wpAny_Name (wpAny_loadName_local (env := compEnvC scope cl C env) hk kc hn hm (args_cons (wpAny_Name (wpAny_loadName_cell (env := compEnvC scope cl C env) hk kw hcl ⟨oc, hkp _ _ (N _ hc).1, hcd⟩ (args_nil ⟨X3, ?_⟩)) dw) rfl)) dc) rfl)
  exact sd_ok B F3 X T hA hf hke hd fun s' k' => ⟨rfl, k'⟩

structure DuCtx (w : World) (p : Program) (loose : List Str) (mean : ExcName → Option Value) (mg mb : Str → Option Value) (A A₀ : Around) (outer : List Env) (base h₀ : Heap) (L : Addr) : Prop where
  B : Below A₀ base outer h₀
  X : (KK w.params).In h₀
  T : Top p loose mean mg mb h₀
  frames : A.frames = some (duEnv w.params L :: outer)
  room : A.depth < recursionLimit
  handled : A.handled = Option.none

noncomputable def du5s (P : Params) : (Str × Pos) × (Str × Pos) × (Str × Pos) × Pos := match (du5a P).elt with
  | .Call (.Name sn sp) [.Name cn cp, .Name wn wp] _ pos => ((sn, sp), (cn, cp), (wn, wp), pos)
  | _ => default
theorem du5_el (P : Params) : (du5a P).elt = .Call (.Name (du5s P).1.1 (du5s P).1.2) [.Name (du5s P).2.1.1 (du5s P).2.1.2, .Name (du5s P).2.2.1.1 (du5s P).2.2.1.2] [] (du5s P).2.2.2 := by kernel_rfl
theorem du5_kk (P : Params) (L C : Addr) : (compEnvC (du5a P).scope [(Str.ofString "wide", L + 1)] C (duEnv P L)).kindOf (du5s P).1.1 = some .globalImplicit ∧ nsIn (KK P) mainGlobals (du5s P).1.1 = some (some (.ref 783)) ∧ (compEnvC (du5a P).scope [(Str.ofString "wide", L + 1)] C (duEnv P L)).kindOf (Str.ofString "c") = some .local ∧
    (compEnvC (du5a P).scope [(Str.ofString "wide", L + 1)] C (duEnv P L)).kindOf (du5s P).2.2.1.1 = some .cell ∧ [(Str.ofString "wide", L + 1)].lookup (du5s P).2.2.1.1 = some (L + 1) ∧ (du5s P).2.1.1 = Str.ofString "c" ∧ ((du5s P).1.1 == ("__debug__" : Str)) = false ∧ ((du5s P).2.2.1.1 == ("__debug__" : Str)) = false := ⟨by kernel_rfl, by kernel_rfl, by kernel_rfl, by kernel_rfl, by kernel_rfl, by kernel_rfl, by kernel_rfl, by kernel_rfl⟩

theorem all_stand {env : Env} {v : Str} {wide : Bool} {q : AllP} {x sn cn wn : Str} {px sp cp wp pos : Pos} {cl : List (Str × Addr)} {nm : Str → Option PV} {n : Nat} {oc : Obj} {cw : Addr} {σ : Sto} (htgt : q.tgt = .Name x px) (hel : q.elt = .Call (.Name sn sp) [.Name cn cp, .Name wn wp] [] pos) (hcn : cn = x)
    (hsc : scopeB q.scope [x] = true) (hclos : closureFor q.scope env = pure cl) (hfs : ∀ x, foldedSetIterable q.iter env x = pure x)
    (hh : A.handled = Option.none) (hnm : NmOk PRG w A E env s nm) (hall : nm q.f = some (.val (.builtin "all"))) (hit : ev nm noAtt n q.iter = some (.str v, []))
    (B : Below A₀ base outer h₀) (X : (KK w.params).In h₀) (T : Top p loose mean mg mb h₀) (hA : A.frames = some (env :: outer)) (hf : env.frame = some L) (hke : env.scope.kind = .function) (hd : A.depth < recursionLimit)
    (hs : At h₀ L news s₀ σ s) (hc : (cw, oc) ∈ news) (hcd : oc.data = .cell (some (.bool wide))) (hg : env.globals = mainGlobals)
    (ks : ∀ C, (compEnvC q.scope cl C env).kindOf sn = some .globalImplicit) (ns : nsIn (KK w.params) mainGlobals sn = some (some (.ref 783))) (kc : ∀ C, (compEnvC q.scope cl C env).kindOf x = some .local) (kw : ∀ C, (compEnvC q.scope cl C env).kindOf wn = some .cell) (hcl : cl.lookup wn = some cw)
    (ds : (sn == ("__debug__" : Str)) = false) (dc : (x == ("__debug__" : Str)) = false) (dw : (wn == ("__debug__" : Str)) = false) : EvB PRG w A E env s (allE q) (v.cps.toList.all (standsF wide)) := by
  obtain ⟨f, fp, elt, tgt, iter, scope, lp, cpos⟩ := q
  dsimp only at htgt hel hsc hclos hfs hall hit ks kc kw
  subst htgt hel hcn
  obtain ⟨h1, h2, h3, h4⟩ := scope_of hsc
  exact evB_all (R := fun c v => (pvC c).Is v) (g := standsF wide) hh (fun s₁ k₁ Q hQ => hnm f _ hall s₁ k₁ _ _ fun v hv => by cases hv; exact hQ) hclos h1 h2 h3 (h4 _ (.head _)) hfs (fun _ _ _ => pvC_inj)
    (src_ev_str hh hnm hit allT_nil) fun C a u s₃ m₃ E' _ hu hn hm hkp => stand_elt (a := a) (u := u) B X T hA hf hke hd hs hc hcd hg h2 (ks C) ns (kc C) (kw C) hcl ds dc dw hu hn hm hkp

theorem du_strange {v : Str} {wide : Bool} {aw ap : Addr} {bs : Sto} {oc : Obj} (c : DuCtx w p loose mean mg mb A A₀ outer base h₀ L) (hc : (L + 1, oc) ∈ news) (hcd : oc.data = .cell (some (.bool wide))) (hs : At h₀ L news s₀ (d3 v aw ap bs) s) :
    EvB PRG w A E (duEnv w.params L) s (allE (du5a w.params)) (v.cps.toList.all (standsF wide)) :=
  all_stand (px := du5p w.params) (nm := duNm (d3 v aw ap bs)) (n := fuel) (du5_t w.params) (du5_el w.params) (du5_kk w.params L 0).2.2.2.2.2.1 (du5_sc w.params) (du5_cl w.params L) (du5_fs w.params L) c.handled
    (nmOk (E := E) (du_fo w.params L) (du_lo w.params L) (du_glo (A := A) c.X c.T) hs) (du5_all w.params _) (du5_it w.params v aw ap bs)
    c.B c.X c.T c.frames rfl (du_fn w.params).kind c.room hs hc hcd rfl (fun C => (du5_kk w.params L C).1) (du5_kk w.params L 0).2.1 (fun C => (du5_kk w.params L C).2.2.1) (fun C => (du5_kk w.params L C).2.2.2.1) (du5_kk w.params L 0).2.2.2.2.1
    (du5_kk w.params L 0).2.2.2.2.2.2.1 (by decide +kernel) (du5_kk w.params L 0).2.2.2.2.2.2.2
end
end Mine

namespace Mine
open PySem PySem.W PySem.Calls PyProof.Rows

section
variable {w : World} {p : Program} {loose : List Str} {mean : ExcName → Option Value} {mg mb : Str → Option Value} {A A₀ : Around} {outer : List Env} {base h₀ : Heap} {L : Addr} {news : List (Addr × Obj)} {s s₀ : Shared} {E : Value → Shared → Prop}
variable {v : Str} {wide : Bool} {aw ap : Addr} {bs : Sto}

theorem du_nm (c : DuCtx w p loose mean mg mb A A₀ outer base h₀ L) {σ : Sto} (hs : At h₀ L news s₀ σ s) : NmOk PRG w A E (duEnv w.params L) s (duNm σ) := nmOk (du_fo w.params L) (du_lo w.params L) (du_glo (A := A) c.X c.T) hs
theorem du_a4 (c : DuCtx w p loose mean mg mb A A₀ outer base h₀ L) (hs : At h₀ L news s₀ (d3 v aw ap bs) s) : EvB PRG w A E (duEnv w.params L) s (allE (du4a w.params)) (v.cps.toList.all gLine) :=
  all_ev (pv := pvC) (du4_t w.params) (du4_sc w.params) (du4_cl w.params L) (du4_fs w.params L) c.handled (du_nm c hs) (du4_all w.params _) (fun _ _ _ => pvC_inj) (src_ev_str c.handled (du_nm c hs) (du4_it w.params v aw ap bs) allT_nil)
    (fun C _ => li_glo c.X c.T hs rfl (scope_of (du4_sc w.params)).2.1 (du4_k w.params L C)) (du4_lo w.params L) fun a _ => ⟨[], du4_ev w.params a, allT_nil⟩
theorem du_a6 (c : DuCtx w p loose mean mg mb A A₀ outer base h₀ L) (hs : At h₀ L news s₀ (d3 v aw ap bs) s) (hp : PairsIn news ap (psOf v)) (hsz : (psOf v).length ≤ sizeLine) : EvB PRG w A E (duEnv w.params L) s (allE (du6a w.params)) ((psOf v).all gAhead) :=
  all_ev2 (pv := fun p => pvC p.1) (pu := fun p => pvC p.2) (du6_t w.params) (du6_sc w.params) (by decide +kernel) (du6_cl w.params L) (du6_fs w.params L) c.handled (du_nm c hs) (du6_all w.params _) (by rw [du6_it]; exact src_pairsN c.handled (du_nm c hs) (du6_in w.params v aw ap bs) hs hp hsz)
    (fun C _ => li_glo c.X c.T hs rfl (scope_of (du6_sc w.params)).2.1 (du6_k w.params L C)) (du6_lo w.params L) fun a _ => ⟨[], du6_ev w.params a, allT_nil⟩
theorem du_a7 (c : DuCtx w p loose mean mg mb A A₀ outer base h₀ L) (hs : At h₀ L news s₀ (d3 v aw ap bs) s) (hp : PairsIn news ap (psOf v)) (hsz : (psOf v).length ≤ sizeLine) : EvB PRG w A E (duEnv w.params L) s (allE (du7a w.params)) ((psOf v).all gBehind) :=
  all_ev2 (pv := fun p => pvC p.1) (pu := fun p => pvC p.2) (du7_t w.params) (du7_sc w.params) (by decide +kernel) (du7_cl w.params L) (du7_fs w.params L) c.handled (du_nm c hs) (du7_all w.params _) (by rw [du7_it]; exact src_pairsN c.handled (du_nm c hs) (du7_in w.params v aw ap bs) hs hp hsz)
    (fun C _ => li_glo c.X c.T hs rfl (scope_of (du7_sc w.params)).2.1 (du7_k w.params L C)) (du7_lo w.params L) fun a _ => ⟨[], du7_ev w.params a, allT_nil⟩
theorem item_ok0 (h : 0 < v.length) : itemOk v 0 = true := by simp only [itemOk, Bool.and_eq_true, decide_eq_true_eq]; omega
theorem item_ok1 (h : 0 < v.length) : itemOk v (-1) = true := by simp only [itemOk, Bool.and_eq_true, decide_eq_true_eq]; omega
theorem small_two (x y : Str) (hx : x.length = 1) (hy : y.length = 1) : small (x ++ y) = true := by unfold small; rw [Str.length_append, hx, hy]; decide
theorem du_a8 (c : DuCtx w p loose mean mg mb A A₀ outer base h₀ L) (hs : At h₀ L news s₀ (d3 v aw ap bs) s) (hv : 0 < v.length) : EvB PRG w A E (duEnv w.params L) s (allE (du8a w.params)) ((charAt v 0 ++ charAt v (-1)).cps.toList.all gLoose) :=
  all_ev (pv := pvC) (du8_t w.params) (du8_sc w.params) (du8_cl w.params L) (du8_fs w.params L) c.handled (du_nm c hs) (du8_all w.params _) (fun _ _ _ => pvC_inj) (src_ev_str c.handled (du_nm c hs) (du8_it w.params v aw ap bs) (by
      intro b hb
      simp only [List.mem_cons, List.not_mem_nil, or_false] at hb
      rcases hb with rfl | rfl | rfl
      · exact item_ok0 hv
      · exact item_ok1 hv
      · exact small_two _ _ rfl rfl))
    (fun C _ => li_glo c.X c.T hs rfl (scope_of (du8_sc w.params)).2.1 (du8_k w.params L C)) (du8_lo w.params L) fun a _ => ⟨[], du8_ev w.params a, allT_nil⟩
theorem du_a10 (c : DuCtx w p loose mean mg mb A A₀ outer base h₀ L) (hs : At h₀ L news s₀ (d3 v aw ap bs) s) {ws : List Str} (hw : WordsIn news aw ws) (hsz : ws.length ≤ sizeLine) : EvB PRG w A E (duEnv w.params L) s (allE (du10a w.params)) (ws.all gWord) :=
  all_ev (pv := fun x => .str x) (γ := []) (du10_t w.params) (du10_sc w.params) (du10_cl w.params L) (du10_fs w.params L) c.handled (du_nm c hs) (du10_all w.params _) (fun _ _ _ => pvS_inj) (by rw [du10_it]; exact src_words c.handled (du_nm c hs) (du10_in w.params v aw ap bs) hs hw hsz)
    (fun C _ => gloC_nil) (du10_lo w.params L) fun a _ => ⟨[], du10_ev w.params a, allT_nil⟩
theorem du_a11 (c : DuCtx w p loose mean mg mb A A₀ outer base h₀ L) (hs : At h₀ L news s₀ (d3 v aw ap bs) s) : EvB PRG w A E (duEnv w.params L) s (allE (du11a w.params)) (v.cps.toList.all gFlow) :=
  all_ev (pv := pvC) (γ := []) (du11_t w.params) (du11_sc w.params) (du11_cl w.params L) (du11_fs w.params L) c.handled (du_nm c hs) (du11_all w.params _) (fun _ _ _ => pvC_inj) (src_ev_str c.handled (du_nm c hs) (du11_it w.params v aw ap bs) allT_nil)
    (fun C _ => gloC_nil) (du11_lo w.params L) fun a _ => ⟨[], du11_ev w.params a, allT_nil⟩
theorem head_B {env : Env} {prog : Program} {h : HeadP} {nm : Str → Option PV} {n : Nat} {b1 : Bool} {o : List Bool} {aw : Addr} {items : Array Value} {x : Value} {wd t3 : Str} (hnm : NmOk prog w A E env s nm) (h1 : ev nm noAtt n h.e1 = some (.bool b1, o)) (ho : AllT o) (hw : nm h.wn = some (.val (.ref aw))) (hi : ev nm noAtt n h.i = some (.int 0, []))
    (hl : s.heap.IsList aw items) (hx : items[0]? = some x) (hxw : (PV.str wd).Is x) (h3 : ev nm noAtt n h.l3 = some (.str t3, [])) :
    EvB prog w A E env s (headE h) (b1 || ([Str.ofString "-", Str.ofString "?"].any (· == wd) || [Str.ofString "---", Str.ofString "..."].any (· == t3))) := by
  refine evB_or (evB_ev hnm attOk_no h1 ho) (evB_or (evB_in fun s₁ k₁ Q k => ?_) (evB_or1 (evB_in fun s₁ k₁ Q k => ?_)))
  · exact item_list hnm hw hi hl (.inl ⟨by decide, by decide, hx⟩) s₁ k₁ fun s' k' => k x s' hxw k'
  · exact ev_sound hnm attOk_no n _ _ h3 allT_nil s₁ k₁ _ fun v s' hv k' => k v s' hv k'
theorem du_a9 (c : DuCtx w p loose mean mg mb A A₀ outer base h₀ L) (hs : At h₀ L news s₀ (d3 v aw ap bs) s) (hv : 0 < v.length) (hw : WordsIn news aw (wordsF v.cps.toList)) : EvB PRG w A E (duEnv w.params L) s (headE (du9h w.params)) (headF v) := by
  obtain ⟨g, tk, m, rfl, F, N, R⟩ := id hs
  obtain ⟨items, hl, hwd⟩ := hw _ _ _ N
  obtain ⟨x, hx, hi⟩ := hwd.at (wordsF_ok v.cps.toList).1
  have e : (wordsF v.cps.toList)[0]'((wordsF_ok v.cps.toList).1) = (wordsF v.cps.toList).getD 0 ("" : Str) := by
    rw [List.getD_eq_getElem?_getD, List.getElem?_eq_getElem (wordsF_ok v.cps.toList).1]; rfl
  rw [e] at hi
  exact head_B (du_nm c hs) (du9_e1 w.params v aw ap bs) (fun b hb => by cases List.mem_singleton.mp hb; exact item_ok0 hv) (du9_w w.params v aw ap bs) (du9_i w.params v aw ap bs) hl hx hi (du9_l3 w.params v aw ap bs)

theorem evB_cast {prog : Program} {env : Env} {e e' : PySem.Expr} {b : Bool} (h : e = e') (x : EvB prog w A E env s e' b) : EvB prog w A E env s e b := by subst h; exact x

/-- wpAny, shut up so that the elaborator does not run the program -/
structure WpX (prog : Program) (w : World) (A : Around) (t : Sem Flow) (Q : Flow → Shared → Prop) (E : Value → Shared → Prop) (s : Shared) : Prop where
  run : wpAny (model prog w) A t Q E s
/-- statements 4 to 15, over their parts -/
theorem du_core4 {prog : Program} {env : Env} {loc : List (List Nat)} {γ : Sto} {Q : Flow → Shared → Prop} {l pre : List Stmt} {a4 a5 a6 a7 a8 a9 a10 a11 : AsP} {t15 : List PySem.Expr × Nat × Pos × Pos} {bl bS ba bb bo bh bk bf bp bi be : Bool} {o12 : List Bool} {ps : List PV}
    (fo : FrOk env L) (lo : LocOk env loc) (go : GloOk prog w A E env h₀ L news loc γ)
    (s4 : l[4]? = some (asS a4)) (s5 : l[5]? = some (asS a5)) (s6 : l[6]? = some (asS a6)) (s7 : l[7]? = some (asS a7)) (s8 : l[8]? = some (asS a8)) (s9 : l[9]? = some (asS a9)) (s10 : l[10]? = some (asS a10)) (s11 : l[11]? = some (asS a11)) (s12 : l.drop 12 = pre ++ [tupS t15])
    (x4 : env.kindOf a4.x = some .local) (x5 : env.kindOf a5.x = some .local) (x6 : env.kindOf a6.x = some .local) (x7 : env.kindOf a7.x = some .local) (x8 : env.kindOf a8.x = some .local) (x9 : env.kindOf a9.x = some .local) (x10 : env.kindOf a10.x = some .local) (x11 : env.kindOf a11.x = some .local)
    (w4 : swapsWith a4.e (some (.Name a4.x a4.px)) a4.ap.line env = pure false) (w5 : swapsWith a5.e (some (.Name a5.x a5.px)) a5.ap.line env = pure false) (w6 : swapsWith a6.e (some (.Name a6.x a6.px)) a6.ap.line env = pure false) (w7 : swapsWith a7.e (some (.Name a7.x a7.px)) a7.ap.line env = pure false)
    (w8 : swapsWith a8.e (some (.Name a8.x a8.px)) a8.ap.line env = pure false) (w9 : swapsWith a9.e (some (.Name a9.x a9.px)) a9.ap.line env = pure false) (w10 : swapsWith a10.e (some (.Name a10.x a10.px)) a10.ap.line env = pure false) (w11 : swapsWith a11.e (some (.Name a11.x a11.px)) a11.ap.line env = pure false)
    (p4 : put (d3 v aw ap []) (key a4.x) (.bool bl) = d3 v aw ap (b1 bl)) (p5 : put (d3 v aw ap (b1 bl)) (key a5.x) (.bool bS) = d3 v aw ap (b2 bl bS)) (p6 : put (d3 v aw ap (b2 bl bS)) (key a6.x) (.bool ba) = d3 v aw ap (b3 bl bS ba)) (p7 : put (d3 v aw ap (b3 bl bS ba)) (key a7.x) (.bool bb) = d3 v aw ap (b4 bl bS ba bb))
    (p8 : put (d3 v aw ap (b4 bl bS ba bb)) (key a8.x) (.bool bo) = d3 v aw ap (b5 bl bS ba bb bo)) (p9 : put (d3 v aw ap (b5 bl bS ba bb bo)) (key a9.x) (.bool bh) = d3 v aw ap (b6 bl bS ba bb bo bh)) (p10 : put (d3 v aw ap (b6 bl bS ba bb bo bh)) (key a10.x) (.bool bk) = d3 v aw ap (b7 bl bS ba bb bo bh bk)) (p11 : put (d3 v aw ap (b7 bl bS ba bb bo bh bk)) (key a11.x) (.bool bf) = d3 v aw ap (b8 bl bS ba bb bo bh bk bf))
    (e4 : ∀ s bs, At h₀ L news s₀ (d3 v aw ap bs) s → EvB prog w A E env s a4.e bl) (e5 : ∀ s bs, At h₀ L news s₀ (d3 v aw ap bs) s → EvB prog w A E env s a5.e bS) (e6 : ∀ s bs, At h₀ L news s₀ (d3 v aw ap bs) s → EvB prog w A E env s a6.e ba) (e7 : ∀ s bs, At h₀ L news s₀ (d3 v aw ap bs) s → EvB prog w A E env s a7.e bb)
    (e8 : ∀ s bs, At h₀ L news s₀ (d3 v aw ap bs) s → EvB prog w A E env s a8.e bo) (e9 : ∀ s bs, At h₀ L news s₀ (d3 v aw ap bs) s → EvB prog w A E env s a9.e bh) (e10 : ∀ s, At h₀ L news s₀ (d3 v aw ap (b6 bl bS ba bb bo bh)) s → EvB prog w A E env s a10.e bk) (e11 : ∀ s, At h₀ L news s₀ (d3 v aw ap (b7 bl bS ba bb bo bh bk)) s → EvB prog w A E env s a11.e bf)
    (hrun : runB loc γ noAtt pre (d3 v aw ap (b8 bl bS ba bb bo bh bk bf)) = some (d3 v aw ap (b11 bl bS ba bb bo bh bk bf bp bi be), o12)) (ho : AllT o12)
    (hev : evL (ev (nmOf loc γ (d3 v aw ap (b11 bl bS ba bb bo bh bk bf bp bi be))) noAtt fuel) t15.1 = some (ps, [])) (hps : ps.length ≤ sizeLine)
    (hs : At h₀ L news s₀ (d3 v aw ap []) s)
    (fin : ∀ T vals h' tk' m', Fr h₀ L h' m' → News h₀ L h' ((T, tupObj vals) :: news) → IsV ps vals → Q (.ret (.ref T)) { s₀ with heap := h', toks := tk' }) :
    WpX prog w A (execs (l.drop 4) env) Q E s := by
  refine ⟨step_B s4 fo x4 hs (e4 _ _ hs) w4 p4 fun _ h5 => ?_⟩
  refine step_B s5 fo x5 h5 (e5 _ _ h5) w5 p5 fun _ h6 => ?_
  refine step_B s6 fo x6 h6 (e6 _ _ h6) w6 p6 fun _ h7 => ?_
  refine step_B s7 fo x7 h7 (e7 _ _ h7) w7 p7 fun _ h8 => ?_
  refine step_B s8 fo x8 h8 (e8 _ _ h8) w8 p8 fun _ h9 => ?_
  refine step_B s9 fo x9 h9 (e9 _ _ h9) w9 p9 fun _ h10 => ?_
  refine step_B s10 fo x10 h10 (e10 _ h10) w10 p10 fun _ h11 => ?_
  refine step_B s11 fo x11 h11 (e11 _ h11) w11 p11 fun _ h12 => ?_
  exact run_then fo lo go attH_no hrun ho h12 s12 fun _ h15 => ret_tup fo lo go attH_no h15 hev allT_nil hps fin

theorem du_e4 (c : DuCtx w p loose mean mg mb A A₀ outer base h₀ L) (hs : At h₀ L news s₀ (d3 v aw ap bs) s) : EvB PRG w A E (duEnv w.params L) s (du4 w.params).e (linesF v) := by
  unfold linesF
  exact evB_cast (du4_e w.params) (evB_not (p := (notOf (du4 w.params).e).2) (@du_a4 w p loose mean mg mb A A₀ outer base h₀ L news s s₀ E v aw ap bs c hs))
theorem du_e5 {oc : Obj} (c : DuCtx w p loose mean mg mb A A₀ outer base h₀ L) (hc : (L + 1, oc) ∈ news) (hcd : oc.data = .cell (some (.bool wide))) (hs : At h₀ L news s₀ (d3 v aw ap bs) s) : EvB PRG w A E (duEnv w.params L) s (du5 w.params).e (strangeF v wide) := by
  unfold strangeF
  exact evB_cast (du5_e w.params) (evB_not (p := (notOf (du5 w.params).e).2) (@du_strange w p loose mean mg mb A A₀ outer base h₀ L news s s₀ E v wide aw ap bs oc c hc hcd hs))
theorem du_e6 (c : DuCtx w p loose mean mg mb A A₀ outer base h₀ L) (hs : At h₀ L news s₀ (d3 v aw ap bs) s) (hp : PairsIn news ap (psOf v)) (hsz : (psOf v).length ≤ sizeLine) : EvB PRG w A E (duEnv w.params L) s (du6 w.params).e (aheadF v) := by
  unfold aheadF
  exact evB_cast (du6_e w.params) (evB_not (p := (notOf (du6 w.params).e).2) (@du_a6 w p loose mean mg mb A A₀ outer base h₀ L news s s₀ E v aw ap bs c hs hp hsz))
theorem du_e7 (c : DuCtx w p loose mean mg mb A A₀ outer base h₀ L) (hs : At h₀ L news s₀ (d3 v aw ap bs) s) (hp : PairsIn news ap (psOf v)) (hsz : (psOf v).length ≤ sizeLine) : EvB PRG w A E (duEnv w.params L) s (du7 w.params).e (behindF v) := by
  unfold behindF
  exact evB_cast (du7_e w.params) (evB_not (p := (notOf (du7 w.params).e).2) (@du_a7 w p loose mean mg mb A A₀ outer base h₀ L news s s₀ E v aw ap bs c hs hp hsz))
theorem du_e8 (c : DuCtx w p loose mean mg mb A A₀ outer base h₀ L) (hs : At h₀ L news s₀ (d3 v aw ap bs) s) (hv : 0 < v.length) : EvB PRG w A E (duEnv w.params L) s (du8 w.params).e (looseF v) := by
  unfold looseF
  exact evB_cast (du8_e w.params) (evB_not (p := (notOf (du8 w.params).e).2) (@du_a8 w p loose mean mg mb A A₀ outer base h₀ L news s s₀ E v aw ap bs c hs hv))
theorem du_e9 (c : DuCtx w p loose mean mg mb A A₀ outer base h₀ L) (hs : At h₀ L news s₀ (d3 v aw ap bs) s) (hv : 0 < v.length) (hw : WordsIn news aw (wordsF v.cps.toList)) : EvB PRG w A E (duEnv w.params L) s (du9 w.params).e (headF v) := by
  exact evB_cast (du9_e w.params) (@du_a9 w p loose mean mg mb A A₀ outer base h₀ L news s s₀ E v aw ap bs c hs hv hw)
theorem du_e10 {l s' a b o : Bool} (c : DuCtx w p loose mean mg mb A A₀ outer base h₀ L) (hs : At h₀ L news s₀ (d3 v aw ap (b6 l s' a b o (headF v))) s) (hw : WordsIn news aw (wordsF v.cps.toList)) (hsz : (wordsF v.cps.toList).length ≤ sizeLine) : EvB PRG w A E (duEnv w.params L) s (du10 w.params).e (markedF v) := by
  unfold markedF
  exact evB_cast (du10_e w.params) (evB_or (p := (orOf (du10 w.params).e).2) (evB_ev (@du_nm w p loose mean mg mb A A₀ outer base h₀ L news s s₀ E c _ hs) attOk_no (du10_h w.params v aw ap _ _ _ _ _ _) allT_nil) (evB_or1 (evB_not (p := (notOf ((orOf (du10 w.params).e).1.getD 1 default)).2) (@du_a10 w p loose mean mg mb A A₀ outer base h₀ L news s s₀ E v aw ap _ c hs _ hw hsz))))
theorem du_e11 {l s' a b o : Bool} (c : DuCtx w p loose mean mg mb A A₀ outer base h₀ L) (hs : At h₀ L news s₀ (d3 v aw ap (b7 l s' a b o (headF v) (markedF v))) s) : EvB PRG w A E (duEnv w.params L) s (du11 w.params).e (flowingF v) := by
  unfold flowingF
  exact evB_cast (du11_e w.params) (evB_or (p := (orOf (du11 w.params).e).2) (evB_ev (@du_nm w p loose mean mg mb A A₀ outer base h₀ L news s s₀ E c _ hs) attOk_no (du11_h w.params v aw ap _ _ _ _ _ _ _) allT_nil) (evB_or1 (evB_not (p := (notOf ((orOf (du11 w.params).e).1.getD 1 default)).2) (@du_a11 w p loose mean mg mb A A₀ outer base h₀ L news s s₀ E v aw ap _ c hs))))

/-- statements 4 to 15 -/
theorem du_from4 {Q : Flow → Shared → Prop} {oc : Obj} (c : DuCtx w p loose mean mg mb A A₀ outer base h₀ L) (hc : (L + 1, oc) ∈ news) (hcd : oc.data = .cell (some (.bool wide))) (hv : 0 < v.length) (hsz : v.length < sizeLine) (hpl : (psOf v).length ≤ sizeLine)
    (hp : PairsIn news ap (psOf v)) (hw : WordsIn news aw (wordsF v.cps.toList)) (hs : At h₀ L news s₀ (d3 v aw ap []) s)
    (fin : ∀ T vals h' tk' m', Fr h₀ L h' m' → News h₀ L h' ((T, tupObj vals) :: news) → IsV [.str v, .bool false, .bool (linesF v), .bool (bif pF v wide then !flowingF v else pF v wide), .bool (bif pF v wide then !markedF v else pF v wide), .bool (iF v wide), .bool true, .bool (eF v wide)] vals → Q (.ret (.ref T)) { s₀ with heap := h', toks := tk' }) :
    WpX PRG w A (execs ((duB w.params).drop 4) (duEnv w.params L)) Q E s :=
  du_core4 (bl := linesF v) (bS := strangeF v wide) (ba := aheadF v) (bb := behindF v) (bo := looseF v) (bh := headF v) (bk := markedF v) (bf := flowingF v) (bp := pF v wide) (bi := iF v wide) (be := eF v wide)
    (du_fo w.params L) (du_lo w.params L) (du_glo c.X c.T) (du4_s w.params) (du5_s w.params) (du6_s w.params) (du7_s w.params) (du8_s w.params) (du9_s w.params) (du10_s w.params) (du11_s w.params) (du15_s w.params)
    (du4_x w.params L) (du5_x w.params L) (du6_x w.params L) (du7_x w.params L) (du8_x w.params L) (du9_x w.params L) (du10_x w.params L) (du11_x w.params L)
    (du4_sw w.params L) (du5_sw w.params L) (du6_sw w.params L) (du7_sw w.params L) (du8_sw w.params L) (du9_sw w.params L) (du10_sw w.params L) (du11_sw w.params L)
    (du4_p w.params v aw ap _) (du5_p w.params v aw ap _ _) (du6_p w.params v aw ap _ _ _) (du7_p w.params v aw ap _ _ _ _) (du8_p w.params v aw ap _ _ _ _ _) (du9_p w.params v aw ap _ _ _ _ _ _) (du10_p w.params v aw ap _ _ _ _ _ _ _) (du11_p w.params v aw ap _ _ _ _ _ _ _ _)
    (fun s bs h => @du_e4 w p loose mean mg mb A A₀ outer base h₀ L news s s₀ E v aw ap bs c h) (fun s bs h => @du_e5 w p loose mean mg mb A A₀ outer base h₀ L news s s₀ E v wide aw ap bs oc c hc hcd h) (fun s bs h => @du_e6 w p loose mean mg mb A A₀ outer base h₀ L news s s₀ E v aw ap bs c h hp hpl) (fun s bs h => @du_e7 w p loose mean mg mb A A₀ outer base h₀ L news s s₀ E v aw ap bs c h hp hpl) (fun s bs h => @du_e8 w p loose mean mg mb A A₀ outer base h₀ L news s s₀ E v aw ap bs c h hv) (fun s bs h => @du_e9 w p loose mean mg mb A A₀ outer base h₀ L news s s₀ E v aw ap bs c h hv hw) (fun s h => @du_e10 w p loose mean mg mb A A₀ outer base h₀ L news s s₀ E v aw ap _ _ _ _ _ c h hw (Nat.le_trans (wordsF_ok v.cps.toList).2.1 hsz)) (fun s h => @du_e11 w p loose mean mg mb A A₀ outer base h₀ L news s s₀ E v aw ap _ _ _ _ _ c h)
    (du12_run w.params v aw ap _ _ _ _ _ _ _ _) (fun b hb => by cases List.mem_singleton.mp hb; rw [item_ok1 hv]; simp) (du15_ev w.params v aw ap _ _ _ _ _ _ _ _ _ _ _) (by rw [sizeLine_eq]; exact (by decide : 8 ≤ 16777216)) hs fin
end
end Mine

namespace Mine
open PySem PySem.W PySem.Calls PyProof.Rows

section
variable {prog : Program} {w : World} {A : Around} {E : Value → Shared → Prop} {env : Env} {s s₀ : Shared} {h₀ : Heap} {L : Addr} {news : List (Addr × Obj)}
theorem words_init {loc : List (List Nat)} {γ σ : Sto} {x : Str} {px lp ap : Pos} {e1 : PySem.Expr} {Q : Flow → Shared → Prop} {v : Str} (fo : FrOk env L) (lo : LocOk env loc) (go : GloOk prog w A E env h₀ L news loc γ) (hx : env.kindOf x = some .local)
    (he : ev (nmOf loc γ σ) noAtt fuel e1 = some (.str v, [])) (hs : At h₀ L news s₀ σ s)
    (k : ∀ s' aw items, Wd [v] items → (∀ q ∈ news, q.1 ≠ aw) → At h₀ L ((aw, listOf items 0) :: news) s₀ (put σ (key x) (.val (.ref aw))) s' → Q .next s') :
    wpAny (model prog w) A (exec (.Assign [.Name x px] (.List [e1] lp) ap) env) Q E s := by
  refine wpAny_Assign_Name (List_ (args_cons (ev_sound (nmOk fo lo go hs) attOk_no _ _ _ he allT_nil s (keeps_refl _) _ fun u s1 hu k1 => args_nil ?_) (star_plain he))) rfl
  obtain ⟨g, tk, m, rfl, F, N, R⟩ := hs.keeps k1
  refine newList_K F N (fun l h' F' N' hlt => ?_) (by rw [sizeLine_eq]; exact (by decide : 1 ≤ 16777216))
  refine store_sound fo (news := (l, listOf #[u] 0) :: news) (σ := σ) ⟨h', tk, m, rfl, F', N', R⟩ hx (p := .val (.ref l)) rfl fun s2 hs2 => ?_
  refine k s2 l #[u] ⟨rfl, fun i x hx => ?_⟩ (fun q hq => Nat.ne_of_lt (hlt q hq)) hs2
  cases i with
  | zero => cases hx; exact ⟨v, rfl, hu⟩
  | succ i => simp at hx

theorem words_loop {loc : List (List Nat)} {γ σ : Sto} {f : ForP} {b : WB} {v : Str} {aw : Addr} {items : Array Value} {cnt : Nat} {Q : Flow → Shared → Prop} {σc : Nat → Sto}
    (fo : FrOk env L) (lo : LocOk env loc) (go : ∀ E n, GloOk prog w A E env h₀ L n loc γ) (hh : A.handled = Option.none) (hint : interactive env = false) (hb : f.body = wbS b) (hx : env.kindOf f.x = some .local) (hit : nmOf loc γ σ f.it = some (.str v)) (hput : ∀ c, put σ (key f.x) (pvC c) = σc c) (hweak : ∀ c m, Rep (σc c) m → Rep σ m)
    (htest : ∀ c, tr (nmOf loc γ (σc c)) noAtt fuel b.t = some (inS WS ⟨#[c]⟩, [])) (he1 : ∀ c, ev (nmOf loc γ (σc c)) noAtt fuel b.e1 = some (.str "", [])) (hi1 : ∀ c, ev (nmOf loc γ (σc c)) noAtt fuel b.i1 = some (.int (-1), [])) (hi2 : ∀ c, ev (nmOf loc γ (σc c)) noAtt fuel b.i2 = some (.int (-1), []))
    (hw : ∀ c, nmOf loc γ (σc c) b.wn = some (.val (.ref aw))) (hc : ∀ c, nmOf loc γ (σc c) b.cn = some (.str ⟨#[c]⟩)) (hline : ((posAt b.ps 1).endLine == (posAt b.ps 2).line) = true)
    (hsm : small v = true) (hwd : Wd [("" : Str)] items) (hnw : ∀ q ∈ news, q.1 ≠ aw) (hs : At h₀ L ((aw, listOf items cnt) :: news) s₀ σ s)
    (k : ∀ s' items cnt, Wd (wordsF v.cps.toList) items → At h₀ L ((aw, listOf items cnt) :: news) s₀ σ s' → Q .next s') :
    wpAny (model prog w) A (exec (forS f) env) Q (fun _ _ => False) s := by
  have hlen := small_le hsm
  have hl0 : v.cps.toList.length = v.length := rfl
  unfold forS
  refine for_src (fun i n => ∃ its c, n = (aw, listOf its c) :: news ∧ Wd (wordsF (v.cps.toList.take i)) its) (aw :: news.map (·.1)) (fun _ => σ) (ds := v.cps.toList) (R := SignOf) (pv := pvC) fo hx (fun _ => rfl) ?_ (fun a u hu => let ⟨t, e⟩ := hu; ⟨small_one a, t, e⟩) ⟨items, cnt, rfl, hwd⟩ hs ?_ ?_ ?_
  · rintro i n ⟨its, c, rfl, _⟩; rfl
  · refine nmOk fo lo (go _ _) hs f.it _ hit s (keeps_refl _) _ _ fun u hu => ?_
    obtain ⟨_, t, rfl⟩ := hu
    exact srcF_str hh (keeps_refl _) fun it s₂ h => h
  · rintro i a s' extra n ha ⟨its, c, rfl, hits⟩ hex hat
    rw [hput] at hat
    rw [hb]
    have hi : i < v.length := by rw [← hl0]; exact (List.getElem?_eq_some_iff.mp ha).1
    obtain ⟨h1, h2, h3⟩ := wordsF_ok (v.cps.toList.take i)
    have htk : (v.cps.toList.take i).length = i := by rw [List.length_take, hl0]; omega
    rw [htk] at h2 h3
    refine words_turn fo lo go hint hline (htest a) (he1 a) (hi1 a) (hi2 a) (hw a) (hc a) (star_plain (he1 a)) h1 (by rw [sizeLine_eq]; omega) (fun x hx => by have := h3 x hx; omega) hits (fun q hq e => hex q hq (by rw [e]; exact .head _)) hnw hat fun s2 its' c' hw' hat' => ?_
    refine ⟨rfl, (aw, listOf its' c') :: news, ⟨its', c', rfl, by rw [wordsF_take ha]; exact hw'⟩, ?_⟩
    obtain ⟨g, tk, m, rfl, F, N, R⟩ := hat'
    exact ⟨g, tk, m, rfl, F, N, hweak a m R⟩
  · rintro s' n ⟨its, c, rfl, hits⟩ hat
    rw [List.take_length] at hits
    exact k s' its c hits hat
end

section
variable {w : World} {p : Program} {loose : List Str} {mean : ExcName → Option Value} {mg mb : Str → Option Value} {A A₀ : Around} {outer : List Env} {base h₀ : Heap} {L : Addr} {news : List (Addr × Obj)} {s s₀ : Shared}
variable {v : Str} {wide : Bool}
theorem rep_d1c {aw : Addr} {c : Nat} {m : Str → Option Value} (h : Rep (d1c v aw c) m) : Rep (d1 v aw) m := Rep.weaken (ρ := [(dk_c, pvC c)]) h
theorem ps_len : (psOf v).length ≤ v.length := by
  unfold psOf
  rw [List.length_zip]
  exact Nat.min_le_left _ _
/-- statements 1 to 3, over their parts -/
theorem du_core1 {env : Env} {loc : List (List Nat)} {γ : Sto} {l : List Stmt} {x1 : Str} {px1 lp1 ap1 : Pos} {e1 : PySem.Expr} {f : ForP} {b : WB} {q : PairP} {cl : List (Str × Addr)} {σ0 : Sto} {σ1 : Addr → Sto} {σc : Addr → Nat → Sto} {σ3 : Addr → Addr → Sto} {Q : Flow → Shared → Prop} {prog : Program} {u : Str}
    (fo : FrOk env L) (lo : LocOk env loc) (go : ∀ E n, GloOk prog w A E env h₀ L n loc γ) (hh : A.handled = Option.none) (hint : interactive env = false)
    (s1 : l[1]? = some (.Assign [.Name x1 px1] (.List [e1] lp1) ap1)) (s2 : l[2]? = some (forS f)) (s3 : l[3]? = some (pairS q))
    (kx1 : env.kindOf x1 = some .local) (ev1 : ev (nmOf loc γ σ0) noAtt fuel e1 = some (.str "", [])) (p1 : ∀ aw, put σ0 (key x1) (.val (.ref aw)) = σ1 aw)
    (hb : f.body = wbS b) (hx : env.kindOf f.x = some .local) (hit : ∀ aw, nmOf loc γ (σ1 aw) f.it = some (.str v)) (hput : ∀ aw c, put (σ1 aw) (key f.x) (pvC c) = σc aw c) (hweak : ∀ aw c m, Rep (σc aw c) m → Rep (σ1 aw) m)
    (htest : ∀ aw c, tr (nmOf loc γ (σc aw c)) noAtt fuel b.t = some (inS WS ⟨#[c]⟩, [])) (he1 : ∀ aw c, ev (nmOf loc γ (σc aw c)) noAtt fuel b.e1 = some (.str "", [])) (hi1 : ∀ aw c, ev (nmOf loc γ (σc aw c)) noAtt fuel b.i1 = some (.int (-1), [])) (hi2 : ∀ aw c, ev (nmOf loc γ (σc aw c)) noAtt fuel b.i2 = some (.int (-1), []))
    (hw : ∀ aw c, nmOf loc γ (σc aw c) b.wn = some (.val (.ref aw))) (hc : ∀ aw c, nmOf loc γ (σc aw c) b.cn = some (.str ⟨#[c]⟩)) (hline : ((posAt b.ps 1).endLine == (posAt b.ps 2).line) = true) (hsm : small v = true)
    (hsw : swapsWith (pairL q) (some (.Name q.y (posAt q.ps 0))) (posAt q.ps 10).line env = pure true) (hclos : closureFor q.scope env = pure cl) (hsc : scopeB q.scope [q.a, q.b] = true) (hab : decide (q.a = q.b) = false) (hyl : env.kindOf q.y = some .local) (hda : (q.a == ("__debug__" : Str)) = false) (hdb : (q.b == ("__debug__" : Str)) = false)
    (hz : ∀ σ, nmOf loc γ σ q.zn = some (.val (.type "zip"))) (q1 : ∀ aw, ev (nmOf loc γ (σ1 aw)) noAtt fuel q.e1 = some (.str v, [])) (q2 : ∀ aw, ev (nmOf loc γ (σ1 aw)) noAtt fuel q.e2 = some (.str u, [])) (p3 : ∀ aw ap, put (σ1 aw) (key q.y) (.val (.ref ap)) = σ3 aw ap)
    {ds : List (Nat × Nat)} (hds : ds = v.cps.toList.zip u.cps.toList) (hs : At h₀ L news s₀ σ0 s)
    (k : ∀ s' news' aw ap, (∀ p ∈ news, p ∈ news') → PairsIn news' ap ds → WordsIn news' aw (wordsF v.cps.toList) → At h₀ L news' s₀ (σ3 aw ap) s' → WpX prog w A (execs (l.drop 4) env) Q (fun _ _ => False) s') :
    WpX prog w A (execs (l.drop 1) env) Q (fun _ _ => False) s := by
  refine ⟨step_at s1 (words_init fo lo (go _ _) kx1 ev1 hs fun s2' aw items hwd hnw hs2 => ?_)⟩
  rw [p1] at hs2
  refine step_at s2 (words_loop (σc := σc aw) fo lo go hh hint hb hx (hit aw) (hput aw) (hweak aw) (htest aw) (he1 aw) (hi1 aw) (hi2 aw) (hw aw) (hc aw) hline hsm hwd hnw hs2 fun s3' its cnt hwd3 hs3 => ?_)
  obtain ⟨g1, g2, g3, g4⟩ := scope_of hsc
  refine step_at s3 (pairs_stmt (ds := ds) fo lo go hh hsw hclos g1 g2 g3 (g4 _ (.head _)) (g4 _ (.tail _ (.head _))) (of_decide_eq_false hab) hyl hda hdb (hz _) (q1 aw) (q2 aw) hds hs3 fun s4 news' ap hsub hp hs4 => ?_)
  rw [p3] at hs4
  refine (k s4 news' aw ap (fun q hq => hsub q (.tail _ hq)) hp ?_ hs4).run
  exact WordsIn.mono hsub fun _ _ _ N => ⟨its, ⟨_, (N _ (.head _)).1, rfl, cnt, rfl⟩, hwd3⟩

theorem ds_eq (v : Str) : psOf v = v.cps.toList.zip (Txt.slice v (some 1) Option.none).cps.toList := rfl
theorem du1_s' (P : Params) : (duB P)[1]? = some (.Assign [.Name (du1 P).x (du1 P).px] (.List [(listOf1 (du1 P).e).1] (listOf1 (du1 P).e).2) (du1 P).ap) := by kernel_rfl
/-- statements 1 to 3 -/
theorem du_from1 {Q : Flow → Shared → Prop} (c : DuCtx w p loose mean mg mb A A₀ outer base h₀ L) (hsm : small v = true) (hs : At h₀ L news s₀ (d0 v) s)
    (k : ∀ s' news' aw ap, (∀ p ∈ news, p ∈ news') → PairsIn news' ap (psOf v) → WordsIn news' aw (wordsF v.cps.toList) → At h₀ L news' s₀ (d3 v aw ap []) s' → WpX PRG w A (execs ((duB w.params).drop 4) (duEnv w.params L)) Q (fun _ _ => False) s') :
    WpX PRG w A (execs ((duB w.params).drop 1) (duEnv w.params L)) Q (fun _ _ => False) s :=
  du_core1 (env := duEnv w.params L) (loc := duLoc) (γ := duGlo) (l := duB w.params) (σ0 := d0 v) (σ1 := d1 v) (σc := d1c v) (σ3 := fun aw ap => d3 v aw ap []) (u := Txt.slice v (some 1) Option.none) (f := du2 w.params) (b := du2b w.params) (q := du3 w.params) (cl := [])
    (du_fo w.params L) (du_lo w.params L) (fun E n => du_glo c.X c.T) c.handled (du_int w.params L) (du1_s' w.params) (du2_s w.params) (du3_s w.params) (du1_x w.params L) (du1_ev w.params v) (du1_p w.params v)
    (du2_b w.params) (du2_x w.params L) (du2_it w.params v) (du2_p w.params v) (fun _ _ _ => rep_d1c) (du2_t w.params v) (du2_e1 w.params v) (du2_i1 w.params v) (du2_i2 w.params v) (du2_w w.params v) (du2_c w.params v) (du2_l w.params) hsm
    (du3_sw w.params L) (du3_cl w.params L) (du3_sc w.params) (du3_ab w.params) (du3_x w.params L) (du3_da w.params) (du3_db w.params) (du3_z w.params) (du3_e1 w.params v) (du3_e2 w.params v) (du3_p w.params v) (ds_eq v) hs k
end
end Mine

namespace Mine
open PySem PySem.W PySem.Calls PyProof.Rows

section
variable {w : World} {p : Program} {loose : List Str} {mean : ExcName → Option Value} {mg mb : Str → Option Value} {A A₀ : Around} {outer : List Env} {base h₀ : Heap} {L : Addr} {news : List (Addr × Obj)} {s s₀ : Shared}
variable {v : Str} {wide : Bool}
theorem du_core0 {prog : Program} {E : Value → Shared → Prop} {env : Env} {loc : List (List Nat)} {γ σ : Sto} {l : List Stmt} {t0 : PySem.Expr} {tp : List PySem.Expr × Nat × Pos × Pos} {ip : Pos} {b0 : Bool} {ps : List PV} {Q : Flow → Shared → Prop}
    (fo : FrOk env L) (lo : LocOk env loc) (go : GloOk prog w A E env h₀ L news loc γ) (s0 : l[0]? = some (.If t0 [tupS tp] [] ip)) (test : tr (nmOf loc γ σ) noAtt fuel t0 = some (b0, [])) (he : evL (ev (nmOf loc γ σ) noAtt fuel) tp.1 = some (ps, [])) (hsz : ps.length ≤ sizeLine)
    (hs : At h₀ L news s₀ σ s) (k0 : b0 = true → ∀ T vals h' tk' m', Fr h₀ L h' m' → News h₀ L h' ((T, tupObj vals) :: news) → IsV ps vals → Q (.ret (.ref T)) { s₀ with heap := h', toks := tk' })
    (k1 : b0 = false → ∀ s', At h₀ L news s₀ σ s' → WpX prog w A (execs (l.drop 1) env) Q E s') : WpX prog w A (execs l env) Q E s := by
  refine ⟨step_at (i := 0) s0 (wpAny_If (tr_sound (nmOk fo lo go hs) attOk_no _ _ _ test allT_nil _ (keeps_refl _) _ fun s1 k1' => ?_))⟩
  have hs1 := hs.keeps k1'
  cases b0 with
  | true =>
    show wpAny _ _ (execs [tupS tp] _) _ _ _
    exact ret_tup fo lo go attH_no hs1 he allT_nil hsz fun T vals h' tk' m' F' N' hv => k0 rfl T vals h' tk' m' F' N' hv
  | false =>
    show wpAny _ _ (execs [] _) _ _ _
    exact wpAny_execs_nil (k1 rfl s1 hs1).run

theorem du_body {oc : Obj} {Q : Flow → Shared → Prop} (c : DuCtx w p loose mean mg mb A A₀ outer base h₀ L) (hc : (L + 1, oc) ∈ news) (hcd : oc.data = .cell (some (.bool wide))) (hsm : small v = true) (hsz : v.length < sizeLine) (hs : At h₀ L news s₀ (d0 v) s)
    (fin : ∀ T vals h' tk' m', Fr h₀ L h' m' → News h₀ L h' ((T, tupObj vals) :: news) → IsV (dueF v wide) vals → Q (.ret (.ref T)) { s₀ with heap := h', toks := tk' }) :
    WpX PRG w A (execs (duB w.params) (duEnv w.params L)) Q (fun _ _ => False) s := by
  refine du_core0 (du_fo w.params L) (du_lo w.params L) (du_glo c.X c.T) (du0_s w.params) (du0_test w.params v) (du0_ev w.params v) (by rw [sizeLine_eq]; exact (by decide : 8 ≤ 16777216)) hs (fun hb T vals h' tk' m' F' N' hv => fin T vals h' tk' m' F' N' ?_) fun hb s1 hs1 => ?_
  · unfold dueF; rw [hb]; exact hv
  · refine du_from1 c hsm hs1 fun s2 news' aw ap hsub hp hw hs2 => ?_
    have hv : 0 < v.length := by
      rcases Nat.eq_zero_or_pos v.length with h | h
      · have : v.cps.toList = [] := List.eq_nil_of_length_eq_zero h
        rw [this] at hb; cases hb
      · exact h
    refine du_from4 c (hsub _ hc) hcd hv hsz (Nat.le_trans ps_len (Nat.le_of_lt hsz)) hp hw hs2 fun T vals h' tk' m' F' N' hvals => fin T vals h' tk' m' F' (fun q hq => ?_) ?_
    · rcases List.mem_cons.mp hq with rfl | hq
      · exact N' _ (.head _)
      · exact N' _ (.tail _ (hsub q hq))
    · unfold dueF; rw [hb]; exact hvals
end
end Mine

namespace Mine
open PySem PySem.W PySem.Calls PyProof.Rows

noncomputable abbrev envKC (K : Frag) (f L : Addr) : Env := envOfC (fdAt K f).qualname (fdAt K f).scope L f (fdAt K f).code
noncomputable def kinds (K : Frag) (f : Addr) (binds : List (Str × Value)) : Bool := binds.all fun y => (fdAt K f).scope.names.lookup y.1 == some .local || (fdAt K f).scope.names.lookup y.1 == some .cell
/-- entering a def that has cells -/
theorem enterKC {K : Frag} {prog : Program} {w : World} {A A₀ : Around} {s : Shared} {L : Addr} {h₀ base : Heap} {m mg mb : Str → Option Value} {news : List (Addr × Obj)} {p : Program} {loose : List Str} {mean : ExcName → Option Value} {env : Env} {outer : List Env}
    {R : Result → Shared → Prop} {f : Addr} {args : Args} {binds : List (Str × Value)} (fn : FnOk K f)
    (B : Below A₀ base outer h₀) (F : Fr h₀ L s.heap m) (X₀ : K.In h₀) (N : News h₀ L s.heap news) (T : Top p loose mean mg mb h₀) (hA : A.frames = some (env :: outer)) (hf : env.frame = some L) (hke : env.scope.kind = .function)
    (hroom : A.depth < recursionLimit) (hbind : bindArgs (fnK K f) args = pure binds) (hkind : kinds K f binds = true) (hnd : ((cellsFrom 0 (fdAt K f).scope.names []).map (·.1)).Nodup)
    (h : ∀ g L' h₁ tk cells, Fr h₀ L g m → Fr g L' h₁ (bindL (envKC K f L').kindOf binds fun _ => Option.none) → News g L' h₁ (cells ++ news) → CellsAre (bindC (envKC K f L').kindOf binds fun _ => Option.none) (cellsFrom (L' + 1) (fdAt K f).scope.names []) cells → Below A base (env :: outer) g → K.In g → Top p loose mean mg mb g → (∀ p ∈ news, p.1 < L') →
      WpX prog w (A.deeper (envKC K f L')) (execs (bodyAt K f) (envKC K f L'))
        (fun fl s' => LeaveK h₀ L m g R (match fl with | .ret v => v | _ => .none) s') (fun _ _ => False)
        { s with heap := h₁, toks := tk }) : codeAny (model prog w) A (.call (.ref f) args) R s :=
  code_defC B F X₀ N T hA hf hke fn.look fn.code hroom (BindsTo.of_eq hbind) hkind hnd (fun g L' h₁ tk cells a b c d e f g' i => wpAny_mono (h g L' h₁ tk cells a b c d e f g' i).run (fun _ _ x => x) fun _ _ x => x.elim) fn.co fn.gen fn.kind

theorem du_nd (P : Params) : (cellsFrom 0 (fdAt (KK P) 788).scope.names []).map (·.1) = [Str.ofString "wide"] := by kernel_rfl
theorem du_kinds (P : Params) (a b : Value) : kinds (KK P) 788 [(Str.ofString "value", a), (Str.ofString "wide", b)] = true := by kernel_rfl
theorem du_rep {P : Params} {L : Addr} {v : Str} {t : Tok} {b : Value} (hv : small v = true) : Rep (d0 v) (bindL (duEnv P L).kindOf [(Str.ofString "value", .str v t), (Str.ofString "wide", b)] (fun _ => Option.none)) := by
  have h : Rep [(key "value", .str v)] (bindL (duEnv P L).kindOf [(Str.ofString "value", .str v t), (Str.ofString "wide", b)] (fun _ => Option.none)) := rep_one (du_bl P L (.str v t) b) ⟨hv, t, rfl⟩
  have e : d0 v = [(key "value", .str v)] := by kernel_rfl
  rw [e]; exact h

section
variable {w : World} {p : Program} {loose : List Str} {mean : ExcName → Option Value} {mg mb : Str → Option Value} {A A₀ : Around} {env : Env} {outer : List Env} {base h₀ : Heap} {L : Addr} {m : Str → Option Value} {news : List (Addr × Obj)} {s : Shared}
theorem due_ok {Q E : Value → Shared → Prop} {v : Str} {t : Tok} {wide : Bool} (hsm : small v = true) (hsz : v.length < sizeLine)
    (B : Below A₀ base outer h₀) (F : Fr h₀ L s.heap m) (X : (KK w.params).In h₀) (N : News h₀ L s.heap news) (T : Top p loose mean mg mb h₀) (hA : A.frames = some (env :: outer)) (hf : env.frame = some L) (hke : env.scope.kind = .function) (hd : A.depth + 1 < recursionLimit) (hh : A.handled = Option.none)
    (ret : ∀ (T : Addr) (vals : List Value) (h' : Heap) (tk' : Nat), Fr h₀ L h' m → News h₀ L h' ((T, tupObj vals) :: news) → IsV (dueF v wide) vals → Q (.ref T) { s with heap := h', toks := tk' }) :
    wpAny (model PRG w) A (call (.ref 788) [.str v t, .bool wide]) Q E s := by
  refine wpAny_call (enterKC (du_fn w.params) B F X N T hA hf hke (Nat.lt_of_succ_lt hd) (du_bind w.params _ _) (du_kinds w.params _ _) (by rw [du_nd]; simp) ?_)
  intro g L' h₁ tk cells FG F1 N1 C1 B1 X1 T1 lt1
  rw [du_cells] at C1
  obtain ⟨oc, rfl, hcd⟩ := C1.one
  rw [du_bc] at hcd
  refine du_body (wide := wide) (oc := oc) (s₀ := s) ⟨B1, X1, T1, Around.frames_deeper hA, hd, hh⟩ (.head _) hcd hsm hsz ⟨h₁, tk, _, rfl, F1, N1, du_rep hsm⟩ ?_
  intro T' vals h' tk' m' F' N' hv
  have N'' : News g L' h' ((T', tupObj vals) :: news) := fun q hq => by
    rcases List.mem_cons.mp hq with rfl | hq
    · exact N' _ (.head _)
    · exact N' _ (.tail _ (.tail _ hq))
  exact leaveK_ F' N'' fun F3 N3 => ret T' vals h' tk' F3 N3 hv
end
end Mine

namespace Mine
open PySem PySem.W PySem.Calls PyProof.Rows

noncomputable abbrev emB (P : Params) : List Stmt := bodyAt (KK P) 316
theorem em_len (P : Params) : (emB P).length = 31 := by kernel_rfl
theorem em_fn (P : Params) : FnOk (KK P) 316 := ⟨by kernel_rfl, by kernel_rfl, by kernel_rfl, by kernel_rfl, by kernel_rfl⟩
theorem em_cls (P : Params) : ClsOk (KK P) 736 := ⟨by kernel_rfl, by kernel_rfl, by kernel_rfl⟩
noncomputable def kS (s : String) : List Nat := s.toList.map Char.toNat
noncomputable def ek_self : List Nat := [115, 101, 108, 102]
noncomputable def ek_stream : List Nat := [115, 116, 114, 101, 97, 109]
noncomputable def ek_canonical : List Nat := [99, 97, 110, 111, 110, 105, 99, 97, 108]
noncomputable def ek_indent : List Nat := [105, 110, 100, 101, 110, 116]
noncomputable def ek_width : List Nat := [119, 105, 100, 116, 104]
noncomputable def ek_au : List Nat := [97, 108, 108, 111, 119, 95, 117, 110, 105, 99, 111, 100, 101]
noncomputable def ek_lb : List Nat := [108, 105, 110, 101, 95, 98, 114, 101, 97, 107]
noncomputable def emLoc : List (List Nat) := [ek_self, ek_stream, ek_canonical, ek_indent, ek_width, ek_au, ek_lb]
noncomputable def emSig (x r : Addr) (wide : Bool) : Sto := [(ek_self, .val (.ref x)), (ek_stream, .val (.ref r)), (ek_canonical, .none), (ek_indent, .none), (ek_width, .none), (ek_au, .bool wide), (ek_lb, .none)]

section
variable {prog : Program} {w : World} {A : Around} {E : Value → Shared → Prop} {env : Env} {h₀ : Heap} {L : Addr} {news : List (Addr × Obj)} {s s₀ : Shared} {loc : List (List Nat)} {γ σ τ : Sto} {C x dx : Addr} {K : Frag} {N : Nat} {Q : Flow → Shared → Prop}

/-- self.a = [] -/
theorem em_list {o a : Str} {po pa lp ap : Pos} (fo : FrOk env L) (lo : LocOk env loc) (go : GloOk prog w A E env h₀ L news loc γ) (X : K.In h₀) (c : ClsOk K C) (hxd : x ≠ dx) (hoff : ∀ p ∈ news, p.1 ≠ dx) (ho : nmOf loc γ σ o = some (.val (.ref x))) (ht : takes K C a = true) (hN : N < 1000)
    (hs : AtO h₀ L news s₀ C x dx N σ τ s) (k : ∀ s' l, AtO h₀ L news s₀ C x dx (N + 1) σ (put τ (key a) (.val (.ref l))) s' → Q .next s') :
    wpAny (model prog w) A (exec (.Assign [.Attribute (.Name o po) a pa] (.List [] lp) ap) env) Q E s := by
  refine plainObj_wpAny_Assign_Attribute (List_ (args_nil (wpAny_newObj_type ?_ (by show 0 ≤ sizeLine; exact Nat.zero_le _)))) rfl
  have k1 : Keeps s { s with heap := s.heap.push { cls := .type "list", dict := Option.none, data := .seq ([] : List Value).toArray } } := ⟨_, _, rfl, fun b o e => Heap.get?_push_of_some _ e⟩
  refine nmOk fo lo go hs.at o _ ho _ k1 _ _ fun ov hov => ?_
  cases hov
  exact attr_store X c hxd hoff (hs.keeps k1) hN ht (p := .val (.ref s.heap.objs.size)) rfl fun s2 hs2 => k s2 _ hs2

/-- if x and ..: with x None -/
theorem em_ifand {xn : Str} {px bp ip : Pos} {rest : List PySem.Expr} {body : List Stmt} (fo : FrOk env L) (lo : LocOk env loc) (go : GloOk prog w A E env h₀ L news loc γ) (hx : nmOf loc γ σ xn = some .none) (hs : AtO h₀ L news s₀ C x dx N σ τ s)
    (k : ∀ s', AtO h₀ L news s₀ C x dx N σ τ s' → Q .next s') : wpAny (model prog w) A (exec (.If (.BoolOp .And (.Name xn px :: rest) bp) body [] ip) env) Q E s := by
  have h1 : tr (nmOf loc γ σ) noAtt 2 (.Name xn px) = some (false, []) := by
    show (match ev (nmOf loc γ σ) noAtt 1 (.Name xn px) with | some (v, o) => v.truth.map fun r => (r, o) | Option.none => Option.none) = _
    show (match (nmOf loc γ σ xn).map fun p => (p, ([] : List Bool)) with | some (v, o) => v.truth.map fun r => (r, o) | Option.none => Option.none) = _
    rw [hx]; rfl
  refine wpAny_If (isTrue_and (tr_sound (nmOk fo lo go hs.at) attOk_no 2 _ _ h1 allT_nil s (keeps_refl _) _ fun s1 k1 => ?_))
  exact wpAny_execs_nil (k s1 (hs.keeps k1))

/-- if x in [three texts]: with x None -/
theorem em_ifin {xn : Str} {c1 c2 c3 : Str} {k1 k2 k3 : Nat} {px p1 p2 p3 lp cp ip : Pos} {body : List Stmt} (fo : FrOk env L) (lo : LocOk env loc) (go : GloOk prog w A E env h₀ L news loc γ) (hx : nmOf loc γ σ xn = some .none) (hs : AtO h₀ L news s₀ C x dx N σ τ s)
    (k : ∀ s', AtO h₀ L news s₀ C x dx N σ τ s' → Q .next s') : wpAny (model prog w) A (exec (.If (.Compare (.Name xn px) [.In] [.List [.Constant (.str c1) k1 p1, .Constant (.str c2) k2 p2, .Constant (.str c3) k3 p3] lp] cp) body [] ip) env) Q E s := by
  refine wpAny_If (wpAny_isTrue_Compare1 (nmOk fo lo go hs.at xn _ hx s (keeps_refl _) _ _ fun v hv => ?_) rfl)
  cases hv
  refine List_ (args_cons (Constant_str (args_cons (Constant_str (args_cons (Constant_str (args_nil ?_)) rfl)) rfl)) rfl)
  refine wpAny_newObj_type ?_ (by show 3 ≤ sizeLine; rw [sizeLine_eq]; decide)
  refine PySem.SeqAt.in_listAt (fun _ => false) ⟨_, Heap.get?_push_size _ rfl, rfl, _, rfl⟩ (fun y hy => ?_) ?_
  · simp only [List.mem_toArray, List.mem_cons, List.not_mem_nil, or_false] at hy
    rcases hy with rfl | rfl | rfl <;> exact PySem.SeqAt.EqAt.str_none _ _
  · refine wpAny_truthy_bool ?_
    rw [if_neg (by simp)]
    exact wpAny_execs_nil (k _ (hs.keeps ⟨_, _, rfl, fun b o e => Heap.get?_push_of_some _ e⟩))
end
end Mine

namespace Mine
open PySem PySem.W PySem.Calls PyProof.Rows

section
variable {prog : Program} {w : World} {A : Around} {E : Value → Shared → Prop} {env : Env} {h₀ : Heap} {L : Addr} {news : List (Addr × Obj)} {s s₀ : Shared} {loc : List (List Nat)} {γ σ τ : Sto} {C x dx : Addr} {K : Frag} {N : Nat} {Q : Flow → Shared → Prop} {a0 : Str}

/-- AtO, and one name that the object does not hold itself -/
noncomputable def AtA (h₀ : Heap) (L : Addr) (news : List (Addr × Obj)) (s₀ : Shared) (C x dx : Addr) (a0 : Str) (N : Nat) (σ τ : Sto) (s : Shared) : Prop :=
  ∃ h tk m es n, s = { s₀ with heap := h, toks := tk } ∧ Fr h₀ L h m ∧ News h₀ L h ((x, instObj C dx) :: (dx, dictOf es n) :: news) ∧ Rep σ m ∧ RepD τ es ∧ es.length ≤ N ∧ es.find? (·.key.isStr a0) = Option.none
theorem AtA.keeps {s' : Shared} (h : AtA h₀ L news s₀ C x dx a0 N σ τ s) (k : Keeps s s') : AtA h₀ L news s₀ C x dx a0 N σ τ s' := by
  obtain ⟨g, tk, m, es, n, rfl, F, Nw, R, D, l, ab⟩ := h
  obtain ⟨g', tk', rfl, hk⟩ := k
  exact ⟨g', tk', m, es, n, rfl, F.keeps hk, Nw.grown hk, R, D, l, ab⟩
theorem AtA.at (h : AtA h₀ L news s₀ C x dx a0 N σ τ s) : At h₀ L news s₀ σ s := by
  obtain ⟨g, tk, m, es, n, rfl, F, Nw, R, D, l, ab⟩ := h
  exact ⟨g, tk, m, rfl, F, fun p hp => Nw p (.tail _ (.tail _ hp)), R⟩
theorem AtA.atO (h : AtA h₀ L news s₀ C x dx a0 N σ τ s) : AtO h₀ L news s₀ C x dx N σ τ s := by
  obtain ⟨g, tk, m, es, n, rfl, F, Nw, R, D, l, ab⟩ := h
  exact ⟨g, tk, m, es, n, rfl, F, Nw, R, D, l⟩
theorem attr_storeA (X : K.In h₀) (c : ClsOk K C) (hxd : x ≠ dx) (hoff : ∀ p ∈ news, p.1 ≠ dx) (h : AtA h₀ L news s₀ C x dx a0 N σ τ s) (hN : N < 1000) {a : Str} (ha : a0 ≠ a) (ht : takes K C a = true) {p : PV} {v : Value} (hv : p.Is v)
    {Q : Unit → Shared → Prop} (k : ∀ s', AtA h₀ L news s₀ C x dx a0 (N + 1) σ (put τ (key a) p) s' → Q () s') : wpAny (model prog w) A (setAttr (.ref x) a v) Q E s := by
  obtain ⟨g, tk, m, es, n, rfl, F, Nw, R, D, l, ab⟩ := h
  have l' := length_put a (PyData.keyHash w.params a) (.str a (tk + 1)) v es
  refine set_dict F X Nw (InstAt.of_news Nw (.head _) (.tail _ (.head _))) rfl c.set c.over (takes_eq ht) c.dict (D.some a) rfl (Upd.tail hxd (Upd.head hoff)) (by dsimp only; omega) fun h' F' N' => ?_
  exact k _ ⟨h', _, m, _, _, rfl, F', N', R, D.put hv, by dsimp only; omega, by rw [isStr_put, if_neg ha]; exact ab⟩
/-- self.a = e -/
theorem em_evA {o a : Str} {po pa ap : Pos} {e : PySem.Expr} {p : PV} (fo : FrOk env L) (lo : LocOk env loc) (go : GloOk prog w A E env h₀ L news loc γ) (X : K.In h₀) (c : ClsOk K C) (hxd : x ≠ dx) (hoff : ∀ p ∈ news, p.1 ≠ dx) (ho : nmOf loc γ σ o = some (.val (.ref x))) (he : ev (nmOf loc γ σ) noAtt fuel e = some (p, [])) (ha : a0 ≠ a) (ht : takes K C a = true) (hN : N < 1000)
    (hs : AtA h₀ L news s₀ C x dx a0 N σ τ s) (k : ∀ s', AtA h₀ L news s₀ C x dx a0 (N + 1) σ (put τ (key a) p) s' → Q .next s') :
    wpAny (model prog w) A (exec (.Assign [.Attribute (.Name o po) a pa] e ap) env) Q E s := by
  have hn := nmOk fo lo go hs.at
  refine plainObj_wpAny_Assign_Attribute (ev_sound hn attOk_no _ _ _ he allT_nil s (keeps_refl _) _ fun v s1 hv k1 => hn o _ ho _ k1 _ _ fun ov hov => ?_) (ev_swaps he _ _ _)
  cases hov
  exact attr_storeA X c hxd hoff (hs.keeps k1) hN ha ht hv fun s2 hs2 => k s2 hs2
theorem em_listA {o a : Str} {po pa lp ap : Pos} (fo : FrOk env L) (lo : LocOk env loc) (go : GloOk prog w A E env h₀ L news loc γ) (X : K.In h₀) (c : ClsOk K C) (hxd : x ≠ dx) (hoff : ∀ p ∈ news, p.1 ≠ dx) (ho : nmOf loc γ σ o = some (.val (.ref x))) (ha : a0 ≠ a) (ht : takes K C a = true) (hN : N < 1000)
    (hs : AtA h₀ L news s₀ C x dx a0 N σ τ s) (k : ∀ s' l, AtA h₀ L news s₀ C x dx a0 (N + 1) σ (put τ (key a) (.val (.ref l))) s' → Q .next s') :
    wpAny (model prog w) A (exec (.Assign [.Attribute (.Name o po) a pa] (.List [] lp) ap) env) Q E s := by
  refine plainObj_wpAny_Assign_Attribute (List_ (args_nil (wpAny_newObj_type ?_ (by show 0 ≤ sizeLine; exact Nat.zero_le _)))) rfl
  have k1 : Keeps s { s with heap := s.heap.push { cls := .type "list", dict := Option.none, data := .seq ([] : List Value).toArray } } := ⟨_, _, rfl, fun b o e => Heap.get?_push_of_some _ e⟩
  refine nmOk fo lo go hs.at o _ ho _ k1 _ _ fun ov hov => ?_
  cases hov
  exact attr_storeA X c hxd hoff (hs.keeps k1) hN ha ht (p := .val (.ref s.heap.objs.size)) rfl fun s2 hs2 => k s2 _ hs2

/-- what a class must be like for its plain method to be read off an object -/
structure MethOk (K : Frag) (C f : Addr) (name : Str) : Prop where
  get : plainGet K C name = true
  has : hasDictIn K C = true
  find : findIn K (.ref C) name = some (some (.ref f))
  fn : isFn K (.ref f) = true
  bind : specialIn K (.ref f) "__get__" = some (some (.builtin "function.__get__"))
  takes : takesIn K (.ref f) = some false
  copied : copiedNames.contains name = false
/-- self.a = self.method -/
theorem em_meth {o o' a : Str} {po pa po' pa' ap : Pos} {f : Addr} (fo : FrOk env L) (lo : LocOk env loc) (go : GloOk prog w A E env h₀ L news loc γ) (X : K.In h₀) (c : ClsOk K C) (me : MethOk K C f a0) (hxd : x ≠ dx) (hoff : ∀ p ∈ news, p.1 ≠ dx) (ho : nmOf loc γ σ o = some (.val (.ref x))) (ho' : nmOf loc γ σ o' = some (.val (.ref x))) (ht : Mine.takes K C a = true) (hN : N < 1000)
    (hs : AtA h₀ L news s₀ C x dx a0 N σ τ s) (k : ∀ s' l, AtO h₀ L news s₀ C x dx (N + 1) σ (put τ (key a) (.val (.ref l))) s' → Q .next s') :
    wpAny (model prog w) A (exec (.Assign [.Attribute (.Name o po) a pa] (.Attribute (.Name o' po') a0 pa') ap) env) Q E s := by
  refine plainObj_wpAny_Assign_Attribute (Attribute_Name_ (nmOk fo lo go hs.at o' _ ho' _ (keeps_refl _) _ _ fun ov hov => ?_)) rfl
  cases hov
  obtain ⟨g, tk, m, es, n, rfl, F, Nw, R, D, l, ab⟩ := id hs
  have hl : getL a0 es = some Option.none := by unfold getL; rw [ab]; simp [D.1.1]
  refine kbm_bound F X Nw (InstAt.of_news Nw (.head _) (.tail _ (.head _))) me.get me.has me.find me.fn me.bind me.takes me.copied hl fun q h' F' N' lt => ?_
  have hs2 : AtO h₀ L news s₀ C x dx N σ τ { s₀ with heap := h', toks := tk + 1 } := ⟨h', tk + 1, m, es, n, rfl, F', fun p hp => N' p (.tail _ hp), R, D, l⟩
  refine nmOk fo lo go hs2.at o _ ho _ (keeps_refl _) _ _ fun ov hov => ?_
  cases hov
  exact attr_store X c hxd hoff hs2 hN ht (p := .val (.ref q)) rfl fun s3 hs3 => k s3 _ hs3
end
theorem em_me (P : Params) : MethOk (KK P) 736 359 "expect_stream_start" := ⟨by kernel_rfl, by kernel_rfl, by kernel_rfl, by kernel_rfl, by kernel_rfl, by kernel_rfl, by kernel_rfl⟩
end Mine

namespace Mine
open PySem PySem.W PySem.Calls PyProof.Rows

section
variable {prog : Program} {w : World} {A : Around} {E : Value → Shared → Prop} {env : Env} {h₀ : Heap} {L : Addr} {news : List (Addr × Obj)} {s₀ : Shared} {loc : List (List Nat)} {γ : Sto} {C x dx : Addr} {K : Frag}
theorem exO_then (fo : FrOk env L) (lo : LocOk env loc) (go : GloOk prog w A E env h₀ L news loc γ) (X : K.In h₀) (c : ClsOk K C) (hxd : x ≠ dx) (hoff : ∀ p ∈ news, p.1 ≠ dx) {σ : Sto} {after : List Stmt} : ∀ (b : List Stmt) (N : Nat) (τ τ' : Sto) (o : List Bool), exO K C x (nmOf loc γ σ) b τ = some (τ', o) → AllT o → N + b.length ≤ 1000 →
    ∀ s, AtO h₀ L news s₀ C x dx N σ τ s → ∀ (Q : Flow → Shared → Prop), (∀ s', AtO h₀ L news s₀ C x dx (N + b.length) σ τ' s' → wpAny (model prog w) A (execs after env) Q E s') → wpAny (model prog w) A (execs (b ++ after) env) Q E s
  | [], N, τ, τ', o, h, _, _ => fun s hs Q k => by cases h; exact k s hs
  | st :: rest, N, τ, τ', o, h, ho, hN => by
    intro s hs Q k
    unfold exO at h
    split at h
    · rename_i o' po a pa e pos
      cases ht : takes K C a with
      | false => rw [ht] at h; cases h
      | true =>
        rw [ht] at h
        simp only [cond_true] at h
        split at h
        · rename_i r p ob h1 h2
          cases h3 : exO K C x (nmOf loc γ σ) rest (put τ (key a) p) with
          | none => rw [h3] at h; cases h
          | some z =>
            rw [h3] at h
            cases h
            have hr : r = x := of_decide_eq_true (ho.right _ (.head _))
            rw [hr] at h1
            have hn := nmOk fo lo go hs.at
            have hev := ev_sound (A := A) (E := E) (att := fun _ _ => Option.none) hn (fun r a p o h => nomatch h)
            simp only [List.length_cons] at hN k
            refine wpAny_execs_cons (plainObj_wpAny_Assign_Attribute (hev _ _ _ h2 ho.left s (keeps_refl s) _ fun v s₁ hv hs₁ => ?_) (ev_swaps h2 _ _ _))
            refine hn o' _ h1 s₁ hs₁ _ _ fun ov (hov : ov = _) => ?_
            rw [hov]
            refine attr_store X c hxd hoff (hs.keeps hs₁) (by omega) ht hv fun s₂ hs₂ => ?_
            refine exO_then fo lo go X c hxd hoff rest (N + 1) _ _ _ h3 (fun b hb => ho.right b (.tail _ hb)) (by omega) s₂ hs₂ Q fun s₃ hs₃ => k s₃ ?_
            rw [show N + (rest.length + 1) = N + 1 + rest.length by omega]
            exact hs₃
        · cases h
    · cases h
noncomputable def blur (τ : Sto) : Sto := τ.map fun e => (e.1, PV.any)
theorem blur_put (k : List Nat) (p : PV) : ∀ τ : Sto, blur (put τ k p) = put (blur τ) k .any
  | [] => rfl
  | (q, v) :: τ => by
    simp only [put, blur, List.map_cons]
    cases keq q k with
    | true => rfl
    | false => simp only [cond_false, List.map_cons]; rw [show List.map (fun e => (e.1, PV.any)) (put τ k p) = blur (put τ k p) from rfl, blur_put k p τ]; rfl
theorem look_blur (k : List Nat) : ∀ τ : Sto, look (blur τ) k = (look τ k).map fun _ => PV.any
  | [] => rfl
  | (q, v) :: τ => by
    simp only [look, blur, List.map_cons]
    cases keq q k with
    | true => rfl
    | false => exact look_blur k τ
theorem AtO.blur {N N' : Nat} {σ τ : Sto} {s : Shared} (h : AtO h₀ L news s₀ C x dx N σ τ s) (hN : N ≤ N') : AtO h₀ L news s₀ C x dx N' σ (blur τ) s := by
  obtain ⟨g, tk, m, es, n, rfl, F, Nw, R, D, l⟩ := h
  refine ⟨g, tk, m, es, n, rfl, F, Nw, R, ⟨⟨D.1.1, fun a ha => D.1.2 a ?_⟩, fun a q hq hne => ?_⟩, Nat.le_trans l hN⟩
  · rw [look_blur] at ha
    cases e : look τ (key a) with
    | none => rfl
    | some q => rw [e] at ha; cases ha
  · rw [look_blur] at hq
    cases e : look τ (key a) with
    | none => rw [e] at hq; cases hq
    | some q => rw [e] at hq; cases hq; exact absurd rfl hne
/-- the names that the first five stores lay down -/
noncomputable def five (a b c d e : Str) : Sto := put (put (put (put (put [] (key a) .any) (key b) .any) (key c) .any) (key d) .any) (key e) .any
end

structure AA where
  o : Str
  a : Str
  e : PySem.Expr
  ps : List Pos
noncomputable def aaOf : Option Stmt → AA
  | some (.Assign [.Attribute (.Name o p0) a p1] e p2) => ⟨o, a, e, [p0, p1, p2]⟩
  | _ => ⟨default, default, default, []⟩
noncomputable def aaS (p : AA) : Stmt := .Assign [.Attribute (.Name p.o (posAt p.ps 0)) p.a (posAt p.ps 1)] p.e (posAt p.ps 2)
noncomputable abbrev emNm (σ : Sto) : Str → Option PV := nmOf emLoc [] σ
noncomputable def emA (P : Params) (i : Nat) : AA := aaOf ((emB P)[i]?)
noncomputable def lpOf : PySem.Expr → Pos
  | .List _ p => p
  | _ => default
theorem em0_s (P : Params) : (emB P)[0]? = some (aaS (emA P 0)) := by kernel_rfl
theorem em1_s (P : Params) : (emB P)[1]? = some (aaS (emA P 1)) := by kernel_rfl
theorem em2_s (P : Params) : (emB P)[2]? = some (aaS (emA P 2)) := by kernel_rfl
theorem em3_s (P : Params) : (emB P)[3]? = some (aaS (emA P 3)) := by kernel_rfl
theorem em4_s (P : Params) : (emB P)[4]? = some (aaS (emA P 4)) := by kernel_rfl
theorem em5_s (P : Params) : (emB P)[5]? = some (aaS (emA P 5)) := by kernel_rfl
theorem em6_s (P : Params) : (emB P)[6]? = some (aaS (emA P 6)) := by kernel_rfl
theorem em0_e (P : Params) (x r : Addr) (wide : Bool) : ev (emNm (emSig x r wide)) noAtt fuel (emA P 0).e = some (.val (.ref r), []) := by kernel_rfl
theorem em1_e (P : Params) (x r : Addr) (wide : Bool) : ev (emNm (emSig x r wide)) noAtt fuel (emA P 1).e = some (.none, []) := by kernel_rfl
theorem em2_e (P : Params) : (emA P 2).e = .List [] (lpOf (emA P 2).e) := by kernel_rfl
theorem em4_e (P : Params) : (emA P 4).e = .List [] (lpOf (emA P 4).e) := by kernel_rfl
theorem em6_e (P : Params) : (emA P 6).e = .List [] (lpOf (emA P 6).e) := by kernel_rfl
noncomputable def atOf : PySem.Expr → Str × Pos × Pos
  | .Attribute (.Name o p) _ q => (o, p, q)
  | _ => default
theorem em3_e (P : Params) : (emA P 3).e = .Attribute (.Name (atOf (emA P 3).e).1 (atOf (emA P 3).e).2.1) "expect_stream_start" (atOf (emA P 3).e).2.2 := by kernel_rfl
theorem em3_o (P : Params) (x r : Addr) (wide : Bool) : emNm (emSig x r wide) (atOf (emA P 3).e).1 = some (.val (.ref x)) := by kernel_rfl
theorem em_o (P : Params) (x r : Addr) (wide : Bool) : emNm (emSig x r wide) (emA P 0).o = some (.val (.ref x)) ∧ emNm (emSig x r wide) (emA P 1).o = some (.val (.ref x)) ∧ emNm (emSig x r wide) (emA P 2).o = some (.val (.ref x)) ∧ emNm (emSig x r wide) (emA P 3).o = some (.val (.ref x)) ∧ emNm (emSig x r wide) (emA P 4).o = some (.val (.ref x)) ∧ emNm (emSig x r wide) (emA P 5).o = some (.val (.ref x)) ∧ emNm (emSig x r wide) (emA P 6).o = some (.val (.ref x)) := ⟨by kernel_rfl, by kernel_rfl, by kernel_rfl, by kernel_rfl, by kernel_rfl, by kernel_rfl, by kernel_rfl⟩
theorem em_t (P : Params) : takes (KK P) 736 (emA P 0).a = true ∧ takes (KK P) 736 (emA P 1).a = true ∧ takes (KK P) 736 (emA P 2).a = true ∧ takes (KK P) 736 (emA P 3).a = true ∧ takes (KK P) 736 (emA P 4).a = true ∧ takes (KK P) 736 (emA P 6).a = true := ⟨by kernel_rfl, by kernel_rfl, by kernel_rfl, by kernel_rfl, by kernel_rfl, by kernel_rfl⟩
theorem em_ne (P : Params) : decide (("expect_stream_start" : Str) = (emA P 0).a) = false ∧ decide (("expect_stream_start" : Str) = (emA P 1).a) = false ∧ decide (("expect_stream_start" : Str) = (emA P 2).a) = false := ⟨by kernel_rfl, by kernel_rfl, by kernel_rfl⟩
/-- the blocks of plain stores -/
noncomputable def emRun (P : Params) (x r : Addr) (wide : Bool) (i n : Nat) (τ : Sto) : Option (Sto × List Bool) := exO (KK P) 736 x (emNm (emSig x r wide)) (((emB P).drop i).take n) τ
noncomputable def emT (P : Params) (x r : Addr) (wide : Bool) (i n : Nat) (τ : Sto) : Sto := ((emRun P x r wide i n τ).getD ([], [])).1
noncomputable def emF (P : Params) : Sto := five (emA P 0).a (emA P 1).a (emA P 2).a (emA P 3).a (emA P 4).a
noncomputable def emG (P : Params) (x r : Addr) (wide : Bool) : Sto := put (blur (emT P x r wide 5 1 (emF P))) (key (emA P 6).a) .any
noncomputable def emG7 (P : Params) (x r : Addr) (wide : Bool) : Sto := emT P x r wide 7 14 (emG P x r wide)
theorem em5_r (P : Params) (x r : Addr) (wide : Bool) : emRun P x r wide 5 1 (emF P) = some (emT P x r wide 5 1 (emF P), List.replicate 1 (decide (x = x))) := by kernel_rfl
theorem em7_r (P : Params) (x r : Addr) (wide : Bool) : emRun P x r wide 7 14 (emG P x r wide) = some (emG7 P x r wide, List.replicate 14 (decide (x = x))) := by kernel_rfl
theorem em22_r (P : Params) (x r : Addr) (wide : Bool) : emRun P x r wide 22 1 (emG7 P x r wide) = some (emT P x r wide 22 1 (emG7 P x r wide), List.replicate 1 (decide (x = x))) := by kernel_rfl
theorem em24_r (P : Params) (x r : Addr) (wide : Bool) : emRun P x r wide 24 1 (emT P x r wide 22 1 (emG7 P x r wide)) = some (emT P x r wide 24 1 (emT P x r wide 22 1 (emG7 P x r wide)), List.replicate 1 (decide (x = x))) := by kernel_rfl
theorem em26_r (P : Params) (x r : Addr) (wide : Bool) : emRun P x r wide 26 5 (emT P x r wide 24 1 (emT P x r wide 22 1 (emG7 P x r wide))) = some (emT P x r wide 26 5 (emT P x r wide 24 1 (emT P x r wide 22 1 (emG7 P x r wide))), List.replicate 5 (decide (x = x))) := by kernel_rfl
theorem em_fin (P : Params) (x r : Addr) (wide : Bool) : look (emT P x r wide 26 5 (emT P x r wide 24 1 (emT P x r wide 22 1 (emG7 P x r wide)))) (key "allow_unicode") = some (.bool wide) := by kernel_rfl
theorem em_no (P : Params) (x r : Addr) (wide : Bool) : look (emT P x r wide 26 5 (emT P x r wide 24 1 (emT P x r wide 22 1 (emG7 P x r wide)))) (key "analyze_scalar") = Option.none := by kernel_rfl
noncomputable def ifAnd : Option Stmt → (Str × Pos) × List PySem.Expr × List Stmt × Pos × Pos
  | some (.If (.BoolOp _ (.Name x px :: rest) bp) body _ ip) => ((x, px), rest, body, bp, ip)
  | _ => default
noncomputable def em21 (P : Params) := ifAnd ((emB P)[21]?)
noncomputable def em23 (P : Params) := ifAnd ((emB P)[23]?)
theorem em21_s (P : Params) : (emB P)[21]? = some (.If (.BoolOp .And (.Name (em21 P).1.1 (em21 P).1.2 :: (em21 P).2.1) (em21 P).2.2.2.1) (em21 P).2.2.1 [] (em21 P).2.2.2.2) := by kernel_rfl
theorem em23_s (P : Params) : (emB P)[23]? = some (.If (.BoolOp .And (.Name (em23 P).1.1 (em23 P).1.2 :: (em23 P).2.1) (em23 P).2.2.2.1) (em23 P).2.2.1 [] (em23 P).2.2.2.2) := by kernel_rfl
theorem em21_n (P : Params) (x r : Addr) (wide : Bool) : emNm (emSig x r wide) (em21 P).1.1 = some .none := by kernel_rfl
theorem em23_n (P : Params) (x r : Addr) (wide : Bool) : emNm (emSig x r wide) (em23 P).1.1 = some .none := by kernel_rfl
noncomputable def ifIn : Option Stmt → (Str × List Pos) × (Str × Nat) × (Str × Nat) × (Str × Nat) × List Stmt
  | some (.If (.Compare (.Name x p0) _ [.List [.Constant (.str c1) k1 p1, .Constant (.str c2) k2 p2, .Constant (.str c3) k3 p3] p4] p5) body _ p6) => ((x, [p0, p1, p2, p3, p4, p5, p6]), (c1, k1), (c2, k2), (c3, k3), body)
  | _ => default
noncomputable def em25 (P : Params) := ifIn ((emB P)[25]?)
theorem em25_s (P : Params) : (emB P)[25]? = some (.If (.Compare (.Name (em25 P).1.1 (posAt (em25 P).1.2 0)) [.In] [.List [.Constant (.str (em25 P).2.1.1) (em25 P).2.1.2 (posAt (em25 P).1.2 1), .Constant (.str (em25 P).2.2.1.1) (em25 P).2.2.1.2 (posAt (em25 P).1.2 2), .Constant (.str (em25 P).2.2.2.1.1) (em25 P).2.2.2.1.2 (posAt (em25 P).1.2 3)] (posAt (em25 P).1.2 4)] (posAt (em25 P).1.2 5)) (em25 P).2.2.2.2 [] (posAt (em25 P).1.2 6)) := by kernel_rfl
theorem em25_n (P : Params) (x r : Addr) (wide : Bool) : emNm (emSig x r wide) (em25 P).1.1 = some .none := by kernel_rfl
theorem em_loc (P : Params) (L : Addr) : locB (envK (KK P) 316 L).scope emLoc = true := by kernel_rfl
end Mine

namespace Mine
open PySem PySem.W PySem.Calls PyProof.Rows

theorem cut_take (l : List Stmt) (i n : Nat) : l.drop i = (l.drop i).take n ++ l.drop (i + n) := by
  have h := (List.take_append_drop n (l.drop i)).symm
  rw [List.drop_drop] at h
  exact h

section
variable {prog : Program} {w : World} {A : Around} {E : Value → Shared → Prop} {env : Env} {h₀ : Heap} {L : Addr} {news : List (Addr × Obj)} {s s₀ : Shared} {loc : List (List Nat)} {γ σ : Sto} {C x dx : Addr} {K : Frag} {Q : Flow → Shared → Prop}
theorem AtO.up {N N' : Nat} {τ : Sto} (h : AtO h₀ L news s₀ C x dx N σ τ s) (hN : N ≤ N') : AtO h₀ L news s₀ C x dx N' σ τ s := by
  obtain ⟨g, tk, m, es, n, rfl, F, Nw, R, D, l⟩ := h
  exact ⟨g, tk, m, es, n, rfl, F, Nw, R, D, Nat.le_trans l hN⟩
theorem chunk {l : List Stmt} {i n k N : Nat} {τ τ' : Sto} (fo : FrOk env L) (lo : LocOk env loc) (go : GloOk prog w A E env h₀ L news loc γ) (X : K.In h₀) (c : ClsOk K C) (hxd : x ≠ dx) (hoff : ∀ p ∈ news, p.1 ≠ dx)
    (h : exO K C x (nmOf loc γ σ) ((l.drop i).take n) τ = some (τ', List.replicate k (decide (x = x)))) (hN : N + n ≤ 1000) (hs : AtO h₀ L news s₀ C x dx N σ τ s) (kk : ∀ s', AtO h₀ L news s₀ C x dx (N + n) σ τ' s' → wpAny (model prog w) A (execs (l.drop (i + n)) env) Q E s') :
    wpAny (model prog w) A (execs (l.drop i) env) Q E s := by
  have hl : ((l.drop i).take n).length ≤ n := List.length_take_le _ _
  rw [cut_take l i n]
  exact exO_then fo lo go X c hxd hoff _ N _ _ _ h (fun b hb => by rw [(List.mem_replicate.mp hb).2]; exact decide_eq_true rfl) (by omega) s hs Q fun s' hs' => kk s' (hs'.up (by omega))

theorem em_core {l : List Stmt} {a0 a1 a2 a3 a4 a5 a6 : AA} {mn : Str} {f r : Addr} {lp2 lp4 lp6 : Pos} {ao : Str × Pos × Pos} {i21 i23 : (Str × Pos) × List PySem.Expr × List Stmt × Pos × Pos} {i25 : (Str × List Pos) × (Str × Nat) × (Str × Nat) × (Str × Nat) × List Stmt} {τ5 τ7 τ22 τ24 τ26 : Sto}
    (fo : FrOk env L) (lo : LocOk env loc) (go : GloOk prog w A E env h₀ L news loc γ) (X : K.In h₀) (c : ClsOk K C) (me : MethOk K C f mn) (hxd : x ≠ dx) (hoff : ∀ p ∈ news, p.1 ≠ dx) (hlen : l.length = 31)
    (s0 : l[0]? = some (aaS a0)) (s1 : l[1]? = some (aaS a1)) (s2 : l[2]? = some (aaS a2)) (s3 : l[3]? = some (aaS a3)) (s4 : l[4]? = some (aaS a4)) (s6 : l[6]? = some (aaS a6))
    (o0 : nmOf loc γ σ a0.o = some (.val (.ref x))) (o1 : nmOf loc γ σ a1.o = some (.val (.ref x))) (o2 : nmOf loc γ σ a2.o = some (.val (.ref x))) (o3 : nmOf loc γ σ a3.o = some (.val (.ref x))) (o4 : nmOf loc γ σ a4.o = some (.val (.ref x))) (o6 : nmOf loc γ σ a6.o = some (.val (.ref x)))
    (t0 : takes K C a0.a = true) (t1 : takes K C a1.a = true) (t2 : takes K C a2.a = true) (t3 : takes K C a3.a = true) (t4 : takes K C a4.a = true) (t6 : takes K C a6.a = true)
    (n0 : decide (mn = a0.a) = false) (n1 : decide (mn = a1.a) = false) (n2 : decide (mn = a2.a) = false)
    (e0 : ev (nmOf loc γ σ) noAtt fuel a0.e = some (.val (.ref r), [])) (e1 : ev (nmOf loc γ σ) noAtt fuel a1.e = some (.none, [])) (e2 : a2.e = .List [] lp2) (e3 : a3.e = .Attribute (.Name ao.1 ao.2.1) mn ao.2.2) (e3o : nmOf loc γ σ ao.1 = some (.val (.ref x))) (e4 : a4.e = .List [] lp4) (e6 : a6.e = .List [] lp6)
    (r5 : exO K C x (nmOf loc γ σ) ((l.drop 5).take 1) (five a0.a a1.a a2.a a3.a a4.a) = some (τ5, List.replicate 1 (decide (x = x)))) (r7 : exO K C x (nmOf loc γ σ) ((l.drop 7).take 14) (put (blur τ5) (key a6.a) .any) = some (τ7, List.replicate 14 (decide (x = x)))) (r22 : exO K C x (nmOf loc γ σ) ((l.drop 22).take 1) τ7 = some (τ22, List.replicate 1 (decide (x = x))))
    (r24 : exO K C x (nmOf loc γ σ) ((l.drop 24).take 1) τ22 = some (τ24, List.replicate 1 (decide (x = x)))) (r26 : exO K C x (nmOf loc γ σ) ((l.drop 26).take 5) τ24 = some (τ26, List.replicate 5 (decide (x = x))))
    (s21 : l[21]? = some (.If (.BoolOp .And (.Name i21.1.1 i21.1.2 :: i21.2.1) i21.2.2.2.1) i21.2.2.1 [] i21.2.2.2.2)) (s23 : l[23]? = some (.If (.BoolOp .And (.Name i23.1.1 i23.1.2 :: i23.2.1) i23.2.2.2.1) i23.2.2.1 [] i23.2.2.2.2)) (m21 : nmOf loc γ σ i21.1.1 = some .none) (m23 : nmOf loc γ σ i23.1.1 = some .none)
    (s25 : l[25]? = some (.If (.Compare (.Name i25.1.1 (posAt i25.1.2 0)) [.In] [.List [.Constant (.str i25.2.1.1) i25.2.1.2 (posAt i25.1.2 1), .Constant (.str i25.2.2.1.1) i25.2.2.1.2 (posAt i25.1.2 2), .Constant (.str i25.2.2.2.1.1) i25.2.2.2.1.2 (posAt i25.1.2 3)] (posAt i25.1.2 4)] (posAt i25.1.2 5)) i25.2.2.2.2 [] (posAt i25.1.2 6))) (m25 : nmOf loc γ σ i25.1.1 = some .none)
    (hs : AtA h₀ L news s₀ C x dx mn 0 σ [] s) (k : ∀ s' N, AtO h₀ L news s₀ C x dx N σ τ26 s' → Q .next s') : WpX prog w A (execs l env) Q E s := by
  obtain ⟨ao0, aa0, ae0, ap0⟩ := a0
  obtain ⟨ao1, aa1, ae1, ap1⟩ := a1
  obtain ⟨ao2, aa2, ae2, ap2⟩ := a2
  obtain ⟨ao3, aa3, ae3, ap3⟩ := a3
  obtain ⟨ao4, aa4, ae4, ap4⟩ := a4
  obtain ⟨ao6, aa6, ae6, ap6⟩ := a6
  dsimp only at *
  subst e2 e3 e4 e6
  refine ⟨step_at (i := 0) s0 (em_evA fo lo go X c hxd hoff o0 e0 (of_decide_eq_false n0) t0 (by omega) hs fun _ h1 => ?_)⟩
  refine step_at s1 (em_evA fo lo go X c hxd hoff o1 e1 (of_decide_eq_false n1) t1 (by omega) h1 fun _ h2 => ?_)
  refine step_at s2 (em_listA fo lo go X c hxd hoff o2 (of_decide_eq_false n2) t2 (by omega) h2 fun _ _ h3 => ?_)
  refine step_at s3 (em_meth fo lo go X c me hxd hoff o3 e3o t3 (by omega) h3 fun _ _ h4 => ?_)
  refine step_at s4 (em_list fo lo go X c hxd hoff o4 t4 (by omega) h4 fun _ _ h5 => ?_)
  have h5' := h5.blur (Nat.le_refl _)
  rw [blur_put, blur_put, blur_put, blur_put, blur_put] at h5'
  refine chunk (i := 5) fo lo go X c hxd hoff r5 (by omega) h5' fun _ h6 => ?_
  refine step_at s6 (em_list fo lo go X c hxd hoff o6 t6 (by omega) h6 fun _ _ h7 => ?_)
  have h7' := h7.blur (Nat.le_refl _)
  rw [blur_put] at h7'
  refine chunk (i := 7) fo lo go X c hxd hoff r7 (by omega) h7' fun _ h21 => ?_
  refine step_at s21 (em_ifand fo lo go m21 h21 fun _ h22 => ?_)
  refine chunk (i := 22) fo lo go X c hxd hoff r22 (by omega) h22 fun _ h23 => ?_
  refine step_at s23 (em_ifand fo lo go m23 h23 fun _ h24 => ?_)
  refine chunk (i := 24) fo lo go X c hxd hoff r24 (by omega) h24 fun _ h25 => ?_
  refine step_at s25 (em_ifin fo lo go m25 h25 fun _ h26 => ?_)
  refine chunk (i := 26) fo lo go X c hxd hoff r26 (by omega) h26 fun _ h31 => ?_
  rw [List.drop_eq_nil_of_le (by omega)]
  exact wpAny_execs_nil (k _ _ h31)
end
end Mine

namespace Mine
open PySem PySem.W PySem.Calls PyProof.Rows

noncomputable def emPar (ps : List Pos) (ds : List PySem.Expr) : Arguments where
  posonlyargs := []
  args := [⟨"self", Option.none, posAt ps 0⟩, ⟨"stream", Option.none, posAt ps 1⟩, ⟨"canonical", Option.none, posAt ps 2⟩, ⟨"indent", Option.none, posAt ps 3⟩, ⟨"width", Option.none, posAt ps 4⟩, ⟨"allow_unicode", Option.none, posAt ps 5⟩, ⟨"line_break", Option.none, posAt ps 6⟩]
  vararg := Option.none
  kwonlyargs := []
  kw_defaults := []
  kwarg := Option.none
  defaults := ds
theorem em_par (P : Params) : (fnK (KK P) 316).params = emPar ((fnK (KK P) 316).params.args.map (·.pos)) (fnK (KK P) 316).params.defaults := by kernel_rfl
noncomputable def refV : Value → Addr
  | .ref a => a
  | _ => 0
theorem em_def (P : Params) : (fnK (KK P) 316).defaults = .ref (refV (fnK (KK P) 316).defaults) := by kernel_rfl
theorem em_deft (P : Params) : (KK P).lookup (refV (fnK (KK P) 316).defaults) = some (objAt (KK P) (refV (fnK (KK P) 316).defaults)) := by kernel_rfl
noncomputable def seqN : Data → Nat
  | .seq _ n => n
  | _ => 0
theorem em_defs (P : Params) : (objAt (KK P) (refV (fnK (KK P) 316).defaults)).data = .seq #[.none, .none, .none, .none, .none] (seqN (objAt (KK P) (refV (fnK (KK P) 316).defaults)).data) := by kernel_rfl
noncomputable def emBinds (a b v : Value) : List (Str × Value) := [(Str.ofString "self", a), (Str.ofString "stream", b), (Str.ofString "canonical", .none), (Str.ofString "indent", .none), (Str.ofString "width", .none), (Str.ofString "allow_unicode", v), (Str.ofString "line_break", .none)]
theorem binds_em {K : Frag} {s : Shared} {fd : FuncData} {T : Addr} {o : Obj} {a b v : Value} {ps : List Pos} {ds : List PySem.Expr} {n : Nat} (X : K.In s.heap) (hp : fd.params = emPar ps ds) (hd : fd.defaults = .ref T) (hk : fd.kwdefaults = .none) (ho : K.lookup T = some o) (hs : o.data = .seq #[.none, .none, .none, .none, .none] n) :
    BindsTo s fd ⟨[a, b], [(Str.ofString "allow_unicode", v)]⟩ (emBinds a b v) := by
  obtain ⟨nm, q, par, body, sc, gl, clo, df, kd, doc, pm, an, cd, ct, bi⟩ := fd
  dsimp only at hp hd hk
  subst hp hd hk
  exact binds_K X rfl ho hs rfl rfl
end Mine

namespace Mine
open PySem PySem.W PySem.Calls PyProof.Rows

theorem enterKB {K : Frag} {prog : Program} {w : World} {A A₀ : Around} {s : Shared} {L : Addr} {h₀ base : Heap} {m mg mb : Str → Option Value} {news : List (Addr × Obj)} {p : Program} {loose : List Str} {mean : ExcName → Option Value} {env : Env} {outer : List Env}
    {R : Result → Shared → Prop} {f : Addr} {args : Args} {binds : List (Str × Value)} (fn : FnOk K f)
    (B : Below A₀ base outer h₀) (F : Fr h₀ L s.heap m) (X₀ : K.In h₀) (N : News h₀ L s.heap news) (T : Top p loose mean mg mb h₀) (hA : A.frames = some (env :: outer)) (hf : env.frame = some L) (hke : env.scope.kind = .function)
    (hroom : A.depth < recursionLimit) (hbind : BindsTo s (fnK K f) args binds) (hcell : noCell K f = true) (hloc : locals K f binds = true)
    (h : ∀ g L' h₁, Fr h₀ L g m → Fr g L' h₁ (fun y => binds.reverse.lookup y) → News g L' h₁ news → Below A base (env :: outer) g → K.In g → Top p loose mean mg mb g →
      WpX prog w (A.deeper (envK K f L')) (execs (bodyAt K f) (envK K f L'))
        (fun fl s' => LeaveK h₀ L m g R (match fl with | .ret v => v | _ => .none) s') (fun _ _ => False)
        { s with heap := h₁, toks := s.toks + binds.length }) : codeAny (model prog w) A (.call (.ref f) args) R s :=
  code_def B F X₀ N T hA hf hke fn.look fn.code hroom hbind (locs hloc) (fun g L' h₁ a b c d e i => wpAny_mono (h g L' h₁ a b c d e i).run (fun _ _ x => x) fun _ _ x => x.elim) fn.co fn.gen fn.kind (noCell_of hcell)

theorem em_rep {x r : Addr} {wide : Bool} : Rep (emSig x r wide) (fun y => (emBinds (.ref x) (.ref r) (.bool wide)).reverse.lookup y) := by
  have h := rep_binds [("self", .ref x, .val (.ref x)), ("stream", .ref r, .val (.ref r)), ("canonical", .none, .none), ("indent", .none, .none), ("width", .none, .none), ("allow_unicode", .bool wide, .bool wide), ("line_break", .none, .none)] (by
    intro t' ht'
    simp only [List.mem_cons, List.not_mem_nil, or_false] at ht'
    rcases ht' with rfl | rfl | rfl | rfl | rfl | rfl | rfl <;> rfl)
  exact h
theorem em_kd (P : Params) : (fnK (KK P) 316).kwdefaults = .none := by kernel_rfl

section
variable {w : World} {p : Program} {loose : List Str} {mean : ExcName → Option Value} {mg mb : Str → Option Value} {A A₀ : Around} {env : Env} {outer : List Env} {base h₀ : Heap} {L : Addr} {m : Str → Option Value} {news : List (Addr × Obj)} {s s₀ : Shared}

theorem em_body {x dx r : Addr} {wide : Bool} {Q : Flow → Shared → Prop} (X : (KK w.params).In h₀) (hxd : x ≠ dx) (hoff : ∀ p ∈ news, p.1 ≠ dx) (hs : AtA h₀ L news s₀ 736 x dx "expect_stream_start" 0 (emSig x r wide) [] s)
    (k : ∀ s' N τ, look τ (key "allow_unicode") = some (.bool wide) → look τ (key "analyze_scalar") = Option.none → AtO h₀ L news s₀ 736 x dx N (emSig x r wide) τ s' → Q .next s') : WpX PRG w A (execs (emB w.params) (envK (KK w.params) 316 L)) Q (fun _ _ => False) s :=
  em_core (loc := emLoc) (γ := []) (σ := emSig x r wide) (K := KK w.params) (l := emB w.params) (a5 := emA w.params 5) (frOk_envK (em_fn w.params)) (locOk_of rfl (em_loc w.params L)) gloOk_nil X (em_cls w.params) (em_me w.params) hxd hoff (em_len w.params)
    (em0_s w.params) (em1_s w.params) (em2_s w.params) (em3_s w.params) (em4_s w.params) (em6_s w.params)
    (em_o w.params x r wide).1 (em_o w.params x r wide).2.1 (em_o w.params x r wide).2.2.1 (em_o w.params x r wide).2.2.2.1 (em_o w.params x r wide).2.2.2.2.1 (em_o w.params x r wide).2.2.2.2.2.2
    (em_t w.params).1 (em_t w.params).2.1 (em_t w.params).2.2.1 (em_t w.params).2.2.2.1 (em_t w.params).2.2.2.2.1 (em_t w.params).2.2.2.2.2
    (em_ne w.params).1 (em_ne w.params).2.1 (em_ne w.params).2.2 (em0_e w.params x r wide) (em1_e w.params x r wide) (em2_e w.params) (em3_e w.params) (em3_o w.params x r wide) (em4_e w.params) (em6_e w.params)
    (em5_r w.params x r wide) (em7_r w.params x r wide) (em22_r w.params x r wide) (em24_r w.params x r wide) (em26_r w.params x r wide)
    (em21_s w.params) (em23_s w.params) (em21_n w.params x r wide) (em23_n w.params x r wide) (em25_s w.params) (em25_n w.params x r wide) hs fun s' N h => k s' N _ (em_fin w.params x r wide) (em_no w.params x r wide) h

/-- Emitter(r, allow_unicode=wide) -/
theorem em_ok {Q E : Value → Shared → Prop} {r : Addr} {wide : Bool}
    (B : Below A₀ base outer h₀) (F : Fr h₀ L s.heap m) (X : (KK w.params).In h₀) (N : News h₀ L s.heap news) (T : Top p loose mean mg mb h₀) (hA : A.frames = some (env :: outer)) (hf : env.frame = some L) (hke : env.scope.kind = .function) (hd : A.depth + 1 < recursionLimit)
    (ret : ∀ (x dx n : Nat) (es : List DictEntry) (h' : Heap) (tk' : Nat), Fr h₀ L h' m → News h₀ L h' ((x, instObj 736 dx) :: (dx, dictOf es n) :: news) → getL "allow_unicode" es = some (some (.bool wide)) → getL "analyze_scalar" es = some Option.none → Q (.ref x) { s with heap := h', toks := tk' }) :
    wpAny (model PRG w) A (call (.ref 736) [.ref r] [(Str.ofString "allow_unicode", .bool wide)]) Q E s := by
  refine call_cls F X N (by kernel_rfl) (fI := 316) (by kernel_rfl) (by kernel_rfl) ?_
  intro x dx h' F' N' l1 l2
  refine enterKB (em_fn w.params) B F' X N' T (by exact hA) hf hke (by exact hd) (binds_em (X.keeps F'.keep) (em_par w.params) (em_def w.params) (em_kd w.params) (em_deft w.params) (em_defs w.params)) (by kernel_rfl) (by kernel_rfl) ?_
  intro g L' h₁ FG F1 N1 B1 X1 T1
  refine em_body (s₀ := s) X1 (Nat.ne_of_gt l2) (fun p hp => Nat.ne_of_lt (l1 p hp)) ⟨h₁, _, _, [], 0, rfl, F1, N1, em_rep, RepD.nil, by simp, rfl⟩ ?_
  intro s' N2 τ hτ hno hs'
  obtain ⟨h2, tk2, m2, es, n, rfl, F2, N2', R2, D2, _⟩ := hs'
  obtain ⟨v, hv, hi⟩ := D2.2 "allow_unicode" _ hτ (by simp)
  cases hi
  refine leaveK_ F2 N2' fun F3 N3 => ⟨rfl, ?_⟩
  exact ret x dx n es h2 tk2 F3 N3 hv (D2.absent hno)
end
end Mine

namespace Mine
open PySem PySem.W PySem.Calls PyProof.Rows

noncomputable abbrev roB (P : Params) : List Stmt := bodyAt (KK P) 754
noncomputable def roA (P : Params) : AA := aaOf ((roB P)[0]?)
theorem ro_fn (P : Params) : FnOk (KK P) 754 := ⟨by kernel_rfl, by kernel_rfl, by kernel_rfl, by kernel_rfl, by kernel_rfl⟩
theorem ro_cls (P : Params) : ClsOk (KK P) 771 := ⟨by kernel_rfl, by kernel_rfl, by kernel_rfl⟩
theorem ro_s (P : Params) : roB P = [aaS (roA P)] := by kernel_rfl
theorem ro_e (P : Params) : (roA P).e = .List [] (lpOf (roA P).e) := by kernel_rfl
noncomputable def roLoc : List (List Nat) := [ek_self]
noncomputable def roSig (x : Addr) : Sto := [(ek_self, .val (.ref x))]
theorem ro_o (P : Params) (x : Addr) : nmOf roLoc [] (roSig x) (roA P).o = some (.val (.ref x)) := by kernel_rfl
theorem ro_t (P : Params) : takes (KK P) 771 (roA P).a = true := by kernel_rfl
theorem ro_bind (P : Params) (a : Value) : bindArgs (fnK (KK P) 754) ⟨[a], []⟩ = pure [(Str.ofString "self", a)] := by kernel_rfl
structure BindsX (s : Shared) (fd : FuncData) (args : Args) (binds : List (Str × Value)) : Prop where
  run : BindsTo s fd args binds
theorem bindsX_eq {s : Shared} {fd : FuncData} {args : Args} {binds : List (Str × Value)} (h : bindArgs fd args = pure binds) : BindsX s fd args binds := ⟨BindsTo.of_eq h⟩
theorem ro_bindX (s : Shared) (P : Params) (a : Value) : BindsX s (fnK (KK P) 754) ⟨[a], []⟩ [(Str.ofString "self", a)] := bindsX_eq (ro_bind P a)
theorem ro_loc (P : Params) (L : Addr) : locB (envK (KK P) 754 L).scope roLoc = true := by kernel_rfl
theorem ro_rep {x : Addr} : Rep (roSig x) (fun y => [(Str.ofString "self", Value.ref x)].reverse.lookup y) := by
  have h := rep_binds [("self", .ref x, .val (.ref x))] (by
    intro t' ht'
    cases List.mem_singleton.mp ht'
    rfl)
  exact h

section
variable {prog : Program} {w : World} {A : Around} {E : Value → Shared → Prop} {env : Env} {h₀ : Heap} {L : Addr} {news : List (Addr × Obj)} {s s₀ : Shared} {loc : List (List Nat)} {γ σ : Sto} {C x dx : Addr} {K : Frag} {Q : Flow → Shared → Prop}
theorem ro_core {l : List Stmt} {a : AA} {lp : Pos} (hl : l = [aaS a]) (he : a.e = .List [] lp) (fo : FrOk env L) (lo : LocOk env loc) (go : GloOk prog w A E env h₀ L news loc γ) (X : K.In h₀) (c : ClsOk K C) (hxd : x ≠ dx) (hoff : ∀ p ∈ news, p.1 ≠ dx) (ho : nmOf loc γ σ a.o = some (.val (.ref x))) (ht : takes K C a.a = true)
    (hs : AtO h₀ L news s₀ C x dx 0 σ [] s) (k : ∀ s' τ, AtO h₀ L news s₀ C x dx 1 σ τ s' → Q .next s') : WpX prog w A (execs l env) Q E s := by
  obtain ⟨ao, aa, ae, ap⟩ := a
  dsimp only at he ho ht
  subst he hl
  exact ⟨wpAny_execs_cons (em_list fo lo go X c hxd hoff ho ht (by omega) hs fun s' l h => wpAny_execs_nil (k s' _ h))⟩
end
theorem enterKE {K : Frag} {prog : Program} {w : World} {A A₀ : Around} {s : Shared} {L : Addr} {h₀ base : Heap} {m mg mb : Str → Option Value} {news : List (Addr × Obj)} {p : Program} {loose : List Str} {mean : ExcName → Option Value} {env : Env} {outer : List Env}
    {R : Result → Shared → Prop} {f : Addr} {args : Args} {binds : List (Str × Value)} (fn : FnOk K f)
    (B : Below A₀ base outer h₀) (F : Fr h₀ L s.heap m) (X₀ : K.In h₀) (N : News h₀ L s.heap news) (T : Top p loose mean mg mb h₀) (hA : A.frames = some (env :: outer)) (hf : env.frame = some L) (hke : env.scope.kind = .function)
    (hroom : A.depth < recursionLimit) (hbind : bindArgs (fnK K f) args = pure binds) (hcell : noCell K f = true) (hloc : locals K f binds = true)
    (h : ∀ g L' h₁, Fr h₀ L g m → Fr g L' h₁ (fun y => binds.reverse.lookup y) → News g L' h₁ news → Below A base (env :: outer) g → K.In g → Top p loose mean mg mb g →
      WpX prog w (A.deeper (envK K f L')) (execs (bodyAt K f) (envK K f L'))
        (fun fl s' => LeaveK h₀ L m g R (match fl with | .ret v => v | _ => .none) s') (fun _ _ => False)
        { s with heap := h₁, toks := s.toks + binds.length }) : codeAny (model prog w) A (.call (.ref f) args) R s := enterKB fn B F X₀ N T hA hf hke hroom (BindsTo.of_eq hbind) hcell hloc h
section
variable {w : World} {p : Program} {loose : List Str} {mean : ExcName → Option Value} {mg mb : Str → Option Value} {A A₀ : Around} {env : Env} {outer : List Env} {base h₀ : Heap} {L : Addr} {m : Str → Option Value} {news : List (Addr × Obj)} {s : Shared}
theorem ro_body {s₀ : Shared} {x dx : Addr} {Q : Flow → Shared → Prop} (X : (KK w.params).In h₀) (hxd : x ≠ dx) (hoff : ∀ p ∈ news, p.1 ≠ dx) (hs : AtO h₀ L news s₀ 771 x dx 0 (roSig x) [] s)
    (k : ∀ s' τ, AtO h₀ L news s₀ 771 x dx 1 (roSig x) τ s' → Q .next s') : WpX PRG w A (execs (roB w.params) (envK (KK w.params) 754 L)) Q (fun _ _ => False) s :=
  ro_core (loc := roLoc) (γ := []) (σ := roSig x) (K := KK w.params) (ro_s w.params) (ro_e w.params) (frOk_envK (ro_fn w.params)) (locOk_of rfl (ro_loc w.params L)) gloOk_nil X (ro_cls w.params) hxd hoff (ro_o w.params x) (ro_t w.params) hs k
/-- Rows() -/
theorem ro_ok {Q E : Value → Shared → Prop}
    (B : Below A₀ base outer h₀) (F : Fr h₀ L s.heap m) (X : (KK w.params).In h₀) (N : News h₀ L s.heap news) (T : Top p loose mean mg mb h₀) (hA : A.frames = some (env :: outer)) (hf : env.frame = some L) (hke : env.scope.kind = .function) (hd : A.depth + 1 < recursionLimit)
    (ret : ∀ (x : Nat) (h' : Heap) (tk' : Nat), Fr h₀ L h' m → News h₀ L h' news → Q (.ref x) { s with heap := h', toks := tk' }) :
    wpAny (model PRG w) A (call (.ref 771) []) Q E s := by
  refine call_cls F X N (by kernel_rfl) (fI := 754) (by kernel_rfl) (by kernel_rfl) ?_
  intro x dx h' F' N' l1 l2
  refine enterKE (ro_fn w.params) B F' X N' T (by exact hA) hf hke (by exact hd) (ro_bind w.params (.ref x)) (by kernel_rfl) (by kernel_rfl) ?_
  intro g L' h₁ FG F1 N1 B1 X1 T1
  refine ro_body (s₀ := s) X1 (Nat.ne_of_gt l2) (fun p hp => Nat.ne_of_lt (l1 p hp)) ⟨h₁, _, _, [], 0, rfl, F1, N1, ro_rep, RepD.nil, by simp⟩ ?_
  intro s' τ hs'
  obtain ⟨h2, tk2, m2, es, n, rfl, F2, N2', R2, D2, _⟩ := hs'
  refine leaveK_ F2 N2' fun F3 N3 => ⟨rfl, ?_⟩
  exact ret x h2 tk2 F3 fun q hq => N3 q (.tail _ (.tail _ hq))
end
end Mine

namespace Mine
open PySem PySem.W PySem.Calls PyProof.Rows

theorem ints_get {vs : List Value} {ns : List Int} (h : IntsAre vs ns) : vs.length = ns.length ∧ ∀ (i : Nat) (n : Int), ns[i]? = some n → ∃ t, vs[i]? = some (.int n t) := by
  induction h with
  | nil => exact ⟨rfl, fun i n h => by simp at h⟩
  | cons n t h ih =>
    refine ⟨by simp [ih.1], fun i k hk => ?_⟩
    cases i with
    | zero => simp at hk; subst hk; exact ⟨t, rfl⟩
    | succ i => simpa using ih.2 i k (by simpa using hk)

noncomputable def sizeF (ns : List Int) : Int := if ns = [] then 9 else [9, 40, 24].getD ((ns.getD 0 0).fmod 3).toNat 9
noncomputable def cutF (ns : List Int) (len : Nat) : Int := if ns = [] then 0 else (ns.getD (ns.length - 1) 0).fmod ((len : Int) + 1)

section
variable {prog : Program} {w : World} {A : Around} {E : Value → Shared → Prop} {env : Env} {h₀ : Heap} {L : Addr} {news : List (Addr × Obj)} {s s₀ : Shared} {nm : Str → Option PV} {n : Nat} {ws : Addr} {vs : List Value} {ns : List Int}

/-- `if script` -/
theorem tr_script {sn : Str} {sp : Pos} {Q : Bool → Shared → Prop} (hn : NmOk prog w A E env s nm) (hs : nm sn = some (.val (.ref ws))) (hl : s.heap.IsList ws vs.toArray) (hi : IntsAre vs ns) (hlen : ns.length ≤ 63) (s₁ : Shared) (k₁ : Keeps s s₁) (k : ∀ s', Keeps s s' → Q (!decide (ns = [])) s') :
    wpAny (model prog w) A (isTrue (.Name sn sp) env (eval (.Name sn sp) env)) Q E s₁ := by
  have hlen2 := (ints_get hi).1
  refine isTrue_plain (hn sn _ hs s₁ k₁ _ _ fun v hv => ?_) rfl
  cases hv
  have hl' : s₁.heap.IsList ws vs.toArray := by obtain ⟨o, e, r⟩ := hl; exact ⟨o, Keeps.heap k₁ _ _ e, r⟩
  refine wpAny_truthy_list hl' (by rw [List.size_toArray]; omega) ?_
  have e : (!vs.toArray.isEmpty) = !decide (ns = []) := by
    cases hi with
    | nil => rfl
    | cons => simp
  rw [e]
  exact k _ (keeps_tok k₁ _)
/-- script[i] -/
theorem ev_script {sn : Str} {sp p : Pos} {i : PySem.Expr} {k : Int} {x : Int} {Q : Value → Shared → Prop} (hn : NmOk prog w A E env s nm) (hs : nm sn = some (.val (.ref ws))) (hl : s.heap.IsList ws vs.toArray) (hi : IntsAre vs ns) (hlen : ns.length ≤ 63) (hk : ev nm noAtt n i = some (.int k, []))
    (hx : (0 ≤ k ∧ k < 63 ∧ ns[k.toNat]? = some x) ∨ (k < 0 ∧ -(ns.length : Int) ≤ k ∧ ns[(k + ns.length).toNat]? = some x)) (s₁ : Shared) (k₁ : Keeps s s₁) (hQ : ∀ t s', Keeps s s' → Q (.int x t) s') :
    wpAny (model prog w) A (eval (.Subscript (.Name sn sp) i p) env) Q E s₁ := by
  obtain ⟨h1, h2⟩ := ints_get hi
  rcases hx with ⟨a, b, c⟩ | ⟨a, b, c⟩
  · obtain ⟨t, ht⟩ := h2 _ _ c
    exact item_list hn hs hk hl (.inl ⟨a, by omega, by rw [List.getElem?_toArray]; exact ht⟩) s₁ k₁ fun s' k' => hQ t s' k'
  · obtain ⟨t, ht⟩ := h2 _ _ c
    refine item_list hn hs hk hl (.inr ⟨a, by rw [List.size_toArray, h1]; exact b, by omega, ?_⟩) s₁ k₁ fun s' k' => hQ t s' k'
    rw [List.getElem?_toArray, List.size_toArray, h1]
    exact ht
end
end Mine

namespace Mine

/-! the plain law: texts as lists of code points, no program in sight -/
noncomputable def wsN (c : Nat) : Bool := [32, 9, 13, 10, 133, 8232, 8233].contains c
noncomputable def brN (c : Nat) : Bool := [10, 133, 8232, 8233].contains c
noncomputable def nw : List Nat → Bool
  | [] => true
  | c :: _ => wsN c
noncomputable def hashes : Bool → List Nat → Bool
  | _, [] => false
  | p, c :: l => (p && c == 35) || hashes (wsN c) l
noncomputable def cols : List Nat → Bool
  | [] => false
  | c :: l => (c == 58 && nw l) || cols l
noncomputable def brsp : Bool → List Nat → Bool
  | _, [] => false
  | p, c :: l => (p && c == 32) || brsp (brN c) l
noncomputable def spbr : Bool → List Nat → Bool
  | _, [] => false
  | p, c :: l => (p && brN c) || spbr (c == 32) l
noncomputable def lastIs (f : Nat → Bool) : List Nat → Bool
  | [] => false
  | [c] => f c
  | _ :: d :: l => lastIs f (d :: l)

structure Sn where
  bi : Bool
  fi : Bool
  lb : Bool
  sp : Bool
  ts : Bool
  tk : Bool
  bs : Bool
  sb : Bool
  pw : Bool
  fw : Bool
  ps : Bool
  pk : Bool

/-- one turn behind the first sign; l: what is still to come behind c -/
noncomputable def stepN (stands flow : Nat → Bool) (c : Nat) (l : List Nat) (t : Sn) : Sn :=
  { bi := t.bi || (c == 35 && t.pw) || (c == 58 && t.fw)
    fi := t.fi || (c == 35 && t.pw) || flow c
    lb := t.lb || brN c
    sp := t.sp || !stands c
    ts := t.ts || (c == 32 && l.isEmpty)
    tk := t.tk || (brN c && l.isEmpty)
    bs := t.bs || (c == 32 && t.pk)
    sb := t.sb || (brN c && t.ps)
    pw := wsN c
    fw := nw (l.drop 1)
    ps := c == 32
    pk := brN c }
noncomputable def runN (stands flow : Nat → Bool) : List Nat → Sn → Sn
  | [], t => t
  | c :: l, t => runN stands flow l (stepN stands flow c l t)

theorem runN_eq (stands flow : Nat → Bool) : ∀ (l : List Nat) (t : Sn), t.fw = nw (l.drop 1) →
    (runN stands flow l t).bi = (t.bi || hashes t.pw l || cols l) ∧ (runN stands flow l t).fi = (t.fi || hashes t.pw l || l.any flow) ∧
    (runN stands flow l t).lb = (t.lb || l.any brN) ∧ (runN stands flow l t).sp = (t.sp || l.any (fun c => !stands c)) ∧
    (runN stands flow l t).ts = (t.ts || lastIs (· == 32) l) ∧ (runN stands flow l t).tk = (t.tk || lastIs brN l) ∧
    (runN stands flow l t).bs = (t.bs || brsp t.pk l) ∧ (runN stands flow l t).sb = (t.sb || spbr t.ps l)
  | [], t, _ => by simp [runN, hashes, cols, brsp, spbr, lastIs]
  | c :: l, t, h => by
    have ih := runN_eq stands flow l (stepN stands flow c l t) rfl
    simp only [runN]
    obtain ⟨h1, h2, h3, h4, h5, h6, h7, h8⟩ := ih
    rw [h1, h2, h3, h4, h5, h6, h7, h8]
    simp only [List.drop_succ_cons, List.drop_zero] at h
    refine ⟨?_, ?_, ?_, ?_, ?_, ?_, ?_, ?_⟩
    · simp only [stepN, hashes, cols, h]
      cases t.bi <;> cases t.pw <;> cases (c == 35) <;> cases (c == 58) <;> cases nw l <;> cases hashes (wsN c) l <;> simp
    · simp only [stepN, hashes, List.any_cons]
      cases t.fi <;> cases t.pw <;> cases (c == 35) <;> cases flow c <;> cases hashes (wsN c) l <;> simp
    · simp only [stepN, List.any_cons, Bool.or_assoc]
    · simp only [stepN, List.any_cons, Bool.or_assoc]
    · cases l <;> simp [stepN, lastIs]
    · cases l <;> simp [stepN, lastIs]
    · simp only [stepN, brsp]
      cases t.bs <;> cases t.pk <;> cases (c == 32) <;> simp
    · simp only [stepN, spbr]
      cases t.sb <;> cases t.ps <;> cases brN c <;> simp

/-! words -/
noncomputable def spl : List Nat → List Nat → List (List Nat)
  | cur, [] => [cur]
  | cur, c :: l => bif wsN c then cur :: spl [] l else spl (cur ++ [c]) l
noncomputable def isHash (w : List Nat) : Bool := w.take 1 == [35]
noncomputable def isCol (w : List Nat) : Bool := lastIs (· == 58) w

theorem lastIs_snoc (f : Nat → Bool) (c : Nat) : ∀ l : List Nat, lastIs f (l ++ [c]) = f c
  | [] => rfl
  | [_] => rfl
  | _ :: d :: l => by
    show lastIs f (d :: l ++ [c]) = f c
    exact lastIs_snoc f c (d :: l)
theorem ws_hash {c : Nat} (h : wsN c = true) : (c == 35) = false := by
  cases e : c == 35 with
  | false => rfl
  | true => rw [beq_iff_eq] at e; subst e; exact absurd h (by decide)
theorem ws_col {c : Nat} (h : wsN c = true) : (c == 58) = false := by
  cases e : c == 58 with
  | false => rfl
  | true => rw [beq_iff_eq] at e; subst e; exact absurd h (by decide)
theorem spl_hash : ∀ (l cur : List Nat), (spl cur l).any isHash = (isHash cur || hashes cur.isEmpty l)
  | [], cur => by simp [spl, hashes]
  | c :: l, cur => by
    simp only [spl, hashes]
    cases e : wsN c with
    | true =>
      simp only [cond_true, List.any_cons, spl_hash l [], ws_hash e]
      simp [isHash]
    | false =>
      simp only [cond_false, spl_hash l (cur ++ [c])]
      cases cur with
      | nil => simp [isHash]
      | cons a r => simp [isHash]
theorem spl_col : ∀ (l cur : List Nat), (spl cur l).any isCol = ((isCol cur && nw l) || cols l)
  | [], cur => by simp [spl, cols, nw]
  | c :: l, cur => by
    simp only [spl, cols]
    rw [show nw (c :: l) = wsN c from rfl]
    cases e : wsN c with
    | true =>
      simp only [cond_true, List.any_cons, spl_col l [], ws_col e]
      simp [isCol, lastIs]
    | false =>
      simp only [cond_false, spl_col l (cur ++ [c])]
      rw [show isCol (cur ++ [c]) = (c == 58) from lastIs_snoc _ _ _]
      simp
theorem spl_head : ∀ (l cur : List Nat), (spl cur l).head? = some (cur ++ l.takeWhile (fun c => !wsN c))
  | [], cur => by simp [spl]
  | c :: l, cur => by
    simp only [spl, List.takeWhile_cons]
    cases e : wsN c with
    | true => simp
    | false => simp [spl_head l]
theorem first_word {x : Nat} (hx : wsN x = false) (c : Nat) (l : List Nat) : ((c :: l).takeWhile (fun c => !wsN c) == [x]) = (c == x && nw l) := by
  cases e : wsN c with
  | true =>
    have : (c == x) = false := by
      cases e2 : c == x with
      | false => rfl
      | true => rw [beq_iff_eq] at e2; subst e2; rw [hx] at e; cases e
    simp [e, this]
  | false =>
    cases l with
    | nil => simp [e, nw]
    | cons d r => cases e2 : wsN d <;> simp [e, e2, nw]

/-! neighbours -/
theorem zip_spbr : ∀ (l : List Nat) (c : Nat), ((c :: l).zip l).any (fun p => p.1 == 32 && brN p.2) = spbr (c == 32) l
  | [], _ => rfl
  | d :: l, c => by
    rw [List.zip_cons_cons, List.any_cons, zip_spbr l d]
    rfl
theorem zip_brsp : ∀ (l : List Nat) (c : Nat), ((c :: l).zip l).any (fun p => p.2 == 32 && brN p.1) = brsp (brN c) l
  | [], _ => rfl
  | d :: l, c => by
    rw [List.zip_cons_cons, List.any_cons, zip_brsp l d]
    simp only [brsp, Bool.and_comm]

/-! the two readings of a text meet -/
theorem cols_any {flow : Nat → Bool} (h : flow 58 = true) : ∀ l : List Nat, cols l = true → l.any flow = true
  | [], e => by cases e
  | c :: l, e => by
    simp only [cols, Bool.or_eq_true, Bool.and_eq_true, beq_iff_eq] at e
    rw [List.any_cons, Bool.or_eq_true]
    rcases e with ⟨rfl, _⟩ | e
    · exact .inl h
    · exact .inr (cols_any h l e)
theorem marked_meet (s3 m d q p HD n H C : Bool) (h : p = true → HD = true) :
    (s3 || (m && n) || ((d || q) && n) || HD || H || C) = (HD || (m && n || q && n) || s3 || (p || H || (d && n || C))) := by
  revert h; revert s3 m d q p HD n H C; decide
theorem flowing_meet (s3 m d q p HD n H C f g : Bool) (h : p = true → HD = true) (hg : g = true → HD = true) (hc : C = true → f = true) :
    (s3 || (m && n) || (d || q) || HD || H || f) = (HD || (m && n || q && n) || s3 || (p || H || (d && n || C)) || (d || q || g || f)) := by
  revert h hg hc; revert s3 m d q p HD n H C f g; decide
end Mine

namespace Mine
open PySem PySem.W PySem.Calls PyProof.Rows

theorem inS_lit {x : Str} {l : List Nat} (h : x.cps.toList = l) (c : Nat) : inS x ⟨#[c]⟩ = l.contains c := by
  unfold inS
  rw [PySem.StrLaws.found_one, h, Bool.eq_iff_iff]
  simp
theorem isBr_one (c : Nat) : isBr ⟨#[c]⟩ = brN c := inS_lit (by decide +kernel) c
theorem inLines_one (c : Nat) : inS LINES ⟨#[c]⟩ = brN c := inS_lit (by decide +kernel) c
theorem inWS_one (c : Nat) : inS WS ⟨#[c]⟩ = wsN c := inS_lit (by decide +kernel) c
theorem isWs_one {c : Nat} (h : c ≠ 0) : isWs ⟨#[c]⟩ = wsN c := by
  have e : isWs ⟨#[c]⟩ = [0, 32, 9, 13, 10, 133, 8232, 8233].contains c := inS_lit (by decide +kernel) c
  rw [e]
  unfold wsN
  have : (c == 0) = false := by simpa using h
  simp only [List.contains_cons, this, Bool.false_or]
noncomputable def hdN (c : Nat) : Bool := [35, 44, 91, 93, 123, 125, 38, 42, 33, 124, 62, 39, 34, 37, 64, 96].contains c
noncomputable def flN (c : Nat) : Bool := [44, 63, 91, 93, 123, 125].contains c
noncomputable def flow (c : Nat) : Bool := c == 58 || flN c
theorem isHd_one (c : Nat) : isHd ⟨#[c]⟩ = hdN c := inS_lit (by decide +kernel) c
theorem inHEADS_one (c : Nat) : inS HEADS ⟨#[c]⟩ = hdN c := inS_lit (by decide +kernel) c
theorem inFl_one (c : Nat) : inS ",?[]{}" ⟨#[c]⟩ = flN c := inS_lit (by decide +kernel) c
theorem inQc_one (c : Nat) : inS "?:" ⟨#[c]⟩ = (c == 63 || c == 58) := by
  have e : inS "?:" ⟨#[c]⟩ = [63, 58].contains c := inS_lit (by decide +kernel) c
  rw [e, Bool.eq_iff_iff]; simp
theorem inFLOW_one (c : Nat) : inS FLOW ⟨#[c]⟩ = flow c := by
  have e : inS FLOW ⟨#[c]⟩ = [44, 63, 91, 93, 123, 125, 58].contains c := inS_lit (by decide +kernel) c
  rw [e]
  unfold flow flN
  simp only [List.contains_cons, List.contains_nil]
  generalize (c == 44) = a, (c == 63) = b, (c == 91) = d, (c == 93) = e, (c == 123) = f, (c == 125) = g, (c == 58) = h
  revert a b d e f g h; decide
theorem eqs_lit {l : String} {k : Nat} (h : (Str.ofString l).cps.toList = [k]) (c : Nat) : eqs ⟨#[c]⟩ l = (c == k) := by
  unfold eqs; rw [h]; simp
theorem nes_lit {l : String} {k : Nat} (h : (Str.ofString l).cps.toList = [k]) (c : Nat) : nes ⟨#[c]⟩ l = (c != k) := by
  unfold nes; rw [h]; simp [bne]
theorem les_lit {l : String} {k : Nat} (h : (Str.ofString l).cps.toList = [k]) (c : Nat) : les l ⟨#[c]⟩ = decide (k ≤ c) := by
  unfold les; rw [h, Bool.eq_iff_iff]; simp [List.cons_lt_cons_iff]
theorem sel_lit {l : String} {k : Nat} (h : (Str.ofString l).cps.toList = [k]) (c : Nat) : sel ⟨#[c]⟩ l = decide (c ≤ k) := by
  unfold sel; rw [h, Bool.eq_iff_iff]; simp [List.cons_lt_cons_iff]
theorem lts_lit {l : String} {k : Nat} (h : (Str.ofString l).cps.toList = [k]) (c : Nat) : lts ⟨#[c]⟩ l = decide (c < k) := by
  unfold lts; rw [h, Bool.eq_iff_iff]; simp [List.cons_lt_cons_iff]
theorem isPr_one (c : Nat) : isPr ⟨#[c]⟩ = sdA c := by
  unfold isPr sdA
  rw [eqs_lit (k := 10) (by decide +kernel), les_lit (k := 32) (by decide +kernel), sel_lit (k := 126) (by decide +kernel), Bool.eq_iff_iff]
  simp only [Bool.or_eq_true, Bool.and_eq_true, beq_iff_eq, decide_eq_true_eq, Bool.false_eq_true, or_false]
  omega
theorem bif_or (a b : Bool) : (bif a then a else b) = (a || b) := by cases a <;> rfl
theorem isUn_one (c : Nat) : isUn ⟨#[c]⟩ = (sdU c && ((c : Int) != 65279)) := by
  unfold isUn sdU
  rw [eqs_lit (k := 133) (by decide +kernel), les_lit (k := 160) (by decide +kernel), sel_lit (k := 55295) (by decide +kernel), les_lit (k := 57344) (by decide +kernel), sel_lit (k := 65533) (by decide +kernel), les_lit (k := 65536) (by decide +kernel), lts_lit (k := 1114111) (by decide +kernel), nes_lit (k := 65279) (by decide +kernel), Bool.eq_iff_iff, bif_or, bif_or, bif_or]
  simp only [Bool.or_eq_true, Bool.and_eq_true, beq_iff_eq, decide_eq_true_eq, Bool.false_eq_true, or_false, bne_iff_ne, and_true]
  omega
theorem sp_one (c : Nat) (wide sp : Bool) : (bif !(isPr ⟨#[c]⟩) then (bif isUn ⟨#[c]⟩ then (bif !wide then true else sp) else true) else sp) = (sp || !standsF wide c) := by
  rw [isPr_one, isUn_one]
  unfold standsF sdW
  generalize sdA c = a, sdU c = b, ((c : Int) != 65279) = d
  revert a b d wide sp; decide

/-! reading a text -/
theorem get_drop {l : List Nat} {k c : Nat} {r : List Nat} (h : l.drop k = c :: r) : l[k]? = some c := by
  have := List.getElem?_drop (xs := l) (i := k) (j := 0)
  rw [h] at this
  simpa using this.symm
theorem charAt_drop {v : Str} {k c : Nat} {r : List Nat} (h : v.cps.toList.drop k = c :: r) : charAt v (k : Int) = ⟨#[c]⟩ := by
  have h1 := get_drop h
  rw [Array.getElem?_toList] at h1
  unfold charAt
  rw [if_neg (by omega)]
  simp [Array.getD_eq_getD_getElem?, h1]
theorem drop_next {l : List Nat} {k c : Nat} {r : List Nat} (h : l.drop k = c :: r) : l.drop (k + 1) = r := by
  rw [← List.drop_drop, h]; rfl
theorem drop_len {v : Str} {k c : Nat} {r : List Nat} (h : v.cps.toList.drop k = c :: r) : v.length = k + 1 + r.length := by
  have := congrArg List.length h
  rw [List.length_drop, List.length_cons, Array.length_toList] at this
  have e : v.length = v.cps.size := rfl
  omega
theorem drop_mem {l : List Nat} {k c : Nat} {r : List Nat} (h : l.drop k = c :: r) : c ∈ l := List.mem_of_getElem? (get_drop h)

noncomputable def toN (t : St) : Sn := ⟨t.bi, t.fi, t.lb, t.sp, t.ts, t.tk, t.bs, t.sb, t.pw, t.fw, t.ps, t.pk⟩
theorem br_sp {c : Nat} (h : (c == 32) = true) : brN c = false := by rw [beq_iff_eq] at h; subst h; decide
theorem last_iff {v : Str} {k c : Nat} {r : List Nat} (h : v.cps.toList.drop k = c :: r) : ((k : Int) == (v.length : Int) - 1) = r.isEmpty := by
  have := drop_len h
  rw [Bool.eq_iff_iff]
  cases r with
  | nil => simp; simp at this; omega
  | cons d r => simp; simp at this; omega
theorem fw_next {v : Str} (h0 : ∀ x ∈ v.cps.toList, x ≠ 0) {k c : Nat} {r : List Nat} (h : v.cps.toList.drop k = c :: r) :
    (bif decide ((k : Int) + 1 + 1 ≥ v.length) then decide ((k : Int) + 1 + 1 ≥ v.length) else isWs (charAt v ((k : Int) + 1 + 1))) = nw (r.drop 1) := by
  have hl := drop_len h
  match r, h with
  | [], h =>
    rw [decide_eq_true (by simp at hl; omega)]; rfl
  | [d], h =>
    rw [decide_eq_true (by simp at hl; omega)]; rfl
  | d :: e :: r, h =>
    rw [decide_eq_false (by simp at hl; omega)]
    have h2 := drop_next (drop_next h)
    have : charAt v ((k : Int) + 1 + 1) = ⟨#[e]⟩ := charAt_drop (k := k + 1 + 1) h2
    rw [this]
    exact isWs_one (h0 e (drop_mem h2))
/-- one turn, behind the first -/
theorem step_eq {v : Str} (h0 : ∀ x ∈ v.cps.toList, x ≠ 0) {k c : Nat} {r : List Nat} (h : v.cps.toList.drop k = c :: r) (hk : 0 < k) (wide : Bool) (t : St) :
    toN (stepA wide v k t) = stepN (standsF wide) flow c r (toN t) ∧ (stepA wide v k t).ls = t.ls ∧ (stepA wide v k t).lk = t.lk := by
  have e0 : ((k : Int) == 0) = false := by rw [beq_eq_false_iff_ne]; omega
  have ec := charAt_drop h
  have el := last_iff h
  have ef := fw_next h0 h
  refine ⟨?_, ?_, ?_⟩
  · unfold toN stepA stepN
    simp only [e0, ec, el, ef, sp_one, isBr_one, isWs_one (h0 c (drop_mem h)), inFl_one, eqs_lit (l := "-") (k := 45) (by decide +kernel), eqs_lit (l := "#") (k := 35) (by decide +kernel), eqs_lit (l := ":") (k := 58) (by decide +kernel), eqs_lit (l := " ") (k := 32) (by decide +kernel), Bool.cond_false, flow]
    have hb := @br_sp c
    congr 1
    · generalize t.bi = a, (c == 35) = b, (c == 58) = d, t.pw = e, t.fw = f
      revert a b d e f; decide
    · generalize t.fi = a, (c == 35) = b, (c == 58) = d, t.pw = e, flN c = f
      revert a b d e f; decide
    · generalize t.lb = a, brN c = b
      revert a b; decide
    · generalize t.ts = a, (c == 32) = b, r.isEmpty = d
      revert a b d; decide
    · revert hb
      generalize t.tk = a, (c == 32) = b, r.isEmpty = d, brN c = e
      revert a b d e; decide
    · generalize t.bs = a, (c == 32) = b, t.pk = d
      revert a b d; decide
    · revert hb
      generalize t.sb = a, (c == 32) = b, t.ps = d, brN c = e
      revert a b d e; decide
    · generalize (c == 32) = b, brN c = e
      revert b e; decide
    · revert hb
      generalize (c == 32) = b, brN c = e
      revert b e; decide
  · unfold stepA
    simp only [e0]
    generalize eqs (charAt v k) " " = b, t.ls = a
    revert a b; decide
  · unfold stepA
    simp only [e0]
    generalize eqs (charAt v k) " " = b, t.lk = a, isBr (charAt v k) = d
    revert a b d; decide
theorem sta_run {v : Str} (h0 : ∀ x ∈ v.cps.toList, x ≠ 0) (wide : Bool) : ∀ (r : List Nat) (k : Nat), 0 < k → v.cps.toList.drop k = r → k ≤ v.length →
    toN (stA wide v v.length) = runN (standsF wide) flow r (toN (stA wide v k)) ∧ (stA wide v v.length).ls = (stA wide v k).ls ∧ (stA wide v v.length).lk = (stA wide v k).lk
  | [], k, _, h, hk => by
    have : v.length ≤ k := by
      have := List.drop_eq_nil_iff.mp h
      rwa [Array.length_toList] at this
    have e : k = v.length := by omega
    subst e
    exact ⟨rfl, rfl, rfl⟩
  | c :: r, k, h1, h, hk => by
    obtain ⟨a, b, d⟩ := sta_run h0 wide r (k + 1) (by omega) (drop_next h) (by have := drop_len h; omega)
    obtain ⟨a', b', d'⟩ := step_eq h0 h h1 wide (stA wide v k)
    rw [a, b, d]
    refine ⟨?_, b', d'⟩
    show runN _ _ r (toN (stepA wide v k (stA wide v k))) = runN _ _ (c :: r) _
    rw [a']
    rfl
end Mine

namespace Mine
open PySem PySem.W PySem.Calls PyProof.Rows

theorem slice_to (x : Str) (j : Nat) : (Txt.slice x Option.none (some (j : Int))).cps.toList = x.cps.toList.take j := by
  have e : ∀ k : Nat, k ≤ x.length → (Txt.slice x Option.none (some (k : Int))).cps.toList = x.cps.toList.take k := fun k hk => by
    show (StrLaws.sliceText x Option.none (some (k : Int))).cps.toList = _
    rw [StrLaws.sliceText_to ⟨by omega, by simp only [Array.length_toList]; exact Int.ofNat_le.mpr hk⟩]
    simp
  by_cases h : j ≤ x.length
  · exact e j h
  · rw [slice_to_beyond (by omega), e _ (Nat.le_refl _), List.take_of_length_le (by simp [Str.length]), List.take_of_length_le]
    simp only [Array.length_toList]
    have : x.length = x.cps.size := rfl
    omega
theorem slice_from (x : Str) (j : Nat) : (Txt.slice x (some (j : Int)) Option.none).cps.toList = x.cps.toList.drop j := by
  have hx : x.length = x.cps.toList.length := by simp [Str.length]
  by_cases h : j ≤ x.length
  · show (StrLaws.sliceText x (some (j : Int)) Option.none).cps.toList = _
    rw [StrLaws.sliceText_from ⟨by omega, by omega⟩]
    simp only [Int.toNat_natCast]
    rw [List.take_of_length_le]
    rw [List.length_drop]
    omega
  · rw [slice_from_beyond (by omega), List.drop_of_length_le (by omega)]
theorem slice_last (x : Str) : (Txt.slice x (some (-1)) Option.none).cps.toList = x.cps.toList.drop (x.cps.toList.length - 1) := by
  have hx : x.length = x.cps.toList.length := by simp [Str.length]
  by_cases h : 0 < x.length
  · show (StrLaws.sliceText x (some (-1)) Option.none).cps.toList = _
    rw [StrLaws.sliceText_from_neg (by decide) (by omega)]
    have : ((-1 : Int) + (x.length : Int)).toNat = x.cps.toList.length - 1 := by omega
    rw [this]
    show List.take _ _ = _
    rw [List.take_of_length_le]
    rw [List.length_drop]
    omega
  · have h1 := Txt.slice_le x (some (-1)) Option.none
    have e1 : (Txt.slice x (some (-1)) Option.none).cps.toList = [] := by
      apply List.eq_nil_of_length_eq_zero
      have : (Txt.slice x (some (-1)) Option.none).length = (Txt.slice x (some (-1)) Option.none).cps.toList.length := by simp [Str.length]
      omega
    rw [e1, List.drop_of_length_le (by omega)]
theorem lastIs_drop (k : Nat) : ∀ l : List Nat, (l.drop (l.length - 1) == [k]) = lastIs (· == k) l
  | [] => rfl
  | [c] => by simp [lastIs]
  | c :: d :: l => by
    have : (c :: d :: l).drop ((c :: d :: l).length - 1) = (d :: l).drop ((d :: l).length - 1) := by simp
    rw [this, lastIs_drop k (d :: l)]
    rfl
theorem gWord_eq (x : Str) : (!gWord x) = (isHash (key x) || isCol (key x)) := by
  unfold gWord isHash isCol key
  have e1 := slice_to x 1
  have h1 : (Str.ofString "#").cps.toList = [35] := by decide +kernel
  have h2 : (Str.ofString ":").cps.toList = [58] := by decide +kernel
  rw [show ((1 : Nat) : Int) = 1 from rfl] at e1
  rw [e1, slice_last, h1, h2, ← lastIs_drop]
  simp only [bne]
  generalize (List.take 1 x.cps.toList == [35]) = a, (List.drop (x.cps.toList.length - 1) x.cps.toList == [58]) = b
  revert a b; decide

/-! words -/
theorem wstep_snoc (done : List Str) (cur : Str) (c : Nat) : wstep (done ++ [cur]) c = bif wsN c then done ++ [cur] ++ [("" : Str)] else done ++ [cur ++ ⟨#[c]⟩] := by
  unfold wstep
  rw [inWS_one]
  cases wsN c with
  | true => rfl
  | false =>
    simp only [cond_false]
    have e : (done ++ [cur]).length - 1 = done.length := by simp
    rw [e, List.getD_eq_getElem?_getD, List.getElem?_append_right (Nat.le_refl _)]
    simp [List.set_append]
theorem key_app (x : Str) (c : Nat) : key (x ++ ⟨#[c]⟩) = key x ++ [c] := by
  show (x.cps ++ #[c]).toList = _
  simp [key]
theorem words_spl : ∀ (l : List Nat) (done : List Str) (cur : Str), (l.foldl wstep (done ++ [cur])).map key = done.map key ++ spl (key cur) l
  | [], done, cur => by simp [spl]
  | c :: l, done, cur => by
    rw [List.foldl_cons, wstep_snoc]
    simp only [spl]
    cases wsN c with
    | true =>
      simp only [cond_true]
      rw [words_spl l (done ++ [cur]) ""]
      have : key ("" : Str) = [] := by decide +kernel
      simp [this]
    | false =>
      simp only [cond_false]
      rw [words_spl l done _, key_app]
theorem words_key (l : List Nat) : (wordsF l).map key = spl [] l := by
  have := words_spl l [] ""
  have h : key ("" : Str) = [] := by decide +kernel
  rw [h] at this
  exact this
theorem words_marks (l : List Nat) : (!(wordsF l).all gWord) = (hashes true l || cols l) := by
  have e : (!(wordsF l).all gWord) = ((wordsF l).map key).any (fun w => isHash w || isCol w) := by
    rw [List.any_map, List.not_all_eq_any_not]
    congr 1
    funext x
    exact gWord_eq x
  have e2 : ∀ L : List (List Nat), L.any (fun w => isHash w || isCol w) = (L.any isHash || L.any isCol) := by
    intro L
    induction L with
    | nil => rfl
    | cons a L ih =>
      simp only [List.any_cons, ih]
      generalize isHash a = p, isCol a = q, L.any isHash = r, L.any isCol = t
      revert p q r t; decide
  rw [e, words_key, e2, spl_hash, spl_col]
  simp [isHash, isCol, lastIs]
theorem str_beq_key (x y : Str) : (x == y) = (key x == key y) := by
  rw [Bool.eq_iff_iff, beq_iff_eq, beq_iff_eq]
  exact ⟨fun h => by rw [h], key_inj⟩
theorem word_zero (c : Nat) (l : List Nat) : ([Str.ofString "-", Str.ofString "?"].any (· == (wordsF (c :: l)).getD 0 ("" : Str))) = (c == 45 && nw l || c == 63 && nw l) := by
  have h := spl_head (c :: l) []
  rw [← words_key, List.head?_map] at h
  rw [List.nil_append] at h
  have e : key ((wordsF (c :: l)).getD 0 ("" : Str)) = (c :: l).takeWhile (fun c => !wsN c) := by
    cases hw : wordsF (c :: l) with
    | nil => rw [hw] at h; cases h
    | cons a r => rw [hw] at h; simpa using h
  have k1 : key (Str.ofString "-") = [45] := by decide +kernel
  have k2 : key (Str.ofString "?") = [63] := by decide +kernel
  simp only [List.any_cons, List.any_nil, str_beq_key, e, k1, k2, Bool.or_false]
  rw [show ([45] == (c :: l).takeWhile fun c => !wsN c) = ((c :: l).takeWhile (fun c => !wsN c) == [45]) from Bool.beq_comm ..] 
  rw [show ([63] == (c :: l).takeWhile fun c => !wsN c) = ((c :: l).takeWhile (fun c => !wsN c) == [63]) from Bool.beq_comm ..] 
  rw [first_word (by decide), first_word (by decide)]
end Mine

namespace Mine
open PySem PySem.W PySem.Calls PyProof.Rows

noncomputable def s3F (v : Str) : Bool := Txt.startswith v "---" || Txt.startswith v "..."
theorem starts_take {v : Str} {y : Str} {l : List Nat} {n : Nat} (hy : y.cps.toList = l) (hn : l.length = n) : Txt.startswith v y = (v.cps.toList.take n == l) := by
  subst hn
  have hl : y.length = l.length := by rw [← hy]; simp [Str.length]
  unfold Txt.startswith
  rw [StrLaws.subAt_eq, hy, hl, List.drop_zero, Nat.zero_add]
  cases e : (v.cps.toList.take l.length == l) with
  | false => simp
  | true =>
    rw [beq_iff_eq] at e
    have := congrArg List.length e
    rw [List.length_take] at this
    have h2 : v.length = v.cps.toList.length := by simp [Str.length]
    simp only [Bool.and_true, decide_eq_true_eq]
    omega
theorem s3_eq (v : Str) : s3F v = [Str.ofString "---", Str.ofString "..."].any (· == Txt.slice v Option.none (some 3)) := by
  have k1 : key (Str.ofString "---") = [45, 45, 45] := by decide +kernel
  have k2 : key (Str.ofString "...") = [46, 46, 46] := by decide +kernel
  have e : key (Txt.slice v Option.none (some 3)) = v.cps.toList.take 3 := slice_to v 3
  simp only [List.any_cons, List.any_nil, str_beq_key, e, k1, k2, Bool.or_false]
  unfold s3F
  rw [starts_take (v := v) (y := "---") (n := 3) k1 rfl, starts_take (v := v) (y := "...") (n := 3) k2 rfl]
  rw [show ([45, 45, 45] == List.take 3 v.cps.toList) = (List.take 3 v.cps.toList == [45, 45, 45]) from Bool.beq_comm ..]
  rw [show ([46, 46, 46] == List.take 3 v.cps.toList) = (List.take 3 v.cps.toList == [46, 46, 46]) from Bool.beq_comm ..]

theorem first_eq {v : Str} (h0 : ∀ x ∈ v.cps.toList, x ≠ 0) {c : Nat} {r : List Nat} (h : v.cps.toList = c :: r) (wide : Bool) :
    toN (stA wide v 1) = { bi := s3F v || (c == 45 && nw r) || ((c == 58 || c == 63) && nw r) || hdN c
                           fi := s3F v || (c == 45 && nw r) || (c == 58 || c == 63) || hdN c
                           lb := brN c, sp := !standsF wide c, ts := c == 32 && r.isEmpty, tk := brN c && r.isEmpty, bs := false, sb := false, pw := wsN c, fw := nw (r.drop 1), ps := c == 32, pk := brN c } ∧
    (stA wide v 1).ls = (c == 32) ∧ (stA wide v 1).lk = brN c := by
  have h' : v.cps.toList.drop 0 = c :: r := h
  have ec : charAt v ((0 : Nat) : Int) = ⟨#[c]⟩ := charAt_drop h'
  have el := last_iff h'
  have ef := fw_next h0 h'
  have hl := drop_len h'
  have e0 : (((0 : Nat) : Int) == 0) = true := by decide
  have hb := @br_sp c
  have ew : (bif ((v.length : Int) == 1) then ((v.length : Int) == 1) else isWs (charAt v 1)) = nw r := by
    cases r with
    | nil =>
      have : (v.length : Int) = 1 := by simp at hl; omega
      rw [this]; rfl
    | cons d r =>
      have : ((v.length : Int) == 1) = false := by rw [beq_eq_false_iff_ne]; simp at hl; omega
      rw [this]
      have h2 := drop_next h'
      have e2 : charAt v 1 = ⟨#[d]⟩ := charAt_drop (k := 1) h2
      rw [e2]
      exact isWs_one (h0 d (drop_mem h2))
  have ts0 : stA wide v 1 = stepA wide v ((0 : Nat) : Int) (st0 v) := rfl
  rw [ts0]
  refine ⟨?_, ?_, ?_⟩
  · unfold toN stepA
    simp only [e0, ec, el, ef, sp_one, isBr_one, isWs_one (h0 c (drop_mem h')), isHd_one, inQc_one, eqs_lit (l := "-") (k := 45) (by decide +kernel), eqs_lit (l := " ") (k := 32) (by decide +kernel), st0, ew, Bool.cond_true]
    congr 1
    · unfold s3F
      generalize Txt.startswith v "---" = p, Txt.startswith v "..." = q, (c == 45) = a, (c == 58) = b, (c == 63) = d, nw r = e, hdN c = f
      revert p q a b d e f; decide
    · unfold s3F
      generalize Txt.startswith v "---" = p, Txt.startswith v "..." = q, (c == 45) = a, (c == 58) = b, (c == 63) = d, nw r = e, hdN c = f
      revert p q a b d e f; decide
    · generalize brN c = a
      revert a; decide
    · generalize (c == 32) = b, r.isEmpty = d
      revert b d; decide
    · revert hb
      generalize (c == 32) = b, r.isEmpty = d, brN c = e
      revert b d e; decide
    · generalize (c == 32) = b
      revert b; decide
    · revert hb
      generalize (c == 32) = b, brN c = e
      revert b e; decide
    · generalize (c == 32) = b, brN c = e
      revert b e; decide
    · revert hb
      generalize (c == 32) = b, brN c = e
      revert b e; decide
  · unfold stepA
    simp only [e0, ec, eqs_lit (l := " ") (k := 32) (by decide +kernel), st0]
    generalize (c == 32) = b
    revert b; decide
  · unfold stepA
    simp only [e0, ec, isBr_one, eqs_lit (l := " ") (k := 32) (by decide +kernel), st0]
    revert hb
    generalize (c == 32) = b, brN c = e
    revert b e; decide

theorem charAt_last {v : Str} {c : Nat} {r : List Nat} (h : v.cps.toList = c :: r) (f : Nat → Bool) : ∃ d, charAt v (-1) = ⟨#[d]⟩ ∧ lastIs f (c :: r) = f d := by
  have hl : v.length = r.length + 1 := by have := drop_len (k := 0) h; omega
  refine ⟨v.cps.getD r.length 0, ?_, ?_⟩
  · unfold charAt
    rw [if_pos (by decide)]
    have : ((-1 : Int) + (v.length : Int)).toNat = r.length := by omega
    rw [this]
  · have : v.cps.getD r.length 0 = (c :: r).getD r.length 0 := by rw [arr_getD_list, h]
    rw [this]
    clear this hl h
    induction r generalizing c with
    | nil => rfl
    | cons d r ih =>
      show lastIs f (d :: r) = _
      rw [ih]
      rfl

/-- what the walk found is what the law calls for -/
theorem meet {v : Str} (h0 : ∀ x ∈ v.cps.toList, x ≠ 0) (hne : v.cps.toList ≠ []) (wide : Bool) :
    (stA wide v v.length).lb = linesF v ∧ (stA wide v v.length).sp = strangeF v wide ∧ (stA wide v v.length).sb = aheadF v ∧ (stA wide v v.length).bs = behindF v ∧
    ((stA wide v v.length).ls || ((stA wide v v.length).lk || ((stA wide v v.length).ts || (stA wide v v.length).tk))) = looseF v ∧ (stA wide v v.length).ts = ((charAt v (-1)).cps.toList == (Str.ofString " ").cps.toList) ∧
    (stA wide v v.length).bi = markedF v ∧ (stA wide v v.length).fi = flowingF v := by
  cases hc : v.cps.toList with
  | nil => exact absurd hc hne
  | cons c r =>
    have hl : v.length = r.length + 1 := by have := drop_len (k := 0) hc; omega
    obtain ⟨a, b, d⟩ := sta_run h0 wide r 1 (by decide) (by rw [hc]; rfl) (by omega)
    obtain ⟨a', b', d'⟩ := first_eq h0 hc wide
    rw [a'] at a
    rw [b'] at b
    rw [d'] at d
    obtain ⟨r1, r2, r3, r4, r5, r6, r7, r8⟩ := runN_eq (standsF wide) flow r _ (show (Sn.mk _ _ _ _ _ _ _ _ _ (nw (r.drop 1)) _ _).fw = nw (r.drop 1) from rfl)
    rw [← a] at r1 r2 r3 r4 r5 r6 r7 r8
    simp only [toN] at r1 r2 r3 r4 r5 r6 r7 r8
    have hlast : ∀ f, (f c && r.isEmpty || lastIs f r) = lastIs f (c :: r) := by
      intro f
      cases r with
      | nil => simp [lastIs]
      | cons e r => simp [lastIs]
    have ts : (stA wide v v.length).ts = lastIs (· == 32) (c :: r) := by rw [r5]; exact hlast (· == 32)
    have tk : (stA wide v v.length).tk = lastIs brN (c :: r) := by rw [r6]; exact hlast brN
    have hps : psOf v = (c :: r).zip r := by
      unfold psOf
      have := slice_from v 1
      rw [show ((1 : Nat) : Int) = 1 from rfl] at this
      rw [this, hc]
      rfl
    have hsp : ∀ x : Nat, ((⟨#[x]⟩ : Str).cps.toList == (Str.ofString " ").cps.toList) = (x == 32) := fun x => eqs_lit (l := " ") (k := 32) (by decide +kernel) x
    have c0 : charAt v 0 = ⟨#[c]⟩ := charAt_drop (k := 0) hc
    have hmark : markedF v = (hdN c || (c == 45 && nw r || c == 63 && nw r) || s3F v || (c == 35 || hashes (wsN c) r || (c == 58 && nw r || cols r))) := by
      unfold markedF headF
      rw [hc, words_marks, word_zero, ← s3_eq, c0, inHEADS_one]
      simp only [hashes, cols, Bool.true_and, Bool.or_assoc]
    have h35 : (c == 35) = true → hdN c = true := by intro e; rw [beq_iff_eq] at e; subst e; decide
    have hgd : (flN c && !(c == 63)) = true → hdN c = true := by
      intro e
      simp only [flN, hdN, List.contains_cons, List.contains_nil, Bool.or_false, Bool.and_eq_true, Bool.or_eq_true, beq_iff_eq, Bool.not_eq_true', beq_eq_false_iff_ne] at e ⊢
      omega
    refine ⟨?_, ?_, ?_, ?_, ?_, ?_, ?_, ?_⟩
    · rw [r3]
      unfold linesF
      rw [hc, List.not_all_eq_any_not, List.any_cons]
      have : (fun c => !gLine c) = brN := by funext x; unfold gLine; rw [inLines_one, Bool.not_not]
      rw [← this]
    · rw [r4]
      unfold strangeF
      rw [hc, List.not_all_eq_any_not, List.any_cons]
    · rw [r8]
      unfold aheadF
      rw [hps, List.not_all_eq_any_not, Bool.false_or, ← zip_spbr]
      congr 1
      funext p
      unfold gAhead
      rw [hsp, inLines_one]
      generalize (p.1 == 32) = b, brN p.2 = e
      revert b e; decide
    · rw [r7]
      unfold behindF
      rw [hps, List.not_all_eq_any_not, Bool.false_or, ← zip_brsp]
      congr 1
      funext p
      unfold gBehind
      rw [hsp, inLines_one]
      generalize (p.2 == 32) = b, brN p.1 = e
      revert b e; decide
    · obtain ⟨x, hx, hf⟩ := charAt_last hc (· == 32)
      obtain ⟨y, hy, hg⟩ := charAt_last hc brN
      have hxy : x = y := by
        have := hx.symm.trans hy
        simpa using congrArg (fun s : Str => s.cps.toList) this
      subst hxy
      rw [b, d, ts, tk, hf, hg]
      unfold looseF
      rw [c0, hx]
      show _ = !([c, x].all gLoose)
      have hgl : ∀ z, gLoose z = (!(z == 32) && !brN z) := by
        intro z
        unfold gLoose
        rw [inLines_one, bne, hsp]
        generalize (z == 32) = b, brN z = e
        revert b e; decide
      simp only [List.all_cons, List.all_nil, hgl]
      generalize (c == 32) = p, brN c = q, (x == 32) = r, brN x = t
      revert p q r t; decide
    · obtain ⟨x, hx, hf⟩ := charAt_last hc (· == 32)
      rw [ts, hf, hx, hsp]
    · rw [r1, hmark]
      rw [marked_meet (s3F v) (c == 45) (c == 58) (c == 63) (c == 35) (hdN c) (nw r) (hashes (wsN c) r) (cols r) h35]
    · rw [r2]
      unfold flowingF
      rw [hmark, hc, List.not_all_eq_any_not, List.any_cons]
      have : (fun c => !gFlow c) = flow := by funext x; unfold gFlow; rw [inFLOW_one, Bool.not_not]
      rw [this]
      have e : flow c = (c == 58 || c == 63 || (flN c && !(c == 63))) := by
        unfold flow
        have : (c == 63) = true → flN c = true := by intro e; rw [beq_iff_eq] at e; subst e; decide
        revert this
        generalize (c == 58) = p, (c == 63) = q, flN c = t
        revert p q t; decide
      rw [show (!gFlow c) = flow c from congrFun this c, e]
      exact flowing_meet (s3F v) (c == 45) (c == 58) (c == 63) (c == 35) (hdN c) (nw r) (hashes (wsN c) r) (cols r) (r.any flow) (flN c && !(c == 63)) h35 hgd (cols_any (by decide) r)
end Mine

namespace Mine
open PySem PySem.W PySem.Calls PyProof.Rows

theorem got_due {v : Str} (h0 : ∀ x ∈ v.cps.toList, x ≠ 0) (wide : Bool) : (anRes v wide).map (·.2) = dueF v wide := by
  unfold anRes dueF
  by_cases hne : v.cps.toList = []
  · have hv : v = ("" : Str) := Str.ext' (Array.toList_inj.mp (hne.trans (by decide +kernel)))
    subst hv
    kernel_rfl
  · have e1 : ((v.length : Int) != 0) = true := by
      have : v.length = v.cps.toList.length := by simp [Str.length]
      have h2 : v.cps.toList.length ≠ 0 := fun h => hne (List.eq_nil_of_length_eq_zero h)
      rw [bne_iff_ne]
      omega
    have e2 : (v.cps.toList == (Str.ofString "").cps.toList) = false := by
      have : (Str.ofString "").cps.toList = [] := by decide +kernel
      rw [this, beq_eq_false_iff_ne]
      exact hne
    rw [e1, e2]
    obtain ⟨m1, m2, m3, m4, m5, m6, m7, m8⟩ := meet h0 hne wide
    simp only [cond_true, cond_false, saVals, List.map_cons, List.map_nil, resA, Bool.or_false]
    rw [m1, m2, m3, m4, m5, m6, m7, m8]
    unfold pF iF eF plainF threeF
    rw [← m6]
    generalize linesF v = a, strangeF v wide = b, aheadF v = c, behindF v = d, looseF v = e, (stA wide v v.length).ts = f, markedF v = g, flowingF v = h
    congr 1
    congr 1
    congr 1
    congr 1
    · congr 1
      revert a b c d e h; decide
    congr 1
    · congr 1
      revert a b c d e g; decide
    congr 1
    · congr 1
      revert b c d; decide
    congr 1
    congr 1
    congr 1
    revert b c f; decide
end Mine

namespace Mine
open PySem PySem.W PySem.Calls PyProof.Rows

/-! texts that law builds -/
noncomputable def okC (c : Nat) : Bool := c != 0 && decide (c < 0x110000)
noncomputable def okT (x : Str) : Bool := x.cps.toList.all okC
theorem okT_slice {x : Str} {l u : Option Int} (h : okT x = true) : okT (Txt.slice x l u) = true := by
  unfold okT at h ⊢
  rw [List.all_eq_true] at h ⊢
  intro c hc
  unfold Txt.slice at hc
  split at hc
  · exact h c hc
  · rw [List.mem_filterMap] at hc
    obtain ⟨i, _, e⟩ := hc
    refine h c ?_
    rw [Array.mem_toList_iff]
    exact Array.mem_of_getElem? e
theorem okT_append {x y : Str} (h : okT x = true) (h' : okT y = true) : okT (x ++ y) = true := by
  unfold okT at h h' ⊢
  rw [Str.cps_append, Array.toList_append, List.all_append, h, h']
  rfl
theorem okT_join {sep : Str} (hs : okT sep = true) : ∀ {ys : List Str}, (∀ y ∈ ys, okT y = true) → okT (Txt.join sep ys) = true := by
  have : ∀ {ys : List Str}, (∀ y ∈ ys, okT y = true) → okT (Str.join sep ys) = true := by
    intro ys
    induction ys with
    | nil => intro _; rfl
    | cons y r ih =>
      intro h
      cases r with
      | nil => exact h y (.head _)
      | cons z r => exact okT_append (okT_append (h y (.head _)) hs) (ih fun q hq => h q (.tail _ hq))
  intro ys h
  unfold Txt.join
  rw [StrLaws.glued_eq_join]
  exact this h
noncomputable def PT (x : Str) : Prop := okT x = true ∧ x.length ≤ 16
theorem PT.slice {x : Str} {l u : Option Int} (h : PT x) : PT (Txt.slice x l u) := ⟨okT_slice h.1, Nat.le_trans (Txt.slice_le x l u) h.2⟩
theorem PT.cut {x : Str} (h : okT x = true) : PT (Txt.slice x Option.none (some 16)) := by
  refine ⟨okT_slice h, ?_⟩
  have e : (Txt.slice x Option.none (some ((16 : Nat) : Int))).cps.toList = x.cps.toList.take 16 := slice_to x 16
  have e2 : (Txt.slice x Option.none (some ((16 : Nat) : Int))).length = (Txt.slice x Option.none (some ((16 : Nat) : Int))).cps.toList.length := by simp [Str.length]
  show (Txt.slice x Option.none (some ((16 : Nat) : Int))).length ≤ 16
  rw [e2, e, List.length_take]
  exact Nat.min_le_left _ _
theorem PT.small {x : Str} (h : PT x) : small x = true := decide_eq_true (Nat.le_trans h.2 (by decide))
theorem PT.nz {x : Str} (h : PT x) : ∀ c ∈ x.cps.toList, c ≠ 0 := by
  intro c hc
  have := List.all_eq_true.mp h.1 c hc
  unfold okC at this
  simp only [Bool.and_eq_true, bne_iff_ne] at this
  exact this.1
theorem PT.strOk {x : Str} (h : PT x) : PyData.strOk x = true := by
  unfold PyData.strOk
  rw [← Array.all_toList, List.all_eq_true]
  intro c hc
  have := List.all_eq_true.mp h.1 c hc
  unfold okC at this
  simp only [Bool.and_eq_true] at this
  exact this.2
end Mine

namespace Mine
open PySem PySem.W PySem.Calls PyProof.Rows

section
variable {prog : Program} {w : World} {A : Around} {E : Value → Shared → Prop} {env : Env} {h₀ : Heap} {L : Addr} {news : List (Addr × Obj)} {s s₀ : Shared} {loc : List (List Nat)} {γ σ : Sto} {ws c : Addr} {o : Obj} {vs : List Value} {ns : List Int}

/-- storing a name that lies in a cell -/
theorem store_cell {x : Str} {v₀ : Option Value} {v : Value} {Q : Unit → Shared → Prop} (hk : env.scope.kind = .function) (hx : env.kindOf x = some .cell) (hc : env.cells.lookup x = some c) (hd : o.data = .cell v₀) (hnw : ∀ p ∈ news, p.1 ≠ c)
    (hs : At h₀ L ((c, o) :: news) s₀ σ s) (k : ∀ s' o', o'.data = .cell (some v) → At h₀ L ((c, o') :: news) s₀ σ s' → Q () s') : wpAny (model prog w) A (storeName env x v) Q E s := by
  obtain ⟨g, tk, m, rfl, F, N, R⟩ := hs
  have hmem := N (c, o) (.head _)
  refine wpAny_storeName_cell hk hx hc ⟨o, hmem.1, hd⟩ fun h' hv hs => ?_
  obtain ⟨o', ho', hd'⟩ := hv
  refine k _ o' hd' ⟨h', tk, m, rfl, F.change hs hmem.2.1 hmem.2.2, ?_, R⟩
  exact News.setAt (own := []) N (fun _ h => nomatch h) hnw hs ho'

theorem At.isList {items : Array Value} (hl : h₀.IsList ws items) (hs : At h₀ L news s₀ σ s) : s.heap.IsList ws items := by
  obtain ⟨g, tk, m, rfl, F, N, R⟩ := hs
  obtain ⟨o, e, r⟩ := hl
  exact ⟨o, F.keep _ _ e, r⟩

/-- what size may be -/
noncomputable def SizeOk (v : Value) : Prop := ∃ z t, v = .int z t ∧ 0 < z ∧ z ≤ 40
theorem fmod3 (a : Int) : 0 ≤ a.fmod 3 ∧ a.fmod 3 < 3 := ⟨fmod_lo a (by decide), fmod_hi a (by decide)⟩

/-- size = [9, 40, 24][script[0] % 3] if script else 9 -/
theorem st_size {x sn sn2 : Str} {xp sp sp2 lp ip bp up ap asp : Pos} {es : List PySem.Expr} {i m d : PySem.Expr} {v₀ : Option Value} {Q : Flow → Shared → Prop}
    (fo : FrOk env L) (lo : LocOk env loc) (go : GloOk prog w A E env h₀ L ((c, o) :: news) loc γ)
    (hx : env.kindOf x = some .cell) (hc : env.cells.lookup x = some c) (hd : o.data = .cell v₀) (hnw : ∀ p ∈ news, p.1 ≠ c)
    (hl : h₀.IsList ws vs.toArray) (hi : IntsAre vs ns) (hlen : ns.length ≤ 63)
    (hsn : nmOf loc γ σ sn = some (.val (.ref ws))) (hsn2 : nmOf loc γ σ sn2 = some (.val (.ref ws)))
    (he : evL (ev (nmOf loc γ σ) noAtt fuel) es = some ([.int 9, .int 40, .int 24], [])) (hei : ev (nmOf loc γ σ) noAtt fuel i = some (.int 0, [])) (hem : ev (nmOf loc γ σ) noAtt fuel m = some (.int 3, [])) (hed : ev (nmOf loc γ σ) noAtt fuel d = some (.int 9, []))
    (hsw : swapsWith (.IfExp (.Name sn sp) (.Subscript (.List es lp) (.BinOp (.Subscript (.Name sn2 sp2) i ip) .Mod m bp) up) d ap) (some (.Name x xp)) asp.line env = pure false)
    (hs : At h₀ L ((c, o) :: news) s₀ σ s) (k : ∀ s' o' v, o'.data = .cell (some v) → SizeOk v → At h₀ L ((c, o') :: news) s₀ σ s' → Q .next s') :
    wpAny (model prog w) A (exec (.Assign [.Name x xp] (.IfExp (.Name sn sp) (.Subscript (.List es lp) (.BinOp (.Subscript (.Name sn2 sp2) i ip) .Mod m bp) up) d ap) asp) env) Q E s := by
  have hnm := nmOk fo lo go hs
  have fin : ∀ v s1, Keeps s s1 → SizeOk v → wpAny (model prog w) A (storeName env x v) (fun _ => Q .next) E s1 := fun v s1 k1 hv =>
    store_cell fo.kind hx hc hd hnw (hs.keeps k1) fun s' o' hd' hs' => k s' o' v hd' hv hs'
  refine wpAny_Assign_Name (wpAny_IfExp (tr_script hnm hsn (hs.isList hl) hi hlen s (keeps_refl s) fun s1 k1 => ?_)) hsw
  by_cases hns : ns = []
  · rw [if_neg (by simp [hns])]
    refine ev_sound hnm attOk_no _ _ _ hed allT_nil s1 k1 _ fun v s2 hv k2 => ?_
    obtain ⟨t, rfl⟩ := hv
    exact fin _ _ k2 ⟨9, t, rfl, by decide, by decide⟩
  · rw [if_pos (by simp [hns])]
    obtain ⟨n0, r, rfl⟩ : ∃ a r, ns = a :: r := by
      cases ns with
      | nil => exact absurd rfl hns
      | cons a r => exact ⟨a, r, rfl⟩
    refine Subscript_ (List_ (evL_sound hnm attOk_no _ _ _ he allT_nil s1 k1 _ fun us s2 hus k2 => ?_))
    match us, hus with
    | [u1, u2, u3], hus =>
    obtain ⟨⟨t1, rfl⟩, ⟨t2, rfl⟩, ⟨t3, rfl⟩, _⟩ := hus
    refine wpAny_newObj_type ?_ (by show 3 ≤ sizeLine; rw [sizeLine_eq]; decide)
    have k3 : Keeps s { s2 with heap := s2.heap.push { cls := .type "list", dict := Option.none, data := .seq [Value.int 9 t1, Value.int 40 t2, Value.int 24 t3].toArray } } := keeps_trans k2 ⟨_, _, rfl, fun b o e => Heap.get?_push_of_some _ e⟩
    have hl3 : (s2.heap.push { cls := .type "list", dict := Option.none, data := .seq [Value.int 9 t1, Value.int 40 t2, Value.int 24 t3].toArray }).IsList s2.heap.objs.size [Value.int 9 t1, Value.int 40 t2, Value.int 24 t3].toArray := ⟨_, Heap.get?_push_size _ rfl, rfl, _, rfl⟩
    have hnm3 : NmOk prog w A E env _ (nmOf loc γ σ) := fun x p hx s' hs' => hnm x p hx s' (keeps_trans k3 hs')
    refine wpAny_BinOp (ev_script hnm3 hsn2 ((hs.keeps k3).isList hl) hi hlen hei (.inl ⟨by decide, by decide, rfl⟩) _ (keeps_refl _) fun t4 s4 k4 => ?_)
    refine ev_sound hnm3 attOk_no _ _ _ hem allT_nil s4 k4 _ fun v5 s5 hv5 k5 => ?_
    obtain ⟨t5, rfl⟩ := hv5
    refine mod_int' (by decide) ?_
    have hl5 : s5.heap.IsList s2.heap.objs.size [Value.int 9 t1, Value.int 40 t2, Value.int 24 t3].toArray := by
      obtain ⟨o, e, r⟩ := hl3
      exact ⟨o, Keeps.heap k5 _ _ e, r⟩
    obtain ⟨f0, f3⟩ := fmod3 n0
    have fin' : ∀ v, SizeOk v → wpAny (model prog w) A (storeName env x v) (fun _ => Q .next) E { s5 with toks := s5.toks + 1 } := fun v hv => fin v _ (keeps_trans k3 (keeps_tok k5 _)) hv
    generalize n0.fmod 3 = j at f0 f3 ⊢
    have hj : j = 0 ∨ j = 1 ∨ j = 2 := by omega
    rcases hj with rfl | rfl | rfl
    · refine tail_any (s := { s5 with toks := s5.toks + 1 }) hl5.typeIs F.slot_list_getitem.lookup (wpAny_getItem_list hl5 (by decide) (by decide) rfl (fin' _ ⟨9, t1, rfl, by decide, by decide⟩)) rfl
    · refine tail_any (s := { s5 with toks := s5.toks + 1 }) hl5.typeIs F.slot_list_getitem.lookup (wpAny_getItem_list hl5 (by decide) (by decide) rfl (fin' _ ⟨40, t2, rfl, by decide, by decide⟩)) rfl
    · refine tail_any (s := { s5 with toks := s5.toks + 1 }) hl5.typeIs F.slot_list_getitem.lookup (wpAny_getItem_list hl5 (by decide) (by decide) rfl (fin' _ ⟨24, t3, rfl, by decide, by decide⟩)) rfl

/-- cut = script[-1] % (len(text) + 1) if script else 0 -/
theorem st_cut {x sn sn2 : Str} {xp sp sp2 ip bp ap asp : Pos} {i m d : PySem.Expr} {len : Nat} {Q : Flow → Shared → Prop}
    (fo : FrOk env L) (lo : LocOk env loc) (go : GloOk prog w A E env h₀ L news loc γ)
    (hx : env.kindOf x = some .local)
    (hl : h₀.IsList ws vs.toArray) (hi : IntsAre vs ns) (hlen : ns.length ≤ 63)
    (hsn : nmOf loc γ σ sn = some (.val (.ref ws))) (hsn2 : nmOf loc γ σ sn2 = some (.val (.ref ws)))
    (hei : ev (nmOf loc γ σ) noAtt fuel i = some (.int (-1), [])) (hem : ev (nmOf loc γ σ) noAtt fuel m = some (.int ((len : Int) + 1), [])) (hed : ev (nmOf loc γ σ) noAtt fuel d = some (.int 0, []))
    (hsw : swapsWith (.IfExp (.Name sn sp) (.BinOp (.Subscript (.Name sn2 sp2) i ip) .Mod m bp) d ap) (some (.Name x xp)) asp.line env = pure false)
    (hs : At h₀ L news s₀ σ s) (k : ∀ s' z, At h₀ L news s₀ (put σ (key x) (.int z)) s' → Q .next s') :
    wpAny (model prog w) A (exec (.Assign [.Name x xp] (.IfExp (.Name sn sp) (.BinOp (.Subscript (.Name sn2 sp2) i ip) .Mod m bp) d ap) asp) env) Q E s := by
  have hnm := nmOk fo lo go hs
  refine wpAny_Assign_Name (wpAny_IfExp (tr_script hnm hsn (hs.isList hl) hi hlen s (keeps_refl s) fun s1 k1 => ?_)) hsw
  by_cases hns : ns = []
  · rw [if_neg (by simp [hns])]
    refine ev_sound hnm attOk_no _ _ _ hed allT_nil s1 k1 _ fun v s2 hv k2 => ?_
    exact store_sound fo (hs.keeps k2) hx (p := .int 0) hv fun s3 hs3 => k s3 0 hs3
  · rw [if_pos (by simp [hns])]
    have hpos : 0 < ns.length := List.length_pos_iff.mpr hns
    have hlast : ∃ n0, ns[((-1 : Int) + ns.length).toNat]? = some n0 := by
      refine ⟨ns[((-1 : Int) + ns.length).toNat]'(by omega), List.getElem?_eq_getElem _⟩
    obtain ⟨n0, hn0⟩ := hlast
    refine wpAny_BinOp (ev_script hnm hsn2 (hs.isList hl) hi hlen hei (.inr ⟨by decide, by omega, hn0⟩) _ k1 fun t4 s4 k4 => ?_)
    refine ev_sound hnm attOk_no _ _ _ hem allT_nil s4 k4 _ fun v5 s5 hv5 k5 => ?_
    obtain ⟨t5, rfl⟩ := hv5
    refine mod_int' (by omega) ?_
    exact store_sound fo (hs.keeps (keeps_tok k5 _)) hx (p := .int (n0.fmod ((len : Int) + 1))) ⟨_, rfl⟩ fun s3 hs3 => k s3 _ hs3

/-- a list display as a source -/
theorem src_display {α : Type} {ds : List α} {pv : α → PV} {es : List PySem.Expr} {lp : Pos} {nm : Str → Option PV} {ob : List Bool} (hh : A.handled = Option.none) (hnm : NmOk prog w A E env s nm) (he : evL (ev nm noAtt fuel) es = some (ds.map pv, ob)) (ho : AllT ob) (hsz : ds.length ≤ sizeLine) :
    wpAny (model prog w) A (eval (.List es lp) env) (fun xv s₁ => wpAny (model prog w) A (pyIter xv) (SrcF prog w A s ds (fun a v => (pv a).Is v)) E s₁) E s := by
  refine List_ (evL_sound hnm attOk_no _ _ _ he ho s (keeps_refl _) _ fun us s2 hus k2 => ?_)
  refine wpAny_newObj_type ?_ (by show us.toArray.size ≤ sizeLine; rw [List.size_toArray, isV_len hus, List.length_map]; exact hsz)
  refine srcF_list (items := us.toArray) (ds := ds) hh ⟨_, Heap.get?_push_size _ rfl, rfl, _, rfl⟩ ?_ (none_of_keeps k2 (get_size_none _)) (fun i v hv => ?_) (keeps_trans k2 ⟨_, _, rfl, fun b o e => Heap.get?_push_of_some _ e⟩) fun it s₂ h => h
  · rw [List.size_toArray, isV_len hus, List.length_map]
  · rw [List.getElem?_toArray] at hv
    have : ∀ (ds : List α) (us : List Value), IsV (ds.map pv) us → ∀ (i : Nat) (v : Value), us[i]? = some v → ∃ a, ds[i]? = some a ∧ (pv a).Is v := by
      intro ds
      induction ds with
      | nil =>
        intro us h i v hv
        cases us with
        | nil => simp at hv
        | cons _ _ => exact h.elim
      | cons a r ih =>
        intro us h i v hv
        cases us with
        | nil => exact h.elim
        | cons u us =>
          cases i with
          | zero => cases hv; exact ⟨a, rfl, h.1⟩
          | succ i => exact ih us h.2 i v (by simpa using hv)
    exact this ds us hus i v hv
end
end Mine

namespace Mine
open PySem PySem.W PySem.Calls PyProof.Rows

section
variable {prog : Program} {w : World} {A : Around} {E : Value → Shared → Prop} {env : Env} {h₀ : Heap} {L : Addr} {news : List (Addr × Obj)} {s s₀ : Shared} {loc : List (List Nat)} {γ σ : Sto} {ws c sg : Addr} {o : Obj} {vs : List Value} {ns : List Int}

theorem intsAre_get {vs : List Value} {ns : List Int} (h : IntsAre vs ns) (i : Nat) (v : Value) (hv : vs[i]? = some v) : ∃ n, ns[i]? = some n ∧ ∃ t, v = .int n t := by
  induction h generalizing i with
  | nil => simp at hv
  | cons n t h ih =>
    cases i with
    | zero => simp at hv; subst hv; exact ⟨n, rfl, t, rfl⟩
    | succ i => simpa using ih i (by simpa using hv)
/-- a slice of the script as a source -/
theorem src_cut {sn : Str} {sp p pos : Pos} {lo hi : Option PySem.Expr} {l u : Option Int} {nm : Str → Option PV} (hh : A.handled = Option.none) (hnm : NmOk prog w A E env s nm) (hsn : nm sn = some (.val (.ref ws))) (hl : s.heap.IsList ws vs.toArray) (hi' : IntsAre vs ns) (hlen : ns.length ≤ 63)
    (hlo : bound? (ev nm noAtt fuel) lo = some (l, [])) (hhi : bound? (ev nm noAtt fuel) hi = some (u, [])) {Q : List Int → Value → Shared → Prop}
    (k : ∀ ms it s₂, ms.length ≤ 63 → Src prog w A s ms (fun a v => ∃ t, v = .int a t) it s₂ → Q ms it s₂) :
    ∃ ms : List Int, ms.length ≤ 63 ∧ wpAny (model prog w) A (eval (.Subscript (.Name sn sp) (.Slice lo hi Option.none p) pos) env) (fun xv s₁ => wpAny (model prog w) A (pyIter xv) (Q ms) E s₁) E s := by
  have hsz : (slicePick vs.toArray l u Option.none).size ≤ 63 := by
    have := slicePick_size_le vs.toArray l u Option.none
    have h2 := (ints_get hi').1
    have e : vs.toArray.size = vs.length := by simp
    omega
  have hp := IntsAre.pick hi' l u Option.none
  have hml : (pickNums ns l u Option.none).length ≤ 63 := by
    have := (ints_get hp).1
    rw [Array.length_toList] at this
    omega
  refine ⟨pickNums ns l u Option.none, hml, ?_⟩
  refine wpAny_Subscript_list_slice (hnm sn _ hsn s (keeps_refl s) _ _ fun v hv => ?_)
  cases hv
  have hes := ev_sound hnm attOk_no
  refine bound_sound (hes fuel) hlo allT_nil (keeps_refl s) fun l' s1 hl1 k1 => ?_
  refine bound_sound (hes fuel) hhi allT_nil k1 fun u' s2 hu2 k2 => ?_
  have part : ∀ {x : Option (Int × Tok)} {y : Option Int}, x.map (·.1) = y → IsPart (partValue x) y := by
    intro x y e
    cases x with
    | none => cases e; exact .none
    | some p => obtain ⟨i, t⟩ := p; cases e; exact .int i t
  refine ⟨ws, vs.toArray, l, u, rfl, ?_, ?_, part hl1, part hu2, ?_⟩
  · obtain ⟨o, e, r⟩ := hl
    exact ⟨o, Keeps.heap k2 _ _ e, r⟩
  · have h2 := (ints_get hi').1
    have e : vs.toArray.size = vs.length := by simp
    rw [sizeLine_eq]; omega
  · refine src_list (items := slicePick vs.toArray l u Option.none) (ds := pickNums ns l u Option.none) (R := fun a v => ∃ t, v = .int a t) hh (isList_pushed2 _ _ _) (by rw [sizeLine_eq]; omega) ?_ (fun i v hv => ?_) (keeps_trans k2 ⟨_, _, rfl, fun b o e => Heap.get?_push_of_some _ (Heap.get?_push_of_some _ e)⟩) fun it s₂ h => k _ it s₂ hml h
    · have := (ints_get hp).1
      rw [Array.length_toList] at this
      exact this
    · exact intsAre_get hp i v (by rw [Array.getElem?_toList]; exact hv)

/-- a sign of the table -/
noncomputable def SignT (v : Value) : Prop := ∃ x t, v = .str x t ∧ okT x = true ∧ x.length ≤ 3
noncomputable def signsB (items : Array Value) : Bool := (List.range 40).all fun i => match items[i]? with
  | some (.str x _) => okT x && decide (x.length ≤ 3)
  | _ => false
theorem signsB_at {items : Array Value} (h : signsB items = true) {i : Nat} (hi : i < 40) : ∃ v, items[i]? = some v ∧ SignT v := by
  have := List.all_eq_true.mp h i (List.mem_range.mpr hi)
  split at this
  · rename_i x t e
    simp only [Bool.and_eq_true, decide_eq_true_eq] at this
    exact ⟨_, e, x, t, rfl, this.1, this.2⟩
  · cases this

/-- _law_SIGNS[n % size], in the comprehension -/
theorem sign_elt {scope : Scope} {cl : List (Str × Addr)} {C cz : Addr} {E' : Value → Shared → Prop} {gn nn zn : Str} {gp np zp bp pos : Pos} {a : Int} {u sz : Value} {s₃ : Shared} {m₃ : Str → Option Value} {oc : Obj} {items : Array Value}
    {K : Frag} {p : Program} {loose : List Str} {mean : ExcName → Option Value} {mg mb : Str → Option Value} (X : K.In h₀) (T : Top p loose mean mg mb h₀)
    (hs : At h₀ L news s₀ σ s) (hc : (cz, oc) ∈ news) (hcd : oc.data = .cell (some sz)) (hsz : SizeOk sz) (hg : env.globals = mainGlobals) (hk : scope.kind = .function)
    (kg : (compEnvC scope cl C env).kindOf gn = some .globalImplicit) (ng : nsIn K mainGlobals gn = some (some (.ref sg))) (kn : (compEnvC scope cl C env).kindOf nn = some .local) (kz : (compEnvC scope cl C env).kindOf zn = some .cell) (hcl : cl.lookup zn = some cz)
    (dg : (gn == ("__debug__" : Str)) = false) (dn : (nn == ("__debug__" : Str)) = false) (dz : (zn == ("__debug__" : Str)) = false)
    (hl : h₀.IsList sg items) (hit : signsB items = true)
    (hu : ∃ t, u = .int a t) (hn : s₃.heap.Ns C m₃) (hm : m₃ nn = some u) (hkp : KeepH s.heap s₃.heap) :
    wpAny (model prog w) A (eval (.Subscript (.Name gn gp) (.BinOp (.Name nn np) .Mod (.Name zn zp) bp) pos) (compEnvC scope cl C env)) (fun r s₄ => SignT r ∧ Keeps s₃ s₄) E' s₃ := by
  obtain ⟨g, tk, m, rfl, F, N, R⟩ := hs
  have F3 : Fr h₀ L s₃.heap m := F.keeps hkp
  obtain ⟨t, rfl⟩ := hu
  obtain ⟨z, tz, rfl, hz0, hz1⟩ := hsz
  refine Subscript_ (nameG_K F3 X (topRead_of T) ng ?_ hg hk kg dg)
  refine wpAny_BinOp (wpAny_Name (wpAny_loadName_local (env := compEnvC scope cl C env) hk kn hn hm ?_) dn)
  refine wpAny_Name (wpAny_loadName_cell (env := compEnvC scope cl C env) hk kz hcl ⟨oc, hkp _ _ (N _ hc).1, hcd⟩ ?_) dz
  refine mod_int' (by omega) ?_
  have f0 := fmod_lo a hz0
  have f1 := fmod_hi a hz0
  obtain ⟨v, hv, hS⟩ := signsB_at hit (i := (a.fmod z).toNat) (by omega)
  have hl3 : s₃.heap.IsList sg items := by
    obtain ⟨o, e, r⟩ := hl
    exact ⟨o, F3.keep _ _ e, r⟩
  exact tail_any (s := { s₃ with toks := s₃.toks + 1 }) hl3.typeIs PySem.F.slot_list_getitem.lookup (wpAny_getItem_list hl3 f0 (by omega) hv ⟨hS, keeps_tok (keeps_refl _) _⟩) rfl

theorem strsAre_of : ∀ (l : List Value), (∀ v ∈ l, SignT v) → ∃ ys, StrsAre l ys ∧ (∀ y ∈ ys, okT y = true ∧ y.length ≤ 3) ∧ ys.length = l.length
  | [], _ => ⟨[], .nil, (fun _ h => nomatch h), rfl⟩
  | v :: r, h => by
    obtain ⟨x, t, rfl, h1, h2⟩ := h v (.head _)
    obtain ⟨ys, a, b, c⟩ := strsAre_of r fun q hq => h q (.tail _ hq)
    refine ⟨x :: ys, .cons x t a, fun y hy => ?_, by simp [c]⟩
    rcases List.mem_cons.mp hy with rfl | hy
    · exact ⟨h1, h2⟩
    · exact b y hy
theorem sum_le3 : ∀ (ys : List Str), (∀ y ∈ ys, y.length ≤ 3) → (ys.map (·.length)).sum ≤ 3 * ys.length
  | [], _ => Nat.le_refl _
  | y :: r, h => by
    have h1 := h y (.head _)
    have h2 := sum_le3 r fun q hq => h q (.tail _ hq)
    simp only [List.map_cons, List.sum_cons, List.length_cons]
    omega

theorem meth_call {M : Model} {A : Around} {E : Value → Shared → Prop} {s : Shared} {env : Env} {o : PySem.Expr} {name : Str} {apos pos : Pos} {args : List PySem.Expr} {Q : Value → Shared → Prop}
    (hbase : attributeBase o name env (eval o env) = eval o env) (hfew : methodCallForm (args.length + 0) (backTo pos (starEach args env)) [] = true) (hline : (apos.endLine == pos.line) = true)
    (h : wpAny M A (eval o env) (fun ov s₁ => wpAny M A (getMethod ov name (do return (← importBound o env).getD true)) (fun fx s₂ => wpAny M A (callWith pos fx.1 fx.2 (backTo pos (starEach args env)) []) Q E s₂) E s₁) E s) :
    wpAny M A (eval (.Call (.Attribute o name apos) args [] pos) env) Q E s := by
  rw [arm_eval_Call, hbase]
  refine wpAny_bind (wpAny_mono h (fun ov s₁ h₁ => wpAny_bind (wpAny_standAt ?_)) fun _ _ e => e)
  have hpos : methodCallPos true o env apos pos = pure pos := by unfold methodCallPos; simp [hline]
  show wpAny M A (methodCall o name apos pos env ov (args.length + 0) (backTo pos (starEach args env)) []) Q E s₁
  unfold methodCall
  rw [hfew]
  refine wpAny_bind (wpAny_holding (wpAny_mono h₁ (fun fx s₂ h₂ => ?_) fun _ _ e => e))
  exact wpAny_bind (wpAny_of_eq hpos h₂)

structure TxP where
  x : Str
  jn : Str
  sn : Str
  gn : Str
  nn : Str
  zn : Str
  s0 : Str
  k0 : Nat
  lo : Option PySem.Expr
  hi : Option PySem.Expr
  hi2 : PySem.Expr
  scope : Scope
  ps : List Pos
/-- text = ''.join([_law_SIGNS[n % size] for n in script[:16]])[:16] -/
noncomputable def txComp (t : TxP) : PySem.Expr := .ListComp (.Subscript (.Name t.gn (posAt t.ps 0)) (.BinOp (.Name t.nn (posAt t.ps 1)) .Mod (.Name t.zn (posAt t.ps 2)) (posAt t.ps 3)) (posAt t.ps 4)) [⟨.Name t.nn (posAt t.ps 5), .Subscript (.Name t.sn (posAt t.ps 6)) (.Slice t.lo t.hi Option.none (posAt t.ps 7)) (posAt t.ps 8), [], 0⟩] t.scope (posAt t.ps 9)
noncomputable def txE (t : TxP) : PySem.Expr := .Subscript (.Call (.Attribute (.Constant (.str t.s0) t.k0 (posAt t.ps 10)) t.jn (posAt t.ps 11)) [txComp t] [] (posAt t.ps 12)) (.Slice Option.none (some t.hi2) Option.none (posAt t.ps 13)) (posAt t.ps 14)
noncomputable def txS (t : TxP) : Stmt := .Assign [.Name t.x (posAt t.ps 15)] (txE t) (posAt t.ps 16)
theorem st_text {t : TxP} {l u : Option Int} {cl : List (Str × Addr)} {cz : Addr} {oc : Obj} {sz : Value} {items : Array Value} {Q : Flow → Shared → Prop}
    {K : Frag} {p : Program} {loose : List Str} {mean : ExcName → Option Value} {mg mb : Str → Option Value} (X : K.In h₀) (T : Top p loose mean mg mb h₀)
    (fo : FrOk env L) (lo' : LocOk env loc) (go : GloOk prog w A E env h₀ L news loc γ) (hh : A.handled = Option.none)
    (hx : env.kindOf t.x = some .local) (hjn : t.jn = Str.ofString "join") (hline : ((posAt t.ps 11).endLine == (posAt t.ps 12).line) = true)
    (hl : h₀.IsList ws vs.toArray) (hi' : IntsAre vs ns) (hlen : ns.length ≤ 63) (hsn : nmOf loc γ σ t.sn = some (.val (.ref ws)))
    (hs0 : t.s0 = Str.ofString "") (hlo : bound? (ev (nmOf loc γ σ) noAtt fuel) t.lo = some (l, [])) (hhi : bound? (ev (nmOf loc γ σ) noAtt fuel) t.hi = some (u, [])) (hhi2 : ev (nmOf loc γ σ) noAtt fuel t.hi2 = some (.int 16, []))
    (hsc : scopeB t.scope [t.nn] = true) (hclos : closureFor t.scope env = pure cl)
    (hc : (cz, oc) ∈ news) (hcd : oc.data = .cell (some sz)) (hsz : SizeOk sz) (hg : env.globals = mainGlobals)
    (kg : ∀ C, (compEnvC t.scope cl C env).kindOf t.gn = some .globalImplicit) (ng : nsIn K mainGlobals t.gn = some (some (.ref sg))) (kn : ∀ C, (compEnvC t.scope cl C env).kindOf t.nn = some .local) (kz : ∀ C, (compEnvC t.scope cl C env).kindOf t.zn = some .cell) (hcl : cl.lookup t.zn = some cz)
    (dg : (t.gn == ("__debug__" : Str)) = false) (dn : (t.nn == ("__debug__" : Str)) = false) (dz : (t.zn == ("__debug__" : Str)) = false)
    (hsg : h₀.IsList sg items) (hit : signsB items = true)
    (hsw : swapsWith (txE t) (some (.Name t.x (posAt t.ps 15))) (posAt t.ps 16).line env = pure false)
    (hs : At h₀ L news s₀ σ s) (k : ∀ s' v, PT v → At h₀ L news s₀ (put σ (key t.x) (.str v)) s' → Q .next s') :
    wpAny (model prog w) A (exec (txS t) env) Q E s := by
  obtain ⟨x, jn, sn, gn, nn, zn, s0, k0, lo, hi, hi2, scope, ps⟩ := t
  dsimp only at *
  subst hjn hs0
  have hnm := nmOk fo lo' go hs
  have hes := ev_sound hnm attOk_no
  obtain ⟨h1, h2, h3, h4⟩ := scope_of hsc
  unfold txS
  refine wpAny_Assign_Name ?_ hsw
  unfold txE
  refine Subscript_ ?_
  refine meth_call rfl rfl hline (Constant_str ?_)
  refine GM.join ?_
  generalize s.toks = te
  have k1 : Keeps s { s with toks := te + 1 } := keeps_tok (keeps_refl _) _
  have hnm1 : NmOk prog w A E env { s with toks := te + 1 } (nmOf loc γ σ) := fun x p hx s' hs' => hnm x p hx s' (keeps_trans k1 hs')
  obtain ⟨ms, hms, hsrc⟩ := src_cut (Q := fun ms it s₂ => Src prog w A { s with toks := te + 1 } ms (fun a v => ∃ t, v = .int a t) it s₂) (p := posAt ps 7) (pos := posAt ps 8) (sp := posAt ps 6) hh hnm1 hsn ((hs.keeps k1).isList hl) hi' hlen hlo hhi fun _ _ _ _ h => h
  refine callWith_bF (first := [.str (Str.ofString "") te]) ?_ rfl
  refine comp_list (ds := ms) (R := fun a v => ∃ t, v = .int a t) (G := fun _ r => SignT r) hclos h1 h2 h3 (h4 nn (.head _)) (fun _ => rfl) (fun a a' v h h' => by obtain ⟨t, rfl⟩ := h; obtain ⟨t', e⟩ := h'; cases e; rfl) hsrc
    (fun C a v s₃ m₃ E' _ hv hn hm hk => sign_elt X T (hs.keeps k1) hc hcd hsz hg h2 (kg C) ng (kn C) (kz C) hcl dg dn dz hsg hit hv hn hm hk) fun D ys s2 k2 _ hl2 hlen2 hG => ?_
  obtain ⟨zs, hz1, hz2, hz3⟩ := strsAre_of ys.toList fun v hv => by
    obtain ⟨i, hi⟩ := List.mem_iff_getElem?.mp hv
    have hi2 : i < ms.length := by
      rw [← hlen2, ← Array.length_toList]
      exact (List.getElem?_eq_some_iff.mp hi).1
    exact hG i ms[i] v (List.getElem?_eq_getElem hi2) (by rw [← Array.getElem?_toList]; exact hi)
  have hzl : zs.length ≤ 63 := by rw [hz3, Array.length_toList, hlen2]; exact hms
  have hsum := sum_le3 zs fun y hy => (hz2 y hy).2
  refine join_listW hl2 hz1 (by decide) (by omega) fun t' kk => ?_
  have hok : JoinOk (Str.ofString "") zs = true := joinOk_of_weight (by omega) (by decide)
  have hJ : okT (Txt.join (Str.ofString "") zs) = true := okT_join (by decide +kernel) fun y hy => (hz2 y hy).1
  have hJl : (Txt.join (Str.ofString "") zs).length ≤ sizeLine := by
    unfold JoinOk at hok
    rw [Bool.not_eq_true'] at hok
    exact joinFit_length hok
  have k3 : Keeps s { s2 with toks := kk } := keeps_tok (keeps_trans k1 k2) kk
  refine wpAny_Slice ?_
  rw [evalPart_none]
  refine wpAny_pure ?_
  rw [evalPart_some]
  refine hes fuel _ _ hhi2 allT_nil _ k3 _ fun v4 s4 hv4 k4 => ?_
  obtain ⟨t4, rfl⟩ := hv4
  refine wpAny_pure ?_
  obtain ⟨g, tk, m, rfl, F, N, R⟩ := hs.keeps k4
  refine slice_strN_ns F N (fun h' t5 k5 F' N' => ?_) rfl (fun _ => rfl) hJl
  have hP := PT.cut hJ
  refine store_sound fo (σ := σ) ⟨h', k5, m, rfl, F', N', R⟩ hx (p := .str (Txt.slice (Txt.join (Str.ofString "") zs) Option.none (some 16))) ⟨hP.small, t5, rfl⟩ fun s7 hs7 => k s7 _ hP hs7
end
end Mine

namespace Mine
open PySem PySem.W PySem.Calls PyProof.Rows

section
variable {w : World} {p : Program} {loose : List Str} {mean : ExcName → Option Value} {mg mb : Str → Option Value} {A A₀ : Around} {E : Value → Shared → Prop} {env : Env} {outer : List Env} {base h₀ : Heap} {L : Addr} {news : List (Addr × Obj)} {s s₀ : Shared} {loc : List (List Nat)} {γ σ : Sto} {Q : Flow → Shared → Prop}

/-- what a frame must know to call on -/
structure LwCtx (w : World) (p : Program) (loose : List Str) (mean : ExcName → Option Value) (mg mb : Str → Option Value) (A A₀ : Around) (env : Env) (outer : List Env) (base h₀ : Heap) (L : Addr) : Prop where
  B : Below A₀ base outer h₀
  X : (KK w.params).In h₀
  T : Top p loose mean mg mb h₀
  frames : A.frames = some (env :: outer)
  frame : env.frame = some L
  room : A.depth + 2 < recursionLimit
  handled : A.handled = Option.none
  units : A.units + 64 < cLine

structure EmP where
  x : Str
  en : Str
  rn : Str
  kws : List Keyword
  ps : List Pos
/-- emitter = Emitter(Rows(), allow_unicode=wide) -/
noncomputable def emE (t : EmP) : PySem.Expr := .Call (.Name t.en (posAt t.ps 0)) [.Call (.Name t.rn (posAt t.ps 1)) [] [] (posAt t.ps 2)] t.kws (posAt t.ps 3)
noncomputable def emSt (t : EmP) : Stmt := .Assign [.Name t.x (posAt t.ps 4)] (emE t) (posAt t.ps 5)
theorem st_em {t : EmP} {wide : Bool} (c : LwCtx w p loose mean mg mb A A₀ env outer base h₀ L) (fo : FrOk env L) (lo : LocOk env loc) (go : GloOk PRG w A E env h₀ L news loc γ) (hx : env.kindOf t.x = some .local)
    (hen : nmOf loc γ σ t.en = some (.val (.ref 736))) (hrn : nmOf loc γ σ t.rn = some (.val (.ref 771))) (hkw : evK (ev (nmOf loc γ σ) noAtt fuel) t.kws = some ([(Str.ofString "allow_unicode", .bool wide)], []))
    (hsw : swapsWith (emE t) (some (.Name t.x (posAt t.ps 4))) (posAt t.ps 5).line env = pure false) (hs : At h₀ L news s₀ σ s)
    (k : ∀ s' x dx n es, getL "allow_unicode" es = some (some (.bool wide)) → getL "analyze_scalar" es = some Option.none → At h₀ L ((x, instObj 736 dx) :: (dx, dictOf es n) :: news) s₀ (put σ (key t.x) (.val (.ref x))) s' → Q .next s') :
    wpAny (model PRG w) A (exec (emSt t) env) Q E s := by
  have hnm := nmOk fo lo go hs
  obtain ⟨n1, n2, n3⟩ := evK_names (pos := posAt t.ps 3) (env := env) _ _ _ hkw
  unfold emSt
  refine wpAny_Assign_Name ?_ hsw
  unfold emE
  refine wpAny_Call_Name_kw (hnm t.en _ hen s (keeps_refl s) _ _ fun f hf => ?_)
  cases hf
  refine callWith_KW (first := []) c.X (by kernel_rfl) n2 (args_cons ?_ rfl) (by rw [n3]; rfl) rfl
  refine Call_Name (trees := backTo (posAt t.ps 2) (starEach [] env)) rfl (hnm t.rn _ hrn s (keeps_refl s) _ _ fun f hf => ?_)
  cases hf
  obtain ⟨g, tk, m, rfl, F, N, R⟩ := hs
  refine callWith_K0 (first := []) (c.X.keeps F.keep) (by kernel_rfl) ?_
  refine ro_ok c.B F c.X N c.T c.frames c.frame fo.kind (by have := c.room; omega) fun r h1 tk1 F1 N1 => args_nil ?_
  have hs1 : At h₀ L news s₀ σ { s₀ with heap := h1, toks := tk1 } := ⟨h1, tk1, m, rfl, F1, N1, R⟩
  refine evK_sound (nmOk fo lo go hs1) attOk_no _ _ _ hkw allT_nil _ (keeps_refl _) _ fun ks s2 hks k2 => ?_
  obtain ⟨h2, tk2, m2, rfl, F2, N2, R2⟩ := hs1.keeps k2
  match ks, hks with
  | [v], hks =>
  obtain ⟨hv, _⟩ := hks
  cases hv
  rw [n1]
  refine ⟨c.X.keeps F2.keep, ?_⟩
  refine em_ok c.B F2 c.X N2 c.T c.frames c.frame fo.kind (by have := c.room; omega) fun x dx n es h3 tk3 F3 N3 g1 g2 => ?_
  exact store_sound fo (news := (x, instObj 736 dx) :: (dx, dictOf es n) :: news) (σ := σ) ⟨h3, tk3, m2, rfl, F3, N3, R2⟩ hx (p := .val (.ref x)) rfl fun s4 hs4 => k s4 x dx n es g1 g2 hs4

structure AcP where
  x : Str
  on : Str
  mn : Str
  vn : Str
  ps : List Pos
/-- told = emitter.analyze_scalar(value) -/
noncomputable def acE (t : AcP) : PySem.Expr := .Call (.Attribute (.Name t.on (posAt t.ps 0)) t.mn (posAt t.ps 1)) [.Name t.vn (posAt t.ps 2)] [] (posAt t.ps 3)
noncomputable def acSt (t : AcP) : Stmt := .Assign [.Name t.x (posAt t.ps 4)] (acE t) (posAt t.ps 5)
theorem st_ac {t : AcP} {wide : Bool} {x dx n : Nat} {es : List DictEntry} {v : Str} (c : LwCtx w p loose mean mg mb A A₀ env outer base h₀ L) (fo : FrOk env L) (lo : LocOk env loc) (go : GloOk PRG w A E env h₀ L news loc γ) (hx : env.kindOf t.x = some .local)
    (hon : nmOf loc γ σ t.on = some (.val (.ref x))) (hvn : nmOf loc γ σ t.vn = some (.str v)) (hmn : t.mn = Str.ofString "analyze_scalar") (hline : ((posAt t.ps 1).endLine == (posAt t.ps 3).line) = true)
    (hi : (x, instObj 736 dx) ∈ news) (hdx : (dx, dictOf es n) ∈ news) (hg1 : getL "allow_unicode" es = some (some (.bool wide))) (hg2 : getL "analyze_scalar" es = some Option.none)
    (hsw : swapsWith (acE t) (some (.Name t.x (posAt t.ps 4))) (posAt t.ps 5).line env = pure false) (hs : At h₀ L news s₀ σ s)
    (k : ∀ s' x' dx' n' es', RepD (anRes v wide) es' → At h₀ L ((x', instObj 296 dx') :: (dx', dictOf es' n') :: news) s₀ (put σ (key t.x) (.val (.ref x'))) s' → Q .next s') :
    wpAny (model PRG w) A (exec (acSt t) env) Q E s := by
  obtain ⟨xn, on, mn, vn, ps⟩ := t
  dsimp only at *
  subst hmn
  have hnm := nmOk fo lo go hs
  unfold acSt
  refine wpAny_Assign_Name ?_ hsw
  unfold acE
  refine meth_call rfl rfl hline (hnm on _ hon s (keeps_refl s) _ _ fun u hu => ?_)
  cases hu
  obtain ⟨g, tk, m, rfl, F, N, R⟩ := id hs
  refine method_inst (f := 629) F c.X (InstAt.of_news N hi hdx) (by kernel_rfl) (by kernel_rfl) (by kernel_rfl) hg2 ?_
  refine callWith_K (first := [.ref x]) c.X (by kernel_rfl) (args_cons (hnm vn _ hvn _ (keeps_refl _) _ _ fun u hu => args_nil ?_) rfl) rfl rfl
  obtain ⟨hv, tv, rfl⟩ := hu
  refine ⟨c.X.keeps F.keep, ?_⟩
  refine an_ok hv c.B F c.X N c.T c.frames c.frame fo.kind c.room hi hdx hg1 fun x' dx' n' es' h1 tk1 F1 N1 _ _ D => ?_
  exact store_sound fo (news := (x', instObj 296 dx') :: (dx', dictOf es' n') :: news) (σ := σ) ⟨h1, tk1, m, rfl, F1, N1, R⟩ hx (p := .val (.ref x')) rfl fun s4 hs4 => k s4 x' dx' n' es' D hs4

/-- what an answer tells of itself -/
noncomputable def toldAtt (x : Addr) (τ : Sto) (r : Addr) (a : Str) : Option (PV × List Bool) := (look τ (key a)).map fun p => (p, [decide (r = x)])
noncomputable def saOk (P : Params) (k : List Nat) : Bool := plainGet (KK P) 296 ⟨k.toArray⟩ && (findIn (KK P) (.ref 296) ⟨k.toArray⟩ == some Option.none)
theorem sa_keys (P : Params) : saF.all (saOk P) = true := by kernel_rfl
theorem told_att {x dx n : Nat} {es : List DictEntry} {v : Str} {b2 b3 b4 b5 b6 b7 b8 : Bool} (X : (KK w.params).In h₀) (hi : (x, instObj 296 dx) ∈ news) (hdx : (dx, dictOf es n) ∈ news) (D : RepD (saVals v b2 b3 b4 b5 b6 b7 b8) es) : AttH PRG w A E h₀ L news (toldAtt x (saVals v b2 b3 b4 b5 b6 b7 b8)) := by
  intro r a q o hq ho s m F N Q k
  unfold toldAtt at hq
  cases hl : look (saVals v b2 b3 b4 b5 b6 b7 b8) (key a) with
  | none => rw [hl] at hq; cases hq
  | some p =>
    rw [hl] at hq
    cases hq
    have hr : r = x := of_decide_eq_true ho.one
    subst hr
    have hk : ∀ (l : Sto) (y : List Nat) (q : PV), look l y = some q → (y, q) ∈ l := by
      intro l
      induction l with
      | nil => intro y q h; cases h
      | cons e r ih =>
        intro y q h
        obtain ⟨k, p⟩ := e
        simp only [look] at h
        cases e : keq k y with
        | true => rw [e] at h; cases h; cases keq_iff.mp e; exact .head _
        | false => rw [e] at h; exact .tail _ (ih y q h)
    have hm := hk _ _ _ hl
    have hf : key a ∈ saF ∧ q ≠ PV.any ∧ ∀ u, q.Is u → handedIn u = true := by
      simp only [saVals, List.mem_cons, List.not_mem_nil, or_false, Prod.mk.injEq] at hm
      refine ⟨?_, ?_, ?_⟩
      · rcases hm with ⟨h, _⟩ | ⟨h, _⟩ | ⟨h, _⟩ | ⟨h, _⟩ | ⟨h, _⟩ | ⟨h, _⟩ | ⟨h, _⟩ | ⟨h, _⟩ <;> rw [h] <;> decide
      · rcases hm with ⟨_, h⟩ | ⟨_, h⟩ | ⟨_, h⟩ | ⟨_, h⟩ | ⟨_, h⟩ | ⟨_, h⟩ | ⟨_, h⟩ | ⟨_, h⟩ <;> rw [h] <;> intro e <;> cases e
      · intro u hu
        rcases hm with ⟨_, h⟩ | ⟨_, h⟩ | ⟨_, h⟩ | ⟨_, h⟩ | ⟨_, h⟩ | ⟨_, h⟩ | ⟨_, h⟩ | ⟨_, h⟩ <;> rw [h] at hu
        · obtain ⟨_, t, rfl⟩ := hu; rfl
        all_goals (cases hu; rfl)
    obtain ⟨u, hu, hui⟩ := D.2 a q hl hf.2.1
    have ha : (⟨(key a).toArray⟩ : Str) = a := Str.ext' (by simp [key])
    have h3 := List.all_eq_true.mp (sa_keys w.params) (key a) hf.1
    unfold saOk at h3
    rw [ha, Bool.and_eq_true] at h3
    exact get_own F X (InstAt.of_news N hi hdx) h3.1 (by kernel_rfl) (attr := Option.none) (beq_iff_eq.mp h3.2) (by kernel_rfl) hu (hf.2.2 u hui) (k _ _ hui)

structure GtP where
  x : Str
  es : List PySem.Expr
  kk : Nat
  ps : List Pos
/-- got = (told.scalar, ..) -/
noncomputable def gtE (t : GtP) : PySem.Expr := .Tuple t.es t.kk (posAt t.ps 0)
noncomputable def gtSt (t : GtP) : Stmt := .Assign [.Name t.x (posAt t.ps 1)] (gtE t) (posAt t.ps 2)
theorem st_gt {t : GtP} {att : Addr → Str → Option (PV × List Bool)} {ps : List PV} {o : List Bool} {prog : Program} (fo : FrOk env L) (lo : LocOk env loc) (go : GloOk prog w A E env h₀ L news loc γ) (ao : AttH prog w A E h₀ L news att) (hx : env.kindOf t.x = some .local)
    (he : evL (ev (nmOf loc γ σ) att fuel) t.es = some (ps, o)) (ho : AllT o) (hsz : ps.length ≤ sizeLine) (hsw : swapsWith (gtE t) (some (.Name t.x (posAt t.ps 1))) (posAt t.ps 2).line env = pure false) (hs : At h₀ L news s₀ σ s)
    (k : ∀ s' T vals, IsV ps vals → At h₀ L ((T, tupObj vals) :: news) s₀ (put σ (key t.x) (.val (.ref T))) s' → Q .next s') : wpAny (model prog w) A (exec (gtSt t) env) Q E s := by
  unfold gtSt
  refine wpAny_Assign_Name ?_ hsw
  unfold gtE
  refine Tuple_ (evL_sound (nmOk fo lo go hs) (attOk ao hs) _ _ _ he ho s (keeps_refl _) _ fun vs s' hvs k' => ?_)
  obtain ⟨g, tk, m, rfl, F, N, R⟩ := hs.keeps k'
  refine newTuple_N F N (fun h' F' N' => ?_) (by rw [isV_len hvs]; exact hsz)
  exact store_sound fo (σ := σ) ⟨h', tk, m, rfl, F', N', R⟩ hx (p := .val (.ref _)) rfl fun s3 hs3 => k s3 _ vs hvs hs3
end
end Mine

namespace Mine
open PySem PySem.W PySem.Calls PyProof.Rows

/-! tuples of texts and bools, compared -/
noncomputable def pdOf : PV → PyData
  | .str x => .str x
  | .bool b => .bool b
  | _ => .none
noncomputable def plainP : PV → Bool
  | .str x => PyData.strOk x
  | .bool _ => true
  | _ => false
theorem isV_reads {h : Heap} : ∀ {ps : List PV} {vs : List Value}, IsV ps vs → (∀ q ∈ ps, plainP q = true) → ∃ as, ReadsAll h vs (ps.map pdOf) as
  | [], [], _, _ => ⟨[], .nil⟩
  | [], _ :: _, h, _ => h.elim
  | _ :: _, [], h, _ => h.elim
  | q :: ps, v :: vs, h, hp => by
    obtain ⟨as, ha⟩ := isV_reads (h := ‹Heap›) h.2 fun r hr => hp r (.tail _ hr)
    have hq := hp q (.head _)
    have h1 := h.1
    cases q <;> first | (cases hq; done) | skip
    · cases h1; exact ⟨_, .cons (.bool _) ha⟩
    · obtain ⟨_, t, rfl⟩ := h1; exact ⟨_, .cons (.str _ t) ha⟩
theorem eqv_self : ∀ (ps : List PV), (∀ q ∈ ps, plainP q = true) → PyData.eqvAll (ps.map pdOf) (ps.map pdOf) = true
  | [], _ => by simp [PyData.eqvAll]
  | q :: ps, hp => by
    have ih := eqv_self ps fun r hr => hp r (.tail _ hr)
    have hq := hp q (.head _)
    simp only [List.map_cons, PyData.eqvAll, ih, Bool.and_true]
    cases q <;> first | (cases hq; done) | simp [pdOf, PyData.eqv]
theorem lay_self : ∀ (ps : List PV), (∀ q ∈ ps, plainP q = true) → PyData.canLayAll0 (ps.map pdOf) = true ∧ PyData.depthAll (ps.map pdOf) = 0
  | [], _ => ⟨rfl, rfl⟩
  | q :: ps, hp => by
    obtain ⟨a, b⟩ := lay_self ps fun r hr => hp r (.tail _ hr)
    have hq := hp q (.head _)
    cases q <;> first | (cases hq; done) | skip
    · simp [pdOf, PyData.canLayAll0, PyData.canLay0, PyData.depthAll, PyData.depth, a, b]
    · have hq : PyData.strOk _ = true := hq
      simp [pdOf, PyData.canLayAll0, PyData.canLay0, PyData.depthAll, PyData.depth, a, b, hq]
theorem shaped_tup (ps : List PV) (hp : ∀ q ∈ ps, plainP q = true) : SeqAt.shaped (.tuple (ps.map pdOf)) = true := by
  obtain ⟨a, b⟩ := lay_self ps hp
  simp [SeqAt.shaped, PyData.canLay0, PyData.depth, a, b]

section
variable {prog : Program} {w : World} {A : Around} {E : Value → Shared → Prop} {h₀ : Heap} {L : Addr} {news : List (Addr × Obj)} {s : Shared}
theorem ne_tups {T T' : Addr} {ps : List PV} {vals vals' : List Value} {Q : Value → Shared → Prop} (hp : ∀ q ∈ ps, plainP q = true) (N : News h₀ L s.heap news) (hT : (T, tupObj vals) ∈ news) (hT' : (T', tupObj vals') ∈ news) (hv : IsV ps vals) (hv' : IsV ps vals') (hu : A.units + 64 < cLine)
    (k : Q (.bool false) s) : wpAny (model prog w) A (compareOp .NotEq (.ref T) (.ref T')) Q E s := by
  obtain ⟨as, ha⟩ := isV_reads (h := s.heap) hv hp
  obtain ⟨as', ha'⟩ := isV_reads (h := s.heap) hv' hp
  refine ne_dataH (da := .tuple (ps.map pdOf)) (db := .tuple (ps.map pdOf)) (reads_tuple_at (News.get N hT) rfl rfl (by simpa using ha)) (reads_tuple_at (News.get N hT') rfl rfl (by simpa using ha')) (shaped_tup ps hp) (shaped_tup ps hp) hu ?_
  have e : PyData.eqv (.tuple (ps.map pdOf)) (.tuple (ps.map pdOf)) = true := by
    simp only [PyData.eqv]
    exact eqv_self ps hp
  rw [e]
  exact k
end

theorem an_shape (v : Str) (wide : Bool) : ∃ b2 b3 b4 b5 b6 b7 b8, anRes v wide = saVals v b2 b3 b4 b5 b6 b7 b8 := by
  unfold anRes
  cases ((v.length : Int) != 0) <;> exact ⟨_, _, _, _, _, _, _, rfl⟩
theorem due_plain {v : Str} (hv : PT v) (wide : Bool) : ∀ q ∈ dueF v wide, plainP q = true := by
  intro q hq
  rw [← got_due hv.nz] at hq
  obtain ⟨b2, b3, b4, b5, b6, b7, b8, e⟩ := an_shape v wide
  rw [e] at hq
  simp only [saVals, List.map_cons, List.map_nil, List.mem_cons, List.not_mem_nil, or_false] at hq
  rcases hq with rfl | rfl | rfl | rfl | rfl | rfl | rfl | rfl
  · exact hv.strOk
  all_goals rfl

section
variable {w : World} {p : Program} {loose : List Str} {mean : ExcName → Option Value} {mg mb : Str → Option Value} {A A₀ : Around} {E : Value → Shared → Prop} {env : Env} {outer : List Env} {base h₀ : Heap} {L : Addr} {news : List (Addr × Obj)} {s s₀ : Shared} {loc : List (List Nat)} {γ σ : Sto} {Q : Flow → Shared → Prop}

structure NeP where
  gn : Str
  dn : Str
  vn : Str
  wn : Str
  body : List Stmt
  ps : List Pos
/-- if got != _law_due(value, wide): .. -/
noncomputable def neSt (t : NeP) : Stmt := .If (.Compare (.Name t.gn (posAt t.ps 0)) [.NotEq] [.Call (.Name t.dn (posAt t.ps 1)) [.Name t.vn (posAt t.ps 2), .Name t.wn (posAt t.ps 3)] [] (posAt t.ps 4)] (posAt t.ps 5)) t.body [] (posAt t.ps 6)
theorem st_ne {t : NeP} {v : Str} {wide : Bool} {T : Addr} {vals : List Value} (c : LwCtx w p loose mean mg mb A A₀ env outer base h₀ L) (fo : FrOk env L) (lo : LocOk env loc) (go : GloOk PRG w A E env h₀ L news loc γ)
    (hgn : nmOf loc γ σ t.gn = some (.val (.ref T))) (hdn : nmOf loc γ σ t.dn = some (.val (.ref 788))) (hvn : nmOf loc γ σ t.vn = some (.str v)) (hwn : nmOf loc γ σ t.wn = some (.bool wide))
    (hv : PT v) (hT : (T, tupObj vals) ∈ news) (hvals : IsV (dueF v wide) vals) (hs : At h₀ L news s₀ σ s) (k : ∀ s', At h₀ L news s₀ σ s' → Q .next s') : wpAny (model PRG w) A (exec (neSt t) env) Q E s := by
  have hnm := nmOk fo lo go hs
  unfold neSt
  refine wpAny_If (wpAny_isTrue_Compare1 (hnm t.gn _ hgn s (keeps_refl s) _ _ fun u hu => ?_) rfl)
  cases hu
  refine Call_Name (trees := backTo (posAt t.ps 4) (starEach [.Name t.vn (posAt t.ps 2), .Name t.wn (posAt t.ps 3)] env)) rfl (hnm t.dn _ hdn s (keeps_refl s) _ _ fun f hf => ?_)
  cases hf
  refine callWith_K (first := []) c.X (by kernel_rfl) (args_cons (hnm t.vn _ hvn s (keeps_refl _) _ _ fun u hu => args_cons (hnm t.wn _ hwn s (keeps_refl _) _ _ fun u' hu' => args_nil ?_) rfl) rfl) rfl rfl
  cases hu'
  obtain ⟨hsm, tv, rfl⟩ := hu
  obtain ⟨g, tk, m, rfl, F, N, R⟩ := hs
  refine ⟨c.X.keeps F.keep, ?_⟩
  refine due_ok hsm (Nat.lt_of_le_of_lt hv.2 (by rw [sizeLine_eq]; decide)) c.B F c.X N c.T c.frames c.frame fo.kind (by have := c.room; omega) c.handled fun T' vals' h1 tk1 F1 N1 hvals' => ?_
  refine ne_tups (due_plain hv wide) N1 (.tail _ hT) (.head _) hvals hvals' c.units ?_
  refine wpAny_truthy_bool ?_
  rw [if_neg (by simp)]
  exact wpAny_execs_nil (k _ ⟨h1, tk1, m, rfl, F1, fun q hq => N1 q (.tail _ hq), R⟩)
end
end Mine

namespace Mine
open PySem PySem.W PySem.Calls PyProof.Rows

noncomputable def lk_script : List Nat := [115, 99, 114, 105, 112, 116]
noncomputable def lk_text : List Nat := [116, 101, 120, 116]
noncomputable def lk_cut : List Nat := [99, 117, 116]
noncomputable def lk_wide : List Nat := [119, 105, 100, 101]
noncomputable def lk_emitter : List Nat := [101, 109, 105, 116, 116, 101, 114]
noncomputable def lk_value : List Nat := [118, 97, 108, 117, 101]
noncomputable def lk_told : List Nat := [116, 111, 108, 100]
noncomputable def lk_got : List Nat := [103, 111, 116]
noncomputable def lk_len : List Nat := [108, 101, 110]
noncomputable def lk_Emitter : List Nat := [69, 109, 105, 116, 116, 101, 114]
noncomputable def lk_Rows : List Nat := [82, 111, 119, 115]
noncomputable def lk_due : List Nat := [95, 108, 97, 119, 95, 100, 117, 101]
noncomputable def lwLoc : List (List Nat) := [lk_script, lk_text, lk_cut, lk_wide, lk_emitter, lk_value, lk_told, lk_got]
noncomputable def lwGlo : Sto := [(lk_len, .val (.builtin "len")), (lk_Emitter, .val (.ref 736)), (lk_Rows, .val (.ref 771)), (lk_due, .val (.ref 788))]
noncomputable def l0 (ws : Addr) : Sto := [(lk_script, .val (.ref ws))]
noncomputable def l1 (ws : Addr) (v : Str) : Sto := [(lk_script, .val (.ref ws)), (lk_text, .str v)]
noncomputable def l2 (ws : Addr) (v : Str) (z : Int) : Sto := [(lk_script, .val (.ref ws)), (lk_text, .str v), (lk_cut, .int z)]
noncomputable def l3 (ws : Addr) (v : Str) (z : Int) (b : Bool) : Sto := l2 ws v z ++ [(lk_wide, .bool b)]
noncomputable def l4 (ws : Addr) (v : Str) (z : Int) (b : Bool) (x : Addr) : Sto := l2 ws v z ++ [(lk_wide, .bool b), (lk_emitter, .val (.ref x))]
noncomputable def l5 (ws : Addr) (v : Str) (z : Int) (b : Bool) (x : Addr) (u : Str) : Sto := l4 ws v z b x ++ [(lk_value, .str u)]
noncomputable def l6 (ws : Addr) (v : Str) (z : Int) (b : Bool) (x : Addr) (u : Str) (y : Addr) : Sto := l4 ws v z b x ++ [(lk_value, .str u), (lk_told, .val (.ref y))]
noncomputable def l7 (ws : Addr) (v : Str) (z : Int) (b : Bool) (x : Addr) (u : Str) (y T : Addr) : Sto := l4 ws v z b x ++ [(lk_value, .str u), (lk_told, .val (.ref y)), (lk_got, .val (.ref T))]
noncomputable abbrev lwNm (σ : Sto) := nmOf lwLoc lwGlo σ

structure FdP where
  x : Str
  es : List PySem.Expr
  body : List Stmt
  ps : List Pos
/-- for x in [..]: .. -/
noncomputable def fdSt (t : FdP) : Stmt := .For (.Name t.x (posAt t.ps 0)) (.List t.es (posAt t.ps 1)) t.body [] (posAt t.ps 2)
structure SzP where
  x : Str
  sn : Str
  sn2 : Str
  es : List PySem.Expr
  i : PySem.Expr
  m : PySem.Expr
  d : PySem.Expr
  ps : List Pos
noncomputable def szE (t : SzP) : PySem.Expr := .IfExp (.Name t.sn (posAt t.ps 1)) (.Subscript (.List t.es (posAt t.ps 2)) (.BinOp (.Subscript (.Name t.sn2 (posAt t.ps 3)) t.i (posAt t.ps 4)) .Mod t.m (posAt t.ps 5)) (posAt t.ps 6)) t.d (posAt t.ps 7)
noncomputable def szSt (t : SzP) : Stmt := .Assign [.Name t.x (posAt t.ps 0)] (szE t) (posAt t.ps 8)
noncomputable def ctE (t : SzP) : PySem.Expr := .IfExp (.Name t.sn (posAt t.ps 1)) (.BinOp (.Subscript (.Name t.sn2 (posAt t.ps 3)) t.i (posAt t.ps 4)) .Mod t.m (posAt t.ps 5)) t.d (posAt t.ps 7)
noncomputable def ctSt (t : SzP) : Stmt := .Assign [.Name t.x (posAt t.ps 0)] (ctE t) (posAt t.ps 8)

/-- what the inner turn's text must say -/
structure TurnF (env : Env) (ac : AcP) (gt : GtP) (ne : NeP) (vx : Str) : Prop where
  vl : env.kindOf vx = some .local
  vp : ∀ ws v z b x u, put (l4 ws v z b x) (key vx) (.str u) = l5 ws v z b x u
  al : env.kindOf ac.x = some .local
  aon : ∀ ws v z b x u, lwNm (l5 ws v z b x u) ac.on = some (.val (.ref x))
  avn : ∀ ws v z b x u, lwNm (l5 ws v z b x u) ac.vn = some (.str u)
  amn : ac.mn = Str.ofString "analyze_scalar"
  aline : ((posAt ac.ps 1).endLine == (posAt ac.ps 3).line) = true
  asw : swapsWith (acE ac) (some (.Name ac.x (posAt ac.ps 4))) (posAt ac.ps 5).line env = pure false
  ap : ∀ ws v z b x u y, put (l5 ws v z b x u) (key ac.x) (.val (.ref y)) = l6 ws v z b x u y
  gl : env.kindOf gt.x = some .local
  ge : ∀ ws v z b x u y b2 b3 b4 b5 b6 b7 b8, evL (ev (lwNm (l6 ws v z b x u y)) (toldAtt y (saVals u b2 b3 b4 b5 b6 b7 b8)) fuel) gt.es = some ((saVals u b2 b3 b4 b5 b6 b7 b8).map (·.2), List.replicate 8 (decide (y = y)))
  gsw : swapsWith (gtE gt) (some (.Name gt.x (posAt gt.ps 1))) (posAt gt.ps 2).line env = pure false
  gp : ∀ ws v z b x u y T, put (l6 ws v z b x u y) (key gt.x) (.val (.ref T)) = l7 ws v z b x u y T
  ngn : ∀ ws v z b x u y T, lwNm (l7 ws v z b x u y T) ne.gn = some (.val (.ref T))
  ndn : ∀ ws v z b x u y T, lwNm (l7 ws v z b x u y T) ne.dn = some (.val (.ref 788))
  nvn : ∀ ws v z b x u y T, lwNm (l7 ws v z b x u y T) ne.vn = some (.str u)
  nwn : ∀ ws v z b x u y T, lwNm (l7 ws v z b x u y T) ne.wn = some (.bool b)

section
variable {w : World} {p : Program} {loose : List Str} {mean : ExcName → Option Value} {mg mb : Str → Option Value} {A A₀ : Around} {E : Value → Shared → Prop} {env : Env} {outer : List Env} {base h₀ : Heap} {L : Addr} {news : List (Addr × Obj)} {s s₀ : Shared} {loc : List (List Nat)} {γ σ : Sto} {Q : Flow → Shared → Prop} {ws : Addr} {v : Str} {z : Int} {b : Bool}

theorem At.less {σ ρ : Sto} {news' : List (Addr × Obj)} (hs : At h₀ L news' s₀ (σ ++ ρ) s) (h : ∀ q ∈ news, q ∈ news') : At h₀ L news s₀ σ s := by
  obtain ⟨g, tk, m, rfl, F, N, R⟩ := hs
  exact ⟨g, tk, m, rfl, F, fun q hq => N q (h q hq), R.weaken⟩

theorem lw_turn {ac : AcP} {gt : GtP} {ne : NeP} {vx : Str} {x dx n : Nat} {es : List DictEntry} {u : Str} (c : LwCtx w p loose mean mg mb A A₀ env outer base h₀ L) (fo : FrOk env L) (lo : LocOk env lwLoc) (go : ∀ E n, GloOk PRG w A E env h₀ L n lwLoc lwGlo) (f : TurnF env ac gt ne vx)
    (hu : PT u) (hi : (x, instObj 736 dx) ∈ news) (hdx : (dx, dictOf es n) ∈ news) (hg1 : getL "allow_unicode" es = some (some (.bool b))) (hg2 : getL "analyze_scalar" es = some Option.none)
    (hs : At h₀ L news s₀ (l5 ws v z b x u) s) (k : ∀ s', At h₀ L news s₀ (l4 ws v z b x) s' → Q .next s') :
    wpAny (model PRG w) A (execs [acSt ac, gtSt gt, neSt ne] env) Q E s := by
  refine wpAny_execs_cons (st_ac c fo lo (go _ _) f.al (f.aon _ _ _ _ _ _) (f.avn _ _ _ _ _ _) f.amn f.aline hi hdx hg1 hg2 f.asw hs fun s1 y dy ny es' D hs1 => ?_)
  rw [f.ap] at hs1
  obtain ⟨b2, b3, b4, b5, b6, b7, b8, e⟩ := an_shape u b
  have e2 := got_due hu.nz b
  rw [e] at D e2
  refine wpAny_execs_cons (st_gt fo lo (go _ _) (told_att c.X (.head _) (.tail _ (.head _)) D) f.gl (f.ge _ _ _ _ _ _ _ _ _ _ _ _ _ _) (fun q hq => by rw [(List.mem_replicate.mp hq).2]; exact decide_eq_true rfl) (by rw [sizeLine_eq]; exact (by decide : 8 ≤ 16777216)) f.gsw hs1 fun s2 T vals hvals hs2 => ?_)
  rw [f.gp] at hs2
  rw [e2] at hvals
  refine wpAny_execs_cons (st_ne c fo lo (go _ _) (f.ngn _ _ _ _ _ _ _ _) (f.ndn _ _ _ _ _ _ _ _) (f.nvn _ _ _ _ _ _ _ _) (f.nwn _ _ _ _ _ _ _ _) hu (.head _) hvals hs2 fun s3 hs3 => ?_)
  exact wpAny_execs_nil (k s3 (At.less (σ := l4 ws v z b x) hs3 fun q hq => .tail _ (.tail _ (.tail _ hq))))

/-- for value in [text, text[:cut], text[cut:], text]: .. -/
theorem lw_inner {fd : FdP} {ac : AcP} {gt : GtP} {ne : NeP} {x dx n : Nat} {es : List DictEntry} (c : LwCtx w p loose mean mg mb A A₀ env outer base h₀ L) (fo : FrOk env L) (lo : LocOk env lwLoc) (go : ∀ E n, GloOk PRG w A E env h₀ L n lwLoc lwGlo) (f : TurnF env ac gt ne fd.x)
    (hb : fd.body = [acSt ac, gtSt gt, neSt ne]) (hes : evL (ev (lwNm (l4 ws v z b x)) noAtt fuel) fd.es = some ([v, Txt.slice v Option.none (some z), Txt.slice v (some z) Option.none, v].map PV.str, []))
    (hv : PT v) (hi : (x, instObj 736 dx) ∈ news) (hdx : (dx, dictOf es n) ∈ news) (hg1 : getL "allow_unicode" es = some (some (.bool b))) (hg2 : getL "analyze_scalar" es = some Option.none)
    (hs : At h₀ L news s₀ (l4 ws v z b x) s) (k : ∀ s', At h₀ L news s₀ (l4 ws v z b x) s' → Q .next s') :
    wpAny (model PRG w) A (exec (fdSt fd) env) Q (fun _ _ => False) s := by
  unfold fdSt
  refine for_src (fun _ n => n = news) (news.map (·.1)) (fun _ => l4 ws v z b x) (ds := [v, Txt.slice v Option.none (some z), Txt.slice v (some z) Option.none, v]) (R := fun a u => (PV.str a).Is u) (pv := PV.str) fo f.vl (fun _ => rfl) (by rintro i n rfl; rfl) (fun _ _ h => h) rfl hs
    (src_display c.handled (nmOk fo lo (go _ _) hs) hes allT_nil (by rw [sizeLine_eq]; exact (by decide : 4 ≤ 16777216))) ?_ (by rintro s' n rfl h; exact k s' h)
  rintro i a s' extra n ha rfl hex hat
  rw [f.vp] at hat
  rw [hb]
  have hm := List.mem_of_getElem? ha
  have hP : PT a := by
    simp only [List.mem_cons, List.not_mem_nil, or_false] at hm
    rcases hm with rfl | rfl | rfl | rfl
    · exact hv
    · exact hv.slice
    · exact hv.slice
    · exact hv
  exact lw_turn c fo lo go f hP (List.mem_append_right _ hi) (List.mem_append_right _ hdx) hg1 hg2 hat fun s2 hs2 => ⟨rfl, _, rfl, hs2⟩

/-- for wide in [True, False]: .. -/
theorem lw_outer {fo' fd : FdP} {em : EmP} {ac : AcP} {gt : GtP} {ne : NeP} (c : LwCtx w p loose mean mg mb A A₀ env outer base h₀ L) (fo : FrOk env L) (lo : LocOk env lwLoc) (go : ∀ E n, GloOk PRG w A E env h₀ L n lwLoc lwGlo) (f : TurnF env ac gt ne fd.x)
    (hb : fd.body = [acSt ac, gtSt gt, neSt ne]) (hes : ∀ b x, evL (ev (lwNm (l4 ws v z b x)) noAtt fuel) fd.es = some ([v, Txt.slice v Option.none (some z), Txt.slice v (some z) Option.none, v].map PV.str, []))
    (hob : fo'.body = [emSt em, fdSt fd]) (hoes : evL (ev (lwNm (l2 ws v z)) noAtt fuel) fo'.es = some ([true, false].map PV.bool, [])) (hol : env.kindOf fo'.x = some .local) (hop : ∀ b, put (l2 ws v z) (key fo'.x) (.bool b) = l3 ws v z b)
    (hel : env.kindOf em.x = some .local) (hen : ∀ b, lwNm (l3 ws v z b) em.en = some (.val (.ref 736))) (hrn : ∀ b, lwNm (l3 ws v z b) em.rn = some (.val (.ref 771))) (hkw : ∀ b, evK (ev (lwNm (l3 ws v z b)) noAtt fuel) em.kws = some ([(Str.ofString "allow_unicode", .bool b)], []))
    (hesw : swapsWith (emE em) (some (.Name em.x (posAt em.ps 4))) (posAt em.ps 5).line env = pure false) (hep : ∀ b x, put (l3 ws v z b) (key em.x) (.val (.ref x)) = l4 ws v z b x)
    (hv : PT v) (hs : At h₀ L news s₀ (l2 ws v z) s) (k : ∀ s', At h₀ L news s₀ (l2 ws v z) s' → Q .next s') :
    wpAny (model PRG w) A (exec (fdSt fo') env) Q (fun _ _ => False) s := by
  unfold fdSt
  refine for_src (fun _ n => n = news) (news.map (·.1)) (fun _ => l2 ws v z) (ds := [true, false]) (R := fun a u => (PV.bool a).Is u) (pv := PV.bool) fo hol (fun _ => rfl) (by rintro i n rfl; rfl) (fun _ _ h => h) rfl hs
    (src_display c.handled (nmOk fo lo (go _ _) hs) hoes allT_nil (by rw [sizeLine_eq]; exact (by decide : 2 ≤ 16777216))) ?_ (by rintro s' n rfl h; exact k s' h)
  rintro i a s' extra n ha rfl hex hat
  rw [hop] at hat
  rw [hob]
  refine wpAny_execs_cons (st_em c fo lo (go _ _) hel (hen a) (hrn a) (hkw a) hesw hat fun s1 x dx n es g1 g2 hs1 => ?_)
  rw [hep] at hs1
  refine wpAny_execs_cons (lw_inner c fo lo go f hb (hes a x) hv (.head _) (.tail _ (.head _)) g1 g2 hs1 fun s2 hs2 => ?_)
  exact wpAny_execs_nil ⟨rfl, _, rfl, At.less (σ := l2 ws v z) hs2 fun q hq => .tail _ (.tail _ hq)⟩
end
end Mine

namespace Mine
open PySem PySem.W PySem.Calls PyProof.Rows

noncomputable abbrev lwB (P : Params) : List Stmt := bodyAt (KK P) 793
noncomputable abbrev lwSc (P : Params) : Scope := (fdAt (KK P) 793).scope
noncomputable abbrev lwEnv (nm : Str) (sc : Scope) (L fa : Addr) (cd : Value) : Env := envOfC nm sc L fa cd

noncomputable def szOf : Option Stmt → SzP
  | some (.Assign [.Name x p0] (.IfExp (.Name sn p1) (.Subscript (.List es p2) (.BinOp (.Subscript (.Name sn2 p3) i p4) _ m p5) p6) d p7) p8) => ⟨x, sn, sn2, es, i, m, d, [p0, p1, p2, p3, p4, p5, p6, p7, p8]⟩
  | some (.Assign [.Name x p0] (.IfExp (.Name sn p1) (.BinOp (.Subscript (.Name sn2 p3) i p4) _ m p5) d p7) p8) => ⟨x, sn, sn2, [], i, m, d, [p0, p1, default, p3, p4, p5, default, p7, p8]⟩
  | _ => ⟨default, default, default, [], default, default, default, []⟩
noncomputable def txOf : Option Stmt → TxP
  | some (.Assign [.Name x p15] (.Subscript (.Call (.Attribute (.Constant (.str s0) k0 p10) jn p11) [.ListComp (.Subscript (.Name gn p0) (.BinOp (.Name nn p1) _ (.Name zn p2) p3) p4) [⟨.Name _ p5, .Subscript (.Name sn p6) (.Slice lo hi _ p7) p8, _, _⟩] scope p9] _ p12) (.Slice _ (some hi2) _ p13) p14) p16) =>
    ⟨x, jn, sn, gn, nn, zn, s0, k0, lo, hi, hi2, scope, [p0, p1, p2, p3, p4, p5, p6, p7, p8, p9, p10, p11, p12, p13, p14, p15, p16]⟩
  | _ => ⟨default, default, default, default, default, default, default, 0, none, none, default, default, []⟩
noncomputable def fdOf : Option Stmt → FdP
  | some (.For (.Name x p0) (.List es p1) body _ p2) => ⟨x, es, body, [p0, p1, p2]⟩
  | _ => ⟨default, [], [], []⟩
noncomputable def emOf : Option Stmt → EmP
  | some (.Assign [.Name x p4] (.Call (.Name en p0) [.Call (.Name rn p1) _ _ p2] kws p3) p5) => ⟨x, en, rn, kws, [p0, p1, p2, p3, p4, p5]⟩
  | _ => ⟨default, default, default, [], []⟩
noncomputable def acOf : Option Stmt → AcP
  | some (.Assign [.Name x p4] (.Call (.Attribute (.Name on p0) mn p1) [.Name vn p2] _ p3) p5) => ⟨x, on, mn, vn, [p0, p1, p2, p3, p4, p5]⟩
  | _ => ⟨default, default, default, default, []⟩
noncomputable def gtOf : Option Stmt → GtP
  | some (.Assign [.Name x p1] (.Tuple es kk p0) p2) => ⟨x, es, kk, [p0, p1, p2]⟩
  | _ => ⟨default, [], 0, []⟩
noncomputable def neOf : Option Stmt → NeP
  | some (.If (.Compare (.Name gn p0) _ [.Call (.Name dn p1) [.Name vn p2, .Name wn p3] _ p4] p5) body _ p6) => ⟨gn, dn, vn, wn, body, [p0, p1, p2, p3, p4, p5, p6]⟩
  | _ => ⟨default, default, default, default, [], []⟩
noncomputable def lwSz (P : Params) := szOf ((lwB P)[0]?)
noncomputable def lwTx (P : Params) := txOf ((lwB P)[1]?)
noncomputable def lwCt (P : Params) := szOf ((lwB P)[2]?)
noncomputable def lwFo (P : Params) := fdOf ((lwB P)[3]?)
noncomputable def lwRt (P : Params) := retE ((lwB P)[4]?)
noncomputable def lwEm (P : Params) := emOf ((lwFo P).body[0]?)
noncomputable def lwFi (P : Params) := fdOf ((lwFo P).body[1]?)
noncomputable def lwAc (P : Params) := acOf ((lwFi P).body[0]?)
noncomputable def lwGt (P : Params) := gtOf ((lwFi P).body[1]?)
noncomputable def lwNe (P : Params) := neOf ((lwFi P).body[2]?)

theorem lw_body (P : Params) : lwB P = [szSt (lwSz P), txS (lwTx P), ctSt (lwCt P), fdSt (lwFo P), retSt (lwRt P)] := by kernel_rfl
theorem lw_fob (P : Params) : (lwFo P).body = [emSt (lwEm P), fdSt (lwFi P)] := by kernel_rfl
theorem lw_fib (P : Params) : (lwFi P).body = [acSt (lwAc P), gtSt (lwGt P), neSt (lwNe P)] := by kernel_rfl
theorem lw_fnk (P : Params) : (lwSc P).kind = .function := by kernel_rfl
theorem lw_cells (P : Params) (L : Addr) : cellsFrom (L + 1) (lwSc P).names [] = [(Str.ofString "size", L + 1)] := by kernel_rfl

section
variable (P : Params) (nm : Str) (L fa : Addr) (cd : Value)
theorem lw_loc : locB (lwEnv nm (lwSc P) L fa cd).scope lwLoc = true := by kernel_rfl
theorem lw_turnF : TurnF (lwEnv nm (lwSc P) L fa cd) (lwAc P) (lwGt P) (lwNe P) (lwFi P).x where
  vl := by kernel_rfl
  vp := fun ws v z b x u => by kernel_rfl
  al := by kernel_rfl
  aon := fun ws v z b x u => by kernel_rfl
  avn := fun ws v z b x u => by kernel_rfl
  amn := by kernel_rfl
  aline := by kernel_rfl
  asw := by kernel_rfl
  ap := fun ws v z b x u y => by kernel_rfl
  gl := by kernel_rfl
  ge := fun ws v z b x u y b2 b3 b4 b5 b6 b7 b8 => by kernel_rfl
  gsw := by kernel_rfl
  gp := fun ws v z b x u y T => by kernel_rfl
  ngn := fun ws v z b x u y T => by kernel_rfl
  ndn := fun ws v z b x u y T => by kernel_rfl
  nvn := fun ws v z b x u y T => by kernel_rfl
  nwn := fun ws v z b x u y T => by kernel_rfl
theorem lw_fies (ws : Addr) (v : Str) (z : Int) (b : Bool) (x : Addr) : evL (ev (lwNm (l4 ws v z b x)) noAtt fuel) (lwFi P).es = some ([v, Txt.slice v Option.none (some z), Txt.slice v (some z) Option.none, v].map PV.str, []) := by kernel_rfl
theorem lw_foes (ws : Addr) (v : Str) (z : Int) : evL (ev (lwNm (l2 ws v z)) noAtt fuel) (lwFo P).es = some ([true, false].map PV.bool, []) := by kernel_rfl
theorem lw_fol : (lwEnv nm (lwSc P) L fa cd).kindOf (lwFo P).x = some .local := by kernel_rfl
theorem lw_fop (ws : Addr) (v : Str) (z : Int) (b : Bool) : put (l2 ws v z) (key (lwFo P).x) (.bool b) = l3 ws v z b := by kernel_rfl
theorem lw_eml : (lwEnv nm (lwSc P) L fa cd).kindOf (lwEm P).x = some .local := by kernel_rfl
theorem lw_emn (ws : Addr) (v : Str) (z : Int) (b : Bool) : lwNm (l3 ws v z b) (lwEm P).en = some (.val (.ref 736)) := by kernel_rfl
theorem lw_emr (ws : Addr) (v : Str) (z : Int) (b : Bool) : lwNm (l3 ws v z b) (lwEm P).rn = some (.val (.ref 771)) := by kernel_rfl
theorem lw_emk (ws : Addr) (v : Str) (z : Int) (b : Bool) : evK (ev (lwNm (l3 ws v z b)) noAtt fuel) (lwEm P).kws = some ([(Str.ofString "allow_unicode", .bool b)], []) := by kernel_rfl
theorem lw_emsw : swapsWith (emE (lwEm P)) (some (.Name (lwEm P).x (posAt (lwEm P).ps 4))) (posAt (lwEm P).ps 5).line (lwEnv nm (lwSc P) L fa cd) = pure false := by kernel_rfl
theorem lw_emp (ws : Addr) (v : Str) (z : Int) (b : Bool) (x : Addr) : put (l3 ws v z b) (key (lwEm P).x) (.val (.ref x)) = l4 ws v z b x := by kernel_rfl

theorem sz_x : (lwEnv nm (lwSc P) L fa cd).kindOf (lwSz P).x = some .cell := by kernel_rfl
theorem sz_c : (lwEnv nm (lwSc P) L fa cd).cells.lookup (lwSz P).x = some (L + 1) := by kernel_rfl
theorem sz_sn (ws : Addr) : lwNm (l0 ws) (lwSz P).sn = some (.val (.ref ws)) := by kernel_rfl
theorem sz_sn2 (ws : Addr) : lwNm (l0 ws) (lwSz P).sn2 = some (.val (.ref ws)) := by kernel_rfl
theorem sz_es (ws : Addr) : evL (ev (lwNm (l0 ws)) noAtt fuel) (lwSz P).es = some ([.int 9, .int 40, .int 24], []) := by kernel_rfl
theorem sz_i (ws : Addr) : ev (lwNm (l0 ws)) noAtt fuel (lwSz P).i = some (.int 0, []) := by kernel_rfl
theorem sz_m (ws : Addr) : ev (lwNm (l0 ws)) noAtt fuel (lwSz P).m = some (.int 3, []) := by kernel_rfl
theorem sz_d (ws : Addr) : ev (lwNm (l0 ws)) noAtt fuel (lwSz P).d = some (.int 9, []) := by kernel_rfl
theorem sz_sw : swapsWith (szE (lwSz P)) (some (.Name (lwSz P).x (posAt (lwSz P).ps 0))) (posAt (lwSz P).ps 8).line (lwEnv nm (lwSc P) L fa cd) = pure false := by kernel_rfl

theorem ct_x : (lwEnv nm (lwSc P) L fa cd).kindOf (lwCt P).x = some .local := by kernel_rfl
theorem ct_sn (ws : Addr) (v : Str) : lwNm (l1 ws v) (lwCt P).sn = some (.val (.ref ws)) := by kernel_rfl
theorem ct_sn2 (ws : Addr) (v : Str) : lwNm (l1 ws v) (lwCt P).sn2 = some (.val (.ref ws)) := by kernel_rfl
theorem ct_i (ws : Addr) (v : Str) : ev (lwNm (l1 ws v)) noAtt fuel (lwCt P).i = some (.int (-1), []) := by kernel_rfl
theorem ct_m (ws : Addr) (v : Str) : ev (lwNm (l1 ws v)) noAtt fuel (lwCt P).m = some (.int ((v.length : Int) + 1), []) := by kernel_rfl
theorem ct_d (ws : Addr) (v : Str) : ev (lwNm (l1 ws v)) noAtt fuel (lwCt P).d = some (.int 0, []) := by kernel_rfl
theorem ct_sw : swapsWith (ctE (lwCt P)) (some (.Name (lwCt P).x (posAt (lwCt P).ps 0))) (posAt (lwCt P).ps 8).line (lwEnv nm (lwSc P) L fa cd) = pure false := by kernel_rfl
theorem ct_p (ws : Addr) (v : Str) (z : Int) : put (l1 ws v) (key (lwCt P).x) (.int z) = l2 ws v z := by kernel_rfl

theorem tx_x : (lwEnv nm (lwSc P) L fa cd).kindOf (lwTx P).x = some .local := by kernel_rfl
theorem tx_jn : (lwTx P).jn = Str.ofString "join" := by kernel_rfl
theorem tx_li : ((posAt (lwTx P).ps 11).endLine == (posAt (lwTx P).ps 12).line) = true := by kernel_rfl
theorem tx_sn (ws : Addr) : lwNm (l0 ws) (lwTx P).sn = some (.val (.ref ws)) := by kernel_rfl
theorem tx_s0 : (lwTx P).s0 = Str.ofString "" := by kernel_rfl
theorem tx_lo (ws : Addr) : bound? (ev (lwNm (l0 ws)) noAtt fuel) (lwTx P).lo = some (Option.none, []) := by kernel_rfl
theorem tx_hi (ws : Addr) : bound? (ev (lwNm (l0 ws)) noAtt fuel) (lwTx P).hi = some (some 16, []) := by kernel_rfl
theorem tx_hi2 (ws : Addr) : ev (lwNm (l0 ws)) noAtt fuel (lwTx P).hi2 = some (.int 16, []) := by kernel_rfl
theorem tx_sc : scopeB (lwTx P).scope [(lwTx P).nn] = true := by kernel_rfl
theorem tx_cl : closureFor (lwTx P).scope (lwEnv nm (lwSc P) L fa cd) = pure [(Str.ofString "size", L + 1)] := by kernel_rfl
theorem tx_kg (C : Addr) : (compEnvC (lwTx P).scope [(Str.ofString "size", L + 1)] C (lwEnv nm (lwSc P) L fa cd)).kindOf (lwTx P).gn = some .globalImplicit := by kernel_rfl
theorem tx_kn (C : Addr) : (compEnvC (lwTx P).scope [(Str.ofString "size", L + 1)] C (lwEnv nm (lwSc P) L fa cd)).kindOf (lwTx P).nn = some .local := by kernel_rfl
theorem tx_kz (C : Addr) : (compEnvC (lwTx P).scope [(Str.ofString "size", L + 1)] C (lwEnv nm (lwSc P) L fa cd)).kindOf (lwTx P).zn = some .cell := by kernel_rfl
theorem tx_cz : [(Str.ofString "size", L + 1)].lookup (lwTx P).zn = some (L + 1) := by kernel_rfl
noncomputable def refO : Option (Option Value) → Addr
  | some (some (.ref a)) => a
  | _ => 0
noncomputable def sgAt (P : Params) : Addr := refO (nsIn (KK P) mainGlobals (lwTx P).gn)
theorem tx_ng : nsIn (KK P) mainGlobals (lwTx P).gn = some (some (.ref (sgAt P))) := by kernel_rfl
noncomputable def itemsOf : Option Obj → Array Value
  | some ⟨_, _, .seq xs _, _⟩ => xs
  | _ => #[]
noncomputable def cntOf : Option Obj → Nat
  | some ⟨_, _, .seq _ n, _⟩ => n
  | _ => 0
noncomputable def clsVOf : Option Obj → Value
  | some ⟨c, _, _, _⟩ => c
  | _ => .none
noncomputable def sgItems (P : Params) : Array Value := itemsOf ((KK P).lookup (sgAt P))
theorem tx_look : (KK P).lookup (sgAt P) = some ⟨.type "list", (objAt (KK P) (sgAt P)).dict, .seq (sgItems P) (cntOf ((KK P).lookup (sgAt P))), (objAt (KK P) (sgAt P)).slots⟩ := by kernel_rfl
theorem tx_signs : signsB (sgItems P) = true := by kernel_rfl
theorem tx_dg : ((lwTx P).gn == ("__debug__" : Str)) = false := by kernel_rfl
theorem tx_dn : ((lwTx P).nn == ("__debug__" : Str)) = false := by kernel_rfl
theorem tx_dz : ((lwTx P).zn == ("__debug__" : Str)) = false := by kernel_rfl
theorem tx_sw : swapsWith (txE (lwTx P)) (some (.Name (lwTx P).x (posAt (lwTx P).ps 15))) (posAt (lwTx P).ps 16).line (lwEnv nm (lwSc P) L fa cd) = pure false := by kernel_rfl
theorem tx_p (ws : Addr) (v : Str) : put (l0 ws) (key (lwTx P).x) (.str v) = l1 ws v := by kernel_rfl
theorem rt_ev (ws : Addr) (v : Str) (z : Int) : ev (lwNm (l2 ws v z)) noAtt fuel (lwRt P).1 = some (.bool true, []) := by kernel_rfl
end
end Mine

namespace Mine
open PySem PySem.W PySem.Calls PyProof.Rows

section
variable {w : World} {p : Program} {loose : List Str} {mean : ExcName → Option Value} {mg mb : Str → Option Value} {A A₀ : Around} {outer : List Env} {base h₀ : Heap} {L fa : Addr} {cd : Value} {nm : Str} {s s₀ : Shared} {Q : Flow → Shared → Prop} {ws : Addr} {vs : List Value} {ns : List Int}

theorem lw_glo {E : Value → Shared → Prop} {n : List (Addr × Obj)} (X : (KK w.params).In h₀) (T : Top p loose mean mg mb h₀) : GloOk PRG w A E (lwEnv nm (lwSc w.params) L fa cd) h₀ L n lwLoc lwGlo := by
  refine gloOk_cons (fun s m F N pos Q k => ?_) (gloOk_cons (fun s m F N pos Q k => ?_) (gloOk_cons (fun s m F N pos Q k => ?_) (gloOk_cons (fun s m F N pos Q k => ?_) gloOk_nil)))
  · exact nameX_B (cl := cellsFrom (L + 1) (lwSc w.params).names []) F X (topRead_of T) (by kernel_rfl) (by decide +kernel) (by decide) (k _ rfl) (by kernel_rfl) (by kernel_rfl) (by decide +kernel)
  · exact nameX_K (cl := cellsFrom (L + 1) (lwSc w.params).names []) F X (topRead_of T) (by kernel_rfl) (k _ rfl) (by kernel_rfl) (by kernel_rfl) (by decide +kernel)
  · exact nameX_K (cl := cellsFrom (L + 1) (lwSc w.params).names []) F X (topRead_of T) (by kernel_rfl) (k _ rfl) (by kernel_rfl) (by kernel_rfl) (by decide +kernel)
  · exact nameX_K (cl := cellsFrom (L + 1) (lwSc w.params).names []) F X (topRead_of T) (by kernel_rfl) (k _ rfl) (by kernel_rfl) (by kernel_rfl) (by decide +kernel)

/-- the statements of law, over their parts -/
theorem lw_core {prog : Program} {env : Env} {sz ct : SzP} {tx : TxP} {fo' : FdP} {rt : PySem.Expr × Pos} {o : Obj} {v₀ : Option Value} {c : Addr} {loc : List (List Nat)} {γ : Sto} {σ0 : Sto} {σ1 : Str → Sto} {σ2 : Str → Int → Sto}
    (fo : FrOk env L) (lo : LocOk env loc) (go : ∀ E n, GloOk prog w A E env h₀ L n loc γ) (ho : o.data = .cell v₀) (hl : h₀.IsList ws vs.toArray) (hi : IntsAre vs ns) (hlen : ns.length ≤ 63)
    (a1 : env.kindOf sz.x = some .cell) (a2 : env.cells.lookup sz.x = some c) (a3 : nmOf loc γ σ0 sz.sn = some (.val (.ref ws))) (a4 : nmOf loc γ σ0 sz.sn2 = some (.val (.ref ws))) (a5 : evL (ev (nmOf loc γ σ0) noAtt fuel) sz.es = some ([.int 9, .int 40, .int 24], [])) (a6 : ev (nmOf loc γ σ0) noAtt fuel sz.i = some (.int 0, [])) (a7 : ev (nmOf loc γ σ0) noAtt fuel sz.m = some (.int 3, [])) (a8 : ev (nmOf loc γ σ0) noAtt fuel sz.d = some (.int 9, []))
    (a9 : swapsWith (szE sz) (some (.Name sz.x (posAt sz.ps 0))) (posAt sz.ps 8).line env = pure false)
    (text : ∀ {s1 : Shared} {o1 : Obj} {v1 : Value} {Q1 : Flow → Shared → Prop}, o1.data = .cell (some v1) → SizeOk v1 → At h₀ L [(c, o1)] s₀ σ0 s1 → (∀ s2 v, PT v → At h₀ L [(c, o1)] s₀ (σ1 v) s2 → Q1 .next s2) → WpX prog w A (exec (txS tx) env) Q1 (fun _ _ => False) s1)
    (c1 : env.kindOf ct.x = some .local) (c2 : ∀ v, nmOf loc γ (σ1 v) ct.sn = some (.val (.ref ws))) (c3 : ∀ v, nmOf loc γ (σ1 v) ct.sn2 = some (.val (.ref ws))) (c4 : ∀ v, ev (nmOf loc γ (σ1 v)) noAtt fuel ct.i = some (.int (-1), [])) (c5 : ∀ v : Str, ev (nmOf loc γ (σ1 v)) noAtt fuel ct.m = some (.int ((v.length : Int) + 1), [])) (c6 : ∀ v, ev (nmOf loc γ (σ1 v)) noAtt fuel ct.d = some (.int 0, []))
    (c7 : swapsWith (ctE ct) (some (.Name ct.x (posAt ct.ps 0))) (posAt ct.ps 8).line env = pure false) (c8 : ∀ v z, put (σ1 v) (key ct.x) (.int z) = σ2 v z)
    (loops : ∀ {s1 : Shared} {news : List (Addr × Obj)} {v : Str} {z : Int} {Q1 : Flow → Shared → Prop}, PT v → At h₀ L news s₀ (σ2 v z) s1 → (∀ s2, At h₀ L news s₀ (σ2 v z) s2 → Q1 .next s2) → wpAny (model prog w) A (exec (fdSt fo') env) Q1 (fun _ _ => False) s1)
    (r1 : ∀ v z, ev (nmOf loc γ (σ2 v z)) noAtt fuel rt.1 = some (.bool true, []))
    (hs : At h₀ L [(c, o)] s₀ σ0 s) (k : ∀ h' tk' m', Fr h₀ L h' m' → Q (.ret (.bool true)) { s₀ with heap := h', toks := tk' }) :
    WpX prog w A (execs [szSt sz, txS tx, ctSt ct, fdSt fo', retSt rt] env) Q (fun _ _ => False) s := by
  refine ⟨wpAny_execs_cons (st_size (o := o) (news := []) fo lo (go _ _) a1 a2 ho (fun _ h => nomatch h) hl hi hlen a3 a4 a5 a6 a7 a8 a9 hs fun s1 o1 v1 ho1 hsz hs1 => ?_)⟩
  refine wpAny_execs_cons (WpX.run (text ho1 hsz hs1 fun s2 v hv hs2 => ?_))
  refine wpAny_execs_cons (st_cut (len := v.length) fo lo (go _ _) c1 hl hi hlen (c2 v) (c3 v) (c4 v) (c5 v) (c6 v) c7 hs2 fun s3 z hs3 => ?_)
  rw [c8] at hs3
  refine wpAny_execs_cons (loops hv hs3 fun s4 hs4 => ?_)
  refine wpAny_execs_cons (wpAny_Return_some (ev_sound (nmOk fo lo (go _ _) hs4) attOk_no _ _ _ (r1 v z) allT_nil _ (keeps_refl _) _ fun u s5 hu k5 => ?_))
  cases hu
  obtain ⟨h, tk, m, rfl, F, N, _⟩ := hs4.keeps k5
  exact k h tk m F

theorem lw_fo : FrOk (lwEnv nm (lwSc w.params) L fa cd) L := ⟨lw_fnk w.params, rfl⟩
theorem lw_lo : LocOk (lwEnv nm (lwSc w.params) L fa cd) lwLoc := locOk_of rfl (lw_loc w.params nm L fa cd)
theorem lw_sg (X : (KK w.params).In h₀) : h₀.IsList (sgAt w.params) (sgItems w.params) := ⟨_, X _ _ (tx_look w.params), rfl, _, rfl⟩
theorem st_textX {prog : Program} {env : Env} {news : List (Addr × Obj)} {loc : List (List Nat)} {γ σ : Sto} {σ' : Str → Sto} {sg cz : Addr} {oc : Obj} {sz : Value} {items : Array Value} {E : Value → Shared → Prop} {t : TxP} {l u : Option Int} {cl : List (Str × Addr)} {K : Frag} (X : K.In h₀) (T : Top p loose mean mg mb h₀)
    (fo : FrOk env L) (lo' : LocOk env loc) (go : GloOk prog w A E env h₀ L news loc γ) (hh : A.handled = Option.none)
    (hx : env.kindOf t.x = some .local) (hjn : t.jn = Str.ofString "join") (hline : ((posAt t.ps 11).endLine == (posAt t.ps 12).line) = true)
    (hl : h₀.IsList ws vs.toArray) (hi' : IntsAre vs ns) (hlen : ns.length ≤ 63) (hsn : nmOf loc γ σ t.sn = some (.val (.ref ws)))
    (hs0 : t.s0 = Str.ofString "") (hlo : bound? (ev (nmOf loc γ σ) noAtt fuel) t.lo = some (l, [])) (hhi : bound? (ev (nmOf loc γ σ) noAtt fuel) t.hi = some (u, [])) (hhi2 : ev (nmOf loc γ σ) noAtt fuel t.hi2 = some (.int 16, []))
    (hsc : scopeB t.scope [t.nn] = true) (hclos : closureFor t.scope env = pure cl)
    (hg : env.globals = mainGlobals)
    (kg : ∀ C, (compEnvC t.scope cl C env).kindOf t.gn = some .globalImplicit) (ng : nsIn K mainGlobals t.gn = some (some (.ref sg))) (kn : ∀ C, (compEnvC t.scope cl C env).kindOf t.nn = some .local) (kz : ∀ C, (compEnvC t.scope cl C env).kindOf t.zn = some .cell) (hcl : cl.lookup t.zn = some cz)
    (dg : (t.gn == ("__debug__" : Str)) = false) (dn : (t.nn == ("__debug__" : Str)) = false) (dz : (t.zn == ("__debug__" : Str)) = false)
    (hsg : h₀.IsList sg items) (hit : signsB items = true)
    (hsw : swapsWith (txE t) (some (.Name t.x (posAt t.ps 15))) (posAt t.ps 16).line env = pure false) (hp' : ∀ v, put σ (key t.x) (.str v) = σ' v)
    (hc : (cz, oc) ∈ news) (hcd : oc.data = .cell (some sz)) (hsz : SizeOk sz) (hs : At h₀ L news s₀ σ s) (k : ∀ s' v, PT v → At h₀ L news s₀ (σ' v) s' → Q .next s') : WpX prog w A (exec (txS t) env) Q E s :=
  ⟨st_text X T fo lo' go hh hx hjn hline hl hi' hlen hsn hs0 hlo hhi hhi2 hsc hclos hc hcd hsz hg kg ng kn kz hcl dg dn dz hsg hit hsw hs fun s' v hv hs' => k s' v hv (by rw [← hp' v]; exact hs')⟩
theorem lw_text {o1 : Obj} {v1 : Value} (c : LwCtx w p loose mean mg mb A A₀ (lwEnv nm (lwSc w.params) L fa cd) outer base h₀ L) (hl : h₀.IsList ws vs.toArray) (hi : IntsAre vs ns) (hlen : ns.length ≤ 63) (ho1 : o1.data = .cell (some v1)) (hsz : SizeOk v1) (hs : At h₀ L [(L + 1, o1)] s₀ (l0 ws) s)
    (k : ∀ s2 v, PT v → At h₀ L [(L + 1, o1)] s₀ (l1 ws v) s2 → Q .next s2) : WpX PRG w A (exec (txS (lwTx w.params)) (lwEnv nm (lwSc w.params) L fa cd)) Q (fun _ _ => False) s :=
  st_textX (t := lwTx w.params) (σ := l0 ws) (σ' := l1 ws) (cl := [(Str.ofString "size", L + 1)]) c.X c.T lw_fo lw_lo (lw_glo c.X c.T) c.handled (tx_x w.params nm L fa cd) (tx_jn w.params) (tx_li w.params) hl hi hlen (tx_sn w.params ws) (tx_s0 w.params) (tx_lo w.params ws) (tx_hi w.params ws) (tx_hi2 w.params ws) (tx_sc w.params) (tx_cl w.params nm L fa cd) rfl
    (tx_kg w.params nm L fa cd) (tx_ng w.params) (tx_kn w.params nm L fa cd) (tx_kz w.params nm L fa cd) (tx_cz w.params L) (tx_dg w.params) (tx_dn w.params) (tx_dz w.params) (lw_sg c.X) (tx_signs w.params) (tx_sw w.params nm L fa cd) (tx_p w.params ws) (.head _) ho1 hsz hs k
theorem lw_loops {news : List (Addr × Obj)} {v : Str} {z : Int} (c : LwCtx w p loose mean mg mb A A₀ (lwEnv nm (lwSc w.params) L fa cd) outer base h₀ L) (hv : PT v) (hs : At h₀ L news s₀ (l2 ws v z) s)
    (k : ∀ s2, At h₀ L news s₀ (l2 ws v z) s2 → Q .next s2) : wpAny (model PRG w) A (exec (fdSt (lwFo w.params)) (lwEnv nm (lwSc w.params) L fa cd)) Q (fun _ _ => False) s :=
  lw_outer c lw_fo lw_lo (fun _ _ => lw_glo c.X c.T) (lw_turnF w.params nm L fa cd) (lw_fib w.params) (lw_fies w.params ws v z) (lw_fob w.params) (lw_foes w.params ws v z) (lw_fol w.params nm L fa cd) (lw_fop w.params ws v z) (lw_eml w.params nm L fa cd) (lw_emn w.params ws v z) (lw_emr w.params ws v z) (lw_emk w.params ws v z) (lw_emsw w.params nm L fa cd) (lw_emp w.params ws v z) hv hs k
theorem lw_run {o : Obj} {v₀ : Option Value} (c : LwCtx w p loose mean mg mb A A₀ (lwEnv nm (lwSc w.params) L fa cd) outer base h₀ L) (ho : o.data = .cell v₀) (hl : h₀.IsList ws vs.toArray) (hi : IntsAre vs ns) (hlen : ns.length ≤ 63)
    (hs : At h₀ L [(L + 1, o)] s₀ (l0 ws) s) (k : ∀ h' tk' m', Fr h₀ L h' m' → Q (.ret (.bool true)) { s₀ with heap := h', toks := tk' }) :
    WpX PRG w A (execs [szSt (lwSz w.params), txS (lwTx w.params), ctSt (lwCt w.params), fdSt (lwFo w.params), retSt (lwRt w.params)] (lwEnv nm (lwSc w.params) L fa cd)) Q (fun _ _ => False) s :=
  lw_core (loc := lwLoc) (γ := lwGlo) (c := L + 1) (σ0 := l0 ws) (σ1 := l1 ws) (σ2 := l2 ws) (sz := lwSz w.params) (tx := lwTx w.params) (ct := lwCt w.params) (fo' := lwFo w.params) (rt := lwRt w.params) lw_fo lw_lo (fun _ _ => lw_glo c.X c.T) ho hl hi hlen
    (sz_x w.params nm L fa cd) (sz_c w.params nm L fa cd) (sz_sn w.params ws) (sz_sn2 w.params ws) (sz_es w.params ws) (sz_i w.params ws) (sz_m w.params ws) (sz_d w.params ws) (sz_sw w.params nm L fa cd) (fun a b d e => lw_text c hl hi hlen a b d e)
    (ct_x w.params nm L fa cd) (ct_sn w.params ws) (ct_sn2 w.params ws) (ct_i w.params ws) (ct_m w.params ws) (ct_d w.params ws) (ct_sw w.params nm L fa cd) (ct_p w.params ws) (fun a b d => lw_loops c a b d) (rt_ev w.params ws) hs k

theorem lw_top {sc : Scope} {l : List Stmt} {o : Obj} {v₀ : Option Value} {m : Str → Option Value} {h₁ : Heap} {tk : Nat} (hsc : sc = lwSc w.params) (hb : l = lwB w.params) (K0 : Below callerA h₀ [] h₀) (X : (KK w.params).In h₀) (T : Top p loose mean mg mb h₀)
    (F : Fr h₀ L h₁ m) (hm : m "script" = some (.ref ws)) (N : News h₀ L h₁ [(L + 1, o)]) (ho : o.data = .cell v₀) (hl : h₀.IsList ws vs.toArray) (hi : IntsAre vs ns) (hlen : ns.length ≤ 63)
    (k : ∀ h' tk' m', Fr h₀ L h' m' → Q (.ret (.bool true)) { s₀ with heap := h', toks := tk' }) :
    WpX PRG w (callerA.deeper (lwEnv nm sc L fa cd)) (execs l (lwEnv nm sc L fa cd)) Q (fun _ _ => False) { s₀ with heap := h₁, toks := tk } := by
  subst hsc
  rw [hb, lw_body w.params]
  have hk : (lwEnv nm (lwSc w.params) L fa cd).scope.kind = .function := lw_fnk w.params
  refine lw_run (A₀ := callerA) (outer := []) (base := h₀) ⟨K0, X, T, Around.frames_deeper K0.stack, rfl, ?_, rfl, ?_⟩ ho hl hi hlen ⟨h₁, tk, m, rfl, F, N, ?_⟩ k
  · show callerA.depth + 1 + 2 < recursionLimit
    decide
  · units_room
  · have := rep_one (x := "script") (p := .val (.ref ws)) hm rfl
    have e : l0 ws = [(key "script", .val (.ref ws))] := by kernel_rfl
    rw [e]; exact this
end
end Mine

namespace Mine
open PySem PySem.W PySem.Calls PyProof.Rows
set_option maxHeartbeats 8000000 in
theorem law_holds : PySem.Challenge.rw_qm0002_02.Holds := w_hd (by
  intro d kwd hdef
  cases hdef
  intro w s₀ s₁ mg mb G Y fa o pm cd doc dV kV ho hd hcd hD hmg hg args vals as hpre hlay hrd hwl hlo
  have KX : (frag w.params).In s₁.heap := kIn_of Y
  refine Ground.open G ?_
  intro T B D TE TW
  try (refine guard_noD D (by decide +kernel) ?_; clear D)
  obtain ⟨_, _, M⟩ := bmod_of_top T
  clear hmg
  wrow_args hpre hlay hrd hwl hlo
  first | refine callC_kw (enter_call ?_) | refine enter_call ?_
  w_top on
  try refine codeAny_mono ?_ (fun _ _ g => GoodW.toG g)
  have K0 := below_caller (Top.heap T)
  w_call any ho hd hcd hD T F
  clear hd
  refine wpAny_mono (E := fun _ _ => False) (lw_top ?hsc9 ?hb9 (by assumption) (by assumption) (by assumption) (by assumption) ?hm9 (by assumption) (by assumption) (by assumption) (by assumption) ?hlen9 ?qk9).run (fun _ _ h => h) (fun _ _ h => h.elim)
  case hsc9 => kernel_rfl
  case hb9 => kernel_rfl
  case hm9 => kernel_rfl
  case hlen9 => omega
  case qk9 =>
    intro h' tk' m' F'
    refine goodW_bool F' (by assumption) ?_ ?_
    · intro cls
      rfl
    · kernel_rfl)
end Mine


theorem PySem.Challenge.cw_qm0002_02_holds : PySem.Challenge.rw_qm0002_02.Holds :=
  Mine.law_holds
