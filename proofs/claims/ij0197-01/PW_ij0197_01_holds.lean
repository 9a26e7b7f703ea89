import PyProof.Rows.All
import Wide.All
import OpenK.AllK
import Wide.FinOn
import PySem.Challenge.RW_ij0197_01
open PySem PySem.W PySem.Calls PySem.Spec PyProof.Rows
set_option Elab.async false
set_option maxRecDepth 100000
set_option maxHeartbeats 4000000
set_option compiler.extract_closed false
namespace RP
/-- the text's statements and the class's, by place -/
noncomputable def tB (i : Nat) : Stmt := (PySem.Challenge.pw_ij0197_01.main.body[i]?).getD default
noncomputable def clB (st : Stmt) : Option (List Stmt) := match st with | .ClassDef _ _ _ b .. => some b | _ => none
noncomputable def mB (i : Nat) : Stmt := (((clB (tB 1)).getD [])[i]?).getD default
/-- the function that a def makes -/
noncomputable def fnO (st : Stmt) (q : String) (df md c : Value) : Obj := match st with
  | .FunctionDef n ps b _ _ _ sc .. => { cls := .type "function", data := .func { name := n, qualname := Str.ofString q, params := ps, body := .stmts b, scope := sc, globals := 3, closure := [], defaults := df, kwdefaults := .none, pyModule := md, code := c } }
  | _ => default
/-- the function code beside a def -/
noncomputable def fnC (st : Stmt) (q : String) : Obj := match st with
  | .FunctionDef n ps b _ _ _ sc .. => { cls := .none, data := .func { name := n, qualname := Str.ofString q, params := ps, body := .stmts b, scope := sc, globals := 0, closure := [], defaults := .none, kwdefaults := .none } }
  | _ => default
noncomputable def vS (n : String) (t : Nat) : Value := Value.str (Str.ofString n) t
noncomputable def vI (n : Nat) : Value := .int (.ofNat n) 0
noncomputable def kE (P : Params) (n : String) (t : Nat) (v : Value) : DictEntry := { hash := PyData.keyHash P (Str.ofString n), key := Value.str (Str.ofString n) t, val := v }
noncomputable def oT : Obj := { cls := Value.type "tuple", data := Data.seq #[] }
noncomputable def oF : Obj := { cls := Value.none, data := Data.fields #[] }
noncomputable def cdO (n q : String) (t : Nat) (a b c d e r : Nat) (bo : Bool) (f r2 : Nat) (v1 v2 v3 v4 : Value) (g h u : Nat) : Obj := { cls := Value.type "code", data := Data.fields #[Value.str (Str.ofString n) t, Value.str (Str.ofString q) (t + 1), Value.str (Str.ofString "/claim/cut.py") (t + 2), vI a, vI b, vI c, vI d, vI e, .ref r, .bool bo, vI f, .ref r2, v1, v2, v3, v4, vI g, vI h, Value.str (Str.ofString "/claim/cut.py") u] }
noncomputable def ob13x : Obj := cdO "<module>" "<module>" (nat_lit 182) (nat_lit 1) (nat_lit 0) (nat_lit 0) (nat_lit 0) (nat_lit 0) (nat_lit 11) false (nat_lit 181) (nat_lit 12) (.none) (.none) (.none) (.none) (nat_lit 185) (nat_lit 1) (nat_lit 186)
noncomputable def ob14x : Obj := { cls := Value.type "frame", slots := #[some (.ref (nat_lit 13)), some (.ref (nat_lit 3)), some (.ref (nat_lit 3)), none, some (vS "__main__" (nat_lit 164)), none, some (.ref (nat_lit 0))] }
noncomputable def ob3y (P : Params) : Obj := { cls := Value.type "dict", data := Data.dict #[kE P "__name__" (nat_lit 165) (vS "re" (nat_lit 251)), kE P "__doc__" (nat_lit 166) (.none), kE P "__package__" (nat_lit 167) (.none), kE P "__loader__" (nat_lit 168) (Value.builtin "__main__.__loader__#opaque"), kE P "__spec__" (nat_lit 169) (.none), kE P "__annotations__" (nat_lit 170) (.ref (nat_lit 6)), kE P "__builtins__" (nat_lit 171) (.ref (nat_lit 4)), kE P "__file__" (nat_lit 173) (vS "/claim/cut.py" (nat_lit 172)), kE P "__cached__" (nat_lit 174) (.none), kE P "Entry" (nat_lit 250) (.ref (nat_lit 52))] (nat_lit 10) }
noncomputable def ob12y : Obj := { cls := .none, data := Data.fields #[vI (nat_lit 2), vI (nat_lit 0), .ref (nat_lit 20)] }
noncomputable def ob16y : Obj := { cls := Value.type "builtin_function_or_method", data := Data.fields #[Value.builtin "type.__prepare__", Value.type "type"] }
noncomputable def ob17y (P : Params) : Obj := { cls := Value.type "dict", data := Data.dict #[kE P "__module__" (nat_lit 196) (vS "cpy313.urllib.robotparser" (nat_lit 187)), kE P "__qualname__" (nat_lit 198) (vS "Entry" (nat_lit 197)), kE P "__firstlineno__" (nat_lit 200) (.int (.ofNat (nat_lit 2)) (nat_lit 199)), kE P "__init__" (nat_lit 207) (.ref (nat_lit 28)), kE P "__str__" (nat_lit 217) (.ref (nat_lit 35)), kE P "applies_to" (nat_lit 226) (.ref (nat_lit 42)), kE P "allowance" (nat_lit 238) (.ref (nat_lit 49)), kE P "__static_attributes__" (nat_lit 243) (.ref (nat_lit 50))] (nat_lit 8) }
noncomputable def ob19y : Obj := { cls := .none, data := Data.fields #[vI (nat_lit 4), vI (nat_lit 4), .ref (nat_lit 27), vI (nat_lit 10), vI (nat_lit 4), .ref (nat_lit 34), vI (nat_lit 27), vI (nat_lit 4), .ref (nat_lit 41), vI (nat_lit 38), vI (nat_lit 4), .ref (nat_lit 48)] }
noncomputable def ob20y : Obj := cdO "Entry" "Entry" (nat_lit 191) (nat_lit 2) (nat_lit 0) (nat_lit 0) (nat_lit 0) (nat_lit 0) (nat_lit 18) false (nat_lit 181) (nat_lit 19) (.none) (.none) (.none) (.none) (nat_lit 194) (nat_lit 2) (nat_lit 195)
noncomputable def ob21y : Obj := { cls := Value.type "frame", slots := #[some (.ref (nat_lit 20)), some (.ref (nat_lit 3)), some (.ref (nat_lit 17)), none, some (vS "cpy313.urllib.robotparser" (nat_lit 187)), none, some (.ref (nat_lit 0))] }
noncomputable def ob24y : Obj := { cls := Value.type "tuple", data := Data.seq #[vS "self" (nat_lit 204)] }
noncomputable def ob26y : Obj := fnC (mB 0) "Entry.__init__"
noncomputable def ob27y : Obj := cdO "__init__" "Entry.__init__" (nat_lit 201) (nat_lit 4) (nat_lit 1) (nat_lit 0) (nat_lit 0) (nat_lit 3) (nat_lit 22) true (nat_lit 181) (nat_lit 23) (.none) (.ref (nat_lit 24)) (.ref (nat_lit 25)) (.ref (nat_lit 26)) (nat_lit 205) (nat_lit 4) (nat_lit 206)
noncomputable def ob28y : Obj := fnO (mB 0) "Entry.__init__" (Value.none) (Value.str (Str.ofString "cpy313.urllib.robotparser") 187) (Value.ref 27)
noncomputable def ob31y : Obj := { cls := Value.type "tuple", data := Data.seq #[vS "self" (nat_lit 211), vS "ret" (nat_lit 212), vS "agent" (nat_lit 213), vS "rate" (nat_lit 214)] }
noncomputable def ob33y : Obj := fnC (mB 1) "Entry.__str__"
noncomputable def ob34y : Obj := cdO "__str__" "Entry.__str__" (nat_lit 208) (nat_lit 10) (nat_lit 1) (nat_lit 0) (nat_lit 0) (nat_lit 3) (nat_lit 29) true (nat_lit 181) (nat_lit 30) (.none) (.ref (nat_lit 31)) (.ref (nat_lit 32)) (.ref (nat_lit 33)) (nat_lit 215) (nat_lit 10) (nat_lit 216)
noncomputable def ob35y : Obj := fnO (mB 1) "Entry.__str__" (Value.none) (Value.str (Str.ofString "cpy313.urllib.robotparser") 187) (Value.ref 34)
noncomputable def ob38y : Obj := { cls := Value.type "tuple", data := Data.seq #[vS "self" (nat_lit 221), vS "useragent" (nat_lit 222), vS "agent" (nat_lit 223)] }
noncomputable def ob40y : Obj := fnC (mB 2) "Entry.applies_to"
noncomputable def ob41y : Obj := cdO "applies_to" "Entry.applies_to" (nat_lit 218) (nat_lit 27) (nat_lit 2) (nat_lit 0) (nat_lit 0) (nat_lit 3) (nat_lit 36) true (nat_lit 181) (nat_lit 37) (.none) (.ref (nat_lit 38)) (.ref (nat_lit 39)) (.ref (nat_lit 40)) (nat_lit 224) (nat_lit 27) (nat_lit 225)
noncomputable def ob42y : Obj := fnO (mB 2) "Entry.applies_to" (Value.none) (Value.str (Str.ofString "cpy313.urllib.robotparser") 187) (Value.ref 41)
noncomputable def ob45y : Obj := { cls := Value.type "tuple", data := Data.seq #[vS "self" (nat_lit 230), vS "filename" (nat_lit 231), vS "best_match" (nat_lit 232), vS "allowance" (nat_lit 233), vS "line" (nat_lit 234), vS "m" (nat_lit 235)] }
noncomputable def ob47y : Obj := fnC (mB 3) "Entry.allowance"
noncomputable def ob48y : Obj := cdO "allowance" "Entry.allowance" (nat_lit 227) (nat_lit 38) (nat_lit 2) (nat_lit 0) (nat_lit 0) (nat_lit 3) (nat_lit 43) true (nat_lit 181) (nat_lit 44) (.none) (.ref (nat_lit 45)) (.ref (nat_lit 46)) (.ref (nat_lit 47)) (nat_lit 236) (nat_lit 38) (nat_lit 237)
noncomputable def ob49y : Obj := fnO (mB 3) "Entry.allowance" (Value.none) (Value.str (Str.ofString "cpy313.urllib.robotparser") 187) (Value.ref 48)
noncomputable def ob50y : Obj := { cls := Value.type "tuple", data := Data.seq #[vS "delay" (nat_lit 239), vS "req_rate" (nat_lit 240), vS "rulelines" (nat_lit 241), vS "useragents" (nat_lit 242)] }
noncomputable def ob51y (P : Params) : Obj := { cls := Value.type "dict", data := Data.dict #[kE P "__module__" (nat_lit 196) (vS "cpy313.urllib.robotparser" (nat_lit 187)), kE P "__firstlineno__" (nat_lit 200) (.int (.ofNat (nat_lit 2)) (nat_lit 199)), kE P "__init__" (nat_lit 207) (.ref (nat_lit 28)), kE P "__str__" (nat_lit 217) (.ref (nat_lit 35)), kE P "applies_to" (nat_lit 226) (.ref (nat_lit 42)), kE P "allowance" (nat_lit 238) (.ref (nat_lit 49)), kE P "__static_attributes__" (nat_lit 243) (.ref (nat_lit 50)), kE P "__dict__" (nat_lit 245) (.ref (nat_lit 53)), kE P "__weakref__" (nat_lit 247) (.ref (nat_lit 54)), kE P "__doc__" (nat_lit 248) (.none)] (nat_lit 4) }
noncomputable def ob52y : Obj := { cls := Value.type "type", data := Data.cls { name := Str.ofString "Entry", bases := [Value.type "object"], mro := [.ref (nat_lit 52), Value.type "object"], ns := 51, qualname := Str.ofString "Entry" }, slots := #[none, none, some (vS "Entry" (nat_lit 189)), some (vS "Entry" (nat_lit 197)), some (Value.builtin "object.__new__"), some (.bool true)] }
noncomputable def ob53y : Obj := { cls := Value.type "getset_descriptor", data := Data.fields #[vS "__dict__" (nat_lit 244), .ref (nat_lit 52), Value.builtin "function.__dict__", Value.builtin "function.__dict__#set"] }
noncomputable def ob54y : Obj := { cls := Value.type "getset_descriptor", data := Data.fields #[vS "__weakref__" (nat_lit 246), .ref (nat_lit 52), Value.builtin "ExceptionGroup.__weakref__", .none] }
noncomputable def ob55y : Obj := { cls := Value.type "super", data := Data.fields #[.ref (nat_lit 52), .ref (nat_lit 52), .ref (nat_lit 52)] }
noncomputable def ob56y : Obj := { cls := Value.type "builtin_function_or_method", data := Data.fields #[Value.builtin "object.__init_subclass__", .ref (nat_lit 52)] }
noncomputable def ob3z (P : Params) : Obj := { cls := Value.type "dict", data := Data.dict #[kE P "__name__" (nat_lit 165) (vS "re" (nat_lit 251)), kE P "__doc__" (nat_lit 166) (.none), kE P "__package__" (nat_lit 167) (.none), kE P "__loader__" (nat_lit 168) (Value.builtin "__main__.__loader__#opaque"), kE P "__spec__" (nat_lit 169) (.none), kE P "__annotations__" (nat_lit 170) (.ref (nat_lit 6)), kE P "__builtins__" (nat_lit 171) (.ref (nat_lit 4)), kE P "__file__" (nat_lit 173) (vS "/claim/cut.py" (nat_lit 172)), kE P "__cached__" (nat_lit 174) (.none), kE P "Entry" (nat_lit 250) (.ref (nat_lit 52)), kE P "_special_chars_map" (nat_lit 398) (.ref (nat_lit 58))] (nat_lit 11) }
noncomputable def ob57z : Obj := { cls := Value.type "bytes_iterator", data := Data.fields #[.none, vI (nat_lit 24)] }
noncomputable def ob58z : Obj := { cls := Value.type "dict", data := Data.dict #[{ hash := .ofNat (nat_lit 40), key := .int (.ofNat (nat_lit 40)) (nat_lit 254), val := vS "\\(" (nat_lit 258) }, { hash := .ofNat (nat_lit 41), key := .int (.ofNat (nat_lit 41)) (nat_lit 260), val := vS "\\)" (nat_lit 264) }, { hash := .ofNat (nat_lit 91), key := .int (.ofNat (nat_lit 91)) (nat_lit 266), val := vS "\\[" (nat_lit 270) }, { hash := .ofNat (nat_lit 93), key := .int (.ofNat (nat_lit 93)) (nat_lit 272), val := vS "\\]" (nat_lit 276) }, { hash := .ofNat (nat_lit 123), key := .int (.ofNat (nat_lit 123)) (nat_lit 278), val := vS "\\{" (nat_lit 282) }, { hash := .ofNat (nat_lit 125), key := .int (.ofNat (nat_lit 125)) (nat_lit 284), val := vS "\\}" (nat_lit 288) }, { hash := .ofNat (nat_lit 63), key := .int (.ofNat (nat_lit 63)) (nat_lit 290), val := vS "\\?" (nat_lit 294) }, { hash := .ofNat (nat_lit 42), key := .int (.ofNat (nat_lit 42)) (nat_lit 296), val := vS "\\*" (nat_lit 300) }, { hash := .ofNat (nat_lit 43), key := .int (.ofNat (nat_lit 43)) (nat_lit 302), val := vS "\\+" (nat_lit 306) }, { hash := .ofNat (nat_lit 45), key := .int (.ofNat (nat_lit 45)) (nat_lit 308), val := vS "\\-" (nat_lit 312) }, { hash := .ofNat (nat_lit 124), key := .int (.ofNat (nat_lit 124)) (nat_lit 314), val := vS "\\|" (nat_lit 318) }, { hash := .ofNat (nat_lit 94), key := .int (.ofNat (nat_lit 94)) (nat_lit 320), val := vS "\\^" (nat_lit 324) }, { hash := .ofNat (nat_lit 36), key := .int (.ofNat (nat_lit 36)) (nat_lit 326), val := vS "\\$" (nat_lit 330) }, { hash := .ofNat (nat_lit 92), key := .int (.ofNat (nat_lit 92)) (nat_lit 332), val := vS "\\\\" (nat_lit 336) }, { hash := .ofNat (nat_lit 46), key := .int (.ofNat (nat_lit 46)) (nat_lit 338), val := vS "\\." (nat_lit 342) }, { hash := .ofNat (nat_lit 38), key := .int (.ofNat (nat_lit 38)) (nat_lit 344), val := vS "\\&" (nat_lit 348) }, { hash := .ofNat (nat_lit 126), key := .int (.ofNat (nat_lit 126)) (nat_lit 350), val := vS "\\~" (nat_lit 354) }, { hash := .ofNat (nat_lit 35), key := .int (.ofNat (nat_lit 35)) (nat_lit 356), val := vS "\\#" (nat_lit 360) }, { hash := .ofNat (nat_lit 32), key := .int (.ofNat (nat_lit 32)) (nat_lit 362), val := vS "\\ " (nat_lit 366) }, { hash := .ofNat (nat_lit 9), key := .int (.ofNat (nat_lit 9)) (nat_lit 368), val := vS "\\\t" (nat_lit 372) }, { hash := .ofNat (nat_lit 10), key := .int (.ofNat (nat_lit 10)) (nat_lit 374), val := vS "\\\n" (nat_lit 378) }, { hash := .ofNat (nat_lit 13), key := .int (.ofNat (nat_lit 13)) (nat_lit 380), val := vS "\\\x0d" (nat_lit 384) }, { hash := .ofNat (nat_lit 11), key := .int (.ofNat (nat_lit 11)) (nat_lit 386), val := vS "\\\x0b" (nat_lit 390) }, { hash := .ofNat (nat_lit 12), key := .int (.ofNat (nat_lit 12)) (nat_lit 392), val := vS "\\\x0c" (nat_lit 396) }] (nat_lit 24) }
noncomputable def ob59z : Obj := { cls := Value.type "dict", data := Data.dict #[] (nat_lit 2) }
noncomputable def ob61z : Obj := { cls := Value.type "StopIteration", data := Data.fields #[.ref (nat_lit 60), .none, .none, .none, .bool false, .none] }
noncomputable def ob3 (P : Params) : Obj := { cls := Value.type "dict", data := Data.dict #[kE P "__name__" (nat_lit 165) (vS "law_ij0197_01" (nat_lit 441)), kE P "__doc__" (nat_lit 166) (.none), kE P "__package__" (nat_lit 167) (.none), kE P "__loader__" (nat_lit 168) (Value.builtin "__main__.__loader__#opaque"), kE P "__spec__" (nat_lit 169) (.none), kE P "__annotations__" (nat_lit 170) (.ref (nat_lit 6)), kE P "__builtins__" (nat_lit 171) (.ref (nat_lit 4)), kE P "__file__" (nat_lit 173) (vS "/claim/cut.py" (nat_lit 172)), kE P "__cached__" (nat_lit 174) (.none), kE P "Entry" (nat_lit 250) (.ref (nat_lit 52)), kE P "_special_chars_map" (nat_lit 398) (.ref (nat_lit 58)), kE P "escape" (nat_lit 405) (.ref (nat_lit 68)), kE P "translate_pattern" (nat_lit 416) (.ref (nat_lit 75)), kE P "merge_entries" (nat_lit 425) (.ref (nat_lit 82)), kE P "_initial_missing" (nat_lit 428) (.ref (nat_lit 83)), kE P "reduce" (nat_lit 440) (.ref (nat_lit 91)), kE P "_law_path" (nat_lit 448) (.ref (nat_lit 96)), kE P "_law_name" (nat_lit 458) (.ref (nat_lit 103)), kE P "_law_tokens" (nat_lit 468) (.ref (nat_lit 110)), kE P "_law_reads" (nat_lit 478) (.ref (nat_lit 117)), kE P "_law_told" (nat_lit 484) (.ref (nat_lit 122)), kE P "_law_due" (nat_lit 490) (.ref (nat_lit 127)), kE P "_law_rule" (nat_lit 502) (.ref (nat_lit 134)), kE P "_law_record" (nat_lit 512) (.ref (nat_lit 141)), kE P "law" (nat_lit 518) (.ref (nat_lit 146))] (nat_lit 25) }
noncomputable def ob12 : Obj := { cls := .none, data := Data.fields #[vI (nat_lit 2), vI (nat_lit 0), .ref (nat_lit 20), vI (nat_lit 52), vI (nat_lit 0), .ref (nat_lit 67), vI (nat_lit 59), vI (nat_lit 0), .ref (nat_lit 74), vI (nat_lit 65), vI (nat_lit 0), .ref (nat_lit 81), vI (nat_lit 74), vI (nat_lit 0), .ref (nat_lit 90), vI (nat_lit 87), vI (nat_lit 0), .ref (nat_lit 95), vI (nat_lit 90), vI (nat_lit 0), .ref (nat_lit 102), vI (nat_lit 93), vI (nat_lit 0), .ref (nat_lit 109), vI (nat_lit 116), vI (nat_lit 0), .ref (nat_lit 116), vI (nat_lit 130), vI (nat_lit 0), .ref (nat_lit 121), vI (nat_lit 137), vI (nat_lit 0), .ref (nat_lit 126), vI (nat_lit 148), vI (nat_lit 0), .ref (nat_lit 133), vI (nat_lit 153), vI (nat_lit 0), .ref (nat_lit 140), vI (nat_lit 160), vI (nat_lit 0), .ref (nat_lit 145)] }
noncomputable def ob64 : Obj := { cls := Value.type "tuple", data := Data.seq #[vS "pattern" (nat_lit 402)] }
noncomputable def ob66 : Obj := fnC (tB 4) "escape"
noncomputable def ob67 : Obj := cdO "escape" "escape" (nat_lit 399) (nat_lit 52) (nat_lit 1) (nat_lit 0) (nat_lit 0) (nat_lit 3) (nat_lit 62) true (nat_lit 181) (nat_lit 63) (.none) (.ref (nat_lit 64)) (.ref (nat_lit 65)) (.ref (nat_lit 66)) (nat_lit 403) (nat_lit 52) (nat_lit 404)
noncomputable def ob68 : Obj := fnO (tB 4) "escape" (Value.none) (Value.str (Str.ofString "re") 251) (Value.ref 67)
noncomputable def ob71 : Obj := { cls := Value.type "tuple", data := Data.seq #[vS "path" (nat_lit 411), vS "parts" (nat_lit 412), vS "i" (nat_lit 413)] }
noncomputable def ob73 : Obj := fnC (tB 6) "translate_pattern"
noncomputable def ob74 : Obj := cdO "translate_pattern" "translate_pattern" (nat_lit 408) (nat_lit 59) (nat_lit 1) (nat_lit 0) (nat_lit 0) (nat_lit 3) (nat_lit 69) true (nat_lit 181) (nat_lit 70) (.none) (.ref (nat_lit 71)) (.ref (nat_lit 72)) (.ref (nat_lit 73)) (nat_lit 414) (nat_lit 59) (nat_lit 415)
noncomputable def ob75 : Obj := fnO (tB 6) "translate_pattern" (Value.none) (Value.str (Str.ofString "cpy313.urllib.robotparser") 406) (Value.ref 74)
noncomputable def ob78 : Obj := { cls := Value.type "tuple", data := Data.seq #[vS "e1" (nat_lit 420), vS "e2" (nat_lit 421), vS "entry" (nat_lit 422)] }
noncomputable def ob80 : Obj := fnC (tB 7) "merge_entries"
noncomputable def ob81 : Obj := cdO "merge_entries" "merge_entries" (nat_lit 417) (nat_lit 65) (nat_lit 2) (nat_lit 0) (nat_lit 0) (nat_lit 3) (nat_lit 76) true (nat_lit 181) (nat_lit 77) (.none) (.ref (nat_lit 78)) (.ref (nat_lit 79)) (.ref (nat_lit 80)) (nat_lit 423) (nat_lit 65) (nat_lit 424)
noncomputable def ob82 : Obj := fnO (tB 7) "merge_entries" (Value.none) (Value.str (Str.ofString "cpy313.urllib.robotparser") 406) (Value.ref 81)
noncomputable def ob83 : Obj := { cls := Value.type "object" }
noncomputable def ob84 : Obj := { cls := Value.type "tuple", data := Data.seq #[.ref (nat_lit 83)] }
noncomputable def ob87 : Obj := { cls := Value.type "tuple", data := Data.seq #[vS "function" (nat_lit 432), vS "sequence" (nat_lit 433), vS "initial" (nat_lit 434), vS "it" (nat_lit 435), vS "value" (nat_lit 436), vS "element" (nat_lit 437)] }
noncomputable def ob89 : Obj := fnC (tB 10) "reduce"
noncomputable def ob90 : Obj := cdO "reduce" "reduce" (nat_lit 429) (nat_lit 74) (nat_lit 3) (nat_lit 0) (nat_lit 0) (nat_lit 3) (nat_lit 85) true (nat_lit 181) (nat_lit 86) (.none) (.ref (nat_lit 87)) (.ref (nat_lit 88)) (.ref (nat_lit 89)) (nat_lit 438) (nat_lit 74) (nat_lit 439)
noncomputable def ob91 : Obj := fnO (tB 10) "reduce" (Value.ref 84) (Value.str (Str.ofString "cpy313.functools") 426) (Value.ref 90)
noncomputable def ob94 : Obj := fnC (tB 12) "_law_path"
noncomputable def ob95 : Obj := cdO "_law_path" "_law_path" (nat_lit 443) (nat_lit 87) (nat_lit 2) (nat_lit 0) (nat_lit 0) (nat_lit 3) (nat_lit 92) true (nat_lit 181) (nat_lit 93) (.none) (.none) (.none) (.ref (nat_lit 94)) (nat_lit 446) (nat_lit 87) (nat_lit 447)
noncomputable def ob96 : Obj := fnO (tB 12) "_law_path" (Value.none) (Value.str (Str.ofString "law_ij0197_01") 441) (Value.ref 95)
noncomputable def ob99 : Obj := { cls := Value.type "tuple", data := Data.seq #[vS "paths" (nat_lit 452), vS "signs" (nat_lit 453), vS "number" (nat_lit 454), vS "filler" (nat_lit 455)] }
noncomputable def ob101 : Obj := fnC (tB 13) "_law_name"
noncomputable def ob102 : Obj := cdO "_law_name" "_law_name" (nat_lit 449) (nat_lit 90) (nat_lit 3) (nat_lit 0) (nat_lit 0) (nat_lit 3) (nat_lit 97) true (nat_lit 181) (nat_lit 98) (.none) (.ref (nat_lit 99)) (.ref (nat_lit 100)) (.ref (nat_lit 101)) (nat_lit 456) (nat_lit 90) (nat_lit 457)
noncomputable def ob103 : Obj := fnO (tB 13) "_law_name" (Value.none) (Value.str (Str.ofString "law_ij0197_01") 441) (Value.ref 102)
noncomputable def ob106 : Obj := { cls := Value.type "tuple", data := Data.seq #[vS "text" (nat_lit 462), vS "rows" (nat_lit 463), vS "size" (nat_lit 464), vS "group" (nat_lit 465)] }
noncomputable def ob108 : Obj := fnC (tB 14) "_law_tokens"
noncomputable def ob109 : Obj := cdO "_law_tokens" "_law_tokens" (nat_lit 459) (nat_lit 93) (nat_lit 1) (nat_lit 0) (nat_lit 0) (nat_lit 3) (nat_lit 104) true (nat_lit 181) (nat_lit 105) (.none) (.ref (nat_lit 106)) (.ref (nat_lit 107)) (.ref (nat_lit 108)) (nat_lit 466) (nat_lit 93) (nat_lit 467)
noncomputable def ob110 : Obj := fnO (tB 14) "_law_tokens" (Value.none) (Value.str (Str.ofString "law_ij0197_01") 441) (Value.ref 109)
noncomputable def ob113 : Obj := { cls := Value.type "tuple", data := Data.seq #[vS "name" (nat_lit 472), vS "_law_next" (nat_lit 473)] }
noncomputable def ob114 : Obj := { cls := Value.type "tuple", data := Data.seq #[vS "name" (nat_lit 474), vS "_law_one" (nat_lit 475)] }
noncomputable def ob115 : Obj := fnC (tB 15) "_law_reads"
noncomputable def ob116 : Obj := cdO "_law_reads" "_law_reads" (nat_lit 469) (nat_lit 116) (nat_lit 1) (nat_lit 0) (nat_lit 0) (nat_lit 3) (nat_lit 111) true (nat_lit 181) (nat_lit 112) (.none) (.ref (nat_lit 113)) (.ref (nat_lit 114)) (.ref (nat_lit 115)) (nat_lit 476) (nat_lit 116) (nat_lit 477)
noncomputable def ob117 : Obj := fnO (tB 15) "_law_reads" (Value.none) (Value.str (Str.ofString "law_ij0197_01") 441) (Value.ref 116)
noncomputable def ob120 : Obj := fnC (tB 16) "_law_told"
noncomputable def ob121 : Obj := cdO "_law_told" "_law_told" (nat_lit 479) (nat_lit 130) (nat_lit 3) (nat_lit 0) (nat_lit 0) (nat_lit 3) (nat_lit 118) true (nat_lit 181) (nat_lit 119) (.none) (.none) (.none) (.ref (nat_lit 120)) (nat_lit 482) (nat_lit 130) (nat_lit 483)
noncomputable def ob122 : Obj := fnO (tB 16) "_law_told" (Value.none) (Value.str (Str.ofString "law_ij0197_01") 441) (Value.ref 121)
noncomputable def ob125 : Obj := fnC (tB 17) "_law_due"
noncomputable def ob126 : Obj := cdO "_law_due" "_law_due" (nat_lit 485) (nat_lit 137) (nat_lit 3) (nat_lit 0) (nat_lit 0) (nat_lit 3) (nat_lit 123) true (nat_lit 181) (nat_lit 124) (.none) (.none) (.none) (.ref (nat_lit 125)) (nat_lit 488) (nat_lit 137) (nat_lit 489)
noncomputable def ob127 : Obj := fnO (tB 17) "_law_due" (Value.none) (Value.str (Str.ofString "law_ij0197_01") 441) (Value.ref 126)
noncomputable def ob130 : Obj := { cls := Value.type "tuple", data := Data.seq #[vS "reaches" (nat_lit 494), vS "names" (nat_lit 495), vS "verdict" (nat_lit 496), vS "rule" (nat_lit 497)] }
noncomputable def ob131 : Obj := { cls := Value.type "tuple", data := Data.seq #[vS "reaches" (nat_lit 498), vS "names" (nat_lit 499)] }
noncomputable def ob132 : Obj := fnC (tB 18) "_law_rule"
noncomputable def ob133 : Obj := cdO "_law_rule" "_law_rule" (nat_lit 491) (nat_lit 148) (nat_lit 3) (nat_lit 0) (nat_lit 0) (nat_lit 3) (nat_lit 128) true (nat_lit 181) (nat_lit 129) (.none) (.ref (nat_lit 130)) (.ref (nat_lit 131)) (.ref (nat_lit 132)) (nat_lit 500) (nat_lit 148) (nat_lit 501)
noncomputable def ob134 : Obj := fnO (tB 18) "_law_rule" (Value.none) (Value.str (Str.ofString "law_ij0197_01") 441) (Value.ref 133)
noncomputable def ob137 : Obj := { cls := Value.type "tuple", data := Data.seq #[vS "agents" (nat_lit 506), vS "rules" (nat_lit 507), vS "number" (nat_lit 508), vS "record" (nat_lit 509)] }
noncomputable def ob139 : Obj := fnC (tB 19) "_law_record"
noncomputable def ob140 : Obj := cdO "_law_record" "_law_record" (nat_lit 503) (nat_lit 153) (nat_lit 3) (nat_lit 0) (nat_lit 0) (nat_lit 3) (nat_lit 135) true (nat_lit 181) (nat_lit 136) (.none) (.ref (nat_lit 137)) (.ref (nat_lit 138)) (.ref (nat_lit 139)) (nat_lit 510) (nat_lit 153) (nat_lit 511)
noncomputable def ob141 : Obj := fnO (tB 19) "_law_record" (Value.none) (Value.str (Str.ofString "law_ij0197_01") 441) (Value.ref 140)
noncomputable def ob144 : Obj := fnC (tB 20) "law"
noncomputable def ob145 : Obj := cdO "law" "law" (nat_lit 513) (nat_lit 160) (nat_lit 1) (nat_lit 0) (nat_lit 0) (nat_lit 3) (nat_lit 142) true (nat_lit 181) (nat_lit 143) (.none) (.none) (.none) (.ref (nat_lit 144)) (nat_lit 516) (nat_lit 160) (nat_lit 517)
noncomputable def ob146 : Obj := fnO (tB 20) "law" (Value.none) (Value.str (Str.ofString "law_ij0197_01") 441) (Value.ref 145)
noncomputable def T15 (P : Params) : BT := .node (boot_o_0 P) (.node (boot_o_1 P) (.node (boot_o_3 P) (.node (boot_o_7 P) .nil .nil) (.node oT .nil .nil)) (.node (boot_o_5 P) (.node (boot_o_9 P) .nil .nil) (.node ob13x .nil .nil))) (.node (boot_o_2 P) (.node (boot_o_4 P) (.node (boot_o_8 P) .nil .nil) (.node oF .nil .nil)) (.node (boot_o_6 P) (.node (boot_o_10 P) .nil .nil) (.node ob14x .nil .nil)))
noncomputable def T57 (P : Params) : BT := .node (boot_o_0 P) (.node (boot_o_1 P) (.node (ob3y P) (.node (boot_o_7 P) (.node oT (.node ob31y .nil .nil) (.node ob47y .nil .nil)) (.node oF (.node oT .nil .nil) (.node ob55y .nil .nil))) (.node oT (.node ob19y (.node ob35y .nil .nil) (.node (ob51y P) .nil .nil)) (.node ob27y (.node oT .nil .nil) .nil))) (.node (boot_o_5 P) (.node (boot_o_9 P) (.node (ob17y P) (.node ob33y .nil .nil) (.node ob49y .nil .nil)) (.node oT (.node ob41y .nil .nil) .nil)) (.node ob13x (.node ob21y (.node oF .nil .nil) (.node ob53y .nil .nil)) (.node oT (.node ob45y .nil .nil) .nil)))) (.node (boot_o_2 P) (.node (boot_o_4 P) (.node (boot_o_8 P) (.node ob16y (.node oT .nil .nil) (.node ob48y .nil .nil)) (.node ob24y (.node ob40y .nil .nil) (.node ob56y .nil .nil))) (.node ob12y (.node ob20y (.node oT .nil .nil) (.node ob52y .nil .nil)) (.node ob28y (.node oF .nil .nil) .nil))) (.node (boot_o_6 P) (.node (boot_o_10 P) (.node oT (.node ob34y .nil .nil) (.node ob50y .nil .nil)) (.node ob26y (.node ob42y .nil .nil) .nil)) (.node ob14x (.node oT (.node ob38y .nil .nil) (.node ob54y .nil .nil)) (.node oF (.node oT .nil .nil) .nil))))
noncomputable def T62 (P : Params) : BT := .node (boot_o_0 P) (.node (boot_o_1 P) (.node (ob3z P) (.node (boot_o_7 P) (.node oT (.node ob31y .nil .nil) (.node ob47y .nil .nil)) (.node oF (.node oT .nil .nil) (.node ob55y .nil .nil))) (.node oT (.node ob19y (.node ob35y .nil .nil) (.node (ob51y P) .nil .nil)) (.node ob27y (.node oT .nil .nil) (.node ob59z .nil .nil)))) (.node (boot_o_5 P) (.node (boot_o_9 P) (.node (ob17y P) (.node ob33y .nil .nil) (.node ob49y .nil .nil)) (.node oT (.node ob41y .nil .nil) (.node ob57z .nil .nil))) (.node ob13x (.node ob21y (.node oF .nil .nil) (.node ob53y .nil .nil)) (.node oT (.node ob45y .nil .nil) (.node ob61z .nil .nil))))) (.node (boot_o_2 P) (.node (boot_o_4 P) (.node (boot_o_8 P) (.node ob16y (.node oT .nil .nil) (.node ob48y .nil .nil)) (.node ob24y (.node ob40y .nil .nil) (.node ob56y .nil .nil))) (.node ob12y (.node ob20y (.node oT .nil .nil) (.node ob52y .nil .nil)) (.node ob28y (.node oF .nil .nil) (.node oT .nil .nil)))) (.node (boot_o_6 P) (.node (boot_o_10 P) (.node oT (.node ob34y .nil .nil) (.node ob50y .nil .nil)) (.node ob26y (.node ob42y .nil .nil) (.node ob58z .nil .nil))) (.node ob14x (.node oT (.node ob38y .nil .nil) (.node ob54y .nil .nil)) (.node oF (.node oT .nil .nil) .nil))))
noncomputable def T147 (P : Params) : BT := .node (boot_o_0 P) (.node (boot_o_1 P) (.node (ob3 P) (.node (boot_o_7 P) (.node oT (.node ob31y (.node oF (.node ob127 .nil .nil) .nil) (.node ob95 .nil .nil)) (.node ob47y (.node oT (.node oF .nil .nil) .nil) (.node oT .nil .nil))) (.node oF (.node oT (.node ob71 (.node oT .nil .nil) .nil) (.node ob103 .nil .nil)) (.node ob55y (.node ob87 .nil .nil) (.node oF .nil .nil)))) (.node oT (.node ob19y (.node ob35y (.node ob67 (.node ob131 .nil .nil) .nil) (.node ob99 .nil .nil)) (.node (ob51y P) (.node ob83 .nil .nil) (.node ob115 .nil .nil))) (.node ob27y (.node oT (.node ob75 (.node ob139 .nil .nil) .nil) (.node oT .nil .nil)) (.node ob59z (.node ob91 .nil .nil) (.node oT .nil .nil))))) (.node (boot_o_5 P) (.node (boot_o_9 P) (.node (ob17y P) (.node ob33y (.node oT (.node oF .nil .nil) .nil) (.node oT .nil .nil)) (.node ob49y (.node ob81 (.node ob145 .nil .nil) .nil) (.node ob113 .nil .nil))) (.node oT (.node ob41y (.node ob73 (.node ob137 .nil .nil) .nil) (.node oF .nil .nil)) (.node ob57z (.node ob89 .nil .nil) (.node ob121 .nil .nil)))) (.node ob13x (.node ob21y (.node oF (.node oT (.node ob133 .nil .nil) .nil) (.node ob101 .nil .nil)) (.node ob53y (.node oT .nil .nil) (.node ob117 .nil .nil))) (.node oT (.node ob45y (.node oF (.node ob141 .nil .nil) .nil) (.node ob109 .nil .nil)) (.node ob61z (.node oF .nil .nil) (.node ob125 .nil .nil)))))) (.node (boot_o_2 P) (.node (boot_o_4 P) (.node (boot_o_8 P) (.node ob16y (.node oT (.node ob64 (.node oT .nil .nil) .nil) (.node ob96 .nil .nil)) (.node ob48y (.node ob80 (.node ob144 .nil .nil) .nil) (.node oF .nil .nil))) (.node ob24y (.node ob40y (.node oT (.node oF .nil .nil) .nil) (.node oT .nil .nil)) (.node ob56y (.node oT .nil .nil) (.node ob120 .nil .nil)))) (.node ob12 (.node ob20y (.node oT (.node ob68 (.node ob132 .nil .nil) .nil) (.node oT .nil .nil)) (.node ob52y (.node ob84 .nil .nil) (.node ob116 .nil .nil))) (.node ob28y (.node oF (.node oT (.node ob140 .nil .nil) .nil) (.node ob108 .nil .nil)) (.node oT (.node oT .nil .nil) (.node oF .nil .nil))))) (.node (boot_o_6 P) (.node (boot_o_10 P) (.node oT (.node ob34y (.node ob66 (.node ob130 .nil .nil) .nil) (.node oF .nil .nil)) (.node ob50y (.node ob82 (.node ob146 .nil .nil) .nil) (.node ob114 .nil .nil))) (.node ob26y (.node ob42y (.node ob74 (.node oT .nil .nil) .nil) (.node ob106 .nil .nil)) (.node ob58z (.node ob90 .nil .nil) (.node ob122 .nil .nil)))) (.node ob14x (.node oT (.node ob38y (.node oF (.node ob134 .nil .nil) .nil) (.node ob102 .nil .nil)) (.node ob54y (.node oF .nil .nil) (.node oT .nil .nil))) (.node oF (.node oT (.node ob78 (.node oT .nil .nil) .nil) (.node ob110 .nil .nil)) (.node oT (.node ob94 .nil .nil) (.node ob126 .nil .nil))))))
/-- what of the heap behind the top the law can come to -/
noncomputable def heapK (P : Params) : Frag := [
(nat_lit 2, boot_o_2 P),
(nat_lit 3, ob3 P),
(nat_lit 22, oT),
(nat_lit 24, ob24y),
(nat_lit 25, oT),
(nat_lit 27, ob27y),
(nat_lit 28, ob28y),
(nat_lit 29, oT),
(nat_lit 31, ob31y),
(nat_lit 32, oT),
(nat_lit 34, ob34y),
(nat_lit 35, ob35y),
(nat_lit 36, oT),
(nat_lit 38, ob38y),
(nat_lit 39, oT),
(nat_lit 41, ob41y),
(nat_lit 42, ob42y),
(nat_lit 43, oT),
(nat_lit 45, ob45y),
(nat_lit 46, oT),
(nat_lit 48, ob48y),
(nat_lit 49, ob49y),
(nat_lit 50, ob50y),
(nat_lit 51, ob51y P),
(nat_lit 52, ob52y),
(nat_lit 53, ob53y),
(nat_lit 54, ob54y),
(nat_lit 58, ob58z),
(nat_lit 62, oT),
(nat_lit 64, ob64),
(nat_lit 65, oT),
(nat_lit 67, ob67),
(nat_lit 68, ob68),
(nat_lit 69, oT),
(nat_lit 71, ob71),
(nat_lit 72, oT),
(nat_lit 74, ob74),
(nat_lit 75, ob75),
(nat_lit 76, oT),
(nat_lit 78, ob78),
(nat_lit 79, oT),
(nat_lit 81, ob81),
(nat_lit 82, ob82),
(nat_lit 83, ob83),
(nat_lit 84, ob84),
(nat_lit 85, oT),
(nat_lit 87, ob87),
(nat_lit 88, oT),
(nat_lit 90, ob90),
(nat_lit 91, ob91),
(nat_lit 92, oT),
(nat_lit 95, ob95),
(nat_lit 96, ob96),
(nat_lit 97, oT),
(nat_lit 99, ob99),
(nat_lit 100, oT),
(nat_lit 102, ob102),
(nat_lit 103, ob103),
(nat_lit 104, oT),
(nat_lit 106, ob106),
(nat_lit 107, oT),
(nat_lit 109, ob109),
(nat_lit 110, ob110),
(nat_lit 111, oT),
(nat_lit 113, ob113),
(nat_lit 114, ob114),
(nat_lit 116, ob116),
(nat_lit 117, ob117),
(nat_lit 118, oT),
(nat_lit 121, ob121),
(nat_lit 122, ob122),
(nat_lit 123, oT),
(nat_lit 126, ob126),
(nat_lit 127, ob127),
(nat_lit 128, oT),
(nat_lit 130, ob130),
(nat_lit 131, ob131),
(nat_lit 133, ob133),
(nat_lit 134, ob134),
(nat_lit 135, oT),
(nat_lit 137, ob137),
(nat_lit 138, oT),
(nat_lit 140, ob140),
(nat_lit 141, ob141),
(nat_lit 142, oT),
(nat_lit 145, ob145),
(nat_lit 146, ob146)]
def asK : List Addr := [2, 3, 22, 24, 25, 27, 28, 29, 31, 32, 34, 35, 36, 38, 39, 41, 42, 43, 45, 46, 48, 49, 50, 51, 52, 53, 54, 58, 62, 64, 65, 67, 68, 69, 71, 72, 74, 75, 76, 78, 79, 81, 82, 83, 84, 85, 87, 88, 90, 91, 92, 95, 96, 97, 99, 100, 102, 103, 104, 106, 107, 109, 110, 111, 113, 114, 116, 117, 118, 121, 122, 123, 126, 127, 128, 130, 131, 133, 134, 135, 137, 138, 140, 141, 142, 145, 146]
def lsK : List Str := ["_special_chars_map", "_initial_missing", "reduce"]
noncomputable def vwK : Program := { PySem.Challenge.pw_ij0197_01 with main := { PySem.Challenge.pw_ij0197_01.main with body := [(tB 1), (tB 3), (tB 4), (tB 6), (tB 7), (tB 9), (tB 12), (tB 13), (tB 14), (tB 15), (tB 16), (tB 17), (tB 18), (tB 19), (tB 20)] } }
theorem asK_eq (P : Params) : asK = (heapK P).map (·.1) := by kernel_rfl
noncomputable abbrev hkK : Hook := kmHook heapK asK asK_eq [129, 112]
noncomputable abbrev xtK (s : Shared) : Bool := xlAt vwK [] s && recOk (RowW.records PySem.Challenge.rw_ij0197_01.row.toRowW) s
/-- the whole text; its statements in three parts -/
noncomputable abbrev p0 : Program := PySem.Challenge.pw_ij0197_01
noncomputable def bs1 : List Stmt := (behindTheImports p0).take 3
noncomputable def bs2 : List Stmt := ((behindTheImports p0).drop 3).take 1
noncomputable def bs3 : List Stmt := (behindTheImports p0).drop 4
noncomputable def en0 : Env := Env.mk p0.main.scope mainNs mainNs [] Str.empty none (Value.ref 13) (some 14) 0
noncomputable abbrev cd0 : Code := .body (behindTheImports p0) en0
abbrev ps0 : Pos := ⟨0, 0, 0, 0⟩
noncomputable abbrev st (T : BT) (n k : Nat) (os : OsState) : SharedT := ⟨T, n, {}, #[], {}, k, os⟩
theorem bs_eq : bs1 ++ (bs2 ++ (bs3 ++ [])) = behindTheImports p0 := by kernel_rfl
theorem opened : ∀ w : World, (fencedOpening treeTable p0 w 4214).map (fun s => (s.heap, s.gens, s.drawn, s.toks)) = some (boot_heap w.params, #[], {}, 181) := by intro w; kernel_rfl
theorem went (w : World) (os : OsState) : topGo treeTable p0 w 11 (some (.ref 6)) 12 ⟨boot_heap w.params, #[], {}, 181, os⟩ (topStub p0) = some ((st (T15 w.params) 15 187 os).abs, ⟨denote treeTable cd0, cd0, ps0, [topFrame ps0]⟩) := by kernel_rfl
theorem block (w : World) (os : OsState) : segRun treeTable p0 w 11 (some (.ref 6)) 1 1 (st (T15 w.params) 15 187 os).abs (blockOf (behindTheImports p0) en0 cd0 ps0 [topFrame ps0]) = some (.next, (st (T15 w.params) 15 187 os).abs, cd0, ps0) := by kernel_rfl
theorem part1 (w : World) : (fun os => segRunT treeTable p0 w 11 (some (.ref 6)) 1 346 (st (T15 w.params) 15 187 os) (piecesOf bs1 en0 cd0 ps0 [topFrame ps0])) = fun os => some (.next, st (T57 w.params) 57 253 os, cd0, ⟨50, 0, 50, 8⟩) := by
  rw [Fast.te10110043849684766642, Fast.te14364793385576792824]
  kernel_rfl
theorem part3 (w : World) : (fun os => segRunT treeTable p0 w 11 (some (.ref 6)) 1 448 (st (T62 w.params) 62 399 os) (piecesOf bs3 en0 cd0 ⟨51, 0, 51, 18⟩ [topFrame ps0])) = fun os => some (.next, st (T147 w.params) 147 519 os, cd0, ⟨160, 0, 189, 47⟩) := by
  rw [Fast.te10110043849684766642, Fast.te14364793385576792824]
  kernel_rfl
noncomputable abbrev Part2 (w : World) : Prop := (fun os => segRunT treeTable p0 w 11 (some (.ref 6)) 1 1253 (st (T57 w.params) 57 253 os) (piecesOf bs2 en0 cd0 ⟨50, 0, 50, 8⟩ [topFrame ps0])) = fun os => some (.next, st (T62 w.params) 62 399 os, cd0, ⟨51, 0, 51, 18⟩)
theorem part2ff (w : World) : Part2 ((w.withFollow "special-get-raises" false).withFollow "comprehension-iter-twice" false) := by
  unfold Part2; rw [Fast.te10110043849684766642, Fast.te14364793385576792824]; kernel_rfl
theorem part2ft (w : World) : Part2 ((w.withFollow "special-get-raises" true).withFollow "comprehension-iter-twice" false) := by
  unfold Part2; rw [Fast.te10110043849684766642, Fast.te14364793385576792824]; kernel_rfl
theorem part2tf (w : World) : Part2 ((w.withFollow "special-get-raises" false).withFollow "comprehension-iter-twice" true) := by
  unfold Part2; rw [Fast.te10110043849684766642, Fast.te14364793385576792824]; kernel_rfl
theorem part2tt (w : World) : Part2 ((w.withFollow "special-get-raises" true).withFollow "comprehension-iter-twice" true) := by
  unfold Part2; rw [Fast.te10110043849684766642, Fast.te14364793385576792824]; kernel_rfl
theorem part2 : ∀ w, Part2 w :=
  byRow2 "comprehension-iter-twice" (byRow2 "special-get-raises" (P := fun w => Part2 (w.withFollow "comprehension-iter-twice" false)) part2ff part2ft) (byRow2 "special-get-raises" (P := fun w => Part2 (w.withFollow "comprehension-iter-twice" true)) part2tf part2tt)
theorem done (w : World) (os : OsState) : topRun treeTable p0 w 11 (some (.ref 6)) 2 (st (T147 w.params) 147 519 os).abs ⟨doneF .next, cd0, ⟨160, 0, 189, 47⟩, [topFrame ps0]⟩ = some (st (T147 w.params) 147 519 os).abs := by kernel_rfl
theorem ran (w : World) (os : OsState) : topRun treeTable p0 w 11 (some (.ref 6)) (12 + (1 + (346 + (1253 + (448 + 2))))) ⟨boot_heap w.params, #[], {}, 181, os⟩ (topStub p0) = some (st (T147 w.params) 147 519 os).abs := by
  refine go_top (went w os) (piece_block (block w os) ?_)
  have k3 := piece_app (rest := []) (segRun_of (congrFun (part3 w) os)) (piece_nil (done w os))
  have k2 := piece_app (segRun_of (congrFun (part2 w) os)) k3
  have k1 := piece_app (segRun_of (congrFun (part1 w) os)) k2
  rw [bs_eq] at k1
  exact k1
theorem sized (w : World) : ((boot_heap w.params).isNs mainGlobals && (#[] : Array GenState).size == 0, (boot_heap w.params).objs.size, (boot_heap w.params).nsMap mainGlobals "__annotations__") = (true, 11, some (.ref 6)) := by kernel_rfl
theorem looked (w : World) : (fun os : OsState => ((staticsOk (importedModules p0.main.body) (boot_heap w.params) (st (T147 w.params) 147 519 os).abs.heap && namesBound p0 (st (T147 w.params) 147 519 os).abs.heap && gensDone (st (T147 w.params) 147 519 os).abs && laidKept (boot_heap w.params) (st (T147 w.params) 147 519 os).abs.heap),
    openSeen vwK lsK (importedModules p0.main.body) xtK true (st (T147 w.params) 147 519 os).abs, hkK.obs (st (T147 w.params) 147 519 os).abs)) = fun _ => (true, openGood vwK lsK, hkK.val w) := by
  rw [Fast.te4187177175401517315]
  kernel_rfl
theorem left : LeftO p0 vwK lsK xtK hkK.obs hkK.val 4214 :=
  LeftO.of_pieces (H₁ := fun P => absHeap (T147 P) 147 {}) opened sized ran (by decide) looked
theorem said_names : namesResolve p0 = true := by rw [Fast.te8377067652309620493]; kernel_rfl
theorem said_road : noRoadLSs { strict := !(importedModules p0.main.body).all cThrough.contains, foot := none, bare := List.filter (readsOut p0 p0.main.body) [Str.ofString "vars", Str.ofString "dir", Str.ofString "locals"] } p0.main.body = true := by
  rw [Fast.te8326940854005059898, Fast.te13343964577679436407, Fast.te5923862056798008813, Fast.te3471404346716756564]; kernel_rfl
theorem said_meet : (namesMeet p0 p0.main.body fun _ n => attrL n) = true := by rw [Fast.te17119622794617984870, Fast.te17868728402115742887]; kernel_rfl
theorem look_open : looksOpen p0 = true := by
  unfold looksOpen
  exact look_both (look_both (look_both (look_both (look_both (by kernel_rfl) (by kernel_rfl)) said_names) (by kernel_rfl)) said_road) said_meet
theorem part_said : PySem.Challenge.rw_ij0197_01.row.partSaid = true := by
  unfold OpenRow.partSaid
  repeat' with_reducible refine look_both ?_ ?_
  · exact look_open
  all_goals kernel_rfl
theorem law_road : noRoadLSs { strict := true, foot := some PySem.Challenge.rw_ij0197_01.bound', writes := PySem.Challenge.rw_ij0197_01.writes, may := PySem.Challenge.rw_ij0197_01.may } PySem.Challenge.rw_ij0197_01.footing = true := by
  rw [Fast.te8326940854005059898, Fast.te797321630700447069]; kernel_rfl
theorem law_said : PySem.Challenge.rw_ij0197_01.wellSaid = true := by
  unfold OpenLaw.wellSaid
  repeat' with_reducible refine look_both ?_ ?_
  · unfold OpenRow.wellSaid
    exact look_both (look_both part_said (by kernel_rfl)) (by kernel_rfl)
  all_goals first | with_reducible exact law_road | (rw [Fast.named_eq, Fast.te797321630700447069]; kernel_rfl) | (rw [Fast.named_eq]; kernel_rfl) | kernel_rfl

noncomputable abbrev Led := List (Addr × (Obj → Prop))

/-- the heap bears the base g and the ledger l -/
structure Hp (g : Heap) (l : Led) (h : Heap) : Prop where
  base : ∀ b o, g.get? b = some o → h.get? b = some o
  has : ∀ p ∈ l, ∃ o, h.get? p.1 = some o ∧ p.2 o
  nd : (l.map (·.1)).Nodup
  off : ∀ p ∈ l, g.get? p.1 = none

noncomputable def CellO (v : Value) (o : Obj) : Prop := o.data = .cell (some v)
noncomputable def CellU (x : Str) (u : List (Str × Value)) (o : Obj) : Prop := ∃ w, o.data = .cell w ∧ ∀ v, (x, v) ∈ u → w = some v
noncomputable def NsO (env : Env) (u : List (Str × Value)) (o : Obj) : Prop :=
  ∃ es ep, o.data = .dict es ep ∧ StrKeys es ∧ ∀ p ∈ u, env.kindOf p.1 = some .local → nsFind es p.1 = some p.2
noncomputable def ListO (xs : List Value) (o : Obj) : Prop := ∃ n, o = { cls := .type "list", data := .seq xs.toArray n }

section
variable {g h h' : Heap} {l l' : Led} {a : Addr} {P P' : Obj → Prop}

theorem Hp.get (H : Hp g l h) (hm : (a, P) ∈ l) : ∃ o, h.get? a = some o ∧ P o := H.has _ hm
theorem Hp.lt (H : Hp g l h) (hm : (a, P) ∈ l) : a < h.objs.size := let ⟨_, e, _⟩ := H.get hm; Heap.lt_size e
theorem Hp.perm (H : Hp g l h) (p : l.Perm l') : Hp g l' h :=
  ⟨H.base, fun q hq => H.has q (p.mem_iff.mpr hq), (p.map _).nodup_iff.mp H.nd, fun q hq => H.off q (p.mem_iff.mpr hq)⟩
theorem Hp.sub (H : Hp g l h) (p : l'.Sublist l) : Hp g l' h :=
  ⟨H.base, fun q hq => H.has q (p.subset hq), H.nd.sublist (p.map _), fun q hq => H.off q (p.subset hq)⟩
theorem Hp.tail {e} (H : Hp g (e :: l) h) : Hp g l h := H.sub (List.sublist_cons_self _ _)
theorem Hp.right (H : Hp g (l ++ l') h) : Hp g l' h := H.sub (List.sublist_append_right _ _)
theorem Hp.left (H : Hp g (l ++ l') h) : Hp g l h := H.sub (List.sublist_append_left _ _)
theorem Hp.swapA {a b c : Led} (H : Hp g (a ++ (b ++ c)) h) : Hp g (b ++ (a ++ c)) h := H.perm (List.perm_append_comm_assoc _ _ _)
theorem Hp.mid {e} {b : Led} (H : Hp g (e :: (l ++ b)) h) : Hp g (l ++ e :: b) h := H.perm List.perm_middle.symm
theorem Hp.unmid {e} {b : Led} (H : Hp g (l ++ e :: b) h) : Hp g (e :: (l ++ b)) h := H.perm List.perm_middle

theorem Hp.notMem (H : Hp g ((a, P) :: l) h) : ∀ p ∈ l, p.1 ≠ a := fun p hp e =>
  (List.nodup_cons.mp H.nd).1 (by have := List.mem_map_of_mem (f := fun p : Addr × (Obj → Prop) => p.1) hp; rw [e] at this; exact this)

theorem Hp.weak (H : Hp g ((a, P) :: l) h) (w : ∀ o, P o → P' o) : Hp g ((a, P') :: l) h := by
  refine ⟨H.base, fun q hq => ?_, H.nd, fun q hq => ?_⟩
  · rcases List.mem_cons.mp hq with rfl | hq
    · obtain ⟨o, e, p⟩ := H.has (a, P) (.head _); exact ⟨o, e, w o p⟩
    · exact H.has _ (.tail _ hq)
  · rcases List.mem_cons.mp hq with rfl | hq
    · exact H.off (a, P) (.head _)
    · exact H.off _ (.tail _ hq)

/-- the object at the head changes, all else stays -/
theorem Hp.set {o' : Obj} (H : Hp g ((a, P) :: l) h) (hk : ∀ b o, b ≠ a → h.get? b = some o → h'.get? b = some o) (ho : h'.get? a = some o') (hp : P' o') : Hp g ((a, P') :: l) h' := by
  have ha := H.off _ (.head _)
  refine ⟨fun b o e => hk b o (fun q => by rw [q, ha] at e; cases e) (H.base b o e), fun q hq => ?_, H.nd, fun q hq => ?_⟩
  · rcases List.mem_cons.mp hq with rfl | hq
    · exact ⟨o', ho, hp⟩
    · obtain ⟨o, e, p⟩ := H.has q (.tail _ hq)
      exact ⟨o, hk _ _ (H.notMem q hq) e, p⟩
  · rcases List.mem_cons.mp hq with rfl | hq
    · exact ha
    · exact H.off _ (.tail _ hq)
/-- an object of the heap that the ledger does not name changes -/
theorem Hp.other (H : Hp g l h) (ha : ∀ p ∈ l, p.1 ≠ a) (hg : g.get? a = none) (hk : ∀ b o, b ≠ a → h.get? b = some o → h'.get? b = some o) : Hp g l h' :=
  ⟨fun b o e => hk b o (fun q => by rw [q, hg] at e; cases e) (H.base b o e), fun q hq => let ⟨o, e, p⟩ := H.has q hq; ⟨o, hk _ _ (ha q hq) e, p⟩, H.nd, H.off⟩
theorem Hp.keeps (H : Hp g l h) (hk : ∀ b o, h.get? b = some o → h'.get? b = some o) : Hp g l h' :=
  ⟨fun b o e => hk b o (H.base b o e), fun q hq => let ⟨o, e, p⟩ := H.has q hq; ⟨o, hk _ _ e, p⟩, H.nd, H.off⟩
theorem Hp.fresh (H : Hp g l h) : ∀ p ∈ l, p.1 ≠ h.objs.size := fun p hp e => by
  obtain ⟨o, q, _⟩ := H.has p hp
  exact absurd (Heap.lt_size q) (by rw [e]; exact Nat.lt_irrefl _)
theorem Hp.freshG (H : Hp g l h) : g.get? h.objs.size = none := by
  cases e : g.get? h.objs.size with
  | none => rfl
  | some o => exact absurd (Heap.lt_size (H.base _ _ e)) (Nat.lt_irrefl _)
/-- a new entry -/
theorem Hp.cons {o : Obj} (H : Hp g l h) (ha : ∀ p ∈ l, p.1 ≠ a) (hg : g.get? a = none) (ho : h.get? a = some o) (hp : P o) : Hp g ((a, P) :: l) h := by
  refine ⟨H.base, fun q hq => ?_, ?_, fun q hq => ?_⟩
  · rcases List.mem_cons.mp hq with rfl | hq
    · exact ⟨o, ho, hp⟩
    · exact H.has _ hq
  · rw [List.map_cons, List.nodup_cons]
    exact ⟨fun hm => by obtain ⟨q, hq, e⟩ := List.mem_map.mp hm; exact ha q hq e, H.nd⟩
  · rcases List.mem_cons.mp hq with rfl | hq
    · exact hg
    · exact H.off _ hq
theorem Hp.push (H : Hp g l h) (o : Obj) (hp : P o) (hf : o.isFreed = false := by rfl) : Hp g ((h.objs.size, P) :: l) (h.push o) :=
  (H.keeps fun _ _ e => Heap.get?_push_of_some _ e).cons H.fresh H.freshG (Heap.get?_push_size _ hf) hp
end

/-- an entry of a ledger that is changed -/
inductive Upd (a : Addr) (P P' : Obj → Prop) : Led → Led → Prop
  | here {l} : Upd a P P' ((a, P) :: l) ((a, P') :: l)
  | there {e l l'} : Upd a P P' l l' → Upd a P P' (e :: l) (e :: l')
  | app {b l l'} : Upd a P P' l l' → Upd a P P' (b ++ l) (b ++ l')
theorem Upd.split {a : Addr} {P P' : Obj → Prop} {l l' : Led} (U : Upd a P P' l l') : ∃ r, l.Perm ((a, P) :: r) ∧ l'.Perm ((a, P') :: r) := by
  induction U with
  | here => exact ⟨_, .refl _, .refl _⟩
  | @there e l l' _ ih => obtain ⟨r, p, q⟩ := ih; exact ⟨e :: r, (p.cons e).trans (.swap ..), (q.cons e).trans (.swap ..)⟩
  | @app b l l' _ ih => obtain ⟨r, p, q⟩ := ih; exact ⟨b ++ r, (p.append_left b).trans List.perm_middle, (q.append_left b).trans List.perm_middle⟩

noncomputable abbrev ownL (own : List (Str × Addr)) (u : List (Str × Value)) : Led := own.map fun p => (p.2, CellU p.1 u)
noncomputable abbrev frL (env : Env) (own : List (Str × Addr)) (u : List (Str × Value)) : Led := (env.locals, NsO env u) :: ownL own u

/-- a frame: its locals and own cells (what is known of them: u), the ledger of all else -/
structure St (g : Heap) (env : Env) (own : List (Str × Addr)) (u : List (Str × Value)) (l : Led) (h : Heap) : Prop where
  hp : Hp g (frL env own u ++ l) h
  ok : ∀ p ∈ own, env.kindOf p.1 = some .cell ∧ env.cells.lookup p.1 = some p.2
  cl : ∀ x v, (x, v) ∈ u → env.kindOf x ≠ some .local → ∃ c, env.cells.lookup x = some c ∧ ((x, c) ∈ own ∨ ∃ P, (c, P) ∈ l ∧ ∀ o, P o → o.data = .cell (some v))
  kd : env.scope.kind = .function

noncomputable def drop (x : Str) (u : List (Str × Value)) : List (Str × Value) := u.filter fun p => !(p.1 == x)
theorem mem_drop {x y : Str} {v : Value} {u : List (Str × Value)} (h : (y, v) ∈ u) (hn : (y == x) = false) : (y, v) ∈ drop x u :=
  List.mem_filter.mpr ⟨h, by simp [hn]⟩
theorem of_drop {x y : Str} {v : Value} {u : List (Str × Value)} (h : (y, v) ∈ drop x u) : (y, v) ∈ u ∧ y ≠ x := by
  obtain ⟨h1, h2⟩ := List.mem_filter.mp h
  exact ⟨h1, by simpa using h2⟩

section
variable {g h h' : Heap} {env : Env} {own : List (Str × Addr)} {u u' : List (Str × Value)} {l l' : Led}

theorem St.all (S : St g env own u l h) : Hp g (frL env own u ++ l) h := S.hp
theorem St.led (S : St g env own u l h) : Hp g l h := S.hp.right
theorem St.get {a : Addr} {P : Obj → Prop} (S : St g env own u l h) (hm : (a, P) ∈ l) : ∃ o, h.get? a = some o ∧ P o := S.hp.has _ (List.mem_append_right _ hm)
theorem St.of (S : St g env own u l h) (H : Hp g (frL env own u ++ l') h') (hs : ∀ p ∈ l, p ∈ l') : St g env own u l' h' :=
  ⟨H, S.ok, fun x v hx hk => let ⟨c, e, m⟩ := S.cl x v hx hk; ⟨c, e, m.imp id fun ⟨P, m, q⟩ => ⟨P, hs _ m, q⟩⟩, S.kd⟩
theorem St.keeps (S : St g env own u l h) (hk : ∀ b o, h.get? b = some o → h'.get? b = some o) : St g env own u l h' := S.of (S.hp.keeps hk) fun _ h => h
theorem St.push (S : St g env own u l h) {P : Obj → Prop} (o : Obj) (hp : P o) (hf : o.isFreed = false := by rfl) : St g env own u ((h.objs.size, P) :: l) (h.push o) :=
  S.of (S.hp.push o hp hf).mid fun _ => List.mem_cons_of_mem _
theorem St.app {n : Led} (S : St g env own u l h) (H : Hp g (n ++ (frL env own u ++ l)) h') : St g env own u (n ++ l) h' :=
  S.of H.swapA fun _ => List.mem_append_right _
theorem NsO.mono {o : Obj} (hu : ∀ p ∈ u', p ∈ u) (n : NsO env u o) : NsO env u' o := let ⟨es, ep, d, k, f⟩ := n; ⟨es, ep, d, k, fun p hp => f p (hu p hp)⟩
theorem Hp.ownMono (hu : ∀ p ∈ u', p ∈ u) : ∀ {own : List (Str × Addr)} {l : Led}, Hp g (ownL own u ++ l) h → Hp g (ownL own u' ++ l) h
  | [], _, H => H
  | p :: own, l, H => by
    have H1 : Hp g ((p.2, CellU p.1 u') :: (ownL own u ++ l)) h := H.weak (fun o ⟨w, d, f⟩ => ⟨w, d, fun v hv => f v (hu _ hv)⟩)
    have H2 : Hp g (ownL own u ++ ((p.2, CellU p.1 u') :: l)) h := H1.mid
    exact (Hp.ownMono hu H2).unmid
/-- less is known of the names -/
theorem St.mono (S : St g env own u l h) (hu : ∀ p ∈ u', p ∈ u) : St g env own u' l h := by
  refine ⟨?_, S.ok, fun x v hx hk => ?_, S.kd⟩
  · have H1 : Hp g ((env.locals, NsO env u') :: (ownL own u ++ l)) h := S.hp.weak (fun o n => n.mono hu)
    exact (Hp.ownMono hu (H1.mid (l := ownL own u))).unmid
  · exact S.cl x v (hu _ hx) hk
end

theorem NsO.ns {env : Env} {u : List (Str × Value)} {h : Heap} {L : Addr} (x : ∃ o, h.get? L = some o ∧ NsO env u o) : ∃ m, h.Ns L m ∧ ∀ p ∈ u, env.kindOf p.1 = some .local → m p.1 = some p.2 :=
  let ⟨o, e, es, ep, d, k, f⟩ := x; ⟨fun y => nsFind es y, ⟨o, es, ep, e, d, k, fun _ => rfl⟩, f⟩
theorem NsO.of_ns {env : Env} {u : List (Str × Value)} {h : Heap} {L : Addr} {m : Str → Option Value} (x : h.Ns L m) (hm : ∀ p ∈ u, env.kindOf p.1 = some .local → m p.1 = some p.2) : ∃ o, h.get? L = some o ∧ NsO env u o :=
  let ⟨o, es, ep, e, d, k, f⟩ := x; ⟨o, e, es, ep, d, k, fun p hp hl => (f _).trans (hm p hp hl)⟩

section
variable {M : Model} {A : Around} {E : Value → Shared → Prop} {s : Shared} {g : Heap} {env : Env} {own : List (Str × Addr)} {u : List (Str × Value)} {l F : Led}

theorem ldn (S : St g env own u l s.heap) {x : Str} {v : Value} {Q : Value → Shared → Prop} (hx : (x, v) ∈ u) (hl : env.kindOf x = some .local) (h : Q v s) : wpAny M A (loadName env x) Q E s := by
  obtain ⟨m, hn, hm⟩ := NsO.ns (S.hp.has _ (.head _))
  exact wpAny_loadName_local S.kd hl hn (hm _ hx hl) h
theorem St.cell (S : St g env own u l s.heap) {x : Str} {v : Value} (hx : (x, v) ∈ u) (hl : env.kindOf x ≠ some .local) : ∃ c, env.cells.lookup x = some c ∧ s.heap.IsCell c (some v) := by
  obtain ⟨c, e, m | ⟨P, m, q⟩⟩ := S.cl x v hx hl
  · obtain ⟨o, ho, w, d, f⟩ := S.hp.has (c, CellU x u) (List.mem_cons_of_mem _ (List.mem_append_left _ (List.mem_map_of_mem (f := fun p : Str × Addr => (p.2, CellU p.1 u)) m)))
    exact ⟨c, e, o, ho, d.trans (by rw [f v hx])⟩
  · obtain ⟨o, ho, p⟩ := S.get m
    exact ⟨c, e, o, ho, q o p⟩
theorem ldc (S : St g env own u l s.heap) {x : Str} {v : Value} {Q : Value → Shared → Prop} (hx : (x, v) ∈ u) (hl : env.kindOf x = some .cell) (h : Q v s) : wpAny M A (loadName env x) Q E s := by
  obtain ⟨c, e, ic⟩ := S.cell hx (by rw [hl]; decide)
  exact wpAny_loadName_cell S.kd hl e ic h
theorem ldf (S : St g env own u l s.heap) {x : Str} {v : Value} {Q : Value → Shared → Prop} (hx : (x, v) ∈ u) (hl : env.kindOf x = some .free) (hn : (x == ("__classdict__" : Str)) = false) (h : Q v s) : wpAny M A (loadName env x) Q E s := by
  obtain ⟨c, e, ic⟩ := S.cell hx (by rw [hl]; decide)
  exact wpAny_loadName_free S.kd hl e ic h hn

theorem stn (S : St g env own u l s.heap) {x : Str} {v : Value} {Q : Unit → Shared → Prop} (hl : env.kindOf x = some .local)
    (h : ∀ h', St g env own ((x, v) :: drop x u) l h' → Q () { s with heap := h', toks := s.toks + 1 }) : wpAny M A (storeName env x v) Q E s := by
  obtain ⟨m, hn, hm⟩ := NsO.ns (S.hp.has _ (.head _))
  refine wpAny_storeName_local hl hn (fun h' hn' hs => h h' ⟨?_, S.ok, ?_, S.kd⟩) (by rw [S.kd]; rfl)
  · obtain ⟨o', ho', p'⟩ := NsO.of_ns (env := env) (u := (x, v) :: drop x u) hn' (fun p hp hk => by
      rcases List.mem_cons.mp hp with rfl | hp
      · simp
      · obtain ⟨h1, h2⟩ := of_drop hp
        simp only [if_neg h2]; exact hm _ h1 hk)
    have H1 : Hp g ((env.locals, NsO env ((x, v) :: drop x u)) :: (ownL own u ++ l)) h' := Hp.set S.hp (fun b o hb e => (hs.2 b hb).trans e) ho' p'
    -- the own cells: x is no cell
    have key : ∀ (ow : List (Str × Addr)) (r : Led), (∀ p ∈ ow, p.1 ≠ x) → Hp g (ownL ow u ++ r) h' → Hp g (ownL ow ((x, v) :: drop x u) ++ r) h' := by
      intro ow
      induction ow with
      | nil => exact fun _ _ H => H
      | cons p ow ih =>
        intro r hne H
        have hpx : p.1 ≠ x := hne p (.head _)
        have H2 : Hp g ((p.2, CellU p.1 ((x, v) :: drop x u)) :: (ownL ow u ++ r)) h' := H.weak (fun o ⟨w, d, f⟩ => ⟨w, d, fun v' hv' => by
          rcases List.mem_cons.mp hv' with e | hv'
          · exact absurd (Prod.mk.inj e).1 hpx
          · exact f v' (of_drop hv').1⟩)
        exact (ih _ (fun q hq => hne q (.tail _ hq)) H2.mid).unmid
    have hown : ∀ p ∈ own, p.1 ≠ x := fun p hp e => by have := (S.ok p hp).1; rw [e, hl] at this; cases this
    exact (key own _ hown H1.mid).unmid
  · intro y v' hy hk
    rcases List.mem_cons.mp hy with e | hy
    · rw [(Prod.mk.inj e).1] at hk; exact absurd hl hk
    · exact S.cl y v' (of_drop hy).1 hk

theorem stc (S : St g env own u l s.heap) {x : Str} {c : Addr} {v : Value} {Q : Unit → Shared → Prop} (hm : (x, c) ∈ own)
    (h : ∀ h', St g env own ((x, v) :: drop x u) l h' → Q () { s with heap := h' }) : wpAny M A (storeName env x v) Q E s := by
  obtain ⟨hl, hc⟩ := S.ok _ hm
  have hmem : (c, CellU x u) ∈ frL env own u ++ l := List.mem_cons_of_mem _ (List.mem_append_left _ (List.mem_map_of_mem (f := fun p : Str × Addr => (p.2, CellU p.1 u)) hm))
  obtain ⟨o, ho, w, d, f⟩ := S.hp.has _ hmem
  refine wpAny_storeName_cell S.kd hl hc ⟨o, ho, d⟩ (fun h' hc' hs => h h' ⟨?_, S.ok, ?_, S.kd⟩)
  · obtain ⟨oc, hoc, hdc⟩ := hc'
    have nd : (env.locals :: (own.map (·.2) ++ l.map (·.1))).Nodup := by simpa [frL, ownL, List.map_map, Function.comp_def] using S.hp.nd
    refine ⟨fun b o e => (hs.2 b (fun q => ?_)).trans (S.hp.base b o e), fun q hq => ?_, ?_, fun q hq => ?_⟩
    · have := S.hp.off _ hmem; rw [q] at e; rw [show g.get? c = none from this] at e; cases e
    · -- each entry
      have old : ∀ p ∈ frL env own u ++ l, p.1 ≠ c → h'.get? p.1 = s.heap.get? p.1 := fun p _ hp => hs.2 _ hp
      rcases List.mem_append.mp hq with hq | hq
      · rcases List.mem_cons.mp hq with rfl | hq
        · obtain ⟨o2, e2, n2⟩ := S.hp.has (env.locals, NsO env u) (.head _)
          have hne : env.locals ≠ c := fun q => by
            exact (List.nodup_cons.mp nd).1 (q ▸ List.mem_append_left _ (List.mem_map_of_mem (f := fun p : Str × Addr => p.2) hm))
          refine ⟨o2, (hs.2 _ hne).trans e2, ?_⟩
          obtain ⟨es, ep, d2, k2, f2⟩ := n2
          refine ⟨es, ep, d2, k2, fun p hp hk => ?_⟩
          rcases List.mem_cons.mp hp with rfl | hp
          · rw [hl] at hk; cases hk
          · exact f2 p (of_drop hp).1 hk
        · obtain ⟨p, hp, rfl⟩ := List.mem_map.mp hq
          obtain ⟨kp1, kp2⟩ := S.ok p hp
          by_cases hpc : p.2 = c
          · refine ⟨oc, by rw [hpc]; exact hoc, some v, hdc, fun v' hv' => ?_⟩
            rcases List.mem_cons.mp hv' with e | hv'
            · rw [(Prod.mk.inj e).2]
            · -- then the names are the same, or the cell is told twice
              have hpn : p.1 = x := by
                have h2 : (own.map (·.2)).Nodup := (List.nodup_append.mp (List.nodup_cons.mp nd).2).1
                have h3 : ∀ (ow : List (Str × Addr)), (ow.map (·.2)).Nodup → p ∈ ow → (x, c) ∈ ow → p = (x, c) := by
                  intro ow
                  induction ow with
                  | nil => intro _ hp; cases hp
                  | cons q ow ih =>
                    intro hn hp' hx'
                    rw [List.map_cons, List.nodup_cons] at hn
                    rcases List.mem_cons.mp hp' with rfl | hp' <;> rcases List.mem_cons.mp hx' with e | hx'
                    · exact e.symm
                    · exact absurd (hpc ▸ List.mem_map_of_mem (f := fun q : Str × Addr => q.2) hx') hn.1
                    · have h9 : c ∈ ow.map (·.2) := by rw [← hpc]; exact List.mem_map_of_mem (f := fun q : Str × Addr => q.2) hp'
                      rw [← e] at hn; exact absurd h9 hn.1
                    · exact ih hn.2 hp' hx'
                rw [h3 own h2 hp hm]
              exact absurd hpn (of_drop hv').2
          · obtain ⟨o2, e2, w2, d2, f2⟩ := S.hp.has (p.2, CellU p.1 u) (List.mem_append_left _ (List.mem_cons_of_mem _ (List.mem_map_of_mem (f := fun p : Str × Addr => (p.2, CellU p.1 u)) hp)))
            refine ⟨o2, (hs.2 _ hpc).trans e2, w2, d2, fun v' hv' => ?_⟩
            rcases List.mem_cons.mp hv' with e | hv'
            · have : p.2 = c := by have := kp2; rw [(Prod.mk.inj e).1, hc] at this; exact (Option.some.inj this).symm
              exact absurd this hpc
            · exact f2 v' (of_drop hv').1
      · obtain ⟨o2, e2, p2⟩ := S.hp.has q (List.mem_append_right _ hq)
        refine ⟨o2, (hs.2 _ fun e => ?_).trans e2, p2⟩
        exact (List.nodup_append.mp (List.nodup_cons.mp nd).2).2.2 c (List.mem_map_of_mem (f := fun p : Str × Addr => p.2) hm) q.1 (List.mem_map_of_mem (f := fun p : Addr × (Obj → Prop) => p.1) hq) e.symm
    · have e : (frL env own ((x, v) :: drop x u) ++ l).map (·.1) = (frL env own u ++ l).map (·.1) := by simp [frL, ownL, List.map_map, Function.comp_def]
      rw [e]; exact S.hp.nd
    · rcases List.mem_append.mp hq with hq | hq
      · rcases List.mem_cons.mp hq with rfl | hq
        · exact S.hp.off (env.locals, NsO env u) (.head _)
        · obtain ⟨p, hp, rfl⟩ := List.mem_map.mp hq
          exact S.hp.off (p.2, CellU p.1 u) (List.mem_append_left _ (List.mem_cons_of_mem _ (List.mem_map_of_mem (f := fun p : Str × Addr => (p.2, CellU p.1 u)) hp)))
      · exact S.hp.off _ (List.mem_append_right _ hq)
  · intro y v' hy hk
    rcases List.mem_cons.mp hy with e | hy
    · rw [(Prod.mk.inj e).1]; exact ⟨c, hc, .inl hm⟩
    · exact S.cl y v' (of_drop hy).1 hk
end

theorem cellsFrom_append : ∀ (names : List (Str × NameKind)) (n : Nat) (acc : List (Str × Addr)), cellsFrom n names acc = cellsFrom n names [] ++ acc
  | [], _, _ => rfl
  | (x, k) :: r, n, acc => by
    unfold cellsFrom
    split
    · rw [cellsFrom_append r (n + 1) ((x, n) :: acc), cellsFrom_append r (n + 1) [(x, n)], List.append_assoc]; rfl
    · exact cellsFrom_append r n acc

theorem cellsFrom_mem : ∀ (names : List (Str × NameKind)) (n : Nat) (p : Str × Addr), p ∈ cellsFrom n names [] → (p.1, NameKind.cell) ∈ names
  | [], _, _, h => by cases h
  | (x, k) :: r, n, p, h => by
    unfold cellsFrom at h
    split at h
    · rename_i hk
      rw [cellsFrom_append] at h
      rcases List.mem_append.mp h with h | h
      · exact .tail _ (cellsFrom_mem r _ p h)
      · have := List.mem_singleton.mp h; subst this
        rw [show k = .cell from by simpa using hk]; exact .head _
    · exact .tail _ (cellsFrom_mem r _ p h)

theorem lookup_of_mem {α : Type} : ∀ {l : List (Str × α)} {x : Str} {a : α}, (l.map (·.1)).Nodup → (x, a) ∈ l → l.lookup x = some a
  | (y, b) :: r, x, a, hn, h => by
    rw [List.map_cons, List.nodup_cons] at hn
    rw [List.lookup_cons]
    rcases List.mem_cons.mp h with e | h
    · cases e; simp
    · have : (x == y) = false := by
        have h1 : x ∈ r.map (·.1) := List.mem_map_of_mem (f := fun p : Str × α => p.1) h
        have : x ≠ y := fun e => hn.1 (e ▸ h1)
        simpa using this
      rw [this]; exact lookup_of_mem hn.2 h

theorem cellsFrom_keys : ∀ (names : List (Str × NameKind)) (n : Nat), (names.map (·.1)).Nodup → ((cellsFrom n names []).map (·.1)).Nodup
  | [], _, _ => List.nodup_nil
  | (x, k) :: r, n, h => by
    rw [List.map_cons, List.nodup_cons] at h
    unfold cellsFrom
    split
    · rw [cellsFrom_append, List.map_append, List.nodup_append]
      refine ⟨cellsFrom_keys r _ h.2, by simp, fun a ha b hb => ?_⟩
      obtain ⟨p, hp, rfl⟩ := List.mem_map.mp ha
      have hb' : b = x := by simpa using hb
      rintro e
      have h9 : p.1 ∈ r.map (·.1) := List.mem_map_of_mem (f := fun p : Str × NameKind => p.1) (cellsFrom_mem r _ p hp)
      exact h.1 (by rw [← hb', ← e]; exact h9)
    · exact cellsFrom_keys r _ h.2

theorem Hp.cells {g : Heap} {u : List (Str × Value)} : ∀ {names : List (Str × NameKind)} {h : Heap} {l : Led}, (∀ x, (x, NameKind.cell) ∈ names → ∀ v, (x, v) ∉ u) → Hp g l h →
    Hp g (ownL (cellsFrom h.objs.size names []) u ++ l) (pushCells h names)
  | [], _, _, _, H => H
  | (x, k) :: r, h, l, hu, H => by
    unfold cellsFrom pushCells
    split
    · rename_i hk
      have hk' : k = .cell := by simpa using hk
      subst hk'
      have H1 := H.push (P := CellU x u) { cls := .type "cell", data := .cell none } ⟨none, rfl, fun v hv => absurd hv (hu x (.head _) v)⟩
      have H2 := Hp.cells (names := r) (fun y hy => hu y (.tail _ hy)) H1
      rw [Heap.size_push] at H2
      rw [cellsFrom_append]
      simpa [ownL] using H2
    · exact Hp.cells (fun y hy => hu y (.tail _ hy)) H

noncomputable def bindU : List (Str × Value) → List (Str × Value) → List (Str × Value)
  | [], u => u
  | (x, v) :: r, u => bindU r ((x, v) :: drop x u)
theorem mem_bindU_old : ∀ {b u : List (Str × Value)} {p : Str × Value}, p ∈ u → (∀ q ∈ b, q.1 ≠ p.1) → p ∈ bindU b u
  | [], _, _, h, _ => h
  | (x, v) :: r, u, p, h, hn => mem_bindU_old (b := r) (.tail _ (mem_drop (v := p.2) h (by have := hn _ (.head _); simpa using Ne.symm this))) fun q hq => hn q (.tail _ hq)
theorem mem_bindU : ∀ {b u : List (Str × Value)} {p : Str × Value}, (b.map (·.1)).Nodup → p ∈ b → p ∈ bindU b u
  | (x, v) :: r, u, p, hn, h => by
    rw [List.map_cons, List.nodup_cons] at hn
    unfold bindU
    rcases List.mem_cons.mp h with rfl | h
    · exact mem_bindU_old (.head _) fun q hq e => hn.1 (e ▸ List.mem_map_of_mem (f := fun p : Str × Value => p.1) hq)
    · exact mem_bindU hn.2 h

section
variable {M : Model} {A : Around} {E : Value → Shared → Prop} {s : Shared} {g : Heap} {env : Env} {own : List (Str × Addr)} {u : List (Str × Value)} {l F : Led}

theorem binds_St (f : Str × Value → PUnit → Sem (ForInStep PUnit)) (hf : ∀ n v u, f (n, v) u = (do storeName env n v; pure (.yield ⟨⟩))) :
    ∀ (binds : List (Str × Value)) (u : List (Str × Value)) (s : Shared) (Q : PUnit → Shared → Prop), St g env own u l s.heap →
      (∀ x ∈ binds, env.kindOf x.1 = some .local ∨ (∃ c, (x.1, c) ∈ own)) →
      (∀ h' tk, St g env own (bindU binds u) l h' → Q ⟨⟩ { s with heap := h', toks := tk }) → wpAny M A (forIn binds ⟨⟩ f) Q E s
  | [], u, s, Q, S, _, h => by rw [List.forIn_nil]; exact wpAny_pure (h _ _ S)
  | (n, v) :: r, u, s, Q, S, hk, h => by
    rw [List.forIn_cons, hf]
    have hr : ∀ y ∈ r, env.kindOf y.1 = some .local ∨ (∃ c, (y.1, c) ∈ own) := fun y hy => hk y (.tail _ hy)
    rcases hk (n, v) (.head _) with hl | ⟨c, hc⟩
    · exact wpAny_bind (wpAny_bind (stn S hl fun h' S' => wpAny_pure (binds_St f hf r _ _ Q S' hr fun h'' tk S'' => h h'' tk S'')))
    · exact wpAny_bind (wpAny_bind (stc S hc fun h' S' => wpAny_pure (binds_St f hf r _ _ Q S' hr fun h'' tk S'' => h h'' tk S'')))
end

noncomputable def fenv (fd : FuncData) (L fa : Addr) : Env := newEnv fd.scope L fd.globals (cellsFrom (L + 1) fd.scope.names fd.closure) (fd.qualname ++ ".<locals>.") (some fa) fd.code none fd.builtins
noncomputable def fown (fd : FuncData) (L : Addr) : List (Str × Addr) := cellsFrom (L + 1) fd.scope.names []

theorem kindOf_fenv (fd : FuncData) (L fa : Addr) (x : Str) : (fenv fd L fa).kindOf x = fd.scope.names.lookup x := rfl

section
variable {M : Model} {A : Around} {E : Value → Shared → Prop} {s : Shared} {g : Heap} {F : Led}

theorem newEnv_St {fd : FuncData} {fa : Addr} {binds cu : List (Str × Value)} {Q : Env → Shared → Prop} (H : Hp g F s.heap)
    (hk : fd.scope.kind = .function) (hnd : (fd.scope.names.map (·.1)).Nodup) (hbn : (binds.map (·.1)).Nodup)
    (hb : ∀ x ∈ binds, fd.scope.names.lookup x.1 = some .local ∨ fd.scope.names.lookup x.1 = some .cell)
    (hcu : ∀ x v, (x, v) ∈ cu → fd.scope.names.lookup x = some .free ∧ ∃ c, fd.closure.lookup x = some c ∧ ∃ P, (c, P) ∈ F ∧ ∀ o, P o → o.data = .cell (some v))
    (hQ : ∀ h' tk, St g (fenv fd s.heap.objs.size fa) (fown fd s.heap.objs.size) (binds ++ cu) F h' → Q (fenv fd s.heap.objs.size fa) { s with heap := h', toks := tk }) :
    wpAny M A (newFunctionEnv fd.scope fd.globals fd.closure binds (fd.qualname ++ ".<locals>.") (some fa) fd.code none fd.builtins) Q E s := by
  simp only [newFunctionEnv, Option.isSome_none, Bool.false_eq_true, if_false]
  refine wpAny_bind (wpAny_alloc ?_)
  refine wpAny_bind (wpAny_layCells _ (fun name kind cells => by cases hkc : kind == NameKind.cell <;> simp [hkc]) _ _ _ _ ?_)
  rw [show ({ s with heap := s.heap.push { cls := .type "frame", data := .dict #[] } } : Shared).heap.objs.size = s.heap.objs.size + 1 from Heap.size_push ..]
  dsimp only
  have hfree : ∀ x v, (x, v) ∈ cu → fd.scope.names.lookup x = some .free := fun x v h => (hcu x v h).1
  have H1 : Hp g ((s.heap.objs.size, NsO (fenv fd s.heap.objs.size fa) cu) :: F) (s.heap.push { cls := .type "frame", data := .dict #[] }) :=
    H.push _ ⟨#[], 0, rfl, fun e he => by simp at he, fun p hp hl => by rw [kindOf_fenv, hfree p.1 p.2 hp] at hl; cases hl⟩
  have H2 := H1.cells (u := cu) (names := fd.scope.names) (fun x hx v hv => by
    have := lookup_of_mem hnd hx
    rw [hfree x v hv] at this; cases this)
  rw [Heap.size_push] at H2
  have S0 : St g (fenv fd s.heap.objs.size fa) (fown fd s.heap.objs.size) cu F (pushCells (s.heap.push { cls := .type "frame", data := .dict #[] }) fd.scope.names) := by
    refine ⟨H2.unmid, fun p hp => ?_, fun x v hx _ => ?_, hk⟩
    · have hm := cellsFrom_mem _ _ p hp
      refine ⟨lookup_of_mem hnd hm, ?_⟩
      show (cellsFrom (s.heap.objs.size + 1) fd.scope.names fd.closure).lookup p.1 = some p.2
      rw [cellsFrom_append, List.lookup_append, lookup_of_mem (cellsFrom_keys _ _ hnd) hp]; rfl
    · obtain ⟨k, c, e, P, hm, hp⟩ := hcu x v hx
      refine ⟨c, ?_, .inr ⟨P, hm, hp⟩⟩
      show (cellsFrom (s.heap.objs.size + 1) fd.scope.names fd.closure).lookup x = some c
      rw [cellsFrom_append, List.lookup_append, e]
      cases q : (cellsFrom (s.heap.objs.size + 1) fd.scope.names []).lookup x with
      | none => rfl
      | some c' =>
        have := lookup_of_mem hnd (cellsFrom_mem _ _ _ (mem_of_lookup q))
        rw [k] at this; cases this
  refine wpAny_bind (binds_St (env := fenv fd s.heap.objs.size fa) _ (fun _ _ _ => rfl) binds cu _ _ S0 (fun x hx => ?_) fun h' tk S' => wpAny_pure (hQ h' tk (S'.mono fun p hp => ?_)))
  · rcases hb x hx with e | e
    · exact .inl e
    · refine .inr ?_
      have hm := mem_of_lookup e
      -- a cell name has a cell
      have : ∀ (names : List (Str × NameKind)) (n : Nat), (x.1, NameKind.cell) ∈ names → ∃ c, (x.1, c) ∈ cellsFrom n names [] := by
        intro names
        induction names with
        | nil => intro _ h; cases h
        | cons q r ih =>
          intro n h
          obtain ⟨y, k⟩ := q
          unfold cellsFrom
          rcases List.mem_cons.mp h with e | h
          · cases e; rw [if_pos (by rfl), cellsFrom_append]; exact ⟨n, List.mem_append_right _ (.head _)⟩
          · split
            · obtain ⟨c, hc⟩ := ih (n + 1) h
              rw [cellsFrom_append]; exact ⟨c, List.mem_append_left _ hc⟩
            · exact ih n h
      exact this _ _ hm
  · rcases List.mem_append.mp hp with hp | hp
    · exact mem_bindU hbn hp
    · refine mem_bindU_old hp fun q hq e => ?_
      have h1 := hfree p.1 p.2 hp
      rw [← e] at h1
      rcases hb q hq with e2 | e2 <;> · rw [e2] at h1; cases h1
end

section
variable {prog : Program} {w : World} {A : Around} {s : Shared} {g : Heap} {F : Led}
/-- a def's call -/
theorem code_enter {R : Result → Shared → Prop} {fa : Addr} {args : Args} {o : Obj} {fd : FuncData} {body : List Stmt} {binds cu : List (Str × Value)} (H : Hp g F s.heap)
    (hlim : g.NoLimit) (hroom : A.depth < recursionLimit) (ho : s.heap.get? fa = some o) (hdata : o.data = .func fd) (hcd : s.heap.CodeRec fd.code fd.qualname)
    (hbody : fd.body = .stmts body) (hbind : bindArgs fd args = pure binds)
    (h : ∀ L h₁ tk, St g (fenv fd L fa) (fown fd L) (binds ++ cu) F h₁ →
      wpAny (model prog w) (A.deeper (fenv fd L fa)) (execs body (fenv fd L fa)) (fun f s' => R (.ok (.ret (match f with | .ret v => v | _ => .none))) s') (fun _ _ => False) { s with heap := h₁, toks := tk })
    (hk : fd.scope.kind = .function) (hnd : (fd.scope.names.map (·.1)).Nodup) (hbn : (binds.map (·.1)).Nodup)
    (hb : ∀ x ∈ binds, fd.scope.names.lookup x.1 = some .local ∨ fd.scope.names.lookup x.1 = some .cell)
    (hcu : ∀ x v, (x, v) ∈ cu → fd.scope.names.lookup x = some .free ∧ ∃ c, fd.closure.lookup x = some c ∧ ∃ P, (c, P) ∈ F ∧ ∀ o, P o → o.data = .cell (some v))
    (hco : fd.scope.isCoroutine = false) (hgen : fd.scope.isGenerator = false) :
    codeAny (model prog w) A (.call (.ref fa) args) R s := by
  refine codeAny_call_function hroom ho hdata hco hgen hbody hcd ?_
  rw [hbind]
  refine wpAny_pure (newEnv_St H hk hnd hbn hb hcu fun h' tk S => ?_)
  exact ⟨hlim.keeps S.hp.base, codeAny_func (wpAny_mono (h _ _ _ S) (fun _ _ q => q) fun _ _ q => q.elim)⟩
end
noncomputable abbrev KK (w : World) : Frag := heapK w.params
noncomputable def fdOf (w : World) (a : Addr) : FuncData := match (KK w).lookup a with | some ⟨_, _, .func fd, _⟩ => fd | _ => default

/-- what is known of the world and the base -/
structure Wd (w : World) (g : Heap) : Prop where
  X : (KK w).In g
  ns : ∃ mg, g.Ns mainGlobals mg
  b : ∃ mb, g.Ns builtinsNs mb ∧ ∀ x : Str, x ≠ "__name__" → mb x = bootBuiltins x
  lim : g.NoLimit

/-- room in the stack -/
structure Rm (A : Around) (n : Nat) : Prop where
  hh : A.handled = none
  dp : A.depth + n < 900
  un : A.units + 8 * n < 9000
theorem Rm.room {A : Around} {n : Nat} (R : Rm A n) : A.depth < recursionLimit := by have := R.dp; show A.depth < 1000; omega
theorem Rm.units {A : Around} {n : Nat} (R : Rm A n) : A.units < cLine := by have := R.un; show A.units < 9900; omega
theorem Rm.deeper {A : Around} {n : Nat} (R : Rm A (n + 1)) (env : Env) : Rm (A.deeper env) n :=
  ⟨R.hh, by have := R.dp; show A.depth + 1 + n < 900; omega, by have := R.un; show A.units + 3 + 8 * n < 9000; omega⟩
theorem Rm.in1 {A : Around} {n : Nat} (R : Rm A (n + 1)) : Rm A.in1 n :=
  ⟨R.hh, by have := R.dp; show A.depth + n < 900; omega, by have := R.un; show A.units + 1 + 8 * n < 9000; omega⟩
theorem Rm.less {A : Around} {n m : Nat} (R : Rm A n) (h : m ≤ n) : Rm A m := ⟨R.hh, by have := R.dp; omega, by have := R.un; omega⟩

section
variable {prog : Program} {w : World} {A : Around} {E : Value → Shared → Prop} {s : Shared} {g : Heap} {env : Env} {own : List (Str × Addr)} {u : List (Str × Value)} {l F : Led} {x : Str} {v : Value} {pos : Pos} {Q : Value → Shared → Prop}

theorem ldL (S : St g env own u l s.heap) (hx : (x, v) ∈ u) (hl : env.kindOf x = some .local) (hd : (x == ("__debug__" : Str)) = false) (h : Q v s) : wpAny (model prog w) A (eval (.Name x pos) env) Q E s := wpAny_Name (ldn S hx hl h) hd
theorem ldC (S : St g env own u l s.heap) (hx : (x, v) ∈ u) (hl : env.kindOf x = some .cell) (hd : (x == ("__debug__" : Str)) = false) (h : Q v s) : wpAny (model prog w) A (eval (.Name x pos) env) Q E s := wpAny_Name (ldc S hx hl h) hd
theorem ldF (S : St g env own u l s.heap) (hx : (x, v) ∈ u) (hl : env.kindOf x = some .free) (hd : (x == ("__debug__" : Str)) = false) (hn : (x == ("__classdict__" : Str)) = false) (h : Q v s) : wpAny (model prog w) A (eval (.Name x pos) env) Q E s := wpAny_Name (ldf S hx hl hn h) hd
theorem ldG (W : Wd w g) (S : St g env own u l s.heap) (e : nsIn (KK w) mainGlobals x = some (some v)) (hl : env.kindOf x = some .globalImplicit) (hg : env.globals = mainGlobals) (hd : (x == ("__debug__" : Str)) = false) (h : Q v s) :
    wpAny (model prog w) A (eval (.Name x pos) env) Q E s := by
  obtain ⟨mg, hmg⟩ := W.ns
  exact Name_function_global S.kd hl (loadGlobal_global (env := env) (hg ▸ hmg.keeps S.hp.base) (mg_of W.X hmg e) h) hd
theorem ldB (W : Wd w g) (S : St g env own u l s.heap) (e : nsIn (KK w) mainGlobals x = some none) (hv : bootBuiltins x = some v) (hl : env.kindOf x = some .globalImplicit) (hg : env.globals = mainGlobals) (hb : env.builtins = builtinsNs) (hd : (x == ("__debug__" : Str)) = false)
    (hn : (x == ("__name__" : Str)) = false) (h : Q v s) : wpAny (model prog w) A (eval (.Name x pos) env) Q E s := by
  obtain ⟨mg, hmg⟩ := W.ns
  obtain ⟨mb, hmb, hbb⟩ := W.b
  exact Name_function_global S.kd hl (loadGlobal_builtin (env := env) (hg ▸ hmg.keeps S.hp.base) (mg_none_of W.X hmg e) (hb ▸ hmb.keeps S.hp.base) ((hbb x (by simpa using hn)).trans hv) h) hd

theorem splN (h : Q' [] s) : wpAny (model prog w) A (spliced (backTo pos (starEach [] env))) Q' E s := wpAny_pure h
theorem splC {e : Expr} {r : List Expr} {Q : List Value → Shared → Prop} (he : starEach (e :: r) env = (false, eval e env) :: starEach r env)
    (h : wpAny (model prog w) A (eval e env) (fun v s₁ => wpAny (model prog w) A (spliced (backTo pos (starEach r env))) (fun vs s₂ => Q (v :: vs) s₂) E s₁) E s) : wpAny (model prog w) A (spliced (backTo pos (starEach (e :: r) env))) Q E s := by
  rw [he]; exact spliced_cons h
theorem noStar {e : Expr} {r : List Expr} (he : starEach (e :: r) env = (false, eval e env) :: starEach r env) (hr : (backTo pos (starEach r env)).any (·.1) = false) : (backTo pos (starEach (e :: r) env)).any (·.1) = false := by
  rw [he]; simpa [backTo] using hr
theorem cwB {id : String} {first : List Value} {e : Expr} {r : List Expr} (he : starEach (e :: r) env = (false, eval e env) :: starEach r env) (hp : (backTo pos (starEach r env)).any (·.1) = false)
    (h : wpAny (model prog w) A (spliced (backTo pos (starEach (e :: r) env))) (fun vs s₁ => wpAny (model prog w) A (call (.builtin id) (first ++ vs)) Q E s₁) E s) :
    wpAny (model prog w) A (callWith pos (.builtin id) first (backTo pos (starEach (e :: r) env)) []) Q E s := by
  refine callWith_builtin (noStar he hp) ?_
  rw [he] at h ⊢
  exact evalArgs_plain h
theorem cwB0 {id : String} {first : List Value} (h : wpAny (model prog w) A (call (.builtin id) (first ++ [])) Q E s) :
    wpAny (model prog w) A (callWith pos (.builtin id) first (backTo pos (starEach [] env)) []) Q E s := by
  refine callWith_builtin rfl ?_
  exact evalArgs_nil3 h
theorem cwT {T : String} {e : Expr} {r : List Expr} (he : starEach (e :: r) env = (false, eval e env) :: starEach r env) (hp : (backTo pos (starEach r env)).any (·.1) = false)
    (h : wpAny (model prog w) A (spliced (backTo pos (starEach (e :: r) env))) (fun vs s₁ => wpAny (model prog w) A (call (.type T) vs) Q E s₁) E s) :
    wpAny (model prog w) A (callWith pos (.type T) [] (backTo pos (starEach (e :: r) env)) []) Q E s := by
  refine PyProof.Rows.callWith_type (noStar he hp) ?_
  rw [he] at h ⊢
  exact evalArgs_plain h
/-- a def's reference called -/
theorem cwF {a : Addr} {first : List Value} {e : Expr} {r : List Expr} (he : starEach (e :: r) env = (false, eval e env) :: starEach r env) (hp : (backTo pos (starEach r env)).any (·.1) = false)
    (h : wpAny (model prog w) A (spliced (backTo pos (starEach (e :: r) env))) (fun vs s₁ => FnAt a s₁.heap ∧ wpAny (model prog w) A (call (.ref a) (first ++ vs)) Q E s₁) E s) :
    wpAny (model prog w) A (callWith pos (.ref a) first (backTo pos (starEach (e :: r) env)) []) Q E s := by
  rw [he] at h ⊢
  exact callWith_of (by show ((false || (backTo pos (starEach r env)).any (·.1)) || false) = false; rw [hp]; rfl) keeps_F (evalArgs_plain h)
end

section
variable {prog : Program} {w : World} {A : Around} {E : Value → Shared → Prop} {s : Shared} {g : Heap} {F : Led} {Q : Value → Shared → Prop}
theorem fnAt_top {fa : Addr} {fd : FuncData} {l : Led} (W : Wd w g) (H : Hp g l s.heap) {oc : Value} {od : Option Addr} {osl : Array (Option Value)} (hlk : (KK w).lookup fa = some ⟨oc, od, .func fd, osl⟩) : FnAt fa s.heap :=
  ⟨_, _, _, _, H.base _ _ (W.X _ _ hlk)⟩
/-- the call of a def of the text's top -/
theorem call_top {fa : Addr} {oc : Value} {od : Option Addr} {osl : Array (Option Value)} {args : Args} {body : List Stmt} {binds : List (Str × Value)} {n : Nat} (W : Wd w g) (R : Rm A (n + 1)) (H : Hp g F s.heap)
    (hlk : (KK w).lookup fa = some ⟨oc, od, .func (fdOf w fa), osl⟩) (hcode : codeIn (KK w) (fdOf w fa).code (fdOf w fa).qualname = true) (hbody : (fdOf w fa).body = .stmts body)
    (hbind : bindArgs (fdOf w fa) args = pure binds) (hbk : (binds.map (·.1)) = (fdOf w fa).params.args.map (·.arg))
    (hck : ((fdOf w fa).scope.kind == .function && !(fdOf w fa).scope.isCoroutine && !(fdOf w fa).scope.isGenerator && decide (((fdOf w fa).scope.names.map (·.1)).Nodup) && decide (((fdOf w fa).params.args.map (·.arg)).Nodup) &&
      (((fdOf w fa).params.args.map (·.arg)).all fun x => (fdOf w fa).scope.names.lookup x == some .local || (fdOf w fa).scope.names.lookup x == some .cell)) = true)
    (h : ∀ L h₁ tk, St g (fenv (fdOf w fa) L fa) (fown (fdOf w fa) L) binds F h₁ → Rm (A.deeper (fenv (fdOf w fa) L fa)) n →
      wpAny (model prog w) (A.deeper (fenv (fdOf w fa) L fa)) (execs body (fenv (fdOf w fa) L fa)) (fun f s' => Q (match f with | .ret v => v | _ => .none) s') (fun _ _ => False) { s with heap := h₁, toks := tk }) :
    wpAny (model prog w) A (call (.ref fa) args.pos args.kw) Q E s := by
  simp only [Bool.and_eq_true, decide_eq_true_eq, Bool.not_eq_true', List.all_eq_true, Bool.or_eq_true, beq_iff_eq] at hck
  obtain ⟨⟨⟨⟨⟨c1, c2⟩, c3⟩, c4⟩, c5⟩, c6⟩ := hck
  refine wpAny_call (code_enter (cu := []) H W.lim R.room (H.base _ _ (W.X _ _ hlk)) rfl ((codeRec_of W.X hcode).keeps H.base) hbody hbind (fun L h₁ tk S => ?_) c1 c4 (by rw [hbk]; exact c5) (fun x hx => ?_) (fun _ _ h => by cases h) c2 c3)
  · rw [List.append_nil] at S
    exact h L h₁ tk S (R.deeper _)
  · exact c6 x.1 (by rw [← hbk]; exact List.mem_map_of_mem (f := fun p : Str × Value => p.1) hx)
end
/-- the kinds of a frame's names, written out -/
structure Kd (env : Env) (names : List (Str × NameKind)) : Prop where
  kind : ∀ x, env.kindOf x = names.lookup x
  fn : env.scope.kind = .function
  gl : env.globals = mainGlobals
  bi : env.builtins = builtinsNs

theorem gl_52 (w : World) : nsIn (KK w) mainGlobals "Entry" = some (some (.ref 52)) := by kernel_rfl
theorem gl_58 (w : World) : nsIn (KK w) mainGlobals "_special_chars_map" = some (some (.ref 58)) := by kernel_rfl
theorem gl_68 (w : World) : nsIn (KK w) mainGlobals "escape" = some (some (.ref 68)) := by kernel_rfl
theorem gl_75 (w : World) : nsIn (KK w) mainGlobals "translate_pattern" = some (some (.ref 75)) := by kernel_rfl
theorem gl_82 (w : World) : nsIn (KK w) mainGlobals "merge_entries" = some (some (.ref 82)) := by kernel_rfl
theorem gl_83 (w : World) : nsIn (KK w) mainGlobals "_initial_missing" = some (some (.ref 83)) := by kernel_rfl
theorem gl_91 (w : World) : nsIn (KK w) mainGlobals "reduce" = some (some (.ref 91)) := by kernel_rfl
theorem gl_96 (w : World) : nsIn (KK w) mainGlobals "_law_path" = some (some (.ref 96)) := by kernel_rfl
theorem gl_103 (w : World) : nsIn (KK w) mainGlobals "_law_name" = some (some (.ref 103)) := by kernel_rfl
theorem gl_110 (w : World) : nsIn (KK w) mainGlobals "_law_tokens" = some (some (.ref 110)) := by kernel_rfl
theorem gl_117 (w : World) : nsIn (KK w) mainGlobals "_law_reads" = some (some (.ref 117)) := by kernel_rfl
theorem gl_122 (w : World) : nsIn (KK w) mainGlobals "_law_told" = some (some (.ref 122)) := by kernel_rfl
theorem gl_127 (w : World) : nsIn (KK w) mainGlobals "_law_due" = some (some (.ref 127)) := by kernel_rfl
theorem gl_134 (w : World) : nsIn (KK w) mainGlobals "_law_rule" = some (some (.ref 134)) := by kernel_rfl
theorem gl_141 (w : World) : nsIn (KK w) mainGlobals "_law_record" = some (some (.ref 141)) := by kernel_rfl
theorem bl_isinstance (w : World) : nsIn (KK w) mainGlobals "isinstance" = some none := by kernel_rfl
theorem bv_isinstance : bootBuiltins "isinstance" = some (.builtin "isinstance") := by kernel_rfl
theorem bl_str (w : World) : nsIn (KK w) mainGlobals "str" = some none := by kernel_rfl
theorem bv_str : bootBuiltins "str" = some (.type "str") := by kernel_rfl
theorem bl_len (w : World) : nsIn (KK w) mainGlobals "len" = some none := by kernel_rfl
theorem bv_len : bootBuiltins "len" = some (.builtin "len") := by kernel_rfl
theorem bl_range (w : World) : nsIn (KK w) mainGlobals "range" = some none := by kernel_rfl
theorem bv_range : bootBuiltins "range" = some (.type "range") := by kernel_rfl
theorem bl_list (w : World) : nsIn (KK w) mainGlobals "list" = some none := by kernel_rfl
theorem bv_list : bootBuiltins "list" = some (.type "list") := by kernel_rfl
theorem bl_map (w : World) : nsIn (KK w) mainGlobals "map" = some none := by kernel_rfl
theorem bv_map : bootBuiltins "map" = some (.type "map") := by kernel_rfl
theorem bl_filter (w : World) : nsIn (KK w) mainGlobals "filter" = some none := by kernel_rfl
theorem bv_filter : bootBuiltins "filter" = some (.type "filter") := by kernel_rfl
theorem bl_set (w : World) : nsIn (KK w) mainGlobals "set" = some none := by kernel_rfl
theorem bv_set : bootBuiltins "set" = some (.type "set") := by kernel_rfl
theorem bl_iter (w : World) : nsIn (KK w) mainGlobals "iter" = some none := by kernel_rfl
theorem bv_iter : bootBuiltins "iter" = some (.builtin "iter") := by kernel_rfl
theorem bl_sum (w : World) : nsIn (KK w) mainGlobals "sum" = some none := by kernel_rfl
theorem bv_sum : bootBuiltins "sum" = some (.builtin "sum") := by kernel_rfl
theorem bl_max (w : World) : nsIn (KK w) mainGlobals "max" = some none := by kernel_rfl
theorem bv_max : bootBuiltins "max" = some (.builtin "max") := by kernel_rfl

/-- the def of that name in the text -/
noncomputable def textBody (n : Str) : Option (List Stmt) := match PySem.Challenge.pw_ij0197_01.main.body.find? (fun st => match st with | .FunctionDef m .. => m == n | _ => false) with
  | some (.FunctionDef _ _ b _ _ _ _ _ _ _) => some b | _ => none


noncomputable def textNames (n : Str) : Option (List (Str × NameKind)) := match PySem.Challenge.pw_ij0197_01.main.body.find? (fun st => match st with | .FunctionDef m .. => m == n | _ => false) with
  | some (.FunctionDef _ _ _ _ _ _ sc _ _ _) => some sc.names | _ => none

noncomputable def nm_68 : { b : List (Str × NameKind) // textNames "escape" = some b } := ⟨_, rfl⟩
theorem kd_68 (w : World) (L : Addr) : Kd (fenv (fdOf w 68) L 68) nm_68.1 := ⟨fun x => congrArg (fun n => List.lookup x n) (by kernel_rfl : (fdOf w 68).scope.names = nm_68.1), by kernel_rfl, by kernel_rfl, by kernel_rfl⟩
noncomputable def bd_68 : { b : List Stmt // textBody "escape" = some b } := ⟨_, rfl⟩
theorem bh_68 (w : World) : (fdOf w 68).body = .stmts bd_68.1 := by kernel_rfl
theorem lk_68 (w : World) : (KK w).lookup 68 = some ⟨.type "function", none, .func (fdOf w 68), #[]⟩ := by kernel_rfl
theorem cd_68 (w : World) : codeIn (KK w) (fdOf w 68).code (fdOf w 68).qualname = true := by kernel_rfl
noncomputable def nm_75 : { b : List (Str × NameKind) // textNames "translate_pattern" = some b } := ⟨_, rfl⟩
theorem kd_75 (w : World) (L : Addr) : Kd (fenv (fdOf w 75) L 75) nm_75.1 := ⟨fun x => congrArg (fun n => List.lookup x n) (by kernel_rfl : (fdOf w 75).scope.names = nm_75.1), by kernel_rfl, by kernel_rfl, by kernel_rfl⟩
noncomputable def bd_75 : { b : List Stmt // textBody "translate_pattern" = some b } := ⟨_, rfl⟩
theorem bh_75 (w : World) : (fdOf w 75).body = .stmts bd_75.1 := by kernel_rfl
theorem lk_75 (w : World) : (KK w).lookup 75 = some ⟨.type "function", none, .func (fdOf w 75), #[]⟩ := by kernel_rfl
theorem cd_75 (w : World) : codeIn (KK w) (fdOf w 75).code (fdOf w 75).qualname = true := by kernel_rfl
noncomputable def nm_82 : { b : List (Str × NameKind) // textNames "merge_entries" = some b } := ⟨_, rfl⟩
theorem kd_82 (w : World) (L : Addr) : Kd (fenv (fdOf w 82) L 82) nm_82.1 := ⟨fun x => congrArg (fun n => List.lookup x n) (by kernel_rfl : (fdOf w 82).scope.names = nm_82.1), by kernel_rfl, by kernel_rfl, by kernel_rfl⟩
noncomputable def bd_82 : { b : List Stmt // textBody "merge_entries" = some b } := ⟨_, rfl⟩
theorem bh_82 (w : World) : (fdOf w 82).body = .stmts bd_82.1 := by kernel_rfl
theorem lk_82 (w : World) : (KK w).lookup 82 = some ⟨.type "function", none, .func (fdOf w 82), #[]⟩ := by kernel_rfl
theorem cd_82 (w : World) : codeIn (KK w) (fdOf w 82).code (fdOf w 82).qualname = true := by kernel_rfl
noncomputable def nm_91 : { b : List (Str × NameKind) // textNames "reduce" = some b } := ⟨_, rfl⟩
theorem kd_91 (w : World) (L : Addr) : Kd (fenv (fdOf w 91) L 91) nm_91.1 := ⟨fun x => congrArg (fun n => List.lookup x n) (by kernel_rfl : (fdOf w 91).scope.names = nm_91.1), by kernel_rfl, by kernel_rfl, by kernel_rfl⟩
noncomputable def bd_91 : { b : List Stmt // textBody "reduce" = some b } := ⟨_, rfl⟩
theorem bh_91 (w : World) : (fdOf w 91).body = .stmts bd_91.1 := by kernel_rfl
theorem lk_91 (w : World) : (KK w).lookup 91 = some ⟨.type "function", none, .func (fdOf w 91), #[]⟩ := by kernel_rfl
theorem cd_91 (w : World) : codeIn (KK w) (fdOf w 91).code (fdOf w 91).qualname = true := by kernel_rfl
noncomputable def nm_96 : { b : List (Str × NameKind) // textNames "_law_path" = some b } := ⟨_, rfl⟩
theorem kd_96 (w : World) (L : Addr) : Kd (fenv (fdOf w 96) L 96) nm_96.1 := ⟨fun x => congrArg (fun n => List.lookup x n) (by kernel_rfl : (fdOf w 96).scope.names = nm_96.1), by kernel_rfl, by kernel_rfl, by kernel_rfl⟩
noncomputable def bd_96 : { b : List Stmt // textBody "_law_path" = some b } := ⟨_, rfl⟩
theorem bh_96 (w : World) : (fdOf w 96).body = .stmts bd_96.1 := by kernel_rfl
theorem lk_96 (w : World) : (KK w).lookup 96 = some ⟨.type "function", none, .func (fdOf w 96), #[]⟩ := by kernel_rfl
theorem cd_96 (w : World) : codeIn (KK w) (fdOf w 96).code (fdOf w 96).qualname = true := by kernel_rfl
noncomputable def nm_103 : { b : List (Str × NameKind) // textNames "_law_name" = some b } := ⟨_, rfl⟩
theorem kd_103 (w : World) (L : Addr) : Kd (fenv (fdOf w 103) L 103) nm_103.1 := ⟨fun x => congrArg (fun n => List.lookup x n) (by kernel_rfl : (fdOf w 103).scope.names = nm_103.1), by kernel_rfl, by kernel_rfl, by kernel_rfl⟩
noncomputable def bd_103 : { b : List Stmt // textBody "_law_name" = some b } := ⟨_, rfl⟩
theorem bh_103 (w : World) : (fdOf w 103).body = .stmts bd_103.1 := by kernel_rfl
theorem lk_103 (w : World) : (KK w).lookup 103 = some ⟨.type "function", none, .func (fdOf w 103), #[]⟩ := by kernel_rfl
theorem cd_103 (w : World) : codeIn (KK w) (fdOf w 103).code (fdOf w 103).qualname = true := by kernel_rfl
noncomputable def nm_110 : { b : List (Str × NameKind) // textNames "_law_tokens" = some b } := ⟨_, rfl⟩
theorem kd_110 (w : World) (L : Addr) : Kd (fenv (fdOf w 110) L 110) nm_110.1 := ⟨fun x => congrArg (fun n => List.lookup x n) (by kernel_rfl : (fdOf w 110).scope.names = nm_110.1), by kernel_rfl, by kernel_rfl, by kernel_rfl⟩
noncomputable def bd_110 : { b : List Stmt // textBody "_law_tokens" = some b } := ⟨_, rfl⟩
theorem bh_110 (w : World) : (fdOf w 110).body = .stmts bd_110.1 := by kernel_rfl
theorem lk_110 (w : World) : (KK w).lookup 110 = some ⟨.type "function", none, .func (fdOf w 110), #[]⟩ := by kernel_rfl
theorem cd_110 (w : World) : codeIn (KK w) (fdOf w 110).code (fdOf w 110).qualname = true := by kernel_rfl
noncomputable def nm_117 : { b : List (Str × NameKind) // textNames "_law_reads" = some b } := ⟨_, rfl⟩
theorem kd_117 (w : World) (L : Addr) : Kd (fenv (fdOf w 117) L 117) nm_117.1 := ⟨fun x => congrArg (fun n => List.lookup x n) (by kernel_rfl : (fdOf w 117).scope.names = nm_117.1), by kernel_rfl, by kernel_rfl, by kernel_rfl⟩
noncomputable def bd_117 : { b : List Stmt // textBody "_law_reads" = some b } := ⟨_, rfl⟩
theorem bh_117 (w : World) : (fdOf w 117).body = .stmts bd_117.1 := by kernel_rfl
theorem lk_117 (w : World) : (KK w).lookup 117 = some ⟨.type "function", none, .func (fdOf w 117), #[]⟩ := by kernel_rfl
theorem cd_117 (w : World) : codeIn (KK w) (fdOf w 117).code (fdOf w 117).qualname = true := by kernel_rfl
noncomputable def nm_122 : { b : List (Str × NameKind) // textNames "_law_told" = some b } := ⟨_, rfl⟩
theorem kd_122 (w : World) (L : Addr) : Kd (fenv (fdOf w 122) L 122) nm_122.1 := ⟨fun x => congrArg (fun n => List.lookup x n) (by kernel_rfl : (fdOf w 122).scope.names = nm_122.1), by kernel_rfl, by kernel_rfl, by kernel_rfl⟩
noncomputable def bd_122 : { b : List Stmt // textBody "_law_told" = some b } := ⟨_, rfl⟩
theorem bh_122 (w : World) : (fdOf w 122).body = .stmts bd_122.1 := by kernel_rfl
theorem lk_122 (w : World) : (KK w).lookup 122 = some ⟨.type "function", none, .func (fdOf w 122), #[]⟩ := by kernel_rfl
theorem cd_122 (w : World) : codeIn (KK w) (fdOf w 122).code (fdOf w 122).qualname = true := by kernel_rfl
noncomputable def nm_127 : { b : List (Str × NameKind) // textNames "_law_due" = some b } := ⟨_, rfl⟩
theorem kd_127 (w : World) (L : Addr) : Kd (fenv (fdOf w 127) L 127) nm_127.1 := ⟨fun x => congrArg (fun n => List.lookup x n) (by kernel_rfl : (fdOf w 127).scope.names = nm_127.1), by kernel_rfl, by kernel_rfl, by kernel_rfl⟩
noncomputable def bd_127 : { b : List Stmt // textBody "_law_due" = some b } := ⟨_, rfl⟩
theorem bh_127 (w : World) : (fdOf w 127).body = .stmts bd_127.1 := by kernel_rfl
theorem lk_127 (w : World) : (KK w).lookup 127 = some ⟨.type "function", none, .func (fdOf w 127), #[]⟩ := by kernel_rfl
theorem cd_127 (w : World) : codeIn (KK w) (fdOf w 127).code (fdOf w 127).qualname = true := by kernel_rfl
noncomputable def nm_134 : { b : List (Str × NameKind) // textNames "_law_rule" = some b } := ⟨_, rfl⟩
theorem kd_134 (w : World) (L : Addr) : Kd (fenv (fdOf w 134) L 134) nm_134.1 := ⟨fun x => congrArg (fun n => List.lookup x n) (by kernel_rfl : (fdOf w 134).scope.names = nm_134.1), by kernel_rfl, by kernel_rfl, by kernel_rfl⟩
noncomputable def bd_134 : { b : List Stmt // textBody "_law_rule" = some b } := ⟨_, rfl⟩
theorem bh_134 (w : World) : (fdOf w 134).body = .stmts bd_134.1 := by kernel_rfl
theorem lk_134 (w : World) : (KK w).lookup 134 = some ⟨.type "function", none, .func (fdOf w 134), #[]⟩ := by kernel_rfl
theorem cd_134 (w : World) : codeIn (KK w) (fdOf w 134).code (fdOf w 134).qualname = true := by kernel_rfl
noncomputable def nm_141 : { b : List (Str × NameKind) // textNames "_law_record" = some b } := ⟨_, rfl⟩
theorem kd_141 (w : World) (L : Addr) : Kd (fenv (fdOf w 141) L 141) nm_141.1 := ⟨fun x => congrArg (fun n => List.lookup x n) (by kernel_rfl : (fdOf w 141).scope.names = nm_141.1), by kernel_rfl, by kernel_rfl, by kernel_rfl⟩
noncomputable def bd_141 : { b : List Stmt // textBody "_law_record" = some b } := ⟨_, rfl⟩
theorem bh_141 (w : World) : (fdOf w 141).body = .stmts bd_141.1 := by kernel_rfl
theorem lk_141 (w : World) : (KK w).lookup 141 = some ⟨.type "function", none, .func (fdOf w 141), #[]⟩ := by kernel_rfl
theorem cd_141 (w : World) : codeIn (KK w) (fdOf w 141).code (fdOf w 141).qualname = true := by kernel_rfl
noncomputable def nm_146 : { b : List (Str × NameKind) // textNames "law" = some b } := ⟨_, rfl⟩
theorem kd_146 (w : World) (L : Addr) : Kd (fenv (fdOf w 146) L 146) nm_146.1 := ⟨fun x => congrArg (fun n => List.lookup x n) (by kernel_rfl : (fdOf w 146).scope.names = nm_146.1), by kernel_rfl, by kernel_rfl, by kernel_rfl⟩
noncomputable def bd_146 : { b : List Stmt // textBody "law" = some b } := ⟨_, rfl⟩
theorem bh_146 (w : World) : (fdOf w 146).body = .stmts bd_146.1 := by kernel_rfl
theorem lk_146 (w : World) : (KK w).lookup 146 = some ⟨.type "function", none, .func (fdOf w 146), #[]⟩ := by kernel_rfl
theorem cd_146 (w : World) : codeIn (KK w) (fdOf w 146).code (fdOf w 146).qualname = true := by kernel_rfl

/-- the signs that the table knows -/
noncomputable def special : List Nat := [40, 41, 91, 93, 123, 125, 63, 42, 43, 45, 124, 94, 36, 92, 46, 38, 126, 35, 32, 9, 10, 13, 11, 12]
noncomputable def esc1 (c : Nat) : List Nat := if special.contains c then [92, c] else [c]
noncomputable def esc (s : List Nat) : List Nat := s.flatMap esc1

noncomputable def tabEs (w : World) : Array DictEntry := match (KK w).lookup 58 with | some ⟨_, _, .dict es _, _⟩ => es | _ => #[]
theorem tab_lk (w : World) : (KK w).lookup 58 = some ⟨.type "dict", none, .dict (tabEs w) 24, #[]⟩ := by kernel_rfl
theorem tab_keys (w : World) : ((tabEs w).toList.all fun e => match e.key with | .int k _ => decide (e.hash = hashInt k) | _ => false) = true := by kernel_rfl
theorem tab_vals (w : World) : ((List.range 128).all fun (c : Nat) => match findBy Value.isInt (tabEs w) (c : Int) with
    | some (.str x _) => special.contains c && decide (x = ⟨#[92, c]⟩) | none => !special.contains c | _ => false) = true := by kernel_rfl
theorem tab_map {prog : Program} {w : World} {g h : Heap} {l : Led} (W : Wd w g) (H : Hp g l h) : h.MapOf (intKind prog w) 58 (fun k => findBy Value.isInt (tabEs w) k) :=
  ⟨_, tabEs w, 24, H.base _ _ (W.X _ _ (tab_lk w)), ⟨rfl, rfl, rfl⟩, rfl, fun e he => by
    have := List.all_eq_true.mp (tab_keys w) e (Array.mem_toList_iff.mpr he)
    cases hk : e.key <;> rw [hk] at this <;> first | (exact absurd this Bool.false_ne_true) | skip
    rename_i k t
    exact ⟨k, by simp [intKind, Value.isInt], of_decide_eq_true this⟩, fun _ => rfl⟩

section
variable {prog : Program} {w : World} {A : Around} {E : Value → Shared → Prop} {s : Shared} {g : Heap} {l : Led}

inductive MapsTo : Builtin.Str.Mapped → Nat → Prop
  | keep {c} : special.contains c = false → MapsTo .keep c
  | text {c} : special.contains c = true → MapsTo (.text ⟨#[92, c]⟩) c
theorem tableLookup_ (W : Wd w g) (H : Hp g l s.heap) (hh : A.handled = none) {c : Nat} (hc : c < 128) {Q : Builtin.Str.Mapped → Shared → Prop}
    (h : ∀ m h' tk, MapsTo m c → Hp g l h' → Q m { s with heap := h', toks := tk }) : wpAny (model prog w) A (Builtin.Str.tableLookup (.ref 58) c) Q E s := by
  have hv := List.all_eq_true.mp (tab_vals w) c (by simpa using hc)
  have hm := tab_map (prog := prog) W H
  unfold Builtin.Str.tableLookup
  refine wpAny_bind (wpAny_attempt (wpAny_bind (wpAny_mkInt ?_)))
  cases hf : findBy Value.isInt (tabEs w) (c : Int) with
  | none =>
    rw [hf] at hv
    refine wpAny_getItem_missing_of (s := { s with toks := s.toks + 1 }) (k := (c : Int)) (by simp [intKind, Value.isInt]) (by decide) hh hm hf fun h' e ne => ?_
    have ty : ({ s with heap := h', toks := s.toks + 1 + 1 } : Shared).TypeIs (.ref e) "KeyError" := let ⟨ob, t, a, b, _⟩ := ne.there; ⟨ob, a, b⟩
    refine wpAny_bind (wpAny_isInstance (b := true) ty (by rw [isSubtype_type]; kernel_rfl) ?_)
    simp only [if_true]
    exact wpAny_bind (wpAny_rule (wpAny_pure (h _ _ _ (.keep (by simpa using hv)) (H.keeps ne.keeps))))
  | some v =>
    rw [hf] at hv
    refine wpAny_getItem_of (s := { s with toks := s.toks + 1 }) (k := (c : Int)) (by simp [intKind, Value.isInt]) hm hf ?_
    cases v <;> first | (exact absurd hv Bool.false_ne_true) | skip
    rename_i x t
    simp only [Bool.and_eq_true, decide_eq_true_eq] at hv
    obtain ⟨h1, rfl⟩ := hv
    have := h (.text ⟨#[92, c]⟩) s.heap (s.toks + 1 + 1) (.text h1) H
    exact fun _ _ _ => this


theorem esc1_keep {c : Nat} (h : special.contains c = false) : esc1 c = [c] := by unfold esc1; rw [h]; rfl
theorem esc1_text {c : Nat} (h : special.contains c = true) : esc1 c = [92, c] := by unfold esc1; rw [h]; rfl
theorem esc1_len (c : Nat) : (esc1 c).length ≤ 2 := by unfold esc1; split <;> simp
theorem esc_len (l : List Nat) : (esc l).length ≤ 2 * l.length := by
  induction l with
  | nil => simp [esc]
  | cons c l ih =>
    have := esc1_len c
    simp only [esc, List.flatMap_cons, List.length_append, List.length_cons] at ih ⊢
    omega
theorem esc_snoc (l : List Nat) (c : Nat) : esc (l ++ [c]) = esc l ++ esc1 c := by simp [esc]

theorem foldl_pieces (ps : List Str) (acc : Array Nat) : (ps.foldl (fun acc p => acc ++ p.cps) acc).toList = acc.toList ++ ps.flatMap (·.cps.toList) := by
  induction ps generalizing acc with
  | nil => simp
  | cons p ps ih => rw [List.foldl_cons, ih]; simp

structure TrI (g : Heap) (l : Led) (s : Shared) (x : Str) (rest : List Nat) (b : List Str × Nat × Bool × List (Nat × Option Nat) × Bool) (s' : Shared) : Prop where
  ex : ∃ done h' tk, x.cps.toList = done ++ rest ∧ s' = { s with heap := h', toks := tk } ∧ Hp g l h' ∧ b.1.reverse.flatMap (·.cps.toList) = esc done ∧ b.2.1 = (esc done).length
  ad : b.2.2.2.2 = false
  kn : ∀ p ∈ b.2.2.2.1, p.2 = some p.1 ∧ special.contains p.1 = false
theorem TrI.step {g : Heap} {l : Led} {s : Shared} {x : Str} {c : Nat} {rest : List Nat} {pieces : List Str} {total : Nat} {fast fast' : Bool} {known known' : List (Nat × Option Nat)} {p : Str} {done : List Nat} {h' : Heap} {tk : Nat}
    (hd : x.cps.toList = done ++ c :: rest) (H : Hp g l h') (hp : pieces.reverse.flatMap (·.cps.toList) = esc done) (ht : total = (esc done).length) (hk : ∀ p ∈ known', p.2 = some p.1 ∧ special.contains p.1 = false) (hpc : p.cps.toList = esc1 c) (n : Nat) (hn : n = p.length) :
    TrI g l s x rest (p :: pieces, total + n, fast', known', false) { s with heap := h', toks := tk } :=
  ⟨⟨done ++ [c], h', tk, by rw [hd]; simp, rfl, H, by simp [esc_snoc, hp, hpc], by
    show total + n = _
    rw [esc_snoc, List.length_append, ← hpc, ht, hn]; simp [PySem.Str.length]⟩, rfl, hk⟩

theorem translate_body (W : Wd w g) (H : Hp g l s.heap) (hh : A.handled = none) {x : Str} {t : Tok} (hx : ∀ c ∈ x.cps.toList, c < 128) (hlen : x.length ≤ 1000) {Q : PySem.Fin → Shared → Prop}
    (h : ∀ u h' tk, Hp g l h' → Q (.done (.ret (.str ⟨(esc x.cps.toList).toArray⟩ u))) { s with heap := h', toks := tk }) : wpAny (model prog w) A (Builtin.«str.translate» ⟨[.str x t, .ref 58], []⟩) Q E s := by
  unfold Builtin.«str.translate»
  show wpAny _ _ (if (x.length == 0) = true then _ else _) _ _ _
  split
  · rename_i h0
    have he : x.cps.toList = [] := by
      have : x.cps.size = 0 := by simpa [PySem.Str.length] using h0
      simpa using this
    have := h t s.heap s.toks H
    rw [he] at this
    have hx' : x = ⟨#[]⟩ := by
      have : x.cps = #[] := by simpa using he
      cases x; simp_all
    subst hx'
    exact fun _ _ _ => this
  · have hlenL : x.cps.toList.length ≤ 1000 := by simpa [PySem.Str.length] using hlen
    refine wpAny_bind (wpAny_forIn_array' _ (TrI g l s x) _ ?_ ?_ x.cps _ ⟨⟨[], s.heap, s.toks, rfl, rfl, H, rfl, rfl⟩, rfl, fun _ hp => by cases hp⟩)
    · rintro c rest ⟨pieces, total, fast, known, afterDrop⟩ s' ⟨⟨done, h', tk, hd, rfl, H', hp, ht⟩, had, hkn⟩
      dsimp only at hp ht had hkn ⊢
      subst had
      have hc : c < 128 := hx c (by rw [hd]; simp)
      have htl : ¬ Builtin.Str.tooLong total = true := by
        have h1 := esc_len done
        have h2 : done.length ≤ 1000 := by rw [hd] at hlenL; simp at hlenL; omega
        simp [Builtin.Str.tooLong, sizeLine]; omega
      rw [if_neg htl]
      -- the slow road
      have slow : ∀ (fast' : Bool) (known' : List (Nat × Option Nat)) (h' : Heap) (tk : Nat), Hp g l h' → (∀ p ∈ known', p.2 = some p.1 ∧ special.contains p.1 = false) →
          wpAny (model prog w) A (do
            let m ← Builtin.Str.tableLookup (.ref 58) c
            match m with
              | .keep => pure (ForInStep.yield (({ cps := #[c] } : Str) :: pieces, total + 1, fast', known', false))
              | .drop => pure (ForInStep.yield (pieces, total, fast', known', true))
              | .char d => pure (ForInStep.yield (({ cps := #[d] } : Str) :: pieces, total + 1, fast', known', false))
              | .text t => pure (ForInStep.yield (t :: pieces, total + t.length, fast', known', false)))
            (fun r s' => match r with | .yield b' => TrI g l s x rest b' s' | .done b' => False) E { s with heap := h', toks := tk } := by
        intro fast' known' h' tk H' hk'
        refine wpAny_bind (tableLookup_ (s := { s with heap := h', toks := tk }) W H' hh hc fun m h'' tk' hm H'' => ?_)
        cases hm with
        | keep hs => exact wpAny_pure (TrI.step (fast := true) (known := []) hd H'' hp ht hk' (by rw [esc1_keep hs]) 1 rfl)
        | text hs => exact wpAny_pure (TrI.step (fast := true) (known := []) hd H'' hp ht hk' (by rw [esc1_text hs]) _ rfl)
      cases fast with
      | false =>
        refine wpAny_mono (slow false known h' tk H' hkn) (fun r s' q => ?_) fun _ _ e => e
        cases r <;> first | exact q | exact q.elim
      | true =>
        simp only [if_true]
        cases hlk : List.lookup c known with
        | some a =>
          have hm : (c, a) ∈ known := by
            clear slow hkn
            induction known with
            | nil => cases hlk
            | cons q r ih =>
              obtain ⟨y, b⟩ := q
              rw [List.lookup_cons] at hlk
              by_cases e : (c == y) = true
              · rw [e] at hlk; cases hlk; rw [beq_iff_eq.mp e]; exact .head _
              · rw [show (c == y) = false from by simpa using e] at hlk; exact .tail _ (ih hlk)
          obtain ⟨h1, h2⟩ := hkn _ hm
          dsimp only at h1 h2
          subst h1
          exact wpAny_bind (wpAny_pure (wpAny_pure (TrI.step (fast := true) (known := []) hd H' hp ht hkn (by rw [esc1_keep h2]) 1 rfl)))
        | none =>
          refine wpAny_bind (tableLookup_ (s := { s with heap := h', toks := tk }) W H' hh hc fun m h'' tk' hm H'' => ?_)
          cases hm with
          | keep hs =>
            refine wpAny_bind (wpAny_pure (wpAny_pure (TrI.step (fast := true) (known := []) hd H'' hp ht (fun q hq => ?_) (by rw [esc1_keep hs]) 1 rfl)))
            rcases List.mem_cons.mp hq with rfl | hq
            · exact ⟨rfl, hs⟩
            · exact hkn q hq
          | text hs =>
            refine wpAny_bind (wpAny_pure ?_)
            refine wpAny_bind (wpAny_rule ?_)
            refine wpAny_mono (slow false known h'' tk' H'' hkn) (fun r s' q => ?_) fun _ _ e => e
            cases r <;> first | exact q | exact q.elim
    · rintro ⟨pieces, total, fast, known, afterDrop⟩ s' ⟨⟨done, h', tk, hd, rfl, H', hp, ht⟩, had, hkn⟩
      dsimp only at hp ht had hkn ⊢
      have hlend : done.length ≤ 1000 := by rw [hd] at hlenL; simpa using hlenL
      have h1 := esc_len done
      have htl : ¬ Builtin.Str.tooLong total = true := by simp [Builtin.Str.tooLong, sizeLine]; omega
      rw [if_neg htl]
      have e : ({ cps := List.foldl (fun acc p => acc ++ p.cps) #[] pieces.reverse } : Str) = ⟨(esc x.cps.toList).toArray⟩ := by
        have := foldl_pieces pieces.reverse #[]
        rw [hp] at this
        rw [hd, List.append_nil]
        congr 1
        apply Array.ext'
        simpa using this
      rw [e]
      refine wpAny_bind (wpAny_mkStr (wpAny_pure (h _ _ _ H')) ?_)
      rw [hd, List.append_nil]
      show (esc done).toArray.size ≤ sizeLine
      simp [sizeLine]; omega

end
theorem iteT {b : Bool} {P Q : Prop} (hb : b = true) (h : P) : if b = true then P else Q := by rw [if_pos hb]; exact h
theorem iteF {b : Bool} {P Q : Prop} (hb : b = false) (h : Q) : if b = true then P else Q := by rw [if_neg (by rw [hb]; exact Bool.false_ne_true)]; exact h
section
variable {prog : Program} {w : World} {A : Around} {E : Value → Shared → Prop} {s : Shared} {env : Env} {pos apos : Pos} {o e : PySem.Expr} {r : List PySem.Expr} {name : Str} {Q : Value → Shared → Prop}
/-- a method of a str called with one argument or more -/
theorem mcS {id : String} (slot : Slot "str" name id) (hty : typeOf (.builtin id) = pure (.type "method_descriptor")) (hbase : attributeBase o name env (eval o env) = eval o env)
    (hfew : ((backTo pos (starEach (e :: r) env)).all (fun x => !x.1) && (backToKw pos (keywordEach [] env)).all (fun x => x.1.isSome)
      && decide ((e :: r).length + ([] : List Keyword).length + (if ([] : List Keyword).isEmpty then 0 else 1) < 30)) = true) (hline : (apos.endLine == pos.line) = true)
    (he : starEach (e :: r) env = (false, eval e env) :: starEach r env) (hp : (backTo pos (starEach r env)).any (·.1) = false)
    (h : wpAny (model prog w) A (eval o env) (fun ov s₁ => ∃ x t, ov = .str x t ∧
      wpAny (model prog w) A (spliced (backTo pos (starEach (e :: r) env))) (fun vs s₂ => wpAny (model prog w) A (call (.builtin id) (.str x t :: vs)) Q E s₂) E s₁) E s) :
    wpAny (model prog w) A (eval (.Call (.Attribute o name apos) (e :: r) [] pos) env) Q E s := by
  refine wpAny_Call_method hbase hfew hline F.plainAttrs_str slot hty (wpAny_mono h (fun ov s₁ h₁ => ?_) fun _ _ x => x)
  obtain ⟨x, t, rfl, h₁⟩ := h₁
  exact ⟨typeIs_str _ _ _, (fun a q => by cases q), cwB (first := [.str x t]) he hp h₁⟩
theorem mcS0 {id : String} (slot : Slot "str" name id) (hty : typeOf (.builtin id) = pure (.type "method_descriptor")) (hbase : attributeBase o name env (eval o env) = eval o env) (hline : (apos.endLine == pos.line) = true)
    (h : wpAny (model prog w) A (eval o env) (fun ov s₁ => ∃ x t, ov = .str x t ∧ wpAny (model prog w) A (call (.builtin id) [.str x t]) Q E s₁) E s) :
    wpAny (model prog w) A (eval (.Call (.Attribute o name apos) [] [] pos) env) Q E s := by
  refine wpAny_Call_method hbase rfl hline F.plainAttrs_str slot hty (wpAny_mono h (fun ov s₁ h₁ => ?_) fun _ _ x => x)
  obtain ⟨x, t, rfl, h₁⟩ := h₁
  exact ⟨typeIs_str _ _ _, (fun a q => by cases q), cwB0 (first := [.str x t]) h₁⟩
end
section
variable {prog : Program} {w : World} {A : Around} {E : Value → Shared → Prop} {s : Shared} {g : Heap} {l : Led} {Q : Value → Shared → Prop}
theorem translate_call (W : Wd w g) (H : Hp g l s.heap) (hh : A.handled = none) {x : Str} {t : Tok} (hx : ∀ c ∈ x.cps.toList, c < 128) (hlen : x.length ≤ 1000)
    (h : ∀ u h' tk, Hp g l h' → Q (.str ⟨(esc x.cps.toList).toArray⟩ u) { s with heap := h', toks := tk }) : wpAny (model prog w) A (call (.builtin "str.translate") [.str x t, .ref 58]) Q E s := by
  refine wpAny_call (codeAny_call_builtin F.slot_str_translate.plain F.entry_str_translate (F.slot_str_translate.check _ _ _ _ _ _ _ _ (typeIs_str _ _ _) (F.args_str_translate_2 _ _) ?_))
  refine translate_body (A := A.in1) W H hh hx hlen (fun u h' tk H' => ?_)
  exact h u h' tk H'
end

/-! how often an entry stands in a ledger -/
open Classical in
noncomputable def cnt (a : Addr × (Obj → Prop)) : Led → Nat
  | [] => 0
  | x :: l => (if x = a then 1 else 0) + cnt a l
open Classical in
noncomputable def one (a x : Addr × (Obj → Prop)) : Nat := if x = a then 1 else 0
theorem cnt_nil (a) : cnt a [] = 0 := rfl
theorem cnt_cons (a x) (l : Led) : cnt a (x :: l) = one a x + cnt a l := rfl
theorem cnt_append (a) : ∀ (l l' : Led), cnt a (l ++ l') = cnt a l + cnt a l'
  | [], l' => by simp [cnt]
  | x :: l, l' => by rw [List.cons_append, cnt_cons, cnt_cons, cnt_append a l l']; omega
open Classical in
theorem cnt_eq (a) : ∀ l : Led, cnt a l = l.count a
  | [] => rfl
  | x :: l => by
    rw [cnt, cnt_eq a l, List.count_cons]
    by_cases h : x = a
    · simp [h]; omega
    · simp [h]
theorem Hp.le {g h : Heap} {l l' : Led} (H : Hp g l h) (hc : ∀ a, cnt a l' ≤ cnt a l) : Hp g l' h := by
  classical
  have hs : ∀ p ∈ l', p ∈ l := fun p hp => by
    have h1 : 0 < l'.count p := List.count_pos_iff.mpr hp
    have h2 := hc p
    rw [cnt_eq, cnt_eq] at h2
    exact List.count_pos_iff.mp (Nat.lt_of_lt_of_le h1 h2)
  refine ⟨H.base, fun q hq => H.has q (hs q hq), ?_, fun q hq => H.off q (hs q hq)⟩
  -- the addresses stay apart
  have key : ∀ (k : Led), (∀ p ∈ k, p ∈ l) → (∀ a, k.count a ≤ l.count a) → (k.map (·.1)).Nodup := by
    intro k
    induction k with
    | nil => intro _ _; exact List.nodup_nil
    | cons x k ih =>
      intro hm hk
      rw [List.map_cons, List.nodup_cons]
      have hk' : ∀ a, k.count a ≤ l.count a := fun a => Nat.le_trans (by rw [List.count_cons]; omega) (hk a)
      refine ⟨fun hx => ?_, ih (fun p hp => hm p (.tail _ hp)) hk'⟩
      obtain ⟨y, hy, e⟩ := List.mem_map.mp hx
      -- x and y stand at one address in l: they are one entry, twice
      have one' : ∀ (L : Led), (L.map (·.1)).Nodup → x ∈ L → y ∈ L → x = y ∧ L.count x ≤ 1 := by
        intro L
        induction L with
        | nil => intro _ h; cases h
        | cons z L ihL =>
          intro hn hx hy
          rw [List.map_cons, List.nodup_cons] at hn
          have no : ∀ q : Addr × (Obj → Prop), q.1 = z.1 → q ∉ L := fun q hq hm => hn.1 (hq ▸ List.mem_map_of_mem (f := fun p : Addr × (Obj → Prop) => p.1) hm)
          rcases List.mem_cons.mp hx with rfl | hx1 <;> rcases List.mem_cons.mp hy with hy1 | hy1
          · refine ⟨hy1.symm, ?_⟩
            rw [List.count_cons, List.count_eq_zero.mpr (no x rfl)]; simp
          · exact absurd hy1 (no y e)
          · exact absurd hx1 (no x (by rw [← e, hy1]))
          · obtain ⟨h1, h2⟩ := ihL hn.2 hx1 hy1
            refine ⟨h1, ?_⟩
            rw [List.count_cons]
            have : (z == x) = false := by
              have : z ≠ x := fun q => no x (by rw [q]) hx1
              simpa using this
            rw [this]; simpa using h2
      obtain ⟨h1, h2⟩ := one' l H.nd (hm x (.head _)) (hm y (.tail _ hy))
      have h3 := hk x
      rw [List.count_cons] at h3
      have h4 : 0 < k.count x := List.count_pos_iff.mpr (h1 ▸ hy)
      simp at h3
      omega
  exact key l' hs fun a => by have := hc a; rwa [cnt_eq, cnt_eq] at this

noncomputable def NotCell (P : Obj → Prop) : Prop := ∀ o, P o → ∀ v, o.data ≠ .cell (some v)
theorem St.of' {g h h' : Heap} {env : Env} {own : List (Str × Addr)} {u : List (Str × Value)} {l l' : Led} (S : St g env own u l h) (H : Hp g (frL env own u ++ l') h') (hs : ∀ p ∈ l, p ∈ l' ∨ NotCell p.2) : St g env own u l' h' :=
  ⟨H, S.ok, fun x v hx hk => let ⟨c, e, m⟩ := S.cl x v hx hk; ⟨c, e, m.imp id fun ⟨P, m, q⟩ => (hs _ m).elim (fun m' => ⟨P, m', q⟩) fun nc => by
    obtain ⟨o, ho, p⟩ := S.get m
    exact absurd (q o p) (nc o p v)⟩, S.kd⟩

/-! iterators -/
structure Itr (prog : Program) (w : World) (g : Heap) (A : Around) (S : Nat → Obj → Prop) (n : Nat) (P : Nat → Value → Prop) (pers : Led) : Prop where
  next : ∀ {i : Nat} {I : Addr} {s : Shared} {Q : Option Value → Shared → Prop} {E : Value → Shared → Prop} {l : Led}, i < n → Hp g ((I, S i) :: l) s.heap → (∀ p ∈ pers, p ∈ l) →
    (∀ v h' tk, P i v → Hp g ((I, S (i + 1)) :: l) h' → Q (some v) { s with heap := h', toks := tk }) → wpAny (model prog w) A (pyNext (.ref I)) Q E s
  done : ∀ {I : Addr} {s : Shared} {Q : Option Value → Shared → Prop} {E : Value → Shared → Prop} {l : Led}, Hp g ((I, S n) :: l) s.heap → (∀ p ∈ pers, p ∈ l) →
    (∀ h' tk, Hp g l h' → Q none { s with heap := h', toks := tk }) → wpAny (model prog w) A (pyNext (.ref I)) Q E s
  self : ∀ {i : Nat} {I : Addr} {s : Shared} {Q : Value → Shared → Prop} {E : Value → Shared → Prop} {l : Led}, Hp g ((I, S i) :: l) s.heap → (∀ p ∈ pers, p ∈ l) → Q (.ref I) s → wpAny (model prog w) A (pyIter (.ref I)) Q E s
  nc : ∀ i, NotCell (S i)

noncomputable def IterO (l : Addr) (i : Nat) (o : Obj) : Prop := o.cls = .type "list_iterator" ∧ o.data = .fields #[.ref l, .int i 0]
theorem ListO.isList {h : Heap} {a : Addr} {xs : List Value} (x : ∃ o, h.get? a = some o ∧ ListO xs o) : h.IsList a xs.toArray :=
  let ⟨o, e, n, q⟩ := x; ⟨o, e, by rw [q], n, by rw [q]⟩
theorem ListO.isL {h : Heap} {a : Addr} {xs : List Value} (x : ∃ o, h.get? a = some o ∧ ListO xs o) : ∃ n, IsL h a xs.toArray n :=
  let ⟨_, e, n, q⟩ := x; ⟨n, e.trans (by rw [q])⟩

theorem Itr.list {prog : Program} {w : World} {g : Heap} {A : Around} (hh : A.handled = none) (ax : Addr) (vs : List Value) :
    Itr prog w g A (IterO ax) vs.length (fun i v => vs[i]? = some v) [(ax, ListO vs)] where
  next := fun {i I s Q E l} hi H hp hQ => by
    obtain ⟨o, ho, c, d⟩ := H.has (I, IterO ax i) (.head _)
    have hl : s.heap.IsList ax vs.toArray := ListO.isList (H.has _ (.tail _ (hp _ (.head _))))
    refine wpAny_pyNext_list_item (x := vs[i]) ⟨o, ho, c, d⟩ hl (by simp [hi]) fun h' hit' hs' => ?_
    obtain ⟨o', ho', c', d'⟩ := hit'
    exact hQ vs[i] h' s.toks (by simp [hi]) (H.set (P' := IterO ax (i + 1)) (fun b o hb e => (hs'.2 b hb).trans e) ho' ⟨c', d'⟩)
  done := fun {I s Q E l} H hp hQ => by
    obtain ⟨o, ho, c, d⟩ := H.has (I, IterO ax vs.length) (.head _)
    have hl : s.heap.IsList ax vs.toArray := ListO.isList (H.has _ (.tail _ (hp _ (.head _))))
    refine wpAny_pyNext_list_end hh ⟨o, ho, c, d⟩ hl (by simp) fun h' he' => ?_
    exact hQ h' s.toks (H.tail.other H.notMem (H.off (I, IterO ax vs.length) (.head _)) he')
  self := fun {i I s Q E l} H _ hQ => by
    obtain ⟨o, ho, c, d⟩ := H.has (I, IterO ax i) (.head _)
    exact wpAny_pyIter_listiter ⟨o, ho, c, d⟩ hQ
  nc := fun i o ⟨_, d⟩ v e => by rw [d] at e; cases e

theorem ListO.nc (xs : List Value) : NotCell (ListO xs) := fun o ⟨n, d⟩ v e => by rw [d] at e; cases e
noncomputable def RangeO (a b c : Int) (o : Obj) : Prop := ∃ t u v, o = { cls := .type "range", dict := none, data := .fields #[.int a t, .int b u, .int c v], slots := #[] }
noncomputable def RIterO (a c : Int) (n i : Nat) (o : Obj) : Prop := o = { cls := .type "range_iterator", dict := none, data := .fields #[rawInt (a + i * c), rawInt ((n : Int) - i), rawInt c], slots := #[] }
theorem Itr.range {prog : Program} {w : World} {g : Heap} {A : Around} (hh : A.handled = none) (a c : Int) (n : Nat) : Itr prog w g A (RIterO a c n) n (fun i v => ∃ t, v = .int (a + i * c) t) [] where
  next := fun {i I s Q E l} hi H hp hQ => by
    obtain ⟨o, ho, d⟩ := H.has (I, RIterO a c n i) (.head _)
    have hr : IsRangeIter s.heap I (a + i * c) ((n : Int) - i) c := ho.trans (by rw [d])
    refine wpAny_pyNext_range_item hr (by omega) fun h' hit' hs' => ?_
    refine hQ _ h' _ ⟨_, rfl⟩ (H.set (P' := RIterO a c n (i + 1)) (fun b o hb e => (hs'.2 b hb).trans e) hit' ?_)
    have e1 : a + ((i + 1 : Nat) : Int) * c = a + (i : Int) * c + c := by push_cast; rw [Int.add_mul, Int.one_mul, Int.add_assoc]
    have e2 : (n : Int) - ((i + 1 : Nat) : Int) = (n : Int) - (i : Int) - 1 := by push_cast; omega
    unfold RIterO; rw [e1, e2]
  done := fun {I s Q E l} H hp hQ => by
    obtain ⟨o, ho, d⟩ := H.has (I, RIterO a c n n) (.head _)
    have hr : IsRangeIter s.heap I (a + n * c) ((n : Int) - n) c := ho.trans (by rw [d])
    refine wpAny_pyNext_range_end hh hr (by omega) fun h' he' => ?_
    exact hQ h' s.toks (H.tail.other H.notMem (H.off (I, RIterO a c n n) (.head _)) he')
  self := fun {i I s Q E l} H _ hQ => by
    obtain ⟨o, ho, d⟩ := H.has (I, RIterO a c n i) (.head _)
    have hr : IsRangeIter s.heap I (a + i * c) ((n : Int) - i) c := ho.trans (by rw [d])
    exact wpAny_pyIter_rangeiter hr hQ
  nc := fun i o d v e => by rw [d] at e; cases e

theorem iter_list {prog : Program} {w : World} {g : Heap} {A : Around} {E : Value → Shared → Prop} {s : Shared} {l : Led} {ax : Addr} {vs : List Value} {Q : Value → Shared → Prop} (H : Hp g l s.heap) (hm : (ax, ListO vs) ∈ l)
    (h : ∀ I h', Hp g ((I, IterO ax 0) :: l) h' → Q (.ref I) { s with heap := h' }) : wpAny (model prog w) A (pyIter (.ref ax)) Q E s :=
  wpAny_pyIter_list (ListO.isList (H.get hm)) (h _ _ (H.push (P := IterO ax 0) _ ⟨rfl, rfl⟩))
theorem iter_range {prog : Program} {w : World} {g : Heap} {A : Around} {E : Value → Shared → Prop} {s : Shared} {l : Led} {ax : Addr} {a b c : Int} {Q : Value → Shared → Prop} (H : Hp g l s.heap) (hm : (ax, RangeO a b c) ∈ l) (hs : Builtin.Range.small a b c = true)
    (h : ∀ I h', Hp g ((I, RIterO a c (Builtin.Range.rangeSize a b c).toNat 0) :: l) h' → Q (.ref I) { s with heap := h' }) (hn : 0 ≤ Builtin.Range.rangeSize a b c) : wpAny (model prog w) A (pyIter (.ref ax)) Q E s := by
  obtain ⟨o, ho, t, u, v, d⟩ := H.get hm
  refine wpAny_pyIter_range (ho.trans (by rw [d])) hs (h _ _ (H.push (P := RIterO a c (Builtin.Range.rangeSize a b c).toNat 0) _ ?_))
  unfold RIterO
  rw [Int.toNat_of_nonneg hn]; simp
section
variable {prog : Program} {w : World} {A : Around} {E : Value → Shared → Prop} {s : Shared} {g : Heap} {env : Env} {own : List (Str × Addr)} {u : List (Str × Value)} {l : Led}

/-- where a name may be stored -/
noncomputable def Sto (env : Env) (own : List (Str × Addr)) (x : Str) : Prop := env.kindOf x = some .local ∨ (own.lookup x).isSome = true
theorem sta (S : St g env own u l s.heap) {x : Str} {v : Value} {Q : Unit → Shared → Prop} (hx : Sto env own x)
    (h : ∀ h' tk, St g env own ((x, v) :: drop x u) l h' → Q () { s with heap := h', toks := tk }) : wpAny (model prog w) A (storeName env x v) Q E s := by
  rcases hx with hl | hc
  · exact stn S hl fun h' S' => h h' _ S'
  · obtain ⟨c, hc⟩ := Option.isSome_iff_exists.mp hc
    exact stc S (mem_of_lookup hc) fun h' S' => h h' _ S'

theorem append_ {D : Addr} {xs : List Value} {y : Value} {Q : Value → Shared → Prop} (H : Hp g ((D, ListO xs) :: l) s.heap) (hsz : xs.length ≤ sizeLine)
    (h : ∀ h' tk, Hp g ((D, ListO (xs ++ [y])) :: l) h' → Q .none { s with heap := h', toks := tk }) : wpAny (model prog w) A (call (.builtin "list.append") [.ref D, y]) Q E s := by
  obtain ⟨n, hl⟩ := ListO.isL (H.has (D, ListO xs) (.head _))
  refine call_meets F.slot_list_append ⟨_, hl, rfl⟩ F.entry_list_append (F.args_list_append_2 _ _) (list_append D xs.toArray n y (by simpa using hsz)) ⟨hl, ?_⟩
  refine h _ _ (H.set (o' := _) (fun b o hb e => (Heap.get?_update_other _ _ (Ne.symm hb)).trans e) (Heap.get?_update_self _ hl rfl) ?_)
  have e : Obj.mapSeq (fun x_1 => x_1.push y) { cls := .type "list", dict := none, data := .seq xs.toArray n, slots := #[] } = { cls := .type "list", data := .seq (xs ++ [y]).toArray (if (xs.toArray.push y).size == xs.toArray.size then n else n + 1) } := by
    unfold Obj.mapSeq
    dsimp only
    rw [List.push_toArray]
  exact ⟨_, e⟩

/-- a for's loop -/
theorem forLoop_ {x : Str} {px : Pos} {body : List Stmt} {I : Addr} {It : Nat → Obj → Prop} {n : Nat} {P : Nat → Value → Prop} {pers : Led} {u₀ : List (Str × Value)} {l₀ : Led} {Q : Flow → Shared → Prop} {Er : Value → Shared → Prop}
    (K : Itr prog w g A It n P pers) (hx : Sto env own x) (J : Nat → List (Str × Value) → Led → Prop) (S : St g env own u₀ ((I, It 0) :: l₀) s.heap) (hp : ∀ p ∈ pers, p ∈ l₀) (hj : J 0 u₀ l₀)
    (turn : ∀ i v u l h' tk, i < n → P i v → J i u l → (∀ p ∈ pers, p ∈ l) → St g env own ((x, v) :: drop x u) ((I, It (i + 1)) :: l) h' →
      wpAny (model prog w) A (execs body env) (fun f s' => match f with
        | .ret v => Q (.ret v) s'
        | .brk => Q .next s'
        | _ => ∃ u' l' h' tk', s' = { s with heap := h', toks := tk' } ∧ St g env own u' ((I, It (i + 1)) :: l') h' ∧ (∀ p ∈ pers, p ∈ l') ∧ J (i + 1) u' l') (fun _ _ => False) { s with heap := h', toks := tk })
    (fin : ∀ u l h' tk, J n u l → St g env own u l h' → Q .next { s with heap := h', toks := tk }) :
    codeAny (model prog w) A (.forLoop (.Name x px) (.ref I) body [] env) (fun r s' => match r with | .ok f => Q f s' | .error e => Er e s') s := by
  refine codeAny_forLoop (fun k s' => ∃ i u l h' tk, s' = { s with heap := h', toks := tk } ∧ St g env own u ((I, It i) :: l) h' ∧ (∀ p ∈ pers, p ∈ l) ∧ J i u l ∧ i ≤ n ∧ k = n + 1 - i) ?_ (n + 1) ⟨0, u₀, l₀, s.heap, s.toks, rfl, S, hp, hj, Nat.zero_le _, rfl⟩
  rintro k s' ⟨i, u, l, h', tk, rfl, S', hp', hj', hi, rfl⟩
  have H := (S'.hp.unmid (l := frL env own u) (b := l))
  by_cases hlt : i < n
  · refine K.next (l := frL env own u ++ l) hlt H (fun p hp => List.mem_append_right _ (hp' p hp)) fun v h₁ tk₁ hv H₁ => ?_
    have S₁ : St g env own u ((I, It (i + 1)) :: l) h₁ := S'.of' (H₁.mid (l := frL env own u)) fun p hp => (List.mem_cons.mp hp).elim (fun e => .inr (e ▸ K.nc i)) fun m => .inl (List.mem_cons_of_mem _ m)
    refine wpAny_assign_Name (sta (s := { s with heap := h₁, toks := tk₁ }) S₁ hx fun h₂ tk₂ S₂ => ?_)
    refine wpAny_mono (turn i v u l h₂ tk₂ hlt hv hj' hp' S₂) (fun f s' q => ?_) fun _ _ q => q.elim
    cases f with
    | ret v => exact q
    | brk => exact q
    | next => obtain ⟨u', l', h', tk', rfl, S'', hp'', hj''⟩ := q; exact ⟨n + 1 - (i + 1), by omega, i + 1, u', l', h', tk', rfl, S'', hp'', hj'', hlt, rfl⟩
    | cont => obtain ⟨u', l', h', tk', rfl, S'', hp'', hj''⟩ := q; exact ⟨n + 1 - (i + 1), by omega, i + 1, u', l', h', tk', rfl, S'', hp'', hj'', hlt, rfl⟩
  · have hin : i = n := by omega
    subst hin
    refine K.done (l := frL env own u ++ l) H (fun p hp => List.mem_append_right _ (hp' p hp)) fun h₁ tk₁ H₁ => wpAny_execs_nil ?_
    exact fin u l h₁ tk₁ hj' (S'.of' H₁ fun p hp => (List.mem_cons.mp hp).elim (fun e => .inr (e ▸ K.nc i)) .inl)
end

noncomputable def cenvX (scope : Scope) (cl : List (Str × Addr)) (C : Addr) (env : Env) : Env :=
  { scope := relabel scope env, locals := C, globals := env.globals, cells := cellsFrom (C + 1) scope.names cl, qual := env.qual, func := none, code := env.code, frame := env.frame, builtins := env.builtins }
noncomputable abbrev cown (scope : Scope) (C : Addr) : List (Str × Addr) := cellsFrom (C + 1) scope.names []

theorem lookup_relabel {env : Env} : ∀ {names : List (Str × NameKind)} {x : Str} {k : NameKind}, names.lookup x = some k → k ≠ .free →
    (names.map fun (n, k) => if (k == NameKind.free && env.scope.kind == .function && env.kindOf n == some .cell) then (n, NameKind.cell) else (n, k)).lookup x = some k
  | [], _, _, h, _ => by simp at h
  | (n, k0) :: r, x, k, h, hk => by
    have ih := @lookup_relabel env r x k
    show List.lookup x ((if (k0 == NameKind.free && env.scope.kind == .function && env.kindOf n == some .cell) = true then (n, NameKind.cell) else (n, k0)) :: _) = _
    cases hx : x == n with
    | true =>
      simp only [List.lookup_cons, hx] at h
      cases h
      have e0 : (k0 == NameKind.free) = false := by simpa using hk
      rw [e0, if_neg (by simp)]
      simp [List.lookup_cons, hx]
    | false =>
      simp only [List.lookup_cons, hx] at h
      by_cases hc : (k0 == NameKind.free && env.scope.kind == .function && env.kindOf n == some .cell) = true
      · rw [if_pos hc]; simp only [List.lookup_cons, hx]; exact ih h hk
      · rw [if_neg hc]; simp only [List.lookup_cons, hx]; exact ih h hk
theorem lookup_relabel_free {env : Env} : ∀ {names : List (Str × NameKind)} {x : Str}, names.lookup x = some .free →
    (names.map fun (n, k) => if (k == NameKind.free && env.scope.kind == .function && env.kindOf n == some .cell) then (n, NameKind.cell) else (n, k)).lookup x ≠ some .local
  | [], _, h => by simp at h
  | (n, k0) :: r, x, h => by
    have ih := @lookup_relabel_free env r x
    show List.lookup x ((if (k0 == NameKind.free && env.scope.kind == .function && env.kindOf n == some .cell) = true then (n, NameKind.cell) else (n, k0)) :: _) ≠ _
    cases hx : x == n with
    | true =>
      simp only [List.lookup_cons, hx] at h
      cases h
      by_cases hc : (NameKind.free == NameKind.free && env.scope.kind == .function && env.kindOf n == some .cell) = true
      · rw [if_pos hc]; simp [List.lookup_cons, hx]
      · rw [if_neg hc]; simp [List.lookup_cons, hx]
    | false =>
      simp only [List.lookup_cons, hx] at h
      by_cases hc : (k0 == NameKind.free && env.scope.kind == .function && env.kindOf n == some .cell) = true
      · rw [if_pos hc]; simp only [List.lookup_cons, hx]; exact ih h
      · rw [if_neg hc]; simp only [List.lookup_cons, hx]; exact ih h

section
variable {prog : Program} {w : World} {A : Around} {E : Value → Shared → Prop} {s : Shared} {g : Heap} {env : Env} {own : List (Str × Addr)} {u : List (Str × Value)} {l : Led}

theorem St.cellAt {h : Heap} (S : St g env own u l h) {x : Str} {v : Value} (hx : (x, v) ∈ u) (hl : env.kindOf x ≠ some .local) :
    ∃ c, env.cells.lookup x = some c ∧ ∃ P, (c, P) ∈ frL env own u ++ l ∧ ∀ o, P o → o.data = .cell (some v) := by
  obtain ⟨c, e, m | ⟨P, m, q⟩⟩ := S.cl x v hx hl
  · exact ⟨c, e, _, List.mem_append_left _ (List.mem_cons_of_mem _ (List.mem_map_of_mem (f := fun p : Str × Addr => (p.2, CellU p.1 u)) m)), fun o ⟨w', d, f⟩ => d.trans (by rw [f v hx])⟩
  · exact ⟨c, e, P, List.mem_append_right _ m, q⟩

theorem closureFor_ok {scope : Scope} (hnd : (scope.names.map (·.1)).Nodup) (hf : ∀ x, (x, NameKind.free) ∈ scope.names → (env.cells.lookup x).isSome = true) :
    ∃ cl, closureFor scope env = pure cl ∧ ∀ x, (x, NameKind.free) ∈ scope.names → cl.lookup x = env.cells.lookup x := by
  have key : ∀ (names : List (Str × NameKind)) (cs : List (Str × Addr)), (∀ x, (x, NameKind.free) ∈ names → (env.cells.lookup x).isSome = true) → (names.map (·.1)).Nodup →
      ∃ cl, (forIn names cs fun (x : Str × NameKind) (cs : List (Str × Addr)) => (if (x.2 == .free) = true then (do let a ← cellOf env x.1; pure (ForInStep.yield ((x.1, a) :: cs))) else pure (ForInStep.yield cs) : Sem (ForInStep (List (Str × Addr))))) = pure cl ∧
        (∀ x, (x, NameKind.free) ∈ names → cl.lookup x = env.cells.lookup x) ∧ ∀ x, x ∉ names.map (·.1) → cl.lookup x = cs.lookup x := by
    intro names
    induction names with
    | nil => intro cs _ _; exact ⟨cs, rfl, (fun _ h => by cases h), fun _ _ => rfl⟩
    | cons p r ih =>
      intro cs hf hn
      obtain ⟨y, k⟩ := p
      rw [List.map_cons, List.nodup_cons] at hn
      rw [List.forIn_cons]
      by_cases hk : k = .free
      · subst hk
        obtain ⟨c, hc⟩ := Option.isSome_iff_exists.mp (hf y (.head _))
        obtain ⟨cl, e1, e2, e3⟩ := ih ((y, c) :: cs) (fun x hx => hf x (.tail _ hx)) hn.2
        refine ⟨cl, ?_, fun x hx => ?_, fun x hx => ?_⟩
        · simp only [beq_self_eq_true, if_true]
          show (cellOf env y >>= _) >>= _ = _
          unfold cellOf
          rw [hc]
          exact e1
        · rcases List.mem_cons.mp hx with e | hx
          · cases e
            rw [e3 _ hn.1]; simp [hc]
          · exact e2 x hx
        · rw [e3 x (fun h => hx (by simp [h]))]
          have : (x == y) = false := by simpa using fun e => hx (by simp [e])
          rw [List.lookup_cons, this]
      · obtain ⟨cl, e1, e2, e3⟩ := ih cs (fun x hx => hf x (.tail _ hx)) hn.2
        refine ⟨cl, ?_, fun x hx => ?_, fun x hx => e3 x (fun h => hx (by simp [h]))⟩
        · have : (k == NameKind.free) = false := by simpa using hk
          simp only [this, Bool.false_eq_true, if_false]
          exact e1
        · rcases List.mem_cons.mp hx with e | hx
          · cases e; exact absurd rfl hk
          · exact e2 x hx
  obtain ⟨cl, e1, e2, _⟩ := key scope.names [] hf hnd
  refine ⟨cl, ?_, e2⟩
  unfold closureFor
  show (forIn scope.names [] _ >>= fun cs => pure cs) = _
  have e1' := e1
  rw [show (forIn scope.names [] fun (x : Str × NameKind) (cs : List (Str × Addr)) => (match x with | (name, kind) => if (kind == .free) = true then (do let a ← cellOf env name; pure (ForInStep.yield ((name, a) :: cs))) else pure (ForInStep.yield cs) : Sem (ForInStep (List (Str × Addr))))) = pure cl from e1]
  rfl

theorem newComp_St {scope : Scope} {cl : List (Str × Addr)} {cu : List (Str × Value)} {F : Led} {Q : Env → Shared → Prop} (H : Hp g F s.heap) (hk : scope.kind = .function) (hnd : (scope.names.map (·.1)).Nodup)
    (hcu : ∀ x v, (x, v) ∈ cu → scope.names.lookup x = some .free ∧ ∃ c, cl.lookup x = some c ∧ ∃ P, (c, P) ∈ F ∧ ∀ o, P o → o.data = .cell (some v))
    (hQ : ∀ C h' (cenv : Env), cenv.locals = C → ({ cenv with scope := relabel scope env } : Env) = cenvX scope cl C env → St g (cenvX scope cl C env) (cown scope C) cu F h' → Q cenv { s with heap := h' }) :
    wpAny (model prog w) A (newFunctionEnv scope env.globals cl [] env.qual none .none (some env)) Q E s := by
  simp only [newFunctionEnv, Option.isSome_some, if_true]
  refine wpAny_bind (wpAny_alloc ?_)
  refine wpAny_bind (wpAny_layCells _ (fun name kind cells => by cases hkc : kind == NameKind.cell <;> simp [hkc]) _ _ _ _ ?_)
  rw [show ({ s with heap := s.heap.push { cls := .type "dict", data := .dict #[] } } : Shared).heap.objs.size = s.heap.objs.size + 1 from Heap.size_push ..]
  dsimp only
  have kfree : ∀ x v, (x, v) ∈ cu → (cenvX scope cl s.heap.objs.size env).kindOf x ≠ some .local := fun x v h => lookup_relabel_free (hcu x v h).1
  have H1 : Hp g ((s.heap.objs.size, NsO (cenvX scope cl s.heap.objs.size env) cu) :: F) (s.heap.push { cls := .type "dict", data := .dict #[] }) :=
    H.push _ ⟨#[], 0, rfl, fun e he => by simp at he, fun p hp hl => absurd hl (kfree p.1 p.2 hp)⟩
  have H2 := H1.cells (u := cu) (names := scope.names) (fun x hx v hv => by
    have := lookup_of_mem hnd hx
    rw [(hcu x v hv).1] at this; cases this)
  rw [Heap.size_push] at H2
  refine wpAny_bind ?_
  rw [List.forIn_nil]
  refine wpAny_pure (wpAny_pure (hQ s.heap.objs.size _ _ rfl rfl ⟨H2.unmid, fun p hp => ?_, fun x v hx _ => ?_, hk⟩))
  · have hm := cellsFrom_mem _ _ p hp
    refine ⟨lookup_relabel (lookup_of_mem hnd hm) (by decide), ?_⟩
    show (cellsFrom (s.heap.objs.size + 1) scope.names cl).lookup p.1 = some p.2
    rw [cellsFrom_append, List.lookup_append, lookup_of_mem (cellsFrom_keys _ _ hnd) hp]; rfl
  · obtain ⟨k, c, e, P, hm, hp⟩ := hcu x v hx
    refine ⟨c, ?_, .inr ⟨P, hm, hp⟩⟩
    show (cellsFrom (s.heap.objs.size + 1) scope.names cl).lookup x = some c
    rw [cellsFrom_append, List.lookup_append, e]
    cases q : (cellsFrom (s.heap.objs.size + 1) scope.names []).lookup x with
    | none => rfl
    | some c' =>
      have := lookup_of_mem hnd (cellsFrom_mem _ _ _ (mem_of_lookup q))
      rw [k] at this; cases this

noncomputable def NsAny (o : Obj) : Prop := ∃ es ep, o.data = .dict es ep ∧ StrKeys es
theorem NsAny.ns {h : Heap} {C : Addr} (x : ∃ o, h.get? C = some o ∧ NsAny o) : ∃ m, h.Ns C m := let ⟨o, e, es, ep, d, k⟩ := x; ⟨_, o, es, ep, e, d, k, fun _ => rfl⟩

noncomputable abbrev testsOf (ifs : List PySem.Expr) (env : Env) : Sem Bool :=
  forIn ifs true fun c r => if r = true then do let ok ← isTrue c env (eval c env); pure (ForInStep.yield ok) else pure (ForInStep.yield r)

/-- a comprehension's loop, one for -/
theorem compLoop1 {elt iter : PySem.Expr} {x : Str} {px : Pos} {ifs : List PySem.Expr} {scope : Scope} {pos : Pos} {cl : List (Str × Addr)} {cu : List (Str × Value)} {I C D : Addr} {It : Nat → Obj → Prop} {n : Nat} {P : Nat → Value → Prop} {pers : Led} {R : Result → Shared → Prop} {LL : Led}
    (K : Itr prog w g A It n P pers) (hp : ∀ p ∈ pers, p ∈ LL) (hsz : n ≤ sizeLine)
    (S : St g (cenvX scope cl C env) (cown scope C) cu ((D, ListO []) :: (I, It 0) :: LL) s.heap)
    (hx : Sto (cenvX scope cl C env) (cown scope C) x) (hcx : ∀ p ∈ cu, p.1 ≠ x)
    (J : Nat → List Value → Led → Prop) (hj : J 0 [] [])
    (turn : ∀ i v ys ex h' tk, i < n → P i v → J i ys ex → ys.length ≤ i → St g (cenvX scope cl C env) (cown scope C) ((x, v) :: cu) ((D, ListO ys) :: (I, It (i + 1)) :: (ex ++ LL)) h' →
      wpAny (model prog w) A (testsOf ifs (cenvX scope cl C env)) (fun ok s₃ =>
        if ok = true then wpAny (model prog w) A (eval elt (cenvX scope cl C env)) (fun y s₄ => ∃ ex' h'' tk', s₄ = { s with heap := h'', toks := tk' } ∧
            St g (cenvX scope cl C env) (cown scope C) ((x, v) :: cu) (ex' ++ ((D, ListO ys) :: (I, It (i + 1)) :: (ex ++ LL))) h'' ∧ J (i + 1) (ys ++ [y]) (ex' ++ ex)) (fun _ _ => False) s₃
        else ∃ ex' h'' tk', s₃ = { s with heap := h'', toks := tk' } ∧ St g (cenvX scope cl C env) (cown scope C) ((x, v) :: cu) (ex' ++ ((D, ListO ys) :: (I, It (i + 1)) :: (ex ++ LL))) h'' ∧ J (i + 1) ys (ex' ++ ex)) (fun _ _ => False) { s with heap := h', toks := tk })
    (fin : ∀ ys ex h' tk, J n ys ex → Hp g ((C, NsAny) :: (D, ListO ys) :: (ex ++ LL)) h' → R (.ok .next) { s with heap := h', toks := tk }) :
    codeAny (model prog w) A (.compLoop (.ListComp elt [⟨.Name x px, iter, ifs, 0⟩] scope pos) 0 (.ref I) (.ref D) (cenvX scope cl C env)) R s := by
  refine codeAny_compLoop_tests (fun k s' => ∃ i ys ex cu' h' tk, s' = { s with heap := h', toks := tk } ∧ St g (cenvX scope cl C env) (cown scope C) cu' ((D, ListO ys) :: (I, It i) :: (ex ++ LL)) h' ∧ (∀ p ∈ cu, p ∈ cu') ∧ J i ys ex ∧ ys.length ≤ i ∧ i ≤ n ∧ k = n + 1 - i) ?_ (n + 1)
    ⟨0, [], [], cu, s.heap, s.toks, rfl, S, fun _ h => h, hj, Nat.le_refl _, Nat.zero_le _, rfl⟩
  rintro k s' ⟨i, ys, ex, cu', h', tk, rfl, S', hcu', hj', hys, hi, rfl⟩
  have H : Hp g ((I, It i) :: (frL (cenvX scope cl C env) (cown scope C) cu' ++ (D, ListO ys) :: (ex ++ LL))) h' := S'.hp.le fun a => by simp only [cnt_cons, cnt_append]; first | ac_rfl | omega
  have hpm : ∀ p ∈ pers, p ∈ frL (cenvX scope cl C env) (cown scope C) cu' ++ (D, ListO ys) :: (ex ++ LL) := fun p hp' => List.mem_append_right _ (List.mem_cons_of_mem _ (List.mem_append_right _ (hp p hp')))
  by_cases hlt : i < n
  · refine K.next hlt H hpm fun v h₁ tk₁ hv H₁ => ?_
    have S₁ : St g (cenvX scope cl C env) (cown scope C) cu' ((D, ListO ys) :: (I, It (i + 1)) :: (ex ++ LL)) h₁ :=
      S'.of' (H₁.le fun a => by simp only [cnt_cons, cnt_append]; first | ac_rfl | omega) fun p hp => by
        rcases List.mem_cons.mp hp with rfl | hp
        · exact .inl (.head _)
        · rcases List.mem_cons.mp hp with rfl | hp
          · exact .inr (K.nc i)
          · exact .inl (.tail _ (.tail _ hp))
    refine wpAny_assign_Name (sta (s := { s with heap := h₁, toks := tk₁ }) S₁ hx fun h₂ tk₂ S₂ => ?_)
    have S₃ : St g (cenvX scope cl C env) (cown scope C) ((x, v) :: cu) ((D, ListO ys) :: (I, It (i + 1)) :: (ex ++ LL)) h₂ := S₂.mono fun p hp => by
      rcases List.mem_cons.mp hp with rfl | hp
      · exact .head _
      · exact .tail _ (mem_drop (v := p.2) (hcu' p hp) (by simpa using hcx p hp))
    have weak : ∀ (e : Value) (s' : Shared), (fun (_ : Value) (_ : Shared) => False) e s' → notedBy (model prog w) A (cenvX scope cl C env) (fun e s' => R (.error e) s') e s' := fun _ _ f => f.elim
    refine wpAny_mono (turn i v ys ex h₂ tk₂ hlt hv hj' hys S₃) (fun ok s₃ q => ?_) weak
    by_cases hok : ok = true
    · rw [if_pos hok] at q ⊢
      refine wpAny_mono q (fun y s₄ q => ?_) weak
      obtain ⟨ex', h'', tk', rfl, S₄, hj₄⟩ := q
      have HA : Hp g ((D, ListO ys) :: (frL (cenvX scope cl C env) (cown scope C) ((x, v) :: cu) ++ (I, It (i + 1)) :: (ex' ++ (ex ++ LL)))) h'' := S₄.hp.le fun a => by simp only [cnt_cons, cnt_append]; first | ac_rfl | omega
      refine append_ (s := { s with heap := h'', toks := tk' }) HA (by omega) fun h₅ tk₅ H₅ => ?_
      refine ⟨n + 1 - (i + 1), by omega, i + 1, ys ++ [y], ex' ++ ex, (x, v) :: cu, h₅, tk₅, rfl, ?_, fun p hp => .tail _ hp, hj₄, by simp; omega, hlt, rfl⟩
      refine S₄.of' (H₅.le fun a => by simp only [cnt_cons, cnt_append]; first | ac_rfl | omega) fun p hp => ?_
      rcases List.mem_append.mp hp with hp | hp
      · exact .inl (.tail _ (.tail _ (List.mem_append_left _ (List.mem_append_left _ hp))))
      · rcases List.mem_cons.mp hp with rfl | hp
        · exact .inr (ListO.nc ys)
        · rcases List.mem_cons.mp hp with rfl | hp
          · exact .inl (.tail _ (.head _))
          · exact .inl (.tail _ (.tail _ (by rcases List.mem_append.mp hp with hp | hp; exact List.mem_append_left _ (List.mem_append_right _ hp); exact List.mem_append_right _ hp)))
    · rw [if_neg hok] at q ⊢
      obtain ⟨ex', h'', tk', rfl, S₄, hj₄⟩ := q
      refine ⟨n + 1 - (i + 1), by omega, i + 1, ys, ex' ++ ex, (x, v) :: cu, h'', tk', rfl, ?_, fun p hp => .tail _ hp, hj₄, by omega, hlt, rfl⟩
      refine S₄.of' (S₄.hp.le fun a => by simp only [cnt_cons, cnt_append]; first | ac_rfl | omega) fun p hp => ?_
      rcases List.mem_append.mp hp with hp | hp
      · exact .inl (.tail _ (.tail _ (List.mem_append_left _ (List.mem_append_left _ hp))))
      · rcases List.mem_cons.mp hp with rfl | hp
        · exact .inl (.head _)
        · rcases List.mem_cons.mp hp with rfl | hp
          · exact .inl (.tail _ (.head _))
          · exact .inl (.tail _ (.tail _ (by rcases List.mem_append.mp hp with hp | hp; exact List.mem_append_left _ (List.mem_append_right _ hp); exact List.mem_append_right _ hp)))
  · have hin : i = n := by omega
    subst hin
    refine K.done H hpm fun h₁ tk₁ H₁ => ?_
    have H₂ : Hp g ((C, NsO (cenvX scope cl C env) cu') :: (D, ListO ys) :: (ex ++ LL)) h₁ := H₁.le fun a => by
      show _ ≤ cnt a (((C, NsO (cenvX scope cl C env) cu') :: ownL (cown scope C) cu') ++ (D, ListO ys) :: (ex ++ LL))
      simp only [cnt_cons, cnt_append]; first | ac_rfl | omega
    exact fin ys ex h₁ tk₁ hj' (H₂.weak fun o ⟨es, ep, d, k, _⟩ => ⟨es, ep, d, k⟩)
end

noncomputable def relabN (names outer : List (Str × NameKind)) : List (Str × NameKind) := names.map fun p => if p.2 == .free && outer.lookup p.1 == some .cell then (p.1, .cell) else p
theorem Kd.comp {env : Env} {outer : List (Str × NameKind)} (K : Kd env outer) (scope : Scope) (cl : List (Str × Addr)) (C : Addr) (hk : scope.kind = .function) : Kd (cenvX scope cl C env) (relabN scope.names outer) := by
  refine ⟨fun x => ?_, hk, K.gl, K.bi⟩
  show List.lookup x (scope.names.map _) = _
  congr 1
  unfold relabN
  apply List.map_congr_left
  rintro ⟨n, k⟩ _
  dsimp only
  rw [K.kind n, K.fn]
  simp
noncomputable def compCk (scope : Scope) (env : Env) (x : Str) : Bool := scope.kind == .function && decide ((scope.names.map (·.1)).Nodup) && (scope.names.all fun p => p.2 != .free || ((env.cells.lookup p.1).isSome && env.kindOf p.1 != some .local)) &&
  (scope.names.lookup x == some .local || scope.names.lookup x == some .cell)
structure CompOk (scope : Scope) (env : Env) (x : Str) : Prop where
  k : scope.kind = .function
  nd : (scope.names.map (·.1)).Nodup
  fr : ∀ y, (y, NameKind.free) ∈ scope.names → (env.cells.lookup y).isSome = true ∧ env.kindOf y ≠ some .local
  x : scope.names.lookup x = some .local ∨ scope.names.lookup x = some .cell
theorem compOk {scope : Scope} {env : Env} {x : Str} (h : compCk scope env x = true) : CompOk scope env x := by
  simp only [compCk, Bool.and_eq_true, decide_eq_true_eq, List.all_eq_true, Bool.or_eq_true, beq_iff_eq, bne_iff_ne] at h
  obtain ⟨⟨⟨a, b⟩, c⟩, d⟩ := h
  exact ⟨a, b, fun y hy => (c _ hy).elim (fun q => absurd rfl q) id, d⟩
theorem CompOk.names {scope : Scope} {env : Env} {x : Str} (h : CompOk scope env x) : ∀ y ∈ scope.names, y.2 = .local → scope.names.lookup y.1 = some .local := fun y hy e => lookup_of_mem h.nd (by rw [← e]; exact hy)
theorem CompOk.sto {scope : Scope} {env : Env} {x : Str} (h : CompOk scope env x) (cl : List (Str × Addr)) (C : Addr) : Sto (cenvX scope cl C env) (cown scope C) x := by
  rcases h.x with q | q
  · exact .inl (lookup_relabel q (by decide))
  · refine .inr ?_
    have hm := mem_of_lookup q
    have : ∀ (names : List (Str × NameKind)) (n : Nat), (x, NameKind.cell) ∈ names → ∃ c, (x, c) ∈ cellsFrom n names [] := by
      intro names
      induction names with
      | nil => intro _ h; cases h
      | cons q r ih =>
        intro n h
        obtain ⟨y, k⟩ := q
        unfold cellsFrom
        rcases List.mem_cons.mp h with e | h
        · cases e; rw [if_pos (by rfl), cellsFrom_append]; exact ⟨n, List.mem_append_right _ (.head _)⟩
        · split
          · obtain ⟨c, hc⟩ := ih (n + 1) h
            rw [cellsFrom_append]; exact ⟨c, List.mem_append_left _ hc⟩
          · exact ih n h
    obtain ⟨c, hc⟩ := this _ (C + 1) hm
    rw [lookup_of_mem (cellsFrom_keys _ _ h.nd) hc]; rfl

section
variable {prog : Program} {w : World} {A : Around} {E : Value → Shared → Prop} {s : Shared} {g : Heap} {env : Env} {own : List (Str × Addr)} {u : List (Str × Value)} {l : Led}

/-- the comprehension behind its first iterator -/
noncomputable def CompAt (prog : Program) (w : World) (A : Around) (env : Env) (e : PySem.Expr) (scope : Scope) (RR : Value → Addr → Result → Shared → Prop) (E : Value → Shared → Prop) (it : Value) (s : Shared) : Prop :=
  ∀ cl, closureFor scope env = pure cl → (∀ y, (y, NameKind.free) ∈ scope.names → cl.lookup y = env.cells.lookup y) →
    wpAny (model prog w) A (newList []) (fun acc s₃ => wpAny (model prog w) A (newFunctionEnv scope env.globals cl [] env.qual none .none (some env)) (fun cenv s₄ =>
      codeAny (model prog w) A (.compStart e 0 it acc { cenv with scope := relabel scope env }) (RR acc cenv.locals) s₄) E s₃) E s

theorem comp_eval {elt iter : PySem.Expr} {x : Str} {px : Pos} {ifs : List PySem.Expr} {gens : List Comprehension} {scope : Scope} {pos : Pos} {Q : Value → Shared → Prop} (hck : compCk scope env x = true)
    (h : wpAny (model prog w) A (eval iter env) (fun xv s₁ => wpAny (model prog w) A (pyIter xv) (fun it s₂ =>
      CompAt prog w A env (.ListComp elt (⟨.Name x px, iter, ifs, 0⟩ :: gens) scope pos) scope (compPost (model prog w) A E none Q) E it s₂) E s₁) E s)
    (hs : ∀ x, foldedSetIterable iter env x = pure x) : wpAny (model prog w) A (eval (.ListComp elt (⟨.Name x px, iter, ifs, 0⟩ :: gens) scope pos) env) Q E s := by
  have ok := compOk hck
  obtain ⟨cl, hcl, hlk⟩ := closureFor_ok (env := env) ok.nd fun y hy => (ok.fr y hy).1
  rw [eval_ListComp]
  exact wpAny_comprehension_free (use := none) rfl hs hcl ok.k ok.names (wpAny_mono h (fun xv s₁ h₁ => wpAny_mono h₁ (fun it s₂ h₂ => h₂ cl hcl hlk) fun _ _ e => e) fun _ _ e => e)

theorem comp_assign {elt iter : PySem.Expr} {x y : Str} {px py : Pos} {ifs : List PySem.Expr} {gens : List Comprehension} {scope : Scope} {pos spos : Pos} {Q : Flow → Shared → Prop}
    (hsw : swapsWith (.ListComp elt (⟨.Name x px, iter, ifs, 0⟩ :: gens) scope pos) (some (.Name y py)) spos.line env = pure true) (hck : compCk scope env x = true)
    (h : wpAny (model prog w) A (eval iter env) (fun xv s₁ => wpAny (model prog w) A (pyIter xv) (fun it s₂ =>
      CompAt prog w A env (.ListComp elt (⟨.Name x px, iter, ifs, 0⟩ :: gens) scope pos) scope (compPost (model prog w) A E (some (assign (.Name y py) env)) (fun _ s' => Q .next s')) E it s₂) E s₁) E s)
    (hs : ∀ x, foldedSetIterable iter env x = pure x) (ha : firstAsync (⟨.Name x px, iter, ifs, 0⟩ :: gens) = false) :
    wpAny (model prog w) A (exec (.Assign [.Name y py] (.ListComp elt (⟨.Name x px, iter, ifs, 0⟩ :: gens) scope pos) spos) env) Q E s := by
  have ok := compOk hck
  obtain ⟨cl, hcl, hlk⟩ := closureFor_ok (env := env) ok.nd fun y hy => (ok.fr y hy).1
  rw [exec_Assign_Name_used _ _ _ _ hsw]
  refine wpAny_bind (wpAny_standAt (wpAny_bind ?_))
  show wpAny _ A (do let _ ← comprehension (.ListComp elt (⟨.Name x px, iter, ifs, 0⟩ :: gens) scope pos) scope env _ (newList []) (firstAsync (⟨.Name x px, iter, ifs, 0⟩ :: gens)) (eval iter env) (some (assign (.Name y py) env))) _ _ s
  rw [ha]
  refine wpAny_bind (wpAny_mono (wpAny_comprehension_free (use := some (assign (.Name y py) env)) (Q := fun _ s' => Q .next s') rfl hs hcl ok.k ok.names
    (wpAny_mono h (fun xv s₁ h₁ => wpAny_mono h₁ (fun it s₂ h₂ => h₂ cl hcl hlk) fun _ _ e => e) fun _ _ e => e)) (fun _ s' hq => wpAny_pure (wpAny_pure hq)) fun _ _ e => e)

/-- a comprehension of one for -/
theorem compAt1 {elt iter : PySem.Expr} {x : Str} {px : Pos} {ifs : List PySem.Expr} {scope : Scope} {pos : Pos} {I : Addr} {It : Nat → Obj → Prop} {n : Nat} {P : Nat → Value → Prop} {pers : Led} {RR : Value → Addr → Result → Shared → Prop}
    {nm : List (Str × NameKind)} (KD : Kd env nm) (hck : compCk scope env x = true) (K : Itr prog w g A It n P pers) (S : St g env own u ((I, It 0) :: l) s.heap) (hp : ∀ p ∈ pers, p ∈ l) (hsz : n ≤ sizeLine)
    (cu : List (Str × Value)) (hcu : ∀ p ∈ cu, p ∈ u) (hcf : ((cu.map (·.1)).all fun y => scope.names.lookup y == some .free) = true)
    (J : Nat → List Value → Led → Prop) (hj : J 0 [] [])
    (turn : ∀ cl C D i v ys ex h' tk, Kd (cenvX scope cl C env) (relabN scope.names nm) → i < n → P i v → J i ys ex → ys.length ≤ i → St g (cenvX scope cl C env) (cown scope C) ((x, v) :: cu) ((D, ListO ys) :: (I, It (i + 1)) :: (ex ++ (frL env own u ++ l))) h' →
      wpAny (model prog w) A (testsOf ifs (cenvX scope cl C env)) (fun ok s₃ =>
        if ok = true then wpAny (model prog w) A (eval elt (cenvX scope cl C env)) (fun y s₄ => ∃ ex' h'' tk', s₄ = { s with heap := h'', toks := tk' } ∧
            St g (cenvX scope cl C env) (cown scope C) ((x, v) :: cu) (ex' ++ ((D, ListO ys) :: (I, It (i + 1)) :: (ex ++ (frL env own u ++ l)))) h'' ∧ J (i + 1) (ys ++ [y]) (ex' ++ ex)) (fun _ _ => False) s₃
        else ∃ ex' h'' tk', s₃ = { s with heap := h'', toks := tk' } ∧ St g (cenvX scope cl C env) (cown scope C) ((x, v) :: cu) (ex' ++ ((D, ListO ys) :: (I, It (i + 1)) :: (ex ++ (frL env own u ++ l)))) h'' ∧ J (i + 1) ys (ex' ++ ex)) (fun _ _ => False) { s with heap := h', toks := tk })
    (fin : ∀ C D ys ex h' tk, J n ys ex → Hp g ((C, NsAny) :: (D, ListO ys) :: (ex ++ (frL env own u ++ l))) h' → RR (.ref D) C (.ok .next) { s with heap := h', toks := tk }) :
    CompAt prog w A env (.ListComp elt [⟨.Name x px, iter, ifs, 0⟩] scope pos) scope RR E (.ref I) s := by
  intro cl hcl hlk
  have ok := compOk hck
  refine wpAny_newObj_type ?_ (by size_fits)
  have H0 : Hp g ((I, It 0) :: (frL env own u ++ l)) s.heap := S.hp.unmid
  have H1 : Hp g ((s.heap.objs.size, ListO []) :: (I, It 0) :: (frL env own u ++ l)) (s.heap.push { cls := .type "list", data := .seq ([] : List Value).toArray }) := H0.push _ ⟨0, rfl⟩
  have hfree : ∀ y v, (y, v) ∈ cu → scope.names.lookup y = some .free := fun y v h => by
    have := List.all_eq_true.mp hcf y (List.mem_map_of_mem (f := fun p : Str × Value => p.1) h)
    simpa using this
  refine newComp_St (s := { s with heap := s.heap.push { cls := .type "list", data := .seq ([] : List Value).toArray } }) (cu := cu) H1 ok.k ok.nd (fun y v hy => ⟨hfree y v hy, ?_⟩) fun C h' cenv hC hE S' => ?_
  · have hyf := mem_of_lookup (hfree y v hy)
    obtain ⟨c, e, Pc, hm, hq⟩ := S.cellAt (hcu _ hy) (ok.fr y hyf).2
    refine ⟨c, (hlk y hyf).trans e, Pc, List.mem_cons_of_mem _ ?_, hq⟩
    rcases List.mem_append.mp hm with hm | hm
    · exact .tail _ (List.mem_append_left _ hm)
    · rcases List.mem_cons.mp hm with e2 | hm
      · rw [e2]; exact .head _
      · exact .tail _ (List.mem_append_right _ hm)
  · rw [hE, hC]
    have hcx : ∀ p ∈ cu, p.1 ≠ x := fun p hp e => by
      have h1 := hfree p.1 p.2 hp
      rw [e] at h1
      rcases ok.x with q | q <;> · rw [q] at h1; cases h1
    have hpL : ∀ p ∈ pers, p ∈ frL env own u ++ l := fun p h => List.mem_append_right _ (hp p h)
    have loop : ∀ s₃ : Shared, s₃ = { s with heap := h' } → codeAny (model prog w) A (.compLoop (.ListComp elt [⟨.Name x px, iter, ifs, 0⟩] scope pos) 0 (.ref I) (.ref s.heap.objs.size) (cenvX scope cl C env)) (RR (.ref s.heap.objs.size) C) s₃ := by
      rintro s₃ rfl
      exact compLoop1 (s := { s with heap := h' }) K hpL hsz S' (ok.sto cl C) hcx J hj (fun i v ys ex h'' tk hi hv hj' hys S'' => turn cl C _ i v ys ex h'' tk (KD.comp scope cl C ok.k) hi hv hj' hys S'') fun ys ex h'' tk hj' H'' => fin C _ ys ex h'' tk hj' H''
    exact codeAny_compStart_list (loop _ rfl) (K.self (i := 0) (l := (s.heap.objs.size, ListO []) :: (frL (cenvX scope cl C env) (cown scope C) cu ++ (frL env own u ++ l))) (S'.hp.le fun a => by simp only [cnt_cons, cnt_append]; first | ac_rfl | omega)
      (fun p h => List.mem_cons_of_mem _ (List.mem_append_right _ (hpL p h))) (loop _ rfl))

theorem NsAny.sameBut {h h' : Heap} {C : Addr} {L : Led} (H : Hp g ((C, NsAny) :: L) h) (hs : Heap.SameBut C h h') : Hp g L h' :=
  H.tail.other H.notMem (H.off (C, NsAny) (.head _)) fun b o hb e => (hs.2 b hb).trans e

/-- its end as a value -/
theorem comp_fin_none {Q : Value → Shared → Prop} {C D : Addr} {ys : List Value} {ex l₀ : Led} {h' : Heap} {tk : Nat} {P : Obj → Prop} {I : Addr} {h₀ : Heap} (S₀ : St g env own u ((I, P) :: l) h₀) (hP : NotCell P)
    (H : Hp g ((C, NsAny) :: (D, ListO ys) :: (ex ++ (frL env own u ++ l))) h') (hq : ∀ h', St g env own u ((D, ListO ys) :: (ex ++ l)) h' → Q (.ref D) { s with heap := h', toks := tk }) :
    compPost (model prog w) A E none Q (.ref D) C (.ok .next) { s with heap := h', toks := tk } := by
  obtain ⟨m, hm⟩ := NsAny.ns (H.has (C, NsAny) (.head _))
  refine ⟨m, hm, fun h'' hs => hq h'' ?_⟩
  refine S₀.of' ((NsAny.sameBut H hs).le fun a => by simp only [cnt_cons, cnt_append]; first | ac_rfl | omega) fun p hp => ?_
  rcases List.mem_cons.mp hp with rfl | hp
  · exact .inr hP
  · exact .inl (.tail _ (List.mem_append_right _ hp))
/-- its end stored at once -/
theorem comp_fin_assign {Q : Shared → Prop} {C D : Addr} {ys : List Value} {ex : Led} {h' : Heap} {tk : Nat} {P : Obj → Prop} {I : Addr} {h₀ : Heap} {y : Str} {py : Pos} (S₀ : St g env own u ((I, P) :: l) h₀) (hP : NotCell P) (hy : Sto env own y)
    (H : Hp g ((C, NsAny) :: (D, ListO ys) :: (ex ++ (frL env own u ++ l))) h') (hq : ∀ h' tk, St g env own ((y, .ref D) :: drop y u) ((D, ListO ys) :: (ex ++ l)) h' → Q { s with heap := h', toks := tk }) :
    compPost (model prog w) A E (some (assign (.Name y py) env)) (fun _ s' => Q s') (.ref D) C (.ok .next) { s with heap := h', toks := tk } := by
  show wpAny _ A (assign (.Name y py) env (.ref D)) _ _ _
  have S₁ : St g env own u ((D, ListO ys) :: ((C, NsAny) :: (ex ++ l))) h' := S₀.of' (H.le fun a => by simp only [cnt_cons, cnt_append]; first | ac_rfl | omega) fun p hp => by
    rcases List.mem_cons.mp hp with rfl | hp
    · exact .inr hP
    · exact .inl (.tail _ (.tail _ (List.mem_append_right _ hp)))
  refine wpAny_assign_Name (sta (s := { s with heap := h', toks := tk }) S₁ hy fun h₂ tk₂ S₂ => ?_)
  have H₂ : Hp g ((C, NsAny) :: (frL env own ((y, .ref D) :: drop y u) ++ ((D, ListO ys) :: (ex ++ l)))) h₂ := S₂.hp.le fun a => by simp only [cnt_cons, cnt_append]; first | ac_rfl | omega
  obtain ⟨m, hm⟩ := NsAny.ns (H₂.has (C, NsAny) (.head _))
  refine ⟨m, hm, fun h'' hs => hq h'' tk₂ ?_⟩
  refine S₂.of' (NsAny.sameBut H₂ hs) fun p hp => ?_
  rcases List.mem_cons.mp hp with rfl | hp
  · exact .inl (.head _)
  · rcases List.mem_cons.mp hp with rfl | hp
    · exact .inr fun o ⟨es, ep, d, _⟩ v e => by rw [d] at e; cases e
    · exact .inl (.tail _ hp)
end
/-- a turn of a comprehension's inner for -/
theorem compTurn_in (elt target iter : PySem.Expr) (g1 : Comprehension) (ifs : List PySem.Expr) (scope : Scope) (pos : Pos) (it acc : Value) (env : Env) :
    compTurn (.ListComp elt [g1, ⟨target, iter, ifs, 0⟩] scope pos) 1 it acc env = (do
      standAt iter.pos
      match ← pyNext it with
      | none => pure (.done .next)
      | some v =>
        letOwnedTupleGo target it v
        assign target env v
        let mut ok := true
        for c in ifs do
          if ok then ok ← isTrue c env (eval c env)
        if ok then
          (do let _ ← call (.builtin "list.append") [acc, ← eval elt env])
        again (.compLoop (.ListComp elt [g1, ⟨target, iter, ifs, 0⟩] scope pos) 1 it acc env)) := by rfl
/-- a turn of its outer for -/
theorem compTurn_out (elt target iter t2 iter2 : PySem.Expr) (ifs ifs2 : List PySem.Expr) (scope : Scope) (pos : Pos) (it acc : Value) (env : Env) :
    compTurn (.ListComp elt [⟨target, iter, ifs, 0⟩, ⟨t2, iter2, ifs2, 0⟩] scope pos) 0 it acc env = (do
      standAt iter.pos
      match ← pyNext it with
      | none => pure (.done .next)
      | some v =>
        letOwnedTupleGo target it v
        assign target env v
        let mut ok := true
        for c in ifs do
          if ok then ok ← isTrue c env (eval c env)
        if ok then
          let x ← eval iter2 env
          standAt iter2.pos
          let x ← foldedSetIterable iter2 env x
          let _ ← runOwn (.compStart (.ListComp elt [⟨target, iter, ifs, 0⟩, ⟨t2, iter2, ifs2, 0⟩] scope pos) 1 (← holding [x] (pyIter x)) acc env) env
        again (.compLoop (.ListComp elt [⟨target, iter, ifs, 0⟩, ⟨t2, iter2, ifs2, 0⟩] scope pos) 0 it acc env)) := by rfl
section
variable {prog : Program} {w : World} {A : Around} {E : Value → Shared → Prop} {R : Result → Shared → Prop} {s : Shared}
theorem compLoop_in {elt target iter : PySem.Expr} {g1 : Comprehension} {ifs : List PySem.Expr} {scope : Scope} {pos : Pos} {it acc : Value} {env : Env} (I : Nat → Shared → Prop)
    (turn : ∀ n s, I n s → wpAny (model prog w) A (pyNext it) (fun r s₁ => match r with
      | none => R (.ok .next) s₁
      | some v => wpAny (model prog w) A (assign target env v) (fun _ s₂ =>
          wpAny (model prog w) A (testsOf ifs env) (fun ok s₃ =>
            if ok = true then wpAny (model prog w) A (eval elt env) (fun x s₄ =>
              wpAny (model prog w) A (call (.builtin "list.append") [acc, x]) (fun _ s₅ => ∃ m, m < n ∧ I m s₅) (fun _ _ => False) s₄) (fun _ _ => False) s₃
            else ∃ m, m < n ∧ I m s₃) (fun _ _ => False) s₂) (fun _ _ => False) s₁) (fun _ _ => False) s)
    (n : Nat) (h : I n s) (ht : ∀ v, letOwnedTupleGo target it v = pure () := by intro _; rfl) :
    codeAny (model prog w) A (.compLoop (.ListComp elt [g1, ⟨target, iter, ifs, 0⟩] scope pos) 1 it acc env) R s := by
  have weak : ∀ (e : Value) (s' : Shared), (fun (_ : Value) (_ : Shared) => False) e s' → notedBy (model prog w) A env (fun e s' => R (.error e) s') e s' := fun _ _ f => f.elim
  refine codeAny_loop rfl I (fun n s hI => ?_) n h
  show wpAny _ A ((compTurn (.ListComp elt [g1, ⟨target, iter, ifs, 0⟩] scope pos) 1 it acc env).onRaise (fun x => do noteFrame x env; theTreesLotGoes x)) _ _ s
  refine wpAny_noted ?_
  rw [compTurn_in]
  refine wpAny_bind (wpAny_standAt (wpAny_bind (wpAny_mono (turn n s hI) (fun r s₁ h₁ => ?_) weak)))
  cases r with
  | none => exact wpAny_pure h₁
  | some v =>
    refine wpAny_bind (wpAny_of_eq (ht v) ?_)
    refine wpAny_bind (wpAny_mono h₁ (fun _ s₂ h₂ => wpAny_bind (wpAny_mono h₂ (fun ok s₃ h₃ => ?_) weak)) weak)
    cases ok with
    | false => exact wpAny_pure ⟨rfl, h₃⟩
    | true =>
      exact wpAny_bind (wpAny_bind (wpAny_mono h₃ (fun x s₄ h₄ => wpAny_bind (wpAny_mono h₄ (fun _ s₅ h₅ => wpAny_pure (wpAny_pure ⟨rfl, h₅⟩)) weak)) weak))
theorem compStart_in {elt target iter : PySem.Expr} {g1 : Comprehension} {ifs : List PySem.Expr} {scope : Scope} {pos : Pos} {it acc : Value} {env : Env}
    (h0 : codeAny (model prog w) A (.compLoop (.ListComp elt [g1, ⟨target, iter, ifs, 0⟩] scope pos) 1 it acc env) R s)
    (h : wpAny (model prog w) A (pyIter it) (fun it' s' => codeAny (model prog w) A (.compLoop (.ListComp elt [g1, ⟨target, iter, ifs, 0⟩] scope pos) 1 it' acc env) R s') (fun _ _ => False) s) :
    codeAny (model prog w) A (.compStart (.ListComp elt [g1, ⟨target, iter, ifs, 0⟩] scope pos) 1 it acc env) R s := by
  have weak : ∀ (e : Value) (s' : Shared), (fun (_ : Value) (_ : Shared) => False) e s' → notedBy (model prog w) A env (fun e s' => R (.error e) s') e s' := fun _ _ f => f.elim
  refine codeAny_of_tree ?_
  show wpAny _ _ ((compStart (.ListComp elt [g1, ⟨target, iter, ifs, 0⟩] scope pos) 1 it acc env).onRaise (fun x => do noteFrame x env; standAt theWindowsPlace)) _ _ s
  refine wpAny_notedAt ?_
  unfold compStart
  show wpAny _ _ (ask >>= _) _ _ s
  refine wpAny_bind (wpAny_askSetting (wpAny_ite ?_))
  split
  · first
      | exact wpAny_bind (wpAny_pure (wpAny_pure (And.intro rfl h0)))
      | exact wpAny_pure (And.intro rfl h0)
  · first
      | exact wpAny_bind (wpAny_rule (wpAny_bind (wpAny_standAt (wpAny_bind (wpAny_mono h (fun it' s' h' => wpAny_pure (And.intro rfl h')) weak)))))
      | (refine wpAny_bind (wpAny_rule ?_); show wpAny _ _ (standAt iter.pos >>= _) _ _ s; exact wpAny_bind (wpAny_standAt (wpAny_bind (wpAny_mono h (fun it' s' h' => wpAny_pure (And.intro rfl h')) weak))))
theorem compLoop_out {elt target iter t2 iter2 : PySem.Expr} {ifs ifs2 : List PySem.Expr} {scope : Scope} {pos : Pos} {it acc : Value} {env : Env} (I : Nat → Shared → Prop)
    (turn : ∀ n s, I n s → wpAny (model prog w) A (pyNext it) (fun r s₁ => match r with
      | none => R (.ok .next) s₁
      | some v => wpAny (model prog w) A (assign target env v) (fun _ s₂ =>
          wpAny (model prog w) A (testsOf ifs env) (fun ok s₃ =>
            if ok = true then wpAny (model prog w) A (eval iter2 env) (fun x s₄ => wpAny (model prog w) A (pyIter x) (fun it2 s₅ =>
              codeAny (model prog w) A (.compStart (.ListComp elt [⟨target, iter, ifs, 0⟩, ⟨t2, iter2, ifs2, 0⟩] scope pos) 1 it2 acc env) (fun r s₆ => r = .ok .next ∧ ∃ m, m < n ∧ I m s₆) s₅) (fun _ _ => False) s₄) (fun _ _ => False) s₃
            else ∃ m, m < n ∧ I m s₃) (fun _ _ => False) s₂) (fun _ _ => False) s₁) (fun _ _ => False) s)
    (n : Nat) (h : I n s) (ht : ∀ v, letOwnedTupleGo target it v = pure () := by intro _; rfl) (hs : ∀ x, foldedSetIterable iter2 env x = pure x := by intro _; rfl) :
    codeAny (model prog w) A (.compLoop (.ListComp elt [⟨target, iter, ifs, 0⟩, ⟨t2, iter2, ifs2, 0⟩] scope pos) 0 it acc env) R s := by
  have weak : ∀ (e : Value) (s' : Shared), (fun (_ : Value) (_ : Shared) => False) e s' → notedBy (model prog w) A env (fun e s' => R (.error e) s') e s' := fun _ _ f => f.elim
  refine codeAny_loop rfl I (fun n s hI => ?_) n h
  show wpAny _ A ((compTurn (.ListComp elt [⟨target, iter, ifs, 0⟩, ⟨t2, iter2, ifs2, 0⟩] scope pos) 0 it acc env).onRaise (fun x => do noteFrame x env; theTreesLotGoes x)) _ _ s
  refine wpAny_noted ?_
  rw [compTurn_out]
  refine wpAny_bind (wpAny_standAt (wpAny_bind (wpAny_mono (turn n s hI) (fun r s₁ h₁ => ?_) weak)))
  cases r with
  | none => exact wpAny_pure h₁
  | some v =>
    refine wpAny_bind (wpAny_of_eq (ht v) ?_)
    refine wpAny_bind (wpAny_mono h₁ (fun _ s₂ h₂ => wpAny_bind (wpAny_mono h₂ (fun ok s₃ h₃ => ?_) weak)) weak)
    cases ok with
    | false => exact wpAny_pure ⟨rfl, h₃⟩
    | true =>
      refine wpAny_bind (wpAny_mono h₃ (fun x s₄ h₄ => wpAny_bind (wpAny_standAt (wpAny_bind (wpAny_of_eq (hs x) (wpAny_bind (wpAny_holding (wpAny_mono h₄ (fun it2 s₅ h₅ => ?_) weak))))))) weak)
      refine wpAny_bind (wpAny_runOwn ?_)
      refine codeAny_mono h₅ fun r s₆ h₆ => ?_
      obtain ⟨rfl, h₆⟩ := h₆
      exact wpAny_pure ⟨rfl, h₆⟩
end
theorem lt4 {i : Nat} (h : i < 4) : i = 0 ∨ i = 1 ∨ i = 2 ∨ i = 3 := by omega
theorem mod4 (x : Int) : x % 4 = 0 ∨ x % 4 = 1 ∨ x % 4 = 2 ∨ x % 4 = 3 := by omega
theorem mod3 (x : Int) : x % 3 = 0 ∨ x % 3 = 1 ∨ x % 3 = 2 := by omega

/-- a text by its signs -/
noncomputable abbrev Tx (l : List Nat) : Str := ⟨l.toArray⟩
theorem Tx_len (l : List Nat) : (Tx l).length = l.length := by simp [PySem.Str.length]
theorem Tx_cps (l : List Nat) : (Tx l).cps.toList = l := by simp
theorem Tx_app (a b : List Nat) : Tx a ++ Tx b = Tx (a ++ b) := by
  show Str.append (Tx a) (Tx b) = _
  simp [Str.append]
theorem Tx_eta (x : Str) : x = Tx x.cps.toList := by cases x; simp
theorem Tx_inj {a b : List Nat} (h : Tx a = Tx b) : a = b := by
  have := congrArg (fun s : Str => s.cps.toList) h; simpa using this
theorem Tx_beq (a b : List Nat) : (Tx a == Tx b) = (a == b) := by
  by_cases h : a = b
  · simp [h]
  · have : Tx a ≠ Tx b := fun e => h (Tx_inj e)
    rw [beq_eq_false_iff_ne.mpr this, beq_eq_false_iff_ne.mpr h]

noncomputable def oi : Option Nat → Option Int | none => none | some n => some (n : Int)
/-- a slice by places that are not negative -/
noncomputable def cut (lo hi : Option Nat) (a : List Nat) : List Nat := (match hi with | some h => a.take h | none => a).drop (lo.getD 0)
theorem cut_len (lo hi : Option Nat) (a : List Nat) : (cut lo hi a).length ≤ a.length := by
  unfold cut; cases hi <;> simp <;> omega
theorem slice_cut (a : List Nat) (lo hi : Option Nat) : Txt.slice (Tx a) (oi lo) (oi hi) = Tx (cut lo hi a) := by
  have key : (Builtin.Str.strSliceIndices (oi lo) (oi hi) 1 (Tx a).length) =
      (List.range (min (hi.getD a.length) a.length - min (lo.getD 0) a.length)).map (min (lo.getD 0) a.length + ·) := by
    rw [← sliceRange_one]
    unfold Builtin.Str.strSliceIndices
    rw [Tx_len]
    have p : (1 : Int) > 0 := by decide
    have n1 : ∀ n : Nat, ¬ ((n : Int) < 0) := fun n => by omega
    cases lo <;> cases hi <;> simp only [oi, Option.getD_some, Option.getD_none, p, if_true, n1, if_false] <;> congr 1 <;> omega
  have pick : (Builtin.Str.strSliceIndices (oi lo) (oi hi) 1 (Tx a).length).filterMap ((Tx a).cps[·]?) = cut lo hi a := by
    rw [key, pick_run, Tx_cps]
    unfold cut
    rcases lo with _ | lo <;> rcases hi with _ | hi <;> simp only [Option.getD_some, Option.getD_none]
    · simp
    · rw [Nat.zero_min]; simp
    · rw [Nat.min_self]
      rw [List.take_of_length_le (by simp)]
      by_cases h : lo ≤ a.length
      · rw [Nat.min_eq_left h]
      · rw [Nat.min_eq_right (by omega), List.drop_of_length_le (Nat.le_refl _), List.drop_of_length_le (by omega)]
    · by_cases h : lo ≤ a.length
      · rw [Nat.min_eq_left h, List.drop_take]
        by_cases h2 : hi ≤ a.length
        · rw [Nat.min_eq_left h2]
        · rw [Nat.min_eq_right (a := hi) (by omega), List.take_of_length_le (by simp), List.take_of_length_le (by simp; omega)]
      · rw [Nat.min_eq_right (a := lo) (by omega), List.drop_of_length_le (Nat.le_refl _), List.drop_of_length_le (by simp; omega)]; simp
  unfold Txt.slice
  split
  · rename_i h
    have hl : (Builtin.Str.strSliceIndices (oi lo) (oi hi) 1 (Tx a).length).length = a.length := by
      simp only [Bool.and_eq_true, beq_iff_eq, Tx_len] at h
      rw [Tx_len]; exact h.2
    -- the whole text
    have hc : (cut lo hi a).length = a.length := by
      rw [← pick, key, pick_run, Tx_cps]
      rw [key] at hl
      simp at hl ⊢
      omega
    have : cut lo hi a = a := by
      unfold cut at hc ⊢
      rcases hi with _ | hi
      · simp at hc ⊢
        rcases Nat.eq_zero_or_pos a.length with h0 | h0
        · have := List.length_eq_zero_iff.mp h0; subst this; simp
        · rw [show lo.getD 0 = 0 by omega, List.drop_zero]
      · simp at hc ⊢
        rcases Nat.eq_zero_or_pos a.length with h0 | h0
        · have := List.length_eq_zero_iff.mp h0; subst this; simp
        · rw [show lo.getD 0 = 0 by omega, List.drop_zero, List.take_of_length_le (by omega)]
    rw [this]
  · rw [pick]

theorem mem_in (a b : List Nat) (hb : b.length ≤ 1) : (!(Builtin.Str.occurrences (Tx a) (Tx b) 0 (Tx a).length 1).isEmpty) = b.all fun c => decide (c ∈ a) := by
  match b, hb with
  | [], _ =>
    rw [Bool.eq_iff_iff, StrLaws.found_iff]
    simp only [List.all_nil, iff_true]
    exact ⟨0, by simp [StrLaws.subAt_eq, PySem.Str.length]⟩
  | [c], _ => rw [StrLaws.found_one]; simp

section
variable {prog : Program} {w : World} {A : Around} {E : Value → Shared → Prop} {s : Shared} {g : Heap} {l : Led} {Q : Value → Shared → Prop}

/-! integers -/
theorem addI {a b : Int} {t u : Tok} (h : ∀ t' tk, Q (.int (a + b) t') { s with toks := tk }) : wpAny (model prog w) A (binaryOp .Add (.int a t) (.int b u)) Q E s := PyProof.Rows.add_int (h _ _)
theorem subI {a b : Int} {t u : Tok} (h : ∀ t' tk, Q (.int (a - b) t') { s with toks := tk }) : wpAny (model prog w) A (binaryOp .Sub (.int a t) (.int b u)) Q E s := PyProof.Rows.sub_int (h _ _)
theorem powI {a : Int} {n : Nat} {t u : Tok} (hn : n ≤ 1000000) (ha : a.natAbs < 2 ^ 64) (h : ∀ t' tk, Q (.int (a ^ n) t') { s with toks := tk }) : wpAny (model prog w) A (binaryOp .Pow (.int a t) (.int n u)) Q E s :=
  pow_int_small (by omega) (by omega) ha (by simpa using h _ _)
theorem divI {a b : Int} {t u : Tok} (hb : 0 < b) (hs : b < 1000000) (h : ∀ t' tk, Q (.int (a / b) t') { s with toks := tk }) : wpAny (model prog w) A (binaryOp .FloorDiv (.int a t) (.int b u)) Q E s := by
  refine PyProof.Rows.floordiv_int (by omega) ?_ (.inl ?_)
  · rw [Int.fdiv_eq_ediv_of_nonneg _ (by omega)]; exact h _ _
  · exact PyProof.noPylong_small (by omega)
theorem modI {a b : Int} {t u : Tok} (hb : 0 < b) (h : ∀ t' tk, Q (.int (a % b) t') { s with toks := tk }) : wpAny (model prog w) A (binaryOp .Mod (.int a t) (.int b u)) Q E s := by
  refine PyProof.Rows.mod_int' (by omega) ?_
  rw [Int.fmod_eq_emod_of_nonneg _ (by omega)]; exact h _ _
theorem eqI {a b : Int} {t u : Tok} (h : Q (.bool (a == b)) s) : wpAny (model prog w) A (compareOp .Eq (.int a t) (.int b u)) Q E s := PyProof.Rows.eq_int h
theorem gtI {a b : Int} {t u : Tok} (h : Q (.bool (decide (b < a))) s) : wpAny (model prog w) A (compareOp .Gt (.int a t) (.int b u)) Q E s := PyProof.Rows.gt_int h

/-! texts -/
theorem addS {a b : List Nat} {t u : Tok} (hz : a.length + b.length ≤ 10000) (h : ∀ t' tk, Q (.str (Tx (a ++ b)) t') { s with toks := tk }) : wpAny (model prog w) A (binaryOp .Add (.str (Tx a) t) (.str (Tx b) u)) Q E s := by
  refine PyProof.Rows.add_str (fun t' tk => ?_) (by rw [Tx_len, Tx_len, sizeLine_eq]; omega)
  rw [Tx_app]; exact h t' tk
theorem eqS {a b : List Nat} {t u : Tok} (h : Q (.bool (a == b)) s) : wpAny (model prog w) A (compareOp .Eq (.str (Tx a) t) (.str (Tx b) u)) Q E s := PyProof.Rows.eq_str (by rw [Tx_beq]; exact h)
theorem neS {a b : List Nat} {t u : Tok} (h : Q (.bool (a != b)) s) : wpAny (model prog w) A (compareOp .NotEq (.str (Tx a) t) (.str (Tx b) u)) Q E s := PyProof.Rows.ne_str (by
  have : (Tx a != Tx b) = (a != b) := by unfold bne; rw [Tx_beq]
  rw [this]; exact h)
theorem inS {a b : List Nat} {t u : Tok} (hb : b.length ≤ 1) (h : Q (.bool (b.all fun c => decide (c ∈ a))) s) : wpAny (model prog w) A (compareOp .In (.str (Tx b) u) (.str (Tx a) t)) Q E s :=
  PyProof.Rows.in_str (by rw [mem_in a b hb]; exact h)
theorem itemS {value slice : PySem.Expr} {a : List Nat} {t u : Tok} {i : Int} {c : Nat} (h0 : 0 ≤ i) (hc : a[i.toNat]? = some c) (hz : a.length ≤ 10000) (h : ∀ t' tk, Q (.str (Tx [c]) t') { s with toks := tk })
    (hs : subscripted slice false (.str (Tx a) t) (.int i u) = operate [.str (Tx a) t, .int i u] (getItem (.str (Tx a) t) (.int i u)))
    (ht : ∀ r, letTemporaryGo value (.str (Tx a) t) r = pure ()) :
    wpAny (model prog w) A (subscriptTail value slice (.str (Tx a) t) (.int i u)) Q E s := by
  have hlt : i.toNat < a.length := (List.getElem?_eq_some_iff.mp hc).1
  have hi : i < (Tx a).length := by rw [Tx_len]; omega
  refine PyProof.Rows.item_str (fitsSsize_of (N := 9223372036854775808) (by omega) (by rw [Tx_len] at hi; omega) (Int.le_refl _)) (by rw [Tx_len]; omega) hi (fun _ => ?_) hs ht
  rw [item_meets h0 (n := c) (by simpa using hc)]; exact h _ _

noncomputable def natPart (v : Value) (n : Option Nat) : Prop := (v = .none ∧ n = none) ∨ ∃ (k : Nat) (t : Tok), v = .int (k : Int) t ∧ n = some k
theorem natPart.none : natPart .none none := .inl ⟨rfl, rfl⟩
theorem natPart.int (k : Nat) (t : Tok) : natPart (.int (k : Int) t) (some k) := .inr ⟨k, t, rfl, rfl⟩
theorem natPart.lit (k : Nat) (t : Tok) (i : Int) (h : i = (k : Int) := by rfl) : natPart (.int i t) (some k) := h ▸ .int k t
theorem natPart.part {v : Value} {n : Option Nat} (h : natPart v n) : ∃ p, v = partValue p ∧ p.map (·.1) = oi n := by
  rcases h with ⟨rfl, rfl⟩ | ⟨k, t, rfl, rfl⟩
  · exact ⟨Option.none, rfl, rfl⟩
  · exact ⟨some (k, t), rfl, rfl⟩

theorem sliceS {value : PySem.Expr} {lower upper : Option PySem.Expr} {p : Pos} {a : List Nat} {t : Tok} {vl vu : Value} {lo hi : Option Nat} (hl : natPart vl lo) (hu : natPart vu hi) (H : Hp g l s.heap) (hz : a.length ≤ 10000)
    (h : ∀ t' tk h', Hp g l h' → Q (.str (Tx (cut lo hi a)) t') { s with heap := h', toks := tk }) :
    wpAny (model prog w) A (subscriptTail value (.Slice lower upper none p) (.str (Tx a) t) (.ref s.heap.objs.size)) Q E { s with heap := s.heap.push { cls := .type "slice", data := .fields #[vl, vu, .none] } } := by
  obtain ⟨pl, rfl, el⟩ := hl.part
  obtain ⟨pu, rfl, eu⟩ := hu.part
  refine PyProof.Rows.tail_any (s := { s with heap := s.heap.push { cls := .type "slice", data := .fields #[partValue pl, partValue pu, .none] } }) (typeIs_str _ _ _) F.slot_str_getitem.lookup
    (wpAny_getItem_str_slice (l := pl) (u := pu) (st := none) ⟨_, Heap.get?_push_size _ rfl, rfl, rfl⟩ rfl ?_) (ops := [.ref s.heap.objs.size, .str (Tx a) t]) rfl
  have hk : Hp g l (s.heap.push { cls := .type "slice", data := .fields #[partValue pl, partValue pu, .none] }) := H.keeps fun _ _ e => Heap.get?_push_of_some _ e
  have e := slice_cut a lo hi
  unfold sliceMade slicePicked
  rw [el, eu]
  unfold Txt.slice at e
  simp only [Option.map_none, Option.getD_none]
  split at e
  · rename_i hc
    rw [if_pos hc]
    have := h t s.toks _ hk
    rw [← e] at this
    exact this
  · rename_i hc
    rw [if_neg hc]
    refine ⟨?_, ?_⟩
    · rw [e, Tx_len]
      have := cut_len lo hi a
      rw [sizeLine_eq]; omega
    · rw [e]; exact h _ _ _ hk
end
section
variable {prog : Program} {w : World} {A : Around} {E : Value → Shared → Prop} {s : Shared} {g : Heap} {env : Env} {own : List (Str × Addr)} {u : List (Str × Value)} {l : Led} {Q : Value → Shared → Prop}

theorem St.cons {a : Addr} {P : Obj → Prop} {h h' : Heap} (S : St g env own u l h) (H : Hp g ((a, P) :: (frL env own u ++ l)) h') : St g env own u ((a, P) :: l) h' := S.of (H.mid (l := frL env own u)) fun _ => List.mem_cons_of_mem _

theorem Itr.mono {A' : Around} {It : Nat → Obj → Prop} {n : Nat} {P P' : Nat → Value → Prop} {pers : Led} (K : Itr prog w g A' It n P pers) (h : ∀ i v, P i v → P' i v) : Itr prog w g A' It n P' pers :=
  ⟨fun hi H hp hQ => K.next hi H hp fun v h' tk hv => hQ v h' tk (h _ v hv), K.done, K.self, K.nc⟩
theorem Itr.upto {A' : Around} (hh : A'.handled = none) (n : Nat) : Itr prog w g A' (RIterO 0 1 n) n (fun i v => ∃ t, v = .int (i : Int) t) [] :=
  (Itr.range hh 0 1 n).mono fun i v ⟨t, e⟩ => ⟨t, by rw [e]; congr 1; omega⟩
theorem Itr.from {A' : Around} (hh : A'.handled = none) (a : Int) (n : Nat) : Itr prog w g A' (RIterO a 1 n) n (fun i v => ∃ t, v = .int (a + i) t) [] :=
  (Itr.range hh a 1 n).mono fun i v ⟨t, e⟩ => ⟨t, by rw [e]; congr 1; omega⟩
theorem Itr.down {A' : Around} (hh : A'.handled = none) (a : Int) (n : Nat) : Itr prog w g A' (RIterO a (-1) n) n (fun i v => ∃ t, v = .int (a - i) t) [] :=
  (Itr.range hh a (-1) n).mono fun i v ⟨t, e⟩ => ⟨t, by rw [e]; congr 1; omega⟩
theorem RIterO.nc (a c : Int) (n i : Nat) : NotCell (RIterO a c n i) := fun o d v e => by rw [d] at e; cases e
theorem IterO.nc (a : Addr) (i : Nat) : NotCell (IterO a i) := fun o ⟨_, d⟩ v e => by rw [d] at e; cases e

theorem newL {vs : List Value} (S : St g env own u l s.heap) (hz : vs.length ≤ sizeLine) (h : ∀ a h', St g env own u ((a, ListO vs) :: l) h' → Q (.ref a) { s with heap := h' }) : wpAny (model prog w) A (newList vs) Q E s :=
  wpAny_newObj_type (h _ _ (S.push (P := ListO vs) { cls := .type "list", data := .seq vs.toArray } ⟨0, rfl⟩)) (by show vs.toArray.size ≤ sizeLine; rw [List.size_toArray]; exact hz)

theorem itemL {value slice : PySem.Expr} {a : Addr} {xs : List Value} {k : Int} {t : Tok} {v : Value} (H : Hp g l s.heap) (hm : (a, ListO xs) ∈ l) (h0 : 0 ≤ k) (hk : k < 2 ^ 63) (hx : xs[k.toNat]? = some v) (h : Q v s)
    (hs : subscripted slice false (.ref a) (.int k t) = operate [.ref a, .int k t] (getItem (.ref a) (.int k t))) : wpAny (model prog w) A (subscriptTail value slice (.ref a) (.int k t)) Q E s :=
  have hl := ListO.isList (H.get hm)
  PyProof.Rows.tail_any hl.typeIs slot_list_getitem.lookup (wpAny_getItem_list hl h0 hk (by simpa using hx) h) hs
theorem itemLast {value slice : PySem.Expr} {a : Addr} {xs : List Value} {t : Tok} {v : Value} (H : Hp g l s.heap) (hm : (a, ListO xs) ∈ l) (hx : xs.getLast? = some v) (h : Q v s)
    (hs : subscripted slice false (.ref a) (.int (-1) t) = operate [.ref a, .int (-1) t] (getItem (.ref a) (.int (-1) t))) : wpAny (model prog w) A (subscriptTail value slice (.ref a) (.int (-1) t)) Q E s := by
  have hl := ListO.isList (H.get hm)
  have hpos : 0 < xs.length := List.length_pos_iff.mpr (by rintro rfl; cases hx)
  refine PyProof.Rows.tail_any hl.typeIs slot_list_getitem.lookup (wpAny_getItem_list_neg hl (by decide) (by simp; omega) (by decide) ?_ h) hs
  rw [List.getLast?_eq_getElem?] at hx
  rw [← hx]
  simp only [List.getElem?_toArray, List.size_toArray]
  congr 1
  omega

theorem rangeN {n : Int} {t : Tok} (S : St g env own u l s.heap) (h : ∀ a h' tk, St g env own u ((a, RangeO 0 n 1) :: l) h' → Q (.ref a) { s with heap := h', toks := tk }) : wpAny (model prog w) A (call (.type "range") [.int n t]) Q E s :=
  call_range_1 (h _ _ _ (S.push (P := RangeO 0 n 1) _ ⟨_, _, _, rfl⟩))
theorem range2 {a b : Int} {t t' : Tok} (S : St g env own u l s.heap) (h : ∀ r h' tk, St g env own u ((r, RangeO a b 1) :: l) h' → Q (.ref r) { s with heap := h', toks := tk }) : wpAny (model prog w) A (call (.type "range") [.int a t, .int b t']) Q E s :=
  call_range_2 (h _ _ _ (S.push (P := RangeO a b 1) _ ⟨_, _, _, rfl⟩))
theorem rangeDown {a b : Int} {t t' t'' : Tok} (S : St g env own u l s.heap) (h : ∀ r h' tk, St g env own u ((r, RangeO a b (-1)) :: l) h' → Q (.ref r) { s with heap := h', toks := tk }) : wpAny (model prog w) A (call (.type "range") [.int a t, .int b t', .int (-1) t'']) Q E s := by
  refine call_range_3 (by decide) ?_ (.inl (PyProof.noPylong_small (by omega)))
  exact h _ _ s.toks (S.push (P := RangeO a b (-1)) _ ⟨_, _, _, rfl⟩)

/-- a slice of a list by places that are not negative -/
noncomputable def cutV (lo hi : Option Nat) (a : List Value) : List Value := (match hi with | some h => a.take h | none => a).drop (lo.getD 0)
theorem pick_cut (a : List Value) (lo hi : Option Nat) : slicePick a.toArray (oi lo) (oi hi) none = (cutV lo hi a).toArray := by
  have e : sliceBounds (oi lo) (oi hi) none a.length = (((min (lo.getD 0) a.length : Nat) : Int), ((min (hi.getD a.length) a.length : Nat) : Int), 1) := by
    have p : (1 : Int) > 0 := by decide
    have n1 : ∀ n : Nat, ¬ ((n : Int) < 0) := fun n => by omega
    cases lo <;> cases hi <;> simp only [sliceBounds, oi, Option.getD_some, Option.getD_none, p, if_true, n1, if_false, Prod.mk.injEq] <;> refine ⟨?_, ?_, trivial⟩ <;> omega
  unfold slicePick
  rw [List.size_toArray, e]
  dsimp only
  rw [sliceRange_one, pick_run]
  congr 1
  unfold cutV
  rcases lo with _ | lo <;> rcases hi with _ | hi <;> simp only [Option.getD_some, Option.getD_none]
  · simp
  · rw [Nat.zero_min]; simp
  · rw [Nat.min_self]
    rw [List.take_of_length_le (by simp)]
    by_cases h : lo ≤ a.length
    · rw [Nat.min_eq_left h]
    · rw [Nat.min_eq_right (by omega), List.drop_of_length_le (by simp), List.drop_of_length_le (by omega)]
  · by_cases h : lo ≤ a.length
    · rw [Nat.min_eq_left h, List.drop_take]
      by_cases h2 : hi ≤ a.length
      · rw [Nat.min_eq_left h2]
      · rw [Nat.min_eq_right (a := hi) (by omega), List.take_of_length_le (by simp), List.take_of_length_le (by simp; omega)]
    · rw [Nat.min_eq_right (a := lo) (by omega), List.drop_of_length_le (by simp), List.drop_of_length_le (by simp; omega)]; simp
theorem natPart.isPart {v : Value} {n : Option Nat} (h : natPart v n) : IsPart v (oi n) := by
  rcases h with ⟨rfl, rfl⟩ | ⟨k, t, rfl, rfl⟩
  · exact .none
  · exact .int _ _
theorem sliceL {value : PySem.Expr} {lower upper : Option PySem.Expr} {p : Pos} {a : Addr} {xs : List Value} {vl vu : Value} {lo hi : Option Nat} (hl : natPart vl lo) (hu : natPart vu hi) (S : St g env own u l s.heap) (hm : (a, ListO xs) ∈ l) (hz : xs.length ≤ sizeLine)
    (h : ∀ b h', St g env own u ((b, ListO (cutV lo hi xs)) :: l) h' → Q (.ref b) { s with heap := h' }) :
    wpAny (model prog w) A (subscriptTail value (.Slice lower upper none p) (.ref a) (.ref s.heap.objs.size)) Q E { s with heap := s.heap.push { cls := .type "slice", data := .fields #[vl, vu, .none] } } := by
  have S1 : St g env own u l (s.heap.push { cls := .type "slice", data := .fields #[vl, vu, .none] }) := S.keeps fun _ _ e => Heap.get?_push_of_some _ e
  have hL := ListO.isList (S1.get hm)
  refine PyProof.Rows.tail_any (s := { s with heap := s.heap.push { cls := .type "slice", data := .fields #[vl, vu, .none] } }) hL.typeIs slot_list_getitem.lookup
    (wpAny_getItem_list_slice (lo := oi lo) (hi := oi hi) (st := none) hL (Heap.IsSliceOf.new _ _ _ _) hl.isPart hu.isPart .none (by simp) ?_ (by rw [List.size_toArray]; exact hz)) (ops := [.ref s.heap.objs.size, .ref a]) rfl
  rw [pick_cut]
  exact h _ _ (S1.push (P := ListO (cutV lo hi xs)) _ ⟨0, rfl⟩)

theorem addL {a b : Addr} {xs ys : List Value} (S : St g env own u l s.heap) (ha : (a, ListO xs) ∈ l) (hb : (b, ListO ys) ∈ l) (hz : xs.length + ys.length ≤ sizeLine)
    (h : ∀ c h', St g env own u ((c, ListO (xs ++ ys)) :: l) h' → Q (.ref c) { s with heap := h' }) : wpAny (model prog w) A (binaryOp .Add (.ref a) (.ref b)) Q E s := by
  obtain ⟨n, hl⟩ := ListO.isL (S.get ha)
  obtain ⟨m, hr⟩ := ListO.isL (S.get hb)
  refine P.add_list hl hr ?_ (by simpa using hz)
  have : xs.toArray ++ ys.toArray = (xs ++ ys).toArray := by simp
  rw [this]
  exact h _ _ (S.push (P := ListO (xs ++ ys)) _ ⟨0, rfl⟩)
theorem lenL {a : Addr} {xs : List Value} (H : Hp g l s.heap) (ha : (a, ListO xs) ∈ l) (hz : xs.length ≤ sizeLine) (h : ∀ t tk, Q (.int xs.length t) { s with toks := tk }) : wpAny (model prog w) A (call (.builtin "len") [.ref a]) Q E s := by
  refine call_len_list (ListO.isList (H.get ha)) (by rw [List.size_toArray]; rw [sizeLine_eq] at hz; omega) ?_
  simpa using h _ _
theorem lenS {a : List Nat} {t : Tok} (hz : a.length ≤ 10000) (h : ∀ t' tk, Q (.int a.length t') { s with toks := tk }) : wpAny (model prog w) A (call (.builtin "len") [.str (Tx a) t]) Q E s := by
  refine PyProof.Rows.len_str (by rw [Tx_len]; omega) ?_
  rw [Tx_len]; exact h _ _

theorem iterL {ax : Addr} {vs : List Value} (S : St g env own u l s.heap) (hm : (ax, ListO vs) ∈ l) (h : ∀ I h', St g env own u ((I, IterO ax 0) :: l) h' → Q (.ref I) { s with heap := h' }) : wpAny (model prog w) A (pyIter (.ref ax)) Q E s :=
  iter_list S.hp (List.mem_append_right _ hm) fun I h' H' => h I h' (S.cons H')
theorem iterR {ax : Addr} {a b : Int} {n : Nat} (S : St g env own u l s.heap) (hm : (ax, RangeO a b 1) ∈ l) (ha : -1000000 ≤ a ∧ a ≤ 1000000 ∧ -1000000 ≤ b ∧ b ≤ 1000000) (hn : (n : Int) = if a < b then b - a else 0)
    (h : ∀ I h', St g env own u ((I, RIterO a 1 n 0) :: l) h' → Q (.ref I) { s with heap := h' }) : wpAny (model prog w) A (pyIter (.ref ax)) Q E s := by
  have e := PySem.rangeSize_one a b
  rw [← hn] at e
  refine iter_range S.hp (List.mem_append_right _ hm) (small_one (by omega) (by omega) (by omega) (by omega)) (fun I h' H' => h I h' ?_) (by rw [e]; omega)
  rw [e, show ((n : Int)).toNat = n by omega] at H'
  exact S.cons H'
theorem iterDown {ax : Addr} {a b : Int} {n : Nat} (S : St g env own u l s.heap) (hm : (ax, RangeO a b (-1)) ∈ l) (ha : -1000000 ≤ a ∧ a ≤ 1000000 ∧ -1000000 ≤ b ∧ b ≤ 1000000) (hn : (n : Int) = if b < a then a - b else 0)
    (h : ∀ I h', St g env own u ((I, RIterO a (-1) n 0) :: l) h' → Q (.ref I) { s with heap := h' }) : wpAny (model prog w) A (pyIter (.ref ax)) Q E s := by
  have e : Builtin.Range.rangeSize a b (-1) = n := by
    unfold Builtin.Range.rangeSize
    rw [if_neg (by decide), hn, show (-(-1) : Int) = 1 by decide, Int.ediv_one]
    split <;> omega
  have hs : Builtin.Range.small a b (-1) = true := by
    unfold Builtin.Range.small
    rw [e]
    simp only [Builtin.Range.rangeFitsLong, Bool.and_eq_true, Bool.or_eq_true, decide_eq_true_eq, beq_iff_eq]
    rw [if_neg (show ¬ ((-1 : Int) > 0) by decide)]
    simp only [Bool.and_eq_true, decide_eq_true_eq]
    split at hn <;> omega
  refine iter_range S.hp (List.mem_append_right _ hm) hs (fun I h' H' => h I h' ?_) (by rw [e]; omega)
  rw [e, show ((n : Int)).toNat = n by omega] at H'
  exact S.cons H'
end
section
variable {prog : Program} {w : World} {A : Around} {E : Value → Shared → Prop} {s : Shared} {g : Heap} {env : Env} {own : List (Str × Addr)} {u : List (Str × Value)} {l : Led} {x : Str} {v : Value} {pos : Pos} {Q : Value → Shared → Prop} {nm : List (Str × NameKind)}
theorem nmL (S : St g env own u l s.heap) (K : Kd env nm) (hx : (x, v) ∈ u) (hl : nm.lookup x = some .local) (hd : (x == ("__debug__" : Str)) = false) (h : Q v s) : wpAny (model prog w) A (eval (.Name x pos) env) Q E s := ldL S hx ((K.kind x).trans hl) hd h
theorem nmC (S : St g env own u l s.heap) (K : Kd env nm) (hx : (x, v) ∈ u) (hl : nm.lookup x = some .cell) (hd : (x == ("__debug__" : Str)) = false) (h : Q v s) : wpAny (model prog w) A (eval (.Name x pos) env) Q E s := ldC S hx ((K.kind x).trans hl) hd h
theorem nmF (S : St g env own u l s.heap) (K : Kd env nm) (hx : (x, v) ∈ u) (hl : nm.lookup x = some .free) (hd : (x == ("__debug__" : Str)) = false) (hn : (x == ("__classdict__" : Str)) = false) (h : Q v s) : wpAny (model prog w) A (eval (.Name x pos) env) Q E s := ldF S hx ((K.kind x).trans hl) hd hn h
theorem nmG (W : Wd w g) (S : St g env own u l s.heap) (K : Kd env nm) (e : nsIn (KK w) mainGlobals x = some (some v)) (hl : nm.lookup x = some .globalImplicit) (hd : (x == ("__debug__" : Str)) = false) (h : Q v s) : wpAny (model prog w) A (eval (.Name x pos) env) Q E s :=
  ldG W S e ((K.kind x).trans hl) K.gl hd h
theorem nmB (W : Wd w g) (S : St g env own u l s.heap) (K : Kd env nm) (e : nsIn (KK w) mainGlobals x = some none) (hv : bootBuiltins x = some v) (hl : nm.lookup x = some .globalImplicit) (hd : (x == ("__debug__" : Str)) = false) (hn : (x == ("__name__" : Str)) = false) (h : Q v s) : wpAny (model prog w) A (eval (.Name x pos) env) Q E s :=
  ldB W S e hv ((K.kind x).trans hl) K.gl K.bi hd hn h
end
noncomputable def noComp : PySem.Expr → Bool
  | .ListComp .. | .SetComp .. | .DictComp .. => false
  | _ => true
theorem asgn {M : Model} {A : Around} {E : Value → Shared → Prop} {s : Shared} {env : Env} {x pos' value pos} {Q : Flow → Shared → Prop} (hn : noComp value = true) (h : wpAny M A (eval value env) (fun v s₁ => wpAny M A (storeName env x v) (fun _ => Q .next) E s₁) E s) :
    wpAny M A (exec (.Assign [.Name x pos'] value pos) env) Q E s := by
  refine wpAny_Assign_Name h ?_
  cases value <;> first | rfl | (exact absurd hn Bool.false_ne_true)
section
variable {M : Model} {A : Around} {E : Value → Shared → Prop} {s : Shared} {env : Env} {Q : Value → Shared → Prop} {k : Nat} {pos : Pos}
theorem litS {x : Str} {xs : List Nat} (e : x = Tx xs) (h : Q (.str (Tx xs) s.toks) { s with toks := s.toks + 1 }) : wpAny M A (eval (.Constant (.str x) k pos) env) Q E s := by subst e; exact Calls.Constant_str h
theorem lit_0 (h : Q (.str (Tx []) s.toks) { s with toks := s.toks + 1 }) : wpAny M A (eval (.Constant (.str "") k pos) env) Q E s := litS (by decide +kernel) h
theorem lit_1 (h : Q (.str (Tx [42]) s.toks) { s with toks := s.toks + 1 }) : wpAny M A (eval (.Constant (.str "*") k pos) env) Q E s := litS (by decide +kernel) h
theorem lit_2 (h : Q (.str (Tx [47]) s.toks) { s with toks := s.toks + 1 }) : wpAny M A (eval (.Constant (.str "/") k pos) env) Q E s := litS (by decide +kernel) h
theorem lit_3 (h : Q (.str (Tx [65, 46, 43, 42]) s.toks) { s with toks := s.toks + 1 }) : wpAny M A (eval (.Constant (.str "A.+*") k pos) env) Q E s := litS (by decide +kernel) h
theorem lit_4 (h : Q (.str (Tx [98, 40, 41, 42]) s.toks) { s with toks := s.toks + 1 }) : wpAny M A (eval (.Constant (.str "b()*") k pos) env) Q E s := litS (by decide +kernel) h
theorem lit_5 (h : Q (.str (Tx [92, 63, 124, 42]) s.toks) { s with toks := s.toks + 1 }) : wpAny M A (eval (.Constant (.str "\\?|*") k pos) env) Q E s := litS (by decide +kernel) h
theorem lit_6 (h : Q (.str (Tx [91, 93, 94, 42]) s.toks) { s with toks := s.toks + 1 }) : wpAny M A (eval (.Constant (.str "[]^*") k pos) env) Q E s := litS (by decide +kernel) h
theorem lit_7 (h : Q (.str (Tx [40, 63, 62]) s.toks) { s with toks := s.toks + 1 }) : wpAny M A (eval (.Constant (.str "(?>") k pos) env) Q E s := litS (by decide +kernel) h
theorem lit_8 (h : Q (.str (Tx [41]) s.toks) { s with toks := s.toks + 1 }) : wpAny M A (eval (.Constant (.str ")") k pos) env) Q E s := litS (by decide +kernel) h
theorem lit_9 (h : Q (.str (Tx [110, 101, 97, 114, 101, 115, 116]) s.toks) { s with toks := s.toks + 1 }) : wpAny M A (eval (.Constant (.str "nearest") k pos) env) Q E s := litS (by decide +kernel) h
theorem lit_10 (h : Q (.str (Tx [102, 97, 114, 116, 104, 101, 115, 116]) s.toks) { s with toks := s.toks + 1 }) : wpAny M A (eval (.Constant (.str "farthest") k pos) env) Q E s := litS (by decide +kernel) h
theorem lit_11 (h : Q (.str (Tx [98, 97, 114, 101]) s.toks) { s with toks := s.toks + 1 }) : wpAny M A (eval (.Constant (.str "bare") k pos) env) Q E s := litS (by decide +kernel) h
theorem lit_12 (h : Q (.str (Tx [46, 42, 63]) s.toks) { s with toks := s.toks + 1 }) : wpAny M A (eval (.Constant (.str ".*?") k pos) env) Q E s := litS (by decide +kernel) h
theorem lit_13 (h : Q (.str (Tx [46, 42]) s.toks) { s with toks := s.toks + 1 }) : wpAny M A (eval (.Constant (.str ".*") k pos) env) Q E s := litS (by decide +kernel) h
theorem lit_14 (h : Q (.str (Tx [92]) s.toks) { s with toks := s.toks + 1 }) : wpAny M A (eval (.Constant (.str "\\") k pos) env) Q E s := litS (by decide +kernel) h
theorem lit_15 (h : Q (.str (Tx [65, 98]) s.toks) { s with toks := s.toks + 1 }) : wpAny M A (eval (.Constant (.str "Ab") k pos) env) Q E s := litS (by decide +kernel) h
theorem lit_16 (h : Q (.str (Tx [46, 42, 43, 63, 124, 40, 41, 91, 93, 123, 125, 94, 36]) s.toks) { s with toks := s.toks + 1 }) : wpAny M A (eval (.Constant (.str ".*+?|()[]{}^$") k pos) env) Q E s := litS (by decide +kernel) h
theorem lit_17 (h : Q (.str (Tx [102, 105, 103]) s.toks) { s with toks := s.toks + 1 }) : wpAny M A (eval (.Constant (.str "fig") k pos) env) Q E s := litS (by decide +kernel) h
theorem lit_18 (h : Q (.str (Tx [66, 79, 84]) s.toks) { s with toks := s.toks + 1 }) : wpAny M A (eval (.Constant (.str "BOT") k pos) env) Q E s := litS (by decide +kernel) h
theorem lit_19 (h : Q (.str (Tx [112, 108, 117, 109]) s.toks) { s with toks := s.toks + 1 }) : wpAny M A (eval (.Constant (.str "plum") k pos) env) Q E s := litS (by decide +kernel) h
theorem lit_20 (h : Q (.str (Tx [70, 105, 103, 66, 111, 116, 47, 50, 46, 49]) s.toks) { s with toks := s.toks + 1 }) : wpAny M A (eval (.Constant (.str "FigBot/2.1") k pos) env) Q E s := litS (by decide +kernel) h
theorem lit_21 (h : Q (.str (Tx [120, 32, 80, 76, 85, 77, 42]) s.toks) { s with toks := s.toks + 1 }) : wpAny M A (eval (.Constant (.str "x PLUM*") k pos) env) Q E s := litS (by decide +kernel) h
theorem lit_22 (h : Q (.str (Tx [102, 105, 47, 103, 98, 111, 116]) s.toks) { s with toks := s.toks + 1 }) : wpAny M A (eval (.Constant (.str "fi/gbot") k pos) env) Q E s := litS (by decide +kernel) h
theorem lit_23 (h : Q (.str (Tx [40, 63, 62, 46, 42, 63]) s.toks) { s with toks := s.toks + 1 }) : wpAny M A (eval (.Constant (.str "(?>.*?") k pos) env) Q E s := litS (by decide +kernel) h
end
theorem mem_dropP {x : Str} {p : Str × Value} {u : List (Str × Value)} (h : p ∈ u) (hn : (p.1 == x) = false) : p ∈ drop x u := List.mem_filter.mpr ⟨h, by simp [hn]⟩
/-- the parts between stars -/
noncomputable def sp : List Nat → List (List Nat)
  | [] => [[]]
  | c :: r => if c = 42 then [] :: sp r else match sp r with
    | [] => [[c]]
    | p :: ps => (c :: p) :: ps
noncomputable def joinN (z : List Nat) : List (List Nat) → List Nat
  | [] => []
  | [x] => x
  | x :: rest => x ++ z ++ joinN z rest
theorem joinN_cons2 (z x y : List Nat) (r : List (List Nat)) : joinN z (x :: y :: r) = x ++ z ++ joinN z (y :: r) := rfl
theorem sp_ne : ∀ x, sp x ≠ []
  | [] => by simp [sp]
  | c :: r => by
    unfold sp
    split
    · simp
    · split <;> simp
theorem sp_joinN : ∀ ps : List (List Nat), ps ≠ [] → (∀ p ∈ ps, 42 ∉ p) → sp (joinN [42] ps) = ps
  | [], h, _ => absurd rfl h
  | [p], _, h => by
    show sp p = [p]
    have hp := h p (.head _)
    clear h
    induction p with
    | nil => rfl
    | cons c r ih =>
      have := ih (by simp) (fun m => hp (.tail _ m))
      rw [sp, if_neg (fun e => hp (by rw [e]; exact .head _)), this]
  | p :: q :: r, _, h => by
    rw [joinN_cons2]
    have hr := sp_joinN (q :: r) (by simp) fun x m => h x (.tail _ m)
    have hp := h p (.head _)
    clear h
    induction p with
    | nil => show sp (42 :: joinN [42] (q :: r)) = _; unfold sp; rw [if_pos rfl, hr]
    | cons c t ih =>
      have := ih (by simp) (fun m => hp (.tail _ m))
      show sp (c :: (t ++ [42] ++ joinN [42] (q :: r))) = _
      rw [sp, if_neg (fun e => hp (by rw [e]; exact .head _)), this]
theorem join_Tx (z : List Nat) : ∀ ps : List Str, Str.join (Tx z) ps = Tx (joinN z (ps.map (·.cps.toList)))
  | [] => rfl
  | [x] => Tx_eta x
  | x :: y :: r => by
    show x ++ Tx z ++ Str.join (Tx z) (y :: r) = _
    rw [join_Tx z (y :: r)]
    show _ = Tx (joinN z (x.cps.toList :: y.cps.toList :: r.map (·.cps.toList)))
    rw [joinN_cons2]
    conv => lhs; rw [Tx_eta x]
    rw [Tx_app, Tx_app]
    rfl
theorem split_sp (x : List Nat) : Txt.split (Tx x) (Tx [42]) = (sp x).map Tx := by
  have h1 := StrLaws.join_split (Tx x) (Tx [42])
  rw [join_Tx] at h1
  have h2 := Tx_inj h1
  have h3 := sp_joinN ((Txt.split (Tx x) (Tx [42])).map (·.cps.toList)) (fun e => by
      have := PyProof.Rows.split_pos (Tx x) (Tx [42])
      have e' := congrArg List.length e
      simp at e'
      rw [e'] at this; simp at this) (fun p hp => by
      obtain ⟨q, hq, rfl⟩ := List.mem_map.mp hp
      exact StrLaws.split_free (Tx x) 42 q hq)
  rw [h2] at h3
  rw [h3, List.map_map]
  conv => lhs; rw [← List.map_id (Txt.split (Tx x) (Tx [42]))]
  exact List.map_congr_left fun q _ => Tx_eta q
noncomputable def fill (z x : List Nat) : List Nat := joinN z (sp x)
theorem sp_star (r : List Nat) : sp (42 :: r) = [] :: sp r := by rw [sp, if_pos rfl]
theorem sp_other {c : Nat} {r p : List Nat} {ps : List (List Nat)} (hc : c ≠ 42) (h : sp r = p :: ps) : sp (c :: r) = (c :: p) :: ps := by rw [sp, if_neg hc, h]
theorem fill_eq (z : List Nat) : ∀ x, fill z x = x.flatMap fun c => if c = 42 then z else [c]
  | [] => rfl
  | c :: r => by
    have ih := fill_eq z r
    unfold fill at ih ⊢
    rw [List.flatMap_cons, ← ih]
    have hn := sp_ne r
    cases h : sp r with
    | nil => exact absurd h hn
    | cons p ps =>
      by_cases hc : c = 42
      · subst hc
        rw [sp_star, if_pos rfl, h]
        rfl
      · rw [sp_other hc h, if_neg hc]
        cases ps <;> rfl
theorem replace_fill (x z : List Nat) : Txt.replace (Tx x) (Tx [42]) (Tx z) = Tx (fill z x) := by
  have := StrLaws.replace_one (Tx x) (Tx z) 42
  refine this.trans ?_
  show Str.join (Tx z) (Txt.split (Tx x) (Tx [42])) = _
  rw [split_sp, join_Tx, List.map_map]
  unfold fill
  congr 2
  exact (List.map_congr_left fun q _ => Tx_cps q).trans (List.map_id _)
theorem fill_len (z x : List Nat) : (fill z x).length ≤ x.length + x.length * z.length := by
  rw [fill_eq]
  induction x with
  | nil => simp
  | cons c r ih =>
    rw [List.flatMap_cons, List.length_append, List.length_cons, Nat.add_mul]
    have : (if c = 42 then z else [c]).length ≤ 1 + z.length := by split <;> simp
    omega
section
variable {prog : Program} {w : World} {A : Around} {E : Value → Shared → Prop} {s : Shared} {g : Heap} {l : Led} {Q : Value → Shared → Prop}
theorem replS {x z : List Nat} {t u v : Tok} (hu : u ≠ 0) (hv : v ≠ 0) (huv : u ≠ v) (hz : z ≠ [42]) (hx : x.length ≤ 1000 ∧ z.length ≤ 1000)
    (h : ∀ t' k, Q (.str (Tx (fill z x)) t') { s with toks := k }) : wpAny (model prog w) A (call (.builtin "str.replace") [.str (Tx x) t, .str (Tx [42]) u, .str (Tx z) v]) Q E s := by
  refine SC.replace hu hv huv ?_ ?_ fun t' k => ?_
  · rw [Tx_beq]; exact beq_eq_false_iff_ne.mpr (Ne.symm hz)
  · rw [Tx_len, Tx_len]
    have := Nat.mul_le_mul (show x.length + 1 ≤ 1001 by omega) hx.2
    omega
  · rw [replace_fill]; exact h _ _
/-- a sum of two texts that are not empty: a new text -/
theorem addS' {a b : List Nat} {t u : Tok} (ha : 0 < a.length) (hb : 0 < b.length) (hz : a.length + b.length ≤ 10000) (h : Q (.str (Tx (a ++ b)) s.toks) { s with toks := s.toks + 1 }) :
    wpAny (model prog w) A (binaryOp .Add (.str (Tx a) t) (.str (Tx b) u)) Q E s := by
  refine P.add_str ?_
  rw [if_neg (by rw [Tx_len]; simp; intro e; rw [e] at ha; cases ha), if_neg (by rw [Tx_len]; simp; intro e; rw [e] at hb; cases hb)]
  rw [Tx_app]
  exact ⟨by rw [Tx_len, List.length_append, sizeLine_eq]; omega, h⟩
theorem itemS' {value slice : PySem.Expr} {a : List Nat} {t u : Tok} {i : Int} {c : Nat} (h0 : 0 ≤ i) (hc : a[i.toNat]? = some c) (hz : a.length ≤ 10000) (h : Q (.str (Tx [c]) s.toks) { s with toks := s.toks + 1 })
    (hs : subscripted slice false (.str (Tx a) t) (.int i u) = operate [.str (Tx a) t, .int i u] (getItem (.str (Tx a) t) (.int i u)))
    (ht : ∀ r, letTemporaryGo value (.str (Tx a) t) r = pure ()) :
    wpAny (model prog w) A (subscriptTail value slice (.str (Tx a) t) (.int i u)) Q E s := by
  have hlt : i.toNat < a.length := (List.getElem?_eq_some_iff.mp hc).1
  have hi : i < (Tx a).length := by rw [Tx_len]; omega
  refine PyProof.Rows.item_str (fitsSsize_of (N := 9223372036854775808) (by omega) (by rw [Tx_len] at hi; omega) (Int.le_refl _)) (by rw [Tx_len]; omega) hi (fun _ => ?_) hs ht
  rw [item_meets h0 (n := c) (by simpa using hc)]; exact h
end
section
variable {prog : Program} {w : World} {A : Around} {E : Value → Shared → Prop} {s : Shared} {g : Heap} {F : Led} {Q : Value → Shared → Prop}
/-- the call of a def of the text's top, with what it does to the count -/
theorem call_topT {fa : Addr} {oc : Value} {od : Option Addr} {osl : Array (Option Value)} {args : Args} {body : List Stmt} {binds : List (Str × Value)} {n : Nat} (W : Wd w g) (R : Rm A (n + 1)) (H : Hp g F s.heap)
    (hlk : (KK w).lookup fa = some ⟨oc, od, .func (fdOf w fa), osl⟩) (hcode : codeIn (KK w) (fdOf w fa).code (fdOf w fa).qualname = true) (hbody : (fdOf w fa).body = .stmts body)
    (hbind : bindArgs (fdOf w fa) args = pure binds) (hbk : (binds.map (·.1)) = (fdOf w fa).params.args.map (·.arg))
    (hck : ((fdOf w fa).scope.kind == .function && !(fdOf w fa).scope.isCoroutine && !(fdOf w fa).scope.isGenerator && decide (((fdOf w fa).scope.names.map (·.1)).Nodup) && decide (((fdOf w fa).params.args.map (·.arg)).Nodup) &&
      (((fdOf w fa).params.args.map (·.arg)).all fun x => (fdOf w fa).scope.names.lookup x == some .local || (fdOf w fa).scope.names.lookup x == some .cell)) = true)
    (h : ∀ L h₁ tk, s.toks ≤ tk → St g (fenv (fdOf w fa) L fa) (fown (fdOf w fa) L) binds F h₁ → Rm (A.deeper (fenv (fdOf w fa) L fa)) n →
      wpAny (model prog w) (A.deeper (fenv (fdOf w fa) L fa)) (execs body (fenv (fdOf w fa) L fa)) (fun f s' => Q (match f with | .ret v => v | _ => .none) s') (fun _ _ => False) { s with heap := h₁, toks := tk }) :
    wpAny (model prog w) A (call (.ref fa) args.pos args.kw) Q E s := by
  simp only [Bool.and_eq_true, decide_eq_true_eq, Bool.not_eq_true', List.all_eq_true, Bool.or_eq_true, beq_iff_eq] at hck
  obtain ⟨⟨⟨⟨⟨c1, c2⟩, c3⟩, c4⟩, c5⟩, c6⟩ := hck
  have hcd := ((codeRec_of W.X hcode).keeps H.base)
  refine wpAny_call (codeAny_call_function R.room (H.base _ _ (W.X _ _ hlk)) rfl c2 c3 hbody hcd ?_)
  rw [hbind]
  refine wpAny_pure (wpAny_with_toks (Nat.le_refl _) (newEnv_St (cu := []) H c1 c4 (by rw [hbk]; exact c5) (fun x hx => ?_) (fun _ _ h => by cases h) fun h' tk S hle => ?_))
  · exact c6 x.1 (by rw [← hbk]; exact List.mem_map_of_mem (f := fun p : Str × Value => p.1) hx)
  · rw [List.append_nil] at S
    exact ⟨W.lim.keeps S.hp.base, codeAny_func (wpAny_mono (h _ _ _ hle S (R.deeper _)) (fun _ _ q => q) fun _ _ q => q.elim)⟩
end
section
variable {prog : Program} {w : World} {A : Around} {E : Value → Shared → Prop} {s : Shared} {env : Env} {pos apos : Pos} {o e : PySem.Expr} {r : List PySem.Expr} {name : Str} {g : Heap} {own : List (Str × Addr)} {u : List (Str × Value)} {l : Led}
theorem exprS {e : PySem.Expr} {pos : Pos} {Q : Flow → Shared → Prop} (hi : interactive env = false) (hn : noComp e = true) (h : wpAny (model prog w) A (eval e env) (fun v s' => match v with | .ref _ => False | _ => Q .next s') E s) :
    wpAny (model prog w) A (exec (.Expr e pos) env) Q E s := by
  refine wpAny_Expr h hi ?_
  cases e <;> first | rfl | (exact absurd hn Bool.false_ne_true)
/-- a method of a list called with one argument or more -/
theorem mcL {id : String} {Q : Value → Shared → Prop} (slot : Slot "list" name id) (hty : typeOf (.builtin id) = pure (.type "method_descriptor")) (hbase : attributeBase o name env (eval o env) = eval o env)
    (hfew : ((backTo pos (starEach (e :: r) env)).all (fun x => !x.1) && (backToKw pos (keywordEach [] env)).all (fun x => x.1.isSome)
      && decide ((e :: r).length + ([] : List Keyword).length + (if ([] : List Keyword).isEmpty then 0 else 1) < 30)) = true) (hline : (apos.endLine == pos.line) = true)
    (he : starEach (e :: r) env = (false, eval e env) :: starEach r env) (hp : (backTo pos (starEach r env)).any (·.1) = false)
    (h : wpAny (model prog w) A (eval o env) (fun ov s₁ => ∃ a xs, ov = .ref a ∧ (∃ o, s₁.heap.get? a = some o ∧ ListO xs o) ∧
      wpAny (model prog w) A (spliced (backTo pos (starEach (e :: r) env))) (fun vs s₂ => wpAny (model prog w) A (call (.builtin id) (.ref a :: vs)) Q E s₂) E s₁) E s) :
    wpAny (model prog w) A (eval (.Call (.Attribute o name apos) (e :: r) [] pos) env) Q E s := by
  refine wpAny_Call_method hbase hfew hline F.plainAttrs_list slot hty (wpAny_mono h (fun ov s₁ h₁ => ?_) fun _ _ x => x)
  obtain ⟨a, xs, rfl, ⟨o, ho, n, e⟩, h₁⟩ := h₁
  exact ⟨⟨o, ho, by rw [e]⟩, (fun b q => by cases q; exact ⟨o, ho, by rw [e]⟩), cwB (first := [.ref a]) he hp h₁⟩
theorem appendL {pre post : Led} {D : Addr} {xs : List Value} {y : Value} {Q : Value → Shared → Prop} (S : St g env own u (pre ++ (D, ListO xs) :: post) s.heap) (hsz : xs.length ≤ sizeLine)
    (h : ∀ h' tk, St g env own u (pre ++ (D, ListO (xs ++ [y])) :: post) h' → Q .none { s with heap := h', toks := tk }) : wpAny (model prog w) A (call (.builtin "list.append") [.ref D, y]) Q E s := by
  have H : Hp g ((D, ListO xs) :: (frL env own u ++ (pre ++ post))) s.heap := S.hp.le fun a => by simp only [cnt_cons, cnt_append, cnt_nil]; first | ac_rfl | omega
  refine append_ H hsz fun h' tk H' => h h' tk (S.of' (H'.le fun a => by simp only [cnt_cons, cnt_append, cnt_nil]; first | ac_rfl | omega) fun p hp => ?_)
  rcases List.mem_append.mp hp with hp | hp
  · exact .inl (List.mem_append_left _ hp)
  · rcases List.mem_cons.mp hp with rfl | hp
    · exact .inr (ListO.nc _)
    · exact .inl (List.mem_append_right _ (.tail _ hp))
end
theorem mem_cnt {p : Addr × (Obj → Prop)} : ∀ {l : Led}, p ∈ l ↔ 0 < cnt p l
  | [] => ⟨fun h => (List.not_mem_nil h).elim, fun h => absurd h (by simp [cnt])⟩
  | x :: l => by
    rw [cnt_cons, List.mem_cons]
    unfold one
    by_cases h : x = p
    · simp [h]; omega
    · rw [if_neg h, Nat.zero_add, ← mem_cnt]
      exact ⟨fun q => q.elim (fun e => absurd e.symm h) id, .inr⟩
theorem St.re {l' : Led} {h : Heap} (S : St g env own u l h) (e : ∀ a, cnt a l' = cnt a l) : St g env own u l' h :=
  S.of' (S.hp.le fun a => by simp only [cnt_append, e a]; first | ac_rfl | omega) fun p hp => .inl (mem_cnt.mpr (by rw [e p]; exact mem_cnt.mp hp))
theorem St.front {pre post : Led} {e : Addr × (Obj → Prop)} {h : Heap} (S : St g env own u (pre ++ e :: post) h) : St g env own u (e :: (pre ++ post)) h := S.re fun a => by simp only [cnt_cons, cnt_append]; first | ac_rfl | omega
theorem cnt_split {e : Addr × (Obj → Prop)} : ∀ {l : Led}, e ∈ l → ∃ l', ∀ a, cnt a l = cnt a (e :: l')
  | x :: l, h => by
    by_cases hx : x = e
    · exact ⟨l, fun a => by rw [hx]⟩
    · obtain ⟨l', q⟩ := cnt_split ((List.mem_cons.mp h).resolve_left (Ne.symm hx))
      exact ⟨x :: l', fun a => by rw [cnt_cons, q, cnt_cons, cnt_cons, cnt_cons]; omega⟩
theorem St.pick {e : Addr × (Obj → Prop)} {h : Heap} (S : St g env own u l h) (hm : e ∈ l) : ∃ l', St g env own u (e :: l') h ∧ ∀ a, cnt a l = cnt a (e :: l') :=
  let ⟨l', q⟩ := cnt_split hm; ⟨l', S.re fun a => (q a).symm, q⟩
theorem appendM {A : Around} {E : Value → Shared → Prop} {D : Addr} {xs : List Value} {y : Value} {Q : Value → Shared → Prop} (S : St g env own u l s.heap) (hm : (D, ListO xs) ∈ l) (hsz : xs.length ≤ sizeLine)
    (h : ∀ l' h' tk, St g env own u l' h' → (∀ a, cnt a l' + one a (D, ListO xs) = cnt a l + one a (D, ListO (xs ++ [y]))) → Q .none { s with heap := h', toks := tk }) : wpAny (model prog w) A (call (.builtin "list.append") [.ref D, y]) Q E s := by
  obtain ⟨l', S', q⟩ := S.pick hm
  exact appendL (pre := []) S' hsz fun h' tk S2 => h _ h' tk S2 fun a => by rw [q, cnt_cons]; simp only [List.nil_append, cnt_cons]; first | ac_rfl | omega
theorem sliceSt {A : Around} {E : Value → Shared → Prop} {hp : Heap} {gs dr tk0 os} {Q : Value → Shared → Prop} {value : PySem.Expr} {lower upper : Option PySem.Expr} {p : Pos} {a : List Nat} {t : Tok} {vl vu : Value} {lo hi : Option Nat} (hl : natPart vl lo) (hu : natPart vu hi) (S : St g env own u l hp) (hz : a.length ≤ 10000)
    (h : ∀ t' tk h', St g env own u l h' → Q (.str (Tx (cut lo hi a)) t') ⟨h', gs, dr, tk, os⟩) :
    wpAny (model prog w) A (subscriptTail value (.Slice lower upper none p) (.str (Tx a) t) (.ref hp.objs.size)) Q E ⟨hp.push { cls := .type "slice", data := .fields #[vl, vu, .none] }, gs, dr, tk0, os⟩ :=
  sliceS (s := ⟨hp, gs, dr, tk0, os⟩) hl hu S.hp hz fun t' tk h' H' => h t' tk h' (S.of' H' fun _ hp => .inl hp)
theorem sliceLt {A : Around} {E : Value → Shared → Prop} {hp : Heap} {gs dr tk0 os} {Q : Value → Shared → Prop} {value : PySem.Expr} {lower upper : Option PySem.Expr} {p : Pos} {a : Addr} {xs : List Value} {vl vu : Value} {lo hi : Option Nat} (hl : natPart vl lo) (hu : natPart vu hi) (S : St g env own u l hp) (hm : (a, ListO xs) ∈ l) (hz : xs.length ≤ sizeLine)
    (h : ∀ b h', St g env own u ((b, ListO (cutV lo hi xs)) :: l) h' → Q (.ref b) ⟨h', gs, dr, tk0, os⟩) :
    wpAny (model prog w) A (subscriptTail value (.Slice lower upper none p) (.ref a) (.ref hp.objs.size)) Q E ⟨hp.push { cls := .type "slice", data := .fields #[vl, vu, .none] }, gs, dr, tk0, os⟩ :=
  sliceL (s := ⟨hp, gs, dr, tk0, os⟩) hl hu S hm hz h
end RP
namespace RP
local macro_rules | `(tactic| walk_at "mem") => `(tactic| first | with_reducible assumption | with_reducible exact List.mem_cons_self | (with_reducible refine List.mem_cons_of_mem _ ?_; walk_at "mem") | (with_reducible refine List.mem_append_right _ ?_; walk_at "mem") | (with_reducible refine List.mem_append_left _ ?_; walk_at "mem") | (with_reducible refine mem_dropP ?_ (by dsimp only; decide +kernel); walk_at "mem"))
local macro_rules | `(tactic| walk_at "name") => `(tactic| first
  | (with_reducible refine' nmL (by assumption) (by assumption) ?hx ?hl ?hd ?_; (case hx => walk_at "mem"); (case hl => decide +kernel); (case hd => kernel_rfl))
  | (with_reducible refine' nmC (by assumption) (by assumption) ?hx ?hl ?hd ?_; (case hx => walk_at "mem"); (case hl => decide +kernel); (case hd => kernel_rfl))
  | (with_reducible refine' nmF (by assumption) (by assumption) ?hx ?hl ?hd ?hn ?_; (case hx => walk_at "mem"); (case hl => decide +kernel); (case hd => kernel_rfl); (case hn => kernel_rfl))
  | (with_reducible refine' nmG (by assumption) (by assumption) (by assumption) ?e ?hl ?hd ?_; (case e => with_reducible first | exact gl_52 _ | exact gl_58 _ | exact gl_68 _ | exact gl_75 _ | exact gl_82 _ | exact gl_83 _ | exact gl_91 _ | exact gl_96 _ | exact gl_103 _ | exact gl_110 _ | exact gl_117 _ | exact gl_122 _ | exact gl_127 _ | exact gl_134 _ | exact gl_141 _); (case hl => decide +kernel); (case hd => kernel_rfl))
  | (with_reducible refine' nmB (by assumption) (by assumption) (by assumption) ?e ?v ?hl ?hd ?hn ?_; (case e => with_reducible first | exact bl_isinstance _ | exact bl_str _ | exact bl_len _ | exact bl_range _ | exact bl_list _ | exact bl_map _ | exact bl_filter _ | exact bl_set _ | exact bl_iter _ | exact bl_sum _ | exact bl_max _); (case v => with_reducible first | exact bv_isinstance | exact bv_str | exact bv_len | exact bv_range | exact bv_list | exact bv_map | exact bv_filter | exact bv_set | exact bv_iter | exact bv_sum | exact bv_max); (case hl => decide +kernel); (case hd => kernel_rfl); (case hn => kernel_rfl)))
local macro_rules | `(tactic| walk_at "sto") => `(tactic| first | exact .inl ((Kd.kind (by assumption) _).trans (by decide +kernel)) | exact .inr (by kernel_rfl))
local macro_rules | `(tactic| walk_at "rp0") => `(tactic| first
  | with_reducible first | refine wpAny_execs_cons ?_ | refine wpAny_execs_nil ?_ | refine wpAny_Return_some ?_ | refine wpAny_If ?_
  | ((with_reducible refine asgn ?hn ?_); (case hn => rfl))
  | with_reducible first | (refine wpAny_isTrue_Compare1 ?_ ?_; rotate_left; kernel_rfl)
  | with_reducible first | refine wpAny_truthy_bool ?_ | (refine wpAny_Compare1 ?_ ?_; rotate_left; kernel_rfl) | refine wpAny_BinOp ?_ | refine wpAny_UnaryOp ?_ | refine wpAny_Constant_int ?_ | refine lit_1 ?_ | refine wpAny_Constant_none ?_ | refine wpAny_Call_NameR ?_
  | (with_reducible refine cwB ?he ?hp ?_; (case he => kernel_rfl); (case hp => kernel_rfl))
  | (with_reducible refine cwT ?he ?hp ?_; (case he => kernel_rfl); (case hp => kernel_rfl))
  | with_reducible first | refine splN ?_
  | (with_reducible refine splC ?he ?_; (case he => kernel_rfl))
  | with_reducible first | refine PyProof.Rows.Subscript_ ?_ | refine PyProof.Rows.List_ ?_ | refine wpAny_Slice ?_
  | with_reducible first | refine evalPart_some_step ?_ | refine evalPart_none_step ?_
  | ((with_reducible refine' itemS' (by decide) ?hc ?hz ?_ ?hs ?ht); (case hs => rfl); (case ht => exact fun _ => rfl); (case hc => first | assumption | rfl); (case hz => omega))
  | with_reducible first | refine addI (fun _ _ => ?_)
  | ((with_reducible refine' divI ?hb ?hs (fun _ _ => ?_)); (case hb => decide); (case hs => decide))
  | ((with_reducible refine' modI ?hb (fun _ _ => ?_)); (case hb => decide))
  | with_reducible first | refine rangeN (by assumption) (fun _ _ _ _ => ?_)
  | with_reducible first | refine PyProof.Rows.neg_int ?_ | refine eqI ?_ | refine eqS ?_
  | ((with_reducible refine' itemL (St.led (by assumption)) (by walk_at "mem") (by decide) (by decide) ?hx ?_ ?hs); (case hs => rfl); (case hx => first | assumption | rfl))
  | walk_at "name")
local macro_rules | `(tactic| walk_at "d") => `(tactic| (try dsimp only [List.nil_append, List.cons_append, List.append_nil]))
local macro_rules | `(tactic| walk_at "rp") => `(tactic| (walk_at "rp0"; walk_at "d"))
noncomputable def pick (sg : List Nat) (m : Int) (k : Nat) : Nat := sg.getD (m / 4 ^ k % 4).toNat 0
noncomputable def pathOf (sg : List Nat) (m : Int) : List Nat := [47, pick sg m 0, pick sg m 1, 42, pick sg m 2, pick sg m 3]
/-- values that are those texts -/
noncomputable def Strs (xs : List (List Nat)) (vs : List Value) : Prop := vs.length = xs.length ∧ ∀ (i : Nat) (x : List Nat), xs[i]? = some x → ∃ t : Tok, vs[i]? = some (Value.str (Tx x) t)
theorem Strs.nil : Strs [] [] := ⟨rfl, fun i x h => by simp at h⟩
theorem Strs.snoc {xs : List (List Nat)} {vs : List Value} {x : List Nat} {t : Tok} (h : Strs xs vs) : Strs (xs ++ [x]) (vs ++ [.str (Tx x) t]) := by
  refine ⟨by simp [h.1], fun i y hy => ?_⟩
  by_cases hi : i < xs.length
  · rw [List.getElem?_append_left hi] at hy
    obtain ⟨t', e⟩ := h.2 i y hy
    exact ⟨t', by rw [List.getElem?_append_left (by rw [h.1]; exact hi)]; exact e⟩
  · rw [List.getElem?_append_right (by omega)] at hy
    have h0 : i - xs.length = 0 := by
      have := (List.getElem?_eq_some_iff.mp hy).1
      simp at this; omega
    rw [h0] at hy
    refine ⟨t, ?_⟩
    rw [List.getElem?_append_right (by rw [h.1]; omega), h.1, h0]
    simpa using hy
theorem pow4 (i : Nat) (h : i < 4) : 0 < (4 : Int) ^ i ∧ (4 : Int) ^ i < 1000000 := by
  have : i = 0 ∨ i = 1 ∨ i = 2 ∨ i = 3 := lt4 (by assumption)
  rcases this with rfl | rfl | rfl | rfl <;> decide
theorem pick_get {sg : List Nat} (hs : sg.length = 4) (m : Int) (k : Nat) : sg[(m / 4 ^ k % 4).toNat]? = some (pick sg m k) := by
  have h1 := Int.emod_nonneg (m / 4 ^ k) (show (4 : Int) ≠ 0 by decide)
  have h2 := Int.emod_lt_of_pos (m / 4 ^ k) (show (0 : Int) < 4 by decide)
  have h3 : (m / 4 ^ k % 4).toNat < sg.length := by omega
  unfold pick
  rw [List.getD_eq_getElem?_getD, List.getElem?_eq_getElem h3]; rfl
section
variable {prog : Program} {w : World} {A : Around} {E : Value → Shared → Prop} {s : Shared} {g : Heap} {l : Led} {Q : Value → Shared → Prop}
theorem path_spec {n : Nat} (W : Wd w g) (R : Rm A (n + 3)) (H : Hp g l s.heap) {sg : List Nat} (hs : sg.length = 4) {m : Int} {t t' : Tok}
    (h : ∀ u new h' tk, Hp g (new ++ l) h' → Q (.str (Tx (pathOf sg m)) u) { s with heap := h', toks := tk }) : wpAny (model prog w) A (call (.ref 96) [.str (Tx sg) t, .int m t'] []) Q E s := by
  refine call_top (args := ⟨[.str (Tx sg) t, .int m t'], []⟩) (binds := [("signs", .str (Tx sg) t), ("number", .int m t')]) W R H (lk_96 w) (cd_96 w) (bh_96 w) (by kernel_rfl) (by kernel_rfl) (by kernel_rfl) fun L h₁ tk S R1 => ?_
  dsimp only [bd_96]
  have KD := kd_96 w L
  walk_at "rp"
  refine comp_assign (by kernel_rfl) (by kernel_rfl) ?_ (fun _ => rfl) rfl
  repeat walk_at "rp"
  rename_i a h' tk S
  refine iterR (n := 4) S (by walk_at "mem") (by omega) (by decide) fun I h' S => ?_
  dsimp only
  refine compAt1 KD (by kernel_rfl) (Itr.upto R1.hh 4) S (fun _ h => by cases h) (by decide) [("signs", .str (Tx sg) t), ("number", .int m t')] (fun p hp => hp) (by kernel_rfl)
    (fun i ys ex => Strs ((List.range i).map (pick sg m)  |>.map fun c => [c]) ys) Strs.nil ?_ ?_
  · rintro cl C D i v ys ex h' tk KD1 hi ⟨tv, rfl⟩ hj hys S
    refine wpAny_tests_nil ?_
    refine iteT rfl ?_
    repeat walk_at "rp"
    refine powI (by omega) (by decide) fun _ _ => ?_
    have hp := pow4 i hi
    refine divI hp.1 hp.2 fun _ _ => ?_
    repeat walk_at "rp"
    refine itemS (c := pick sg m i) (Int.emod_nonneg _ (by decide)) (pick_get hs m i) (by omega) (fun _ _ => ?_) rfl (fun _ => rfl)
    refine ⟨[], _, _, rfl, S, ?_⟩
    show Strs (((List.range (i + 1)).map (pick sg m)).map fun c => [c]) _
    rw [List.range_succ, List.map_append, List.map_append]
    exact hj.snoc
  · intro C D ys ex h' tk hj H'
    refine comp_fin_assign (y := "picks") S (RIterO.nc _ _ _ _) (.inl ((KD.kind _).trans (by decide +kernel))) H' fun h' tk S => ?_
    obtain ⟨t0, e0⟩ := hj.2 0 [pick sg m 0] rfl
    obtain ⟨t1, e1⟩ := hj.2 1 [pick sg m 1] rfl
    obtain ⟨t2, e2⟩ := hj.2 2 [pick sg m 2] rfl
    obtain ⟨t3, e3⟩ := hj.2 3 [pick sg m 3] rfl
    ((repeat walk_at "rp"); (with_reducible refine lit_2 ?_); walk_at "d"; (repeat walk_at "rp"); ((with_reducible refine' addS ?hz (fun _ _ => ?_)); (case hz => ((try simp only [List.length_cons, List.length_append, List.length_nil]) <;> omega))); walk_at "d"; (repeat walk_at "rp"); ((with_reducible refine' addS ?hz (fun _ _ => ?_)); (case hz => ((try simp only [List.length_cons, List.length_append, List.length_nil]) <;> omega))); walk_at "d"; (repeat walk_at "rp"); ((with_reducible refine' addS ?hz (fun _ _ => ?_)); (case hz => ((try simp only [List.length_cons, List.length_append, List.length_nil]) <;> omega))); walk_at "d"; (repeat walk_at "rp"); ((with_reducible refine' addS ?hz (fun _ _ => ?_)); (case hz => ((try simp only [List.length_cons, List.length_append, List.length_nil]) <;> omega))); walk_at "d"; (repeat walk_at "rp"); ((with_reducible refine' addS ?hz (fun _ _ => ?_)); (case hz => ((try simp only [List.length_cons, List.length_append, List.length_nil]) <;> omega))); walk_at "d")
    exact h _ ((D, ListO ys) :: (ex ++ [(a, RangeO 0 4 1)])) _ _ (S.led.le (fun a => by simp only [cnt_cons, cnt_append, cnt_nil]; first | ac_rfl | omega))
end
section
variable {prog : Program} {w : World} {A : Around} {E : Value → Shared → Prop} {s : Shared} {g : Heap} {l : Led} {Q : Value → Shared → Prop}
theorem escape_spec {n : Nat} (W : Wd w g) (R : Rm A (n + 3)) (H : Hp g l s.heap) {x : Str} {t : Tok} (hx : ∀ c ∈ x.cps.toList, c < 128) (hlen : x.length ≤ 1000)
    (h : ∀ u new h' tk, Hp g (new ++ l) h' → Q (.str ⟨(esc x.cps.toList).toArray⟩ u) { s with heap := h', toks := tk }) : wpAny (model prog w) A (call (.ref 68) [.str x t] []) Q E s := by
  refine call_top (args := ⟨[.str x t], []⟩) (binds := [("pattern", .str x t)]) W R H (lk_68 w) (cd_68 w) (bh_68 w) (by kernel_rfl) (by kernel_rfl) (by kernel_rfl) fun L h₁ tk S R1 => ?_
  dsimp only [bd_68]
  have KD := kd_68 w L
  ((repeat walk_at "rp"); ((with_reducible refine wpAny_isTrue_value ?_ ?_); rotate_left; rfl); walk_at "d"; (repeat walk_at "rp"))
  refine call_isinstance_yes (typeIs_str _ _ _) (by rfl) (by rw [isSubtype_type]; kernel_rfl) ?_
  repeat walk_at "rp"
  refine iteT rfl ?_
  repeat walk_at "rp"
  refine mcS F.slot_str_translate F.type_str_translate rfl rfl rfl rfl rfl ?_
  repeat walk_at "rp"
  refine ⟨_, _, rfl, ?_⟩
  repeat walk_at "rp"
  refine translate_call W S.led R1.hh hx hlen fun u h' tk H' => ?_
  exact h u [] h' _ H'
end
noncomputable def sg_ (sg : List Nat) (k : Nat) : Nat := sg.getD k 0
theorem sg_get {sg : List Nat} (hs : sg.length = 4) (k : Nat) (hk : k < 4) : sg[k]? = some (sg_ sg k) := by
  unfold sg_; rw [List.getD_eq_getElem?_getD, List.getElem?_eq_getElem (by omega)]; rfl
noncomputable def filler (sg : List Nat) (k : Int) : List Nat := [[], [47, sg_ sg 0], [sg_ sg 1, sg_ sg 2], [sg_ sg 2]].getD k.toNat []
noncomputable def tailOf (sg : List Nat) (k : Int) : List Nat := [[], [sg_ sg 0], [sg_ sg 1]].getD k.toNat []
noncomputable def nameOf (ps : List (List Nat)) (sg : List Nat) (m : Int) : List Nat := fill (filler sg (m / 6 % 4)) (ps.getD (m % 6).toNat []) ++ tailOf sg (m / 24 % 3)
section
variable {prog : Program} {w : World} {A : Around} {E : Value → Shared → Prop} {s : Shared} {g : Heap} {l : Led} {Q : Value → Shared → Prop}
theorem name_spec {n : Nat} (W : Wd w g) (R : Rm A (n + 3)) (H : Hp g l s.heap) (hk : 1 ≤ s.toks) {sg : List Nat} (hs : sg.length = 4) (h2 : sg_ sg 2 ≠ 42) {m : Int} {t t' : Tok} {p : Addr} {ps : List (List Nat)} {pv : List Value}
    (hp : (p, ListO pv) ∈ l) (hpv : Strs ps pv) (hpl : ps.length = 6) (hpz : ∀ x ∈ ps, x.length ≤ 10)
    (h : ∀ u new h' tk, Hp g (new ++ l) h' → Q (.str (Tx (nameOf ps sg m)) u) { s with heap := h', toks := tk }) : wpAny (model prog w) A (call (.ref 103) [.ref p, .str (Tx sg) t, .int m t'] []) Q E s := by
  refine call_topT (args := ⟨[.ref p, .str (Tx sg) t, .int m t'], []⟩) (binds := [("paths", .ref p), ("signs", .str (Tx sg) t), ("number", .int m t')]) W R H (lk_103 w) (cd_103 w) (bh_103 w) (by kernel_rfl) (by kernel_rfl) (by kernel_rfl) fun L h₁ tk htk S R1 => ?_
  dsimp only [bd_103]
  have KD := kd_103 w L
  have s0 := sg_get hs 0 (by decide)
  have s1 := sg_get hs 1 (by decide)
  have s2 := sg_get hs 2 (by decide)
  ((repeat walk_at "rp"); (with_reducible refine lit_0 ?_); walk_at "d"; (repeat walk_at "rp"); (with_reducible refine lit_2 ?_); walk_at "d"; (repeat walk_at "rp"); ((with_reducible refine' addS' ?ha ?hb ?hz ?_); (case ha => simp; done); (case hb => simp; done); (case hz => ((try simp only [List.length_cons, List.length_append, List.length_nil]) <;> omega))); walk_at "d"; (repeat walk_at "rp"); ((with_reducible refine' addS' ?ha ?hb ?hz ?_); (case ha => simp; done); (case hb => simp; done); (case hz => ((try simp only [List.length_cons, List.length_append, List.length_nil]) <;> omega))); walk_at "d"; (repeat walk_at "rp"))
  refine newL S (Nat.le_of_ble_eq_true rfl) fun a h' S => ?_
  have hm := Int.emod_nonneg (m / 6) (show (4 : Int) ≠ 0 by decide)
  have hm' := Int.emod_lt_of_pos (m / 6) (show (0 : Int) < 4 by decide)
  generalize hT : tk + 1 + 1 + 1 + 1 + 1 + 1 + 1 + 1 + 1 + 1 + 1 + 1 = T
  obtain ⟨v, hv, hv0, hvT⟩ : ∃ v : Nat, [Value.str (Tx []) tk, Value.str (Tx [47, sg_ sg 0]) (tk + 1 + 1 + 1 + 1),
        Value.str (Tx [sg_ sg 1, sg_ sg 2]) (tk + 1 + 1 + 1 + 1 + 1 + 1 + 1 + 1 + 1),
        Value.str (Tx [sg_ sg 2]) (tk + 1 + 1 + 1 + 1 + 1 + 1 + 1 + 1 + 1 + 1 + 1)][(m / 6 % 4).toNat]? = some (.str (Tx (filler sg (m / 6 % 4))) v) ∧ 1 ≤ v ∧ v < T := by
    have : m / 6 % 4 = 0 ∨ m / 6 % 4 = 1 ∨ m / 6 % 4 = 2 ∨ m / 6 % 4 = 3 := mod4 _
    rcases this with e | e | e | e <;> rw [e]
    · exact ⟨_, rfl, by omega, by omega⟩
    · exact ⟨_, rfl, by omega, by omega⟩
    · exact ⟨_, rfl, by omega, by omega⟩
    · exact ⟨_, rfl, by omega, by omega⟩
  refine wpAny_with_toks (n := T) (Nat.le_refl _) ?_
  repeat walk_at "rp"
  intro hT1
  refine itemL S.led (by walk_at "mem") hm (by omega) hv ?_ rfl
  refine wpAny_with_toks (n := T) hT1 ?_
  refine sta S (.inl ((KD.kind _).trans (by decide +kernel))) fun h' T2 S hT2 => ?_
  try dsimp only at hT2 ⊢
  repeat walk_at "rp"
  refine mcS F.slot_str_replace F.type_str_replace rfl rfl rfl rfl rfl ?_
  refine wpAny_with_toks (n := T) hT2 ?_
  repeat walk_at "rp"
  have hn := Int.emod_nonneg m (show (6 : Int) ≠ 0 by decide)
  have hn' := Int.emod_lt_of_pos m (show (0 : Int) < 6 by decide)
  have hpp : ps[(m % 6).toNat]? = some (ps.getD (m % 6).toNat []) := by
    rw [List.getD_eq_getElem?_getD, List.getElem?_eq_getElem (by omega)]; rfl
  obtain ⟨tp, ep⟩ := hpv.2 _ _ hpp
  refine itemL S.led (by walk_at "mem") hn (by omega) ep ?_ rfl
  intro hT3
  dsimp only at hT3
  refine ⟨_, _, rfl, ?_⟩
  repeat walk_at "rp"
  have hfl : (filler sg (m / 6 % 4)).length ≤ 2 ∧ filler sg (m / 6 % 4) ≠ [42] := by
    have : m / 6 % 4 = 0 ∨ m / 6 % 4 = 1 ∨ m / 6 % 4 = 2 ∨ m / 6 % 4 = 3 := mod4 _
    rcases this with e | e | e | e <;> rw [e]
    · exact ⟨Nat.zero_le _, fun e => by cases e⟩
    · exact ⟨Nat.le_refl _, fun e => absurd (congrArg List.length e) (by simp [filler])⟩
    · exact ⟨Nat.le_refl _, fun e => absurd (congrArg List.length e) (by simp [filler])⟩
    · exact ⟨Nat.le_succ _, fun e => h2 (by injection e)⟩
  have hpz' := hpz _ (List.mem_of_getElem? hpp)
  refine replS (show @Ne Nat _ _ from ?_) (show @Ne Nat _ _ from ?_) (show @Ne Nat _ _ from ?_) hfl.2 ⟨by omega, by omega⟩ fun _ _ => ?_
  all_goals try omega
  ((repeat walk_at "rp"); (with_reducible refine lit_0 ?_); walk_at "d"; (repeat walk_at "rp"))
  refine newL S (Nat.le_of_ble_eq_true rfl) fun a2 h' S => ?_
  dsimp only
  repeat walk_at "rp"
  have hq := Int.emod_nonneg (m / 24) (show (3 : Int) ≠ 0 by decide)
  have hq' := Int.emod_lt_of_pos (m / 24) (show (0 : Int) < 3 by decide)
  have htl : ∀ t1 t2 t3 : Tok, ∃ v : Tok, [Value.str (Tx []) t1, Value.str (Tx [sg_ sg 0]) t2, Value.str (Tx [sg_ sg 1]) t3][(m / 24 % 3).toNat]? = some (.str (Tx (tailOf sg (m / 24 % 3))) v) ∧ (tailOf sg (m / 24 % 3)).length ≤ 1 := by
    intro t1 t2 t3
    have : m / 24 % 3 = 0 ∨ m / 24 % 3 = 1 ∨ m / 24 % 3 = 2 := mod3 _
    rcases this with e | e | e <;> rw [e]
    · exact ⟨_, rfl, Nat.zero_le _⟩
    · exact ⟨_, rfl, Nat.le_refl _⟩
    · exact ⟨_, rfl, Nat.le_refl _⟩
  obtain ⟨v2, e2, l2⟩ := htl _ _ _
  refine itemL S.led (by walk_at "mem") hq (by omega) e2 ?_ rfl
  have hfz := fill_len (filler sg (m / 6 % 4)) (ps.getD (m % 6).toNat [])
  have hfz' := Nat.mul_le_mul hpz' hfl.1
  refine addS (by omega) fun _ _ => ?_
  exact h _ [_, _] _ _ S.led
end
section
variable {prog : Program} {w : World} {A : Around} {E : Value → Shared → Prop} {s : Shared} {g : Heap} {env : Env} {own : List (Str × Addr)} {u : List (Str × Value)} {l : Led} {Q : Value → Shared → Prop}
theorem maxL {a : Addr} {vs : List Value} {ns : List Int} (hh : A.handled = none) (S : St g env own u l s.heap) (hm : (a, ListO vs) ∈ l) (hi : IntsAre vs ns) (hne : 0 < ns.length)
    (h : ∀ h' M t tk, St g env own u l h' → M ∈ ns → (∀ x ∈ ns, x ≤ M) → Q (.int M t) { s with heap := h', toks := tk }) : wpAny (model prog w) A (call (.builtin "max") [.ref a]) Q E s := by
  obtain ⟨xs, e⟩ := hi.allInts.items
  have hn := hi.numsOf
  have hl := ListO.isList (S.get hm)
  rw [e] at hl
  have e2 : numsOf (intItems xs).toList = ns := by rw [← e]; exact hn
  rw [nums_intItems] at e2
  have hsz : 0 < xs.size := by
    have := hi.length
    have e3 := congrArg Array.size e
    simp [intItems] at e3
    omega
  refine max_intList hh hl hsz fun v h' tk hv hk => ?_
  obtain ⟨t, rfl⟩ := intItems_at hv
  obtain ⟨h1, h2⟩ := argBest_gt (numAt xs) (xs.size - 1)
  subst e2
  refine h _ _ t tk (S.keeps hk) ?_ fun a ha => ?_
  · rw [numAt_eq]; exact getD_mem (by rw [List.length_map, Array.length_toList]; omega)
  · obtain ⟨j, hj, rfl⟩ := mem_getD ha
    rw [List.length_map, Array.length_toList] at hj
    rw [← numAt_eq]; exact h2 j (by omega)
theorem sumL {a : Addr} {vs : List Value} {ns : List Int} (hh : A.handled = none) (S : St g env own u l s.heap) (hm : (a, ListO vs) ∈ l) (hi : IntsAre vs ns)
    (h : ∀ h' t tk, St g env own u l h' → Q (.int ns.sum t) { s with heap := h', toks := tk }) : wpAny (model prog w) A (call (.builtin "sum") [.ref a]) Q E s := by
  obtain ⟨xs, e⟩ := hi.allInts.items
  have hn := hi.numsOf
  have hl := ListO.isList (S.get hm)
  rw [e] at hl
  have e2 : numsOf (intItems xs).toList = ns := by rw [← e]; exact hn
  rw [nums_intItems] at e2
  refine sum_intListG hh hl fun h' tk t' hk => ?_
  subst e2
  have := h h' t' tk (S.keeps hk)
  rw [preSum_eq, List.take_of_length_le (by simp)]; exact this
theorem neI {a b : Addr} {xs ys : List Value} {ns ms : List Int} (hu : A.units + 64 < cLine) (S : St g env own u l s.heap) (ha : (a, ListO xs) ∈ l) (hb : (b, ListO ys) ∈ l) (hi : IntsAre xs ns) (hj : IntsAre ys ms) (h : Q (.bool (ns != ms)) s) :
    wpAny (model prog w) A (compareOp .NotEq (.ref a) (.ref b)) Q E s :=
  ke_ne_ints (ListO.isList (S.get ha)) (ListO.isList (S.get hb)) hi hj hu (by
    have : (!decide (ns = ms)) = (ns != ms) := by by_cases q : ns = ms <;> simp [q, bne]
    rw [this]; exact h)
/-- a list against an empty one -/
theorem neNil {a b : Addr} {xs : List Value} (hu : A.units < cLine) (S : St g env own u l s.heap) (ha : (a, ListO xs) ∈ l) (hb : (b, ListO []) ∈ l) (h : Q (.bool (!xs.isEmpty)) s) :
    wpAny (model prog w) A (compareOp .NotEq (.ref a) (.ref b)) Q E s := by
  have h1 := ListO.isList (S.get ha)
  have h2 := ListO.isList (S.get hb)
  cases xs with
  | nil => exact SeqAt.RcNeAt.lists (e := fun _ => true) h1 h2 rfl hu (fun j h1 => by simp at h1) prog w E Q h
  | cons x r => exact SeqAt.RcNeAt.lists_lengths h1 h2 (by simp) hu prog w E Q h
noncomputable def listRangeV (lo : Int) (n : Nat) : List Int := (List.range n).map fun i : Nat => lo + (i : Int)
theorem listRange {r : Addr} {a b : Int} {n : Nat} (hh : A.handled = none) (S : St g env own u l s.heap) (hm : (r, RangeO a b 1) ∈ l) (ha : -1000000 ≤ a ∧ a ≤ 1000000 ∧ -1000000 ≤ b ∧ b ≤ 1000000) (hn : (n : Int) = if a < b then b - a else 0)
    (h : ∀ D vs h' tk, IntsAre vs (listRangeV a n) → St g env own u ((D, ListO vs) :: l) h' → Q (.ref D) { s with heap := h', toks := tk }) : wpAny (model prog w) A (call (.type "list") [.ref r]) Q E s := by
  have e := PySem.rangeSize_one a b
  rw [← hn] at e
  obtain ⟨o, ho, t, u', v, d⟩ := S.get hm
  have hz : n ≤ 2 ^ 24 := by split at hn <;> omega
  refine call_list_range hh (ho.trans (by rw [d])) (small_one (by omega) (by omega) (by omega) (by omega)) e hz fun h' tk acc' c' hk hS hi => ?_
  have hf := S.hp.fresh
  have H2 : Hp g ((s.heap.objs.size, ListO acc'.toList) :: (frL env own u ++ l)) h' := (S.hp.keeps hk).cons hf S.hp.freshG hS ⟨c', by simp⟩
  refine h _ acc'.toList h' tk ?_ (S.cons H2)
  have key : ∀ (m : Nat) (xs : List Value), xs.length = m → (∀ i, i < m → ∃ t, xs[i]? = some (.int (a + i) t)) → IntsAre xs (listRangeV a m) := by
    intro m
    induction m with
    | zero => intro xs hx _; rw [List.length_eq_zero_iff.mp hx]; exact .nil
    | succ m ih =>
      intro xs hx hq
      obtain ⟨t, et⟩ := hq m (by omega)
      have : xs = xs.take m ++ [.int (a + m) t] := by
        refine List.ext_getElem? fun i => ?_
        rcases Nat.lt_trichotomy i m with h1 | h1 | h1
        · rw [List.getElem?_append_left (by simp; omega), List.getElem?_take, if_pos h1]
        · subst h1; rw [List.getElem?_append_right (by simp; omega), et]; simp [hx]
        · rw [List.getElem?_eq_none (by omega), List.getElem?_eq_none (by simp; omega)]
      rw [this]
      unfold listRangeV
      rw [List.range_succ, List.map_append]
      refine IntsAre.append (ih _ (by simp; omega) fun i hi => ?_) (.cons _ _ .nil)
      obtain ⟨t', e'⟩ := hq i (by omega)
      exact ⟨t', by rw [List.getElem?_take, if_pos hi]; exact e'⟩
  refine key n _ (by simpa using hi.1) fun i hi' => ?_
  have hs : i < acc'.size := by rw [hi.1]; exact hi'
  obtain ⟨t, et⟩ := hi.2 i acc'[i] (by simp [hs])
  exact ⟨t, by simp [hs, et]⟩
end
section
variable {prog : Program} {w : World} {A : Around} {E : Value → Shared → Prop} {s : Shared} {g : Heap} {env : Env} {own : List (Str × Addr)} {u : List (Str × Value)} {l : Led} {Q : Value → Shared → Prop}
/-- the iterator over a text -/
noncomputable def SIterO (x : List Nat) (t : Tok) (i : Nat) (o : Obj) : Prop := o.cls = .type (strIterType (Tx x)) ∧ o.data = .fields #[.str (Tx x) t, .int i 0]
theorem Itr.text (hh : A.handled = none) (x : List Nat) (t : Tok) : Itr prog w g A (SIterO x t) x.length (fun i v => ∃ c t', x[i]? = some c ∧ v = .str (Tx [c]) t') [] where
  next := fun {i I s Q E l} hi H hp hQ => by
    obtain ⟨o, ho, c, d⟩ := H.has (I, SIterO x t i) (.head _)
    have hx : (Tx x).cps[i]? = some x[i] := by simp [hi]
    cases ha : (Tx x).cps.all (· < 128)
    · refine wpAny_pyNext_wide_item (x := Tx x) (t := t) (i := i) ⟨o, ho, by rw [c]; unfold strIterType; rw [ha]; rfl, d⟩ hx fun h' hit hs' => ?_
      obtain ⟨o', ho', c', d'⟩ := hit
      exact hQ _ h' _ ⟨_, _, List.getElem?_eq_getElem hi, rfl⟩ (H.set (P' := SIterO x t (i + 1)) (fun b o hb e => (hs'.2 b hb).trans e) ho' ⟨by rw [c']; unfold strIterType; rw [ha]; rfl, d'⟩)
    · refine wpAny_pyNext_ascii_item (x := Tx x) (t := t) (i := i) ⟨o, ho, by rw [c]; unfold strIterType; rw [ha]; rfl, d⟩ hx fun h' hit hs' => ?_
      obtain ⟨o', ho', c', d'⟩ := hit
      exact hQ _ h' _ ⟨_, _, List.getElem?_eq_getElem hi, rfl⟩ (H.set (P' := SIterO x t (i + 1)) (fun b o hb e => (hs'.2 b hb).trans e) ho' ⟨by rw [c']; unfold strIterType; rw [ha]; rfl, d'⟩)
  done := fun {I s Q E l} H hp hQ => by
    obtain ⟨o, ho, c, d⟩ := H.has (I, SIterO x t x.length) (.head _)
    have hx : (Tx x).cps[x.length]? = none := by simp
    cases ha : (Tx x).cps.all (· < 128)
    · refine wpAny_pyNext_wide_end hh (x := Tx x) (t := t) ⟨o, ho, by rw [c]; unfold strIterType; rw [ha]; rfl, d⟩ hx fun h' he' => ?_
      exact hQ h' s.toks (H.tail.other H.notMem (H.off (I, SIterO x t x.length) (.head _)) he')
    · refine wpAny_pyNext_ascii_end hh (x := Tx x) (t := t) ⟨o, ho, by rw [c]; unfold strIterType; rw [ha]; rfl, d⟩ hx fun h' he' => ?_
      exact hQ h' s.toks (H.tail.other H.notMem (H.off (I, SIterO x t x.length) (.head _)) he')
  self := fun {i I s Q E l} H _ hQ => by
    obtain ⟨o, ho, c, d⟩ := H.has (I, SIterO x t i) (.head _)
    cases ha : (Tx x).cps.all (· < 128)
    · exact wpAny_pyIter_striter_wide (x := Tx x) (t := t) ⟨o, ho, by rw [c]; unfold strIterType; rw [ha]; rfl, d⟩ hQ
    · exact wpAny_pyIter_striter_ascii (x := Tx x) (t := t) ⟨o, ho, by rw [c]; unfold strIterType; rw [ha]; rfl, d⟩ hQ
  nc := fun i o ⟨_, d⟩ v e => by rw [d] at e; cases e
theorem iterS {x : List Nat} {t : Tok} (S : St g env own u l s.heap) (h : ∀ I h', St g env own u ((I, SIterO x t 0) :: l) h' → Q (.ref I) { s with heap := h' }) : wpAny (model prog w) A (pyIter (.str (Tx x) t)) Q E s :=
  wpAny_pyIter_strU (h _ _ (S.push (P := SIterO x t 0) _ ⟨rfl, rfl⟩))
theorem SIterO.nc (x : List Nat) (t : Tok) (i : Nat) : NotCell (SIterO x t i) := fun o ⟨_, d⟩ v e => by rw [d] at e; cases e
end
noncomputable def stepD (nm : List Nat) (ps : List Nat) (c : Nat) : List Nat :=
  if c = 42 then (match ps with | [] => [] | p :: _ => (List.range (nm.length + 1 - p)).map (p + ·))
  else (ps.filter fun p => nm[p]? == some c).map (· + 1)
noncomputable def placesD (nm pa : List Nat) : List Nat := pa.foldl (stepD nm) [0]
noncomputable def okP (nm : List Nat) (whole : Bool) (p : Nat) : Bool := p == nm.length || !whole
noncomputable def mxN (l : List Nat) : Nat := l.foldr max 0
noncomputable def dueOf (pa : List Nat) (whole : Bool) (nm : List Nat) : Nat := mxN (((placesD nm pa).filter (okP nm whole)).map (· + 1))
theorem mxN_le : ∀ (l : List Nat), ∀ x ∈ l, x ≤ mxN l
  | a :: r, x, h => by
    show x ≤ max a (mxN r)
    rcases List.mem_cons.mp h with rfl | h
    · exact Nat.le_max_left _ _
    · exact Nat.le_trans (mxN_le r x h) (Nat.le_max_right _ _)
theorem mxN_mem : ∀ (l : List Nat), mxN l = 0 ∨ mxN l ∈ l
  | [] => .inl rfl
  | a :: r => by
    show max a (mxN r) = 0 ∨ max a (mxN r) ∈ a :: r
    by_cases h : mxN r ≤ a
    · rw [Nat.max_eq_left h]; exact .inr (.head _)
    · rw [Nat.max_eq_right (by omega)]
      rcases mxN_mem r with h2 | h2
      · omega
      · exact .inr (.tail _ h2)
theorem mxN_unique {l : List Nat} {M : Int} (h1 : M ∈ (0 : Int) :: l.map Int.ofNat) (h2 : ∀ x ∈ (0 : Int) :: l.map Int.ofNat, x ≤ M) : M = mxN l := by
  have h0 := h2 0 (.head _)
  have e1 : (mxN l : Int) ≤ M := by
    rcases mxN_mem l with h | h
    · rw [h]; exact h0
    · exact h2 _ (.tail _ (List.mem_map_of_mem (f := Int.ofNat) h))
  rcases List.mem_cons.mp h1 with h | h
  · omega
  · obtain ⟨x, hx, e⟩ := List.mem_map.mp h
    have := mxN_le l x hx
    have e' : (x : Int) = M := e
    omega
theorem stepD_ok {nm ps : List Nat} (c : Nat) (h : ps.length ≤ nm.length + 1 ∧ ∀ p ∈ ps, p ≤ nm.length) : (stepD nm ps c).length ≤ nm.length + 1 ∧ ∀ p ∈ stepD nm ps c, p ≤ nm.length := by
  unfold stepD
  split
  · cases ps with
    | nil => exact ⟨Nat.zero_le _, fun p hp => by cases hp⟩
    | cons q r =>
      refine ⟨by simp, fun p hp => ?_⟩
      have hq := h.2 q (.head _)
      obtain ⟨i, hi, rfl⟩ := List.mem_map.mp hp
      have := List.mem_range.mp hi
      omega
  · refine ⟨by rw [List.length_map]; exact Nat.le_trans (List.length_filter_le _ _) h.1, fun p hp => ?_⟩
    obtain ⟨i, hi, rfl⟩ := List.mem_map.mp hp
    have := (List.mem_filter.mp hi).2
    have e : nm[i]? = some c := by simpa using this
    have := (List.getElem?_eq_some_iff.mp e).1
    omega
theorem placesD_ok (nm : List Nat) (q : List Nat) : (placesD nm q).length ≤ nm.length + 1 ∧ ∀ p ∈ placesD nm q, p ≤ nm.length := by
  suffices H : ∀ a : List Nat, (a.length ≤ nm.length + 1 ∧ ∀ p ∈ a, p ≤ nm.length) → (q.foldl (stepD nm) a).length ≤ nm.length + 1 ∧ ∀ p ∈ q.foldl (stepD nm) a, p ≤ nm.length from H [0] ⟨by simp, fun p hp => by rcases List.mem_singleton.mp hp with rfl; omega⟩
  induction q with
  | nil => exact fun a h => h
  | cons x q ih => exact fun a h => ih _ (stepD_ok x h)
theorem cut_place (nm : List Nat) (p : Nat) : cut (some p) (some (p + 1)) nm = (nm[p]?).toList := by
  unfold cut
  simp only [Option.getD_some]
  by_cases h : p < nm.length
  · rw [List.getElem?_eq_getElem h, List.drop_take, show p + 1 - p = 1 by omega, List.drop_eq_getElem_cons h]; rfl
  · rw [List.getElem?_eq_none (by omega), List.drop_of_length_le (by simp; omega)]; rfl
theorem cut_eq (nm : List Nat) (p c : Nat) : (cut (some p) (some (p + 1)) nm == [c]) = (nm[p]? == some c) := by
  rw [cut_place]
  cases nm[p]? with
  | none => rfl
  | some x => by_cases h : x = c <;> simp [h]
/-- values that are numbers of this kind -/
noncomputable abbrev Nats (vs : List Value) (ns : List Nat) : Prop := IntsAre vs (ns.map Int.ofNat)
theorem Nats.get {vs : List Value} {ns : List Nat} (h : Nats vs ns) {i : Nat} {v : Value} (e : vs[i]? = some v) : ∃ (n : Nat) (t : Tok), v = .int (n : Int) t ∧ ns[i]? = some n := by
  obtain ⟨n, t, rfl, e2⟩ := h.at i v e
  rw [List.getElem?_map] at e2
  cases e3 : ns[i]? with
  | none => rw [e3] at e2; cases e2
  | some k => rw [e3] at e2; injection e2 with e2; subst e2; exact ⟨k, t, rfl, rfl⟩
theorem Nats.len {vs : List Value} {ns : List Nat} (h : Nats vs ns) : vs.length = ns.length := by
  have := h.length; simpa using this
theorem Nats.snoc {vs : List Value} {ns : List Nat} {n : Nat} {t : Tok} (h : Nats vs ns) : Nats (vs ++ [.int (n : Int) t]) (ns ++ [n]) := by
  unfold Nats; rw [List.map_append]; exact IntsAre.append h (.cons _ _ .nil)
theorem take_snoc {α : Type} {l : List α} {i : Nat} {x : α} (h : l[i]? = some x) : l.take (i + 1) = l.take i ++ [x] := by
  rw [List.take_add_one, h]; rfl
noncomputable abbrev DueO (l : Led) (nms : List (List Nat)) (pa : List Nat) (t : Tok) (whole : Bool) (D : Addr) (i : Nat) (u : List (Str × Value)) (l1 : Led) : Prop := ∃ dv new, l1 = (D, ListO dv) :: (new ++ l) ∧ Nats dv ((nms.take i).map (dueOf pa whole)) ∧
    (("path", .str (Tx pa) t) : Str × Value) ∈ u ∧ (("whole", .bool whole) : Str × Value) ∈ u ∧ (("due", .ref D) : Str × Value) ∈ u
noncomputable abbrev DueI (l : Led) (pa : List Nat) (t : Tok) (whole : Bool) (D nA I : Addr) (dv : List Value) (new : Led) (i : Nat) (nm : List Nat) (tn : Tok) (j : Nat) (u : List (Str × Value)) (l2 : Led) : Prop := ∃ P pv new', l2 = (P, ListO pv) :: (new' ++ (I, IterO nA (i + 1)) :: (D, ListO dv) :: (new ++ l)) ∧ Nats pv ((pa.take j).foldl (stepD nm) [0]) ∧
      (("places", .ref P) : Str × Value) ∈ u ∧ (("name", .str (Tx nm) tn) : Str × Value) ∈ u ∧ (("path", .str (Tx pa) t) : Str × Value) ∈ u ∧ (("whole", .bool whole) : Str × Value) ∈ u ∧ (("due", .ref D) : Str × Value) ∈ u
section
variable {prog : Program} {w : World} {A : Around} {E : Value → Shared → Prop} {s : Shared} {g : Heap} {l : Led} {Q : Value → Shared → Prop}
theorem due_spec {n : Nat} (W : Wd w g) (R : Rm A (n + 3)) (H : Hp g l s.heap) {pa : List Nat} {nms : List (List Nat)} {nv : List Value} {nA : Addr} {t : Tok} {whole : Bool}
    (hn : (nA, ListO nv) ∈ l) (hnv : Strs nms nv) (hnz : ∀ x ∈ nms, x.length ≤ 1000) (hnl : nms.length ≤ 1000)
    (h : ∀ D dv new h' tk, Nats dv (nms.map (dueOf pa whole)) → Hp g ((D, ListO dv) :: new ++ l) h' → Q (.ref D) { s with heap := h', toks := tk }) : wpAny (model prog w) A (call (.ref 127) [.str (Tx pa) t, .ref nA, .bool whole] []) Q E s := by
  refine call_top (args := ⟨[.str (Tx pa) t, .ref nA, .bool whole], []⟩) (binds := [("path", .str (Tx pa) t), ("names", .ref nA), ("whole", .bool whole)]) W R H (lk_127 w) (cd_127 w) (bh_127 w) (by kernel_rfl) (by kernel_rfl) (by kernel_rfl) fun L h₁ tk S R1 => ?_
  dsimp only [bd_127]
  have KD := kd_127 w L
  repeat walk_at "rp"
  refine newL S (Nat.le_of_ble_eq_true rfl) fun D h' S => ?_
  dsimp only
  refine sta S (by walk_at "sto") fun h' tk S => ?_
  dsimp only
  repeat walk_at "rp"
  refine wpAny_For ?_
  repeat walk_at "rp"
  refine iterL S (by walk_at "mem") fun I h' S => ?_
  dsimp only
  refine forLoop_ (Itr.list R1.hh nA nv) (by walk_at "sto") (DueO l nms pa t whole D) S ?_ ?_ ?_ ?_
  · intro p hp; rcases List.mem_singleton.mp hp with rfl; walk_at "mem"
  · exact ⟨[], [], rfl, .nil, by walk_at "mem", by walk_at "mem", by walk_at "mem"⟩
  · rintro i v u l1 h' tk hi hv ⟨dv, new, rfl, hdv, hu1, hu2, hu3⟩ hpers S
    have hi' : i < nms.length := by rw [← hnv.1]; exact hi
    obtain ⟨nm, hnm⟩ : ∃ nm, nms[i]? = some nm := ⟨_, List.getElem?_eq_getElem hi'⟩
    obtain ⟨tn, e⟩ := hnv.2 i nm hnm
    rw [hv] at e; injection e with e; subst e
    repeat walk_at "rp"
    refine newL S (Nat.le_of_ble_eq_true rfl) fun P0 h' S => ?_
    dsimp only
    refine sta S (by walk_at "sto") fun h' tk S => ?_
    dsimp only
    repeat walk_at "rp"
    refine wpAny_For ?_
    repeat walk_at "rp"
    refine iterS S fun J h' S => ?_
    dsimp only
    refine forLoop_ (Itr.text R1.hh pa t) (by walk_at "sto") (DueI l pa t whole D nA I dv new i nm tn) S ?_ ?_ ?_ ?_
    · intro p hp; cases hp
    · exact ⟨P0, _, [], rfl, .cons _ _ .nil, by walk_at "mem", by walk_at "mem", by walk_at "mem", by walk_at "mem", by walk_at "mem"⟩
    · rintro j v u l2 h' tk hj ⟨c, tc, hc, rfl⟩ ⟨P, pv, new', rfl, hpv, m1, m2, m3, m4, m5⟩ - S
      ((repeat walk_at "rp"); (with_reducible refine neS ?_); walk_at "d"; (repeat walk_at "rp"))
      have hst : (pa.take (j + 1)).foldl (stepD nm) [0] = stepD nm ((pa.take j).foldl (stepD nm) [0]) c := by rw [take_snoc hc, List.foldl_append]; rfl
      have hok : ∀ q : List Nat, _ := placesD_ok nm
      have hnz' := hnz nm (List.mem_of_getElem? hnm)
      have hpk := hok (pa.take j)
      unfold placesD at hpk
      generalize hps : (pa.take j).foldl (stepD nm) [0] = ps at hpv hst hpk
      by_cases hc42 : c = 42
      · subst hc42
        refine iteF rfl ?_
        repeat walk_at "rp"
        refine newL S (Nat.le_of_ble_eq_true rfl) fun N h' S => ?_
        dsimp only
        refine neNil (by have := R1.units; omega) S (by walk_at "mem") (by walk_at "mem") ?_
        repeat walk_at "rp"
        rcases ps with _ | ⟨p0, rs⟩
        · have e0 := hpv.nil_inv
          subst e0
          refine iteF rfl ?_
          repeat walk_at "rp"
          refine ⟨_, (P, ListO []) :: (((N, ListO []) :: new') ++ (I, IterO nA (i + 1)) :: (D, ListO dv) :: (new ++ l)), _, _, rfl, S.re fun a => by simp only [cnt_cons, cnt_append]; first | ac_rfl | omega, fun p hp => (by cases hp), P, [], (N, ListO []) :: new', rfl, ?_, ?_, ?_, ?_, ?_, ?_⟩
          · rw [hst]; exact .nil
          all_goals walk_at "mem"
        · obtain ⟨t0, pv', rfl, hpv'⟩ := hpv.cons_inv
          refine iteT rfl ?_
          have hp0 := hpk.2 p0 (.head _)
          ((repeat walk_at "rp"); ((with_reducible refine' lenS ?hz (fun _ _ => ?_)); (case hz => omega)); walk_at "d"; (repeat walk_at "rp"); (with_reducible refine range2 (by assumption) (fun _ _ _ _ => ?_)); walk_at "d"; (repeat walk_at "rp"))
          rename_i rr _ _ S
          refine listRange (n := nm.length + 1 - p0) R1.hh S (by walk_at "mem") ?_ ?_ fun D2 vs h' tk hvs S => ?_
          · show -1000000 ≤ (p0 : Int) ∧ (p0 : Int) ≤ 1000000 ∧ _ ∧ _; omega
          · show _ = if (p0 : Int) < _ then _ - (p0 : Int) else 0; split <;> omega
          dsimp only
          repeat walk_at "rp"
          refine sta S (by walk_at "sto") fun h' tk S => ?_
          dsimp only
          repeat walk_at "rp"
          refine ⟨_, _, _, _, rfl, S.front (pre := [_, _, _]), fun p hp => (by cases hp), D2, vs, _ :: _ :: _ :: new', rfl, ?_, ?_, ?_, ?_, ?_, ?_⟩
          · rw [hst]
            have : (stepD nm (p0 :: rs) 42).map Int.ofNat = listRangeV (p0 : Int) (nm.length + 1 - p0) := by
              unfold stepD listRangeV
              rw [if_pos rfl, List.map_map]
              exact List.map_congr_left fun i _ => by simp
            unfold Nats; rw [this]; exact hvs
          all_goals walk_at "mem"
      · refine iteT (by simp [bne, hc42]) ?_
        repeat walk_at "rp"
        refine comp_assign (by kernel_rfl) (by kernel_rfl) ?_ (fun _ => rfl) rfl
        repeat walk_at "rp"
        refine iterL S (by walk_at "mem") fun K h' S => ?_
        dsimp only
        refine compAt1 KD (by kernel_rfl) (Itr.list R1.hh P pv) S ?_ (by have := hpv.len; rw [sizeLine_eq]; omega) [("name", .str (Tx nm) tn), ("sign", .str (Tx [c]) tc)] ?_ (by kernel_rfl)
          (fun i ys ex => Nats ys (((ps.take i).filter fun p => nm[p]? == some c).map (· + 1))) .nil ?_ ?_
        · intro p hp; rcases List.mem_singleton.mp hp with rfl; walk_at "mem"
        · intro p hp
          rcases List.mem_cons.mp hp with rfl | hp
          · walk_at "mem"
          · rcases List.mem_singleton.mp hp with rfl; walk_at "mem"
        · rintro cl C Dc i2 v ys ex h' tk KD1 hi2 hv2 hys hylen S
          obtain ⟨p, tp, rfl, hp⟩ := hpv.get hv2
          refine wpAny_tests_one ?_
          repeat walk_at "rp"
          refine sliceSt (natPart.int p _) (natPart.lit (p + 1) _ _ rfl) (by assumption) (by omega) fun t' tk h' S => ?_
          repeat walk_at "rp"
          rw [cut_eq]
          have hfs : ((ps.take (i2 + 1)).filter fun p => nm[p]? == some c).map (· + 1) = ((ps.take i2).filter fun p => nm[p]? == some c).map (· + 1) ++ if (nm[p]? == some c) = true then [p + 1] else [] := by
            rw [take_snoc hp, List.filter_append, List.map_append]
            congr 1
            cases hq : (nm[p]? == some c) <;> simp [hq]
          cases hq : (nm[p]? == some c)
          · refine iteF rfl ⟨[], _, _, rfl, S, ?_⟩
            rw [hfs, hq]; simpa using hys
          · refine iteT rfl ?_
            repeat walk_at "rp"
            refine ⟨[], _, _, rfl, S, ?_⟩
            rw [hfs, hq]; exact hys.snoc
        · intro C Dc ys ex h' tk hj2 H'
          refine comp_fin_assign (y := "places") S (IterO.nc _ _) (by walk_at "sto") H' fun h' tk S => ?_
          repeat walk_at "rp"
          refine ⟨_, _, _, _, rfl, S.front (pre := (Dc, ListO ys) :: ex), fun p hp => (by cases hp), Dc, ys, ex ++ _ :: new', by rw [List.cons_append, List.append_assoc]; rfl, ?_, ?_, ?_, ?_, ?_, ?_⟩
          · rw [hst]
            unfold stepD
            rw [if_neg hc42]
            rw [hpv.len, List.take_length] at hj2
            exact hj2
          all_goals walk_at "mem"
    · rintro u l2 h' tk0 ⟨P, pv, new', rfl, hpv, m1, m2, m3, m4, m5⟩ S
      dsimp only
      repeat walk_at "rp"
      refine exprS (by kernel_rfl) rfl ?_
      refine mcL F.slot_list_append F.type_list_append rfl rfl rfl rfl rfl ?_
      repeat walk_at "rp"
      refine ⟨D, dv, rfl, S.get (by walk_at "mem"), ?_⟩
      repeat walk_at "rp"
      refine newL S (Nat.le_of_ble_eq_true rfl) fun N h' S => ?_
      dsimp only
      repeat walk_at "rp"
      refine comp_eval (by kernel_rfl) ?_ (fun _ => rfl)
      repeat walk_at "rp"
      refine iterL S (by walk_at "mem") fun K h' S => ?_
      dsimp only
      have hnz' := hnz nm (List.mem_of_getElem? hnm)
      rw [show (pa.take pa.length).foldl (stepD nm) [0] = placesD nm pa by rw [List.take_length]; rfl] at hpv
      have hpk : (placesD nm pa).length ≤ nm.length + 1 ∧ ∀ p ∈ placesD nm pa, p ≤ nm.length := placesD_ok nm pa
      generalize hps : placesD nm pa = ps at hpv hpk
      refine compAt1 KD (by kernel_rfl) (Itr.list R1.hh P pv) S ?_ (by have := hpv.len; rw [sizeLine_eq]; omega) [("name", .str (Tx nm) tn), ("whole", .bool whole)] ?_ (by kernel_rfl)
        (fun i ys ex => Nats ys (((ps.take i).filter (okP nm whole)).map (· + 1))) .nil ?_ ?_
      · intro p hp; rcases List.mem_singleton.mp hp with rfl; walk_at "mem"
      · intro p hp
        rcases List.mem_cons.mp hp with rfl | hp
        · walk_at "mem"
        · rcases List.mem_singleton.mp hp with rfl; walk_at "mem"
      · rintro cl C Dc i2 v ys ex h' tk KD1 hi2 hv2 hys hylen S
        obtain ⟨p, tp, rfl, hp⟩ := hpv.get hv2
        refine wpAny_tests_one ?_
        ((with_reducible refine wpAny_isTrue_BoolOp ?_); walk_at "d"; (with_reducible refine wpAny_allTrue_Or_cons ?_); walk_at "d"; (repeat walk_at "rp"); ((with_reducible refine' lenS ?hz (fun _ _ => ?_)); (case hz => omega)); walk_at "d"; (repeat walk_at "rp"))
        have hfs : ((ps.take (i2 + 1)).filter (okP nm whole)).map (· + 1) = ((ps.take i2).filter (okP nm whole)).map (· + 1) ++ if okP nm whole p = true then [p + 1] else [] := by
          rw [take_snoc hp, List.filter_append, List.map_append]
          congr 1
          cases hq : okP nm whole p <;> simp [hq]
        by_cases hpl : p = nm.length
        · have hq : okP nm whole p = true := by simp [okP, hpl]
          refine iteT (by simp [hpl]) (iteT rfl ?_)
          repeat walk_at "rp"
          refine ⟨[], _, _, rfl, by assumption, ?_⟩
          rw [hfs, hq]; exact hys.snoc
        · refine iteF (by simp; omega) ?_
          ((with_reducible refine wpAny_allTrue_Or_cons ?_); walk_at "d"; (with_reducible refine wpAny_isTrue_Not ?_); walk_at "d"; ((with_reducible refine wpAny_isTrue_value ?_ ?_); rotate_left; rfl); walk_at "d"; (repeat walk_at "rp"))
          by_cases hw : whole = true
          · have hq : okP nm whole p = false := by simp [okP, hpl, hw]
            refine iteF (by simp [hw]) ?_
            ((with_reducible refine wpAny_allTrue_Or_nil ?_); walk_at "d")
            refine iteF rfl ⟨[], _, _, rfl, by assumption, ?_⟩
            rw [hfs, hq]; simpa using hys
          · have hq : okP nm whole p = true := by simp [okP, hw]
            refine iteT (by simp [hw]) (iteT rfl ?_)
            repeat walk_at "rp"
            refine ⟨[], _, _, rfl, by assumption, ?_⟩
            rw [hfs, hq]; exact hys.snoc
      · intro C Dc ys ex h' tk hj2 H'
        refine comp_fin_none (l₀ := []) S (IterO.nc _ _) H' fun h' S => ?_
        have hys : Nats ys ((ps.filter (okP nm whole)).map (· + 1)) := by
          have := hj2; rw [hpv.len, List.take_length] at this; exact this
        have hyl : ys.length ≤ nm.length + 1 := by
          rw [hys.len, List.length_map]; exact Nat.le_trans (List.length_filter_le _ _) hpk.1
        refine addL S (by walk_at "mem") (by walk_at "mem") (by rw [sizeLine_eq]; simp; omega) fun Z h' S => ?_
        dsimp only
        repeat walk_at "rp"
        refine maxL R1.hh S (by walk_at "mem") (IntsAre.append (.cons 0 _ .nil) hys) (by simp) fun h' M t tk S hM1 hM2 => ?_
        dsimp only
        have hM := mxN_unique hM1 hM2
        repeat walk_at "rp"
        have hdl : dv.length ≤ 1000 := by rw [hdv.len, List.length_map, List.length_take]; omega
        refine appendM S (by walk_at "mem") (by rw [sizeLine_eq]; omega) fun l' h' tk S hcnt => ?_
        dsimp only
        repeat walk_at "rp"
        refine ⟨_, (D, ListO (dv ++ [.int M t])) :: (((Z, ListO ([.int 0 tk0] ++ ys)) :: (Dc, ListO ys) :: (ex ++ (N, ListO [.int 0 tk0]) :: (P, ListO pv) :: (new' ++ new))) ++ l), _, _, rfl, S.re fun a => ?_, ?_, _, _, rfl, ?_, ?_, ?_, ?_⟩
        · have := hcnt a
          simp only [cnt_cons, cnt_append, cnt_nil] at this ⊢
          omega
        · intro p hp; rcases List.mem_singleton.mp hp with rfl; walk_at "mem"
        · rw [take_snoc hnm, List.map_append]
          rw [hM]
          have : dueOf pa whole nm = mxN ((ps.filter (okP nm whole)).map (· + 1)) := by unfold dueOf; rw [hps]
          rw [← this]
          exact hdv.snoc
        all_goals walk_at "mem"
  · rintro u l1 h' tk ⟨dv, new, rfl, hdv, hu1, hu2, hu3⟩ S
    dsimp only
    repeat walk_at "rp"
    rw [hnv.1, List.take_length] at hdv
    exact h D dv new h' _ hdv S.led
end
theorem mro_map : mroOf (.type "map") = pure [.type "map", .type "object"] := by rw [mroOf_type]; kernel_rfl
theorem lookup_map_new : typeLookup (.type "map") "__new__" = pure (some (.builtin "map.__new__")) := by rw [typeLookup_type, builtinLookup_eq_fast]; kernel_rfl
theorem slot_map_init : Slot "map" "__init__" "object.__init__" :=
  .of (owner := "object") (n := "__init__") (by rw [typeLookup_type, builtinLookup_eq_fast]; kernel_rfl) (by decide +kernel) (by decide +kernel) (by decide +kernel)
    (by first | exact .inl (by decide +kernel) | exact .inr (by decide +kernel)) (by rw [isSubtype_type]; kernel_rfl)
theorem slot_map_iter : Slot "map" "__iter__" "map.__iter__" :=
  .of (owner := "map") (n := "__iter__") (by rw [typeLookup_type, builtinLookup_eq_fast]; kernel_rfl) (by decide +kernel) (by decide +kernel) (by decide +kernel)
    (by first | exact .inl (by decide +kernel) | exact .inr (by decide +kernel)) (by rw [isSubtype_type]; kernel_rfl)
theorem slot_map_next : Slot "map" "__next__" "map.__next__" :=
  .of (owner := "map") (n := "__next__") (by rw [typeLookup_type, builtinLookup_eq_fast]; kernel_rfl) (by decide +kernel) (by decide +kernel) (by decide +kernel)
    (by first | exact .inl (by decide +kernel) | exact .inr (by decide +kernel)) (by rw [isSubtype_type]; kernel_rfl)
theorem args_map_iter_1 (a : Value) : argsOk "map.__iter__" ⟨[a], []⟩ := by
  unfold argsOk; rw [Fast.signatureQ_eq]; kernel_rfl
theorem args_map_next_1 (a : Value) : argsOk "map.__next__" ⟨[a], []⟩ := by
  unfold argsOk; rw [Fast.signatureQ_eq]; kernel_rfl
theorem entry_map_next : entryFor table "map.__next__" = some Builtin.«map.__next__» := entryFor_of_tree (by kernel_rfl)
theorem entry_map_iter : entryFor table "map.__iter__" = some Builtin.«dict_keyiterator.__iter__» := by
  rw [table_eq_tree, Fast.te12177470255685639600, Fast.te14364793385576792824, Fast.te14515807449678170102]; kernel_rfl
theorem entry_map_new : entryFor table "map.__new__" = some Builtin.«map.__new__» := entryFor_of_tree (by kernel_rfl)
theorem called_map : TypeCalled "map" "map.__new__" "object.__init__" :=
  ⟨by decide +kernel, by decide +kernel, ⟨_, _, mro_map⟩, madeBy_type mro_map lookup_map_new (by decide +kernel), by decide +kernel, by rw [isSubtype_type]; kernel_rfl, slot_map_init⟩
theorem typeCall_map_2 (a b : Value) : checkTypeCall "map" ⟨[a, b], []⟩ = pure () := by rw [Fast.te11612656972197000677]; kernel_rfl
theorem newCall_map_2 (a b : Value) : checkBuiltinCall "map.__new__" ⟨[.type "map", a, b], []⟩ = pure () := by rw [Fast.te10254737850608025244]; kernel_rfl
theorem args_init_map (obj a b : Value) : argsOk "object.__init__" ⟨[obj, a, b], []⟩ := F.args_object_init_3 obj a b
theorem nolen_map : typeLookup (.type "map") "__len__" = pure none := by rw [typeLookup_type, builtinLookup_eq_fast]; kernel_rfl
theorem nohint_map : typeLookup (.type "map") "__length_hint__" = pure none := by rw [typeLookup_type, builtinLookup_eq_fast]; kernel_rfl
theorem sub_map : isSubtype (.type "map") (.type "map") = pure true := by rw [isSubtype_type]; kernel_rfl
/-- a map object over one iterator -/
noncomputable def MapO (T : Addr) (f : Value) (o : Obj) : Prop := o.cls = .type "map" ∧ o.data = .fields #[.ref T, f]
noncomputable def TupO (vs : List Value) (o : Obj) : Prop := ∃ n, o = { cls := .type "tuple", dict := none, data := .seq vs.toArray n, slots := #[] }
section
variable {prog : Program} {w : World} {A : Around} {E : Value → Shared → Prop} {s : Shared} {g : Heap} {env : Env} {own : List (Str × Addr)} {u : List (Str × Value)} {l : Led} {Q : Value → Shared → Prop}
theorem meets_map_newL (a : Addr) (items : Array Value) (f : Value) :
    Meets (Builtin.«map.__new__» ⟨[.type "map", f, .ref a], []⟩) (fun _ R s => s.heap.IsList a items ∧
      R (.ok (.ret (.ref (s.heap.objs.size + 1 + 1))))
        { s with heap := ((s.heap.push { cls := .type "list_iterator", data := .fields #[.ref a, .int 0 0] }).push { cls := .type "tuple", data := .seq #[.ref s.heap.objs.size] }).push { cls := .type "map", data := .fields #[.ref (s.heap.objs.size + 1), f] } }) :=
  .of_wp fun prog w A R s h => by
    obtain ⟨hL, h⟩ := h
    obtain ⟨hp, g, d, tk, os⟩ := s
    have hsub := sub_map
    wp_walk using wpAny_pyIter_list hL
    refine ⟨_, rfl, ?_⟩
    have e : (#[].push (Value.ref hp.objs.size)).toList.toArray = #[Value.ref hp.objs.size] := rfl
    simpa only [Heap.size_push, List.headD_cons, e] using h
noncomputable def MapS (M T I a : Addr) (f : Value) (vs : List Value) (i : Nat) : Led := [(I, IterO a i), (M, MapO T f), (T, TupO [.ref I]), (a, ListO vs)]
theorem map_next {M T I a : Addr} {f : Value} {vs : List Value} {i : Nat} {v : Value} {Q : Option Value → Shared → Prop} (hv : vs[i]? = some v) (H : Hp g (MapS M T I a f vs i ++ l) s.heap)
    (h : ∀ h', Hp g (MapS M T I a f vs (i + 1) ++ l) h' → wpAny (model prog w) A.in1 (call f [v]) (fun y s' => Q (some y) s') (fun _ _ => False) { s with heap := h' }) : wpAny (model prog w) A (pyNext (.ref M)) Q E s := by
  obtain ⟨oM, hM, cM, dM⟩ := H.has (M, MapO T f) (by simp [MapS])
  obtain ⟨oT, hT, nT, eT⟩ := H.has (T, TupO [.ref I]) (by simp [MapS])
  obtain ⟨oI, hI, cI, dI⟩ := H.has (I, IterO a i) (by simp [MapS])
  have hL : s.heap.IsList a vs.toArray := ListO.isList (H.has (a, ListO vs) (by simp [MapS]))
  have hTy : s.TypeIs (.ref M) "map" := ⟨oM, hM, cM⟩
  unfold pyNext
  refine wpAny_bind (wpAny_attempt (wpAny_callSpecial?_slot (name := Str.ofString "__next__") hTy slot_map_next
    (wpAny_call_entry slot_map_next hTy entry_map_next ?_ (args_map_next_1 _))))
  show wpAny _ _ (field (.ref M) 0 >>= _) _ _ _
  refine wpAny_bind (wpAny_field hM dM (x := .ref T) rfl ?_)
  show wpAny _ _ (seqItems? (.ref T) >>= _) _ _ _
  subst eT
  refine wpAny_bind (wpAny_seqItems hT rfl ?_)
  dsimp only
  simp only [List.forIn_toArray, List.forIn_cons, List.forIn_nil]
  refine wpAny_bind ?_
  refine wpAny_bind ?_
  refine wpAny_bind (wpAny_holding (wpAny_nextOf_list_item (x := v) ⟨oI, hI, cI, dI⟩ hL (by simpa using hv) fun h' hit' hs' => ?_))
  obtain ⟨o', ho', c', d'⟩ := hit'
  have H' : Hp g (MapS M T I a f vs (i + 1) ++ l) h' := H.set (P' := IterO a (i + 1)) (fun b o hb e => (hs'.2 b hb).trans e) ho' ⟨c', d'⟩
  refine wpAny_pure ?_
  dsimp only
  refine wpAny_pure ?_
  try dsimp only
  obtain ⟨oM', hM', cM', dM'⟩ := H'.has (M, MapO T f) (by simp [MapS])
  refine wpAny_bind (wpAny_field hM' dM' (x := f) rfl ?_)
  refine wpAny_bind (wpAny_holding ?_)
  refine wpAny_mono (h h' H') (fun y s' hq => ?_) fun _ _ q => q.elim
  refine wpAny_bind (wpAny_letGo ?_)
  exact wpAny_pure ⟨_, rfl, wpAny_pure hq⟩
theorem map_end {M T I a : Addr} {f : Value} {vs : List Value} {Q : Option Value → Shared → Prop} (hh : A.handled = none) (H : Hp g (MapS M T I a f vs vs.length ++ l) s.heap)
    (h : ∀ h', Hp g l h' → Q none { s with heap := h' }) : wpAny (model prog w) A (pyNext (.ref M)) Q E s := by
  obtain ⟨oM, hM, cM, dM⟩ := H.has (M, MapO T f) (by simp [MapS])
  obtain ⟨oT, hT, nT, eT⟩ := H.has (T, TupO [.ref I]) (by simp [MapS])
  obtain ⟨oI, hI, cI, dI⟩ := H.has (I, IterO a vs.length) (by simp [MapS])
  have hL : s.heap.IsList a vs.toArray := ListO.isList (H.has (a, ListO vs) (by simp [MapS]))
  have hTy : s.TypeIs (.ref M) "map" := ⟨oM, hM, cM⟩
  unfold pyNext
  refine wpAny_bind (wpAny_attempt (wpAny_callSpecial?_slot (name := Str.ofString "__next__") hTy slot_map_next
    (wpAny_call_entry slot_map_next hTy entry_map_next ?_ (args_map_next_1 _))))
  show wpAny _ _ (field (.ref M) 0 >>= _) _ _ _
  refine wpAny_bind (wpAny_field hM dM (x := .ref T) rfl ?_)
  show wpAny _ _ (seqItems? (.ref T) >>= _) _ _ _
  subst eT
  refine wpAny_bind (wpAny_seqItems hT rfl ?_)
  dsimp only
  simp only [List.forIn_toArray, List.forIn_cons, List.forIn_nil]
  refine wpAny_bind ?_
  refine wpAny_bind ?_
  refine wpAny_bind (wpAny_holding (wpAny_nextOf_list_end hh ⟨oI, hI, cI, dI⟩ hL (by simp) fun h' e he' hx' => ?_))
  obtain ⟨o, ho, hc⟩ := hx'
  refine wpAny_bind (wpAny_isInstance (T := "StopIteration") (b := true) ⟨o, ho, hc⟩ isSubtype_stop ?_)
  refine wpAny_pure (h h' ?_)
  have H2 : Hp g (MapS M T I a f vs vs.length ++ l) s.heap := H
  exact (H2.right).other (fun p hp e => by
    have := H2.nd
    simp only [MapS, List.cons_append, List.nil_append, List.map_cons, List.nodup_cons] at this
    exact this.1 (by simp only [List.mem_cons, List.mem_map]; exact .inr (.inr (.inr ⟨p, hp, e⟩)))) (H2.off (I, IterO a vs.length) (by simp [MapS])) he'
theorem ListO.obj {h : Heap} {D : Addr} {xs : List Value} (x : ∃ o, h.get? D = some o ∧ ListO xs o) : ∃ n, h.get? D = some { cls := .type "list", dict := none, data := .seq xs.toArray n, slots := #[] } :=
  let ⟨_, e, n, q⟩ := x; ⟨n, e.trans (by rw [q])⟩
theorem map_loop {R : Result → Shared → Prop} {S M T I a : Addr} {f : Value} {vs : List Value} {res : Value} {P : Nat → Value → Prop} (hh : A.handled = none) (hz : vs.length ≤ 100000)
    (hf : ∀ {Q' : Value → Shared → Prop} (i : Nat) (v : Value) (l' : Led) (s' : Shared), vs[i]? = some v → Hp g l' s'.heap → (∀ y new h' tk, P i y → Hp g (new ++ l') h' → Q' y { s' with heap := h', toks := tk }) → wpAny (model prog w) A.in1.in1 (call f [v]) Q' (fun _ _ => False) s') :
    ∀ (k i : Nat) (acc : List Value) (s : Shared), vs.length - i = k → i ≤ vs.length → Hp g ((S, ListO acc) :: (MapS M T I a f vs i ++ l)) s.heap → acc.length = i → (∀ (j : Nat) (y : Value), acc[j]? = some y → P j y) →
      (∀ acc' h' tk, acc'.length = vs.length → (∀ (j : Nat) (y : Value), acc'[j]? = some y → P j y) → Hp g ((S, ListO acc') :: l) h' → R (.ok (.ret res)) { s with heap := h', toks := tk }) →
      codeAny (model prog w) A (.builtin "list.extend.loop" ⟨[.ref S, .ref M, res], []⟩) R s := by
  intro k
  induction k with
  | zero =>
    intro i acc s hk hi H hacc hP hR
    have hin : i = vs.length := by omega
    subst hin
    refine codeAny_builtin F.entry_extend_loop ?_
    rw [Around.under_plainId F.plain_extend_loop _]
    show wpAny _ A.in1 (pyNext (.ref M) >>= _) _ _ s
    refine wpAny_bind (map_end (l := (S, ListO acc) :: l) (A := A.in1) (M := M) (T := T) (I := I) (a := a) (f := f) (vs := vs) hh (H.perm List.perm_middle.symm) fun h' H' => ?_)
    exact wpAny_pure (hR acc h' s.toks hacc hP H')
  | succ k ih =>
    intro i acc s hk hi H hacc hP hR
    have hlt : i < vs.length := by omega
    refine codeAny_builtin F.entry_extend_loop ?_
    rw [Around.under_plainId F.plain_extend_loop _]
    show wpAny _ A.in1 (pyNext (.ref M) >>= _) _ _ s
    refine wpAny_bind (map_next (l := (S, ListO acc) :: l) (v := vs[i]) (List.getElem?_eq_getElem hlt) (H.perm List.perm_middle.symm) fun h' H' => hf i vs[i] _ _ (List.getElem?_eq_getElem hlt) H' fun y new h2 tk2 hy H2 => ?_)
    show wpAny _ A.in1 (updateSeq S (·.push y) >>= _) _ _ _
    refine wpAny_bind ?_
    have H3 : Hp g ((S, ListO acc) :: (MapS M T I a f vs (i + 1) ++ l)) h2 := H2.right.perm List.perm_middle
    obtain ⟨n, hS⟩ := ListO.obj (H3.has (S, ListO acc) (.head _))
    refine wpAny_updateSeq (s := { s with heap := h2, toks := tk2 }) hS rfl (wpAny_pure ⟨plainId_quiet F.plain_extend_loop _, ih (i + 1) (acc ++ [y]) _ (by omega) hlt ?_ (by simp [hacc]) (fun j z hj => ?_) fun acc' h' tk a1 a2 a3 => hR acc' h' tk a1 a2 a3⟩) (by simp [hacc, sizeLine_eq]; omega) (by simp [hacc, sizeLine_eq]; omega)
    · refine H3.set (o' := _) (fun b o hb e => (Heap.get?_update_other _ _ (Ne.symm hb)).trans e) (Heap.get?_update_self _ hS rfl) ?_
      refine ⟨(if (acc.toArray.push y).size == acc.toArray.size then n else n + 1), ?_⟩
      unfold Obj.mapSeq
      dsimp only
      rw [List.push_toArray]
    · by_cases hjl : j < acc.length
      · rw [List.getElem?_append_left hjl] at hj; exact hP j z hj
      · rw [List.getElem?_append_right (by omega)] at hj
        have h0 : j - acc.length = 0 := by
          have := (List.getElem?_eq_some_iff.mp hj).1
          simp at this; omega
        rw [h0] at hj
        have : z = y := by simpa using hj.symm
        subst this
        have : j = i := by omega
        subst this; exact hy
theorem map_extend {R : Result → Shared → Prop} {S M T I a : Addr} {f : Value} {vs : List Value} {res : Value} {P : Nat → Value → Prop} {s : Shared} (hh : A.handled = none) (hz : vs.length ≤ 100000)
    (hf : ∀ {Q' : Value → Shared → Prop} (i : Nat) (v : Value) (l' : Led) (s' : Shared), vs[i]? = some v → Hp g l' s'.heap → (∀ y new h' tk, P i y → Hp g (new ++ l') h' → Q' y { s' with heap := h', toks := tk }) → wpAny (model prog w) A.in1.in1 (call f [v]) Q' (fun _ _ => False) s')
    (H : Hp g ((S, ListO []) :: (MapS M T I a f vs 0 ++ l)) s.heap)
    (hR : ∀ acc' h' tk, acc'.length = vs.length → (∀ (j : Nat) (y : Value), acc'[j]? = some y → P j y) → Hp g ((S, ListO acc') :: l) h' → R (.ok (.ret res)) { s with heap := h', toks := tk }) :
    wpAny (model prog w) A.in1 (Builtin.List.listExtendWith (.ref S) (.ref M) res)
      (fun fin s' => match fin with | .done f => R (.ok f) s' | .again c' => c'.quiet = true ∧ codeAny (model prog w) A c' R s') (fun e s' => R (.error e) s') s := by
  obtain ⟨oM, hM, cM, dM⟩ := H.has (M, MapO T f) (by simp [MapS])
  have hTy : s.TypeIs (.ref M) "map" := ⟨oM, hM, cM⟩
  have hSM : S ≠ M := fun e => H.notMem (M, MapO T f) (by simp [MapS]) e.symm
  unfold Builtin.List.listExtendWith
  refine wpAny_bind (wpAny_typeOf hTy ?_)
  have h1 : Builtin.List.listSameRef (.ref S) (.ref M) = false := by simp [Builtin.List.listSameRef, hSM]
  have h2 : (Value.type "map" == Value.type "list") = false := by decide
  have h3 : (Value.type "map" == Value.type "tuple") = false := by decide
  simp only [h1, h2, h3, Bool.or_false, Bool.false_eq_true, if_false]
  refine wpAny_bind (wpAny_pyIter_slot hTy slot_map_iter (wpAny_call_entry slot_map_iter hTy entry_map_iter ?_ (args_map_iter_1 _)))
  show wpAny _ _ (ret (.ref M)) _ _ s
  refine wpAny_pure ⟨_, rfl, "map", _, hTy, slot_map_next.lookup, ?_⟩
  refine wpAny_bind (wpAny_holding ?_)
  unfold Builtin.List.listLengthHint
  refine wpAny_bind (wpAny_specialOf hTy nolen_map ?_)
  show wpAny _ A.in1 (specialOf (Value.ref M) (Str.ofString "__length_hint__") >>= _) _ _ _
  refine wpAny_bind (wpAny_specialOf hTy nohint_map ?_)
  refine wpAny_pure ?_
  show wpAny _ A.in1 (rule "list.extend.makes-room" >>= fun _ => Builtin.List.listTouch (.ref S) >>= fun _ =>
    again (.builtin "list.extend.loop" ⟨[.ref S, .ref M, res], []⟩)) _ _ _
  refine wpAny_bind (wpAny_rule ?_)
  refine wpAny_bind ?_
  show wpAny _ A.in1 (updateSeq S (·.push .none) >>= fun _ => updateSeq S (·.pop)) _ _ _
  obtain ⟨n, hS⟩ := ListO.obj (H.has (S, ListO []) (.head _))
  refine wpAny_bind (wpAny_updateSeq hS rfl ?_)
  have hS₂ := Heap.get?_update_self (Obj.mapSeq (·.push Value.none)) hS rfl
  refine wpAny_updateSeq (hz := by seq_fits) hS₂ rfl ?_
  have hS₃ := Heap.get?_update_self (Obj.mapSeq (·.pop)) hS₂ rfl
  refine wpAny_pure ⟨plainId_quiet F.plain_extend_loop _, map_loop (P := P) hh hz hf _ 0 [] _ rfl (Nat.zero_le _) (H.set (o' := _) (fun b o hb e => (Heap.get?_update_other _ _ (Ne.symm hb)).trans ((Heap.get?_update_other _ _ (Ne.symm hb)).trans e)) hS₃ ⟨_, rfl⟩) rfl (fun j y hj => by simp at hj) fun acc' h' tk a1 a2 a3 => hR acc' h' tk a1 a2 a3⟩
theorem call_list_map {M T I a : Addr} {f : Value} {vs : List Value} {P : Nat → Value → Prop} {s : Shared} {Q : Value → Shared → Prop} (hh : A.handled = none) (hz : vs.length ≤ 100000)
    (hf : ∀ {Q' : Value → Shared → Prop} (i : Nat) (v : Value) (l' : Led) (s' : Shared), vs[i]? = some v → Hp g l' s'.heap → (∀ y new h' tk, P i y → Hp g (new ++ l') h' → Q' y { s' with heap := h', toks := tk }) → wpAny (model prog w) A.in1.in1.in1 (call f [v]) Q' (fun _ _ => False) s')
    (H : Hp g (MapS M T I a f vs 0 ++ l) s.heap)
    (h : ∀ D ys h' tk, ys.length = vs.length → (∀ (j : Nat) (y : Value), ys[j]? = some y → P j y) → Hp g ((D, ListO ys) :: l) h' → Q (.ref D) { s with heap := h', toks := tk }) :
    wpAny (model prog w) A (call (.type "list") [.ref M]) Q E s := by
  refine callType_codes (Q₁ := fun obj s₁ => obj = .ref s.heap.objs.size ∧ s₁ = { s with heap := s.heap.push { cls := .type "list", data := .seq #[] } }) F.called_list (F.typeCall_list_1 _) F.entry_list_init
    (code_list_new _ ⟨rfl, rfl⟩) fun obj s₁ h₁ => ?_
  obtain ⟨rfl, rfl⟩ := h₁
  have hS : (s.heap.push { cls := .type "list", data := .seq #[] }).get? s.heap.objs.size = some { cls := .type "list", data := .seq #[] } := Heap.get?_push_size _ rfl
  have H1 : Hp g ((s.heap.objs.size, ListO []) :: (MapS M T I a f vs 0 ++ l)) (s.heap.push { cls := .type "list", data := .seq #[] }) := H.push (P := ListO []) _ ⟨0, rfl⟩
  refine ⟨⟨_, hS, rfl⟩, F.args_list_init_2 _ _, ?_⟩
  generalize s.heap.objs.size = S at *
  generalize hs1 : s.heap.push { cls := .type "list", data := .seq #[] } = hp1 at *
  show wpAny _ A.in1.in1 (do let old ← Builtin.List.listItems (.ref S); Builtin.List.listUpdate (.ref S) (fun _ => #[]); letGo old.toList.reverse; Builtin.List.listExtendWith (.ref S) (.ref M) .none) _ _ _
  refine wpAny_bind ?_
  unfold Builtin.List.listItems
  refine wpAny_bind (wpAny_seqItems hS rfl (wpAny_pure ?_))
  show wpAny _ A.in1.in1 (updateSeq S (fun _ => #[]) >>= fun _ => letGo (#[] : Array Value).toList.reverse >>= fun _ => Builtin.List.listExtendWith (.ref S) (.ref M) .none) _ _ _
  refine wpAny_bind (wpAny_updateSeq hS rfl ?_)
  have hS₂ := Heap.get?_update_self (Obj.mapSeq (fun _ => (#[] : Array Value))) hS rfl
  refine wpAny_bind (wpAny_letGo ?_)
  refine map_extend (A := A.in1) (P := P) hh hz hf (H1.set (o' := _) (fun b o hb e => (Heap.get?_update_other _ _ (Ne.symm hb)).trans e) hS₂ ⟨_, rfl⟩) fun acc' h' tk a1 a2 a3 => ?_
  exact ⟨rfl, h S acc' h' tk a1 a2 a3⟩
theorem call_map_list {a : Addr} {f : Value} {vs : List Value} {s : Shared} {Q : Value → Shared → Prop} (H : Hp g l s.heap) (hm : (a, ListO vs) ∈ l)
    (h : ∀ M T I h', Hp g ((M, MapO T f) :: (T, TupO [.ref I]) :: (I, IterO a 0) :: l) h' → Q (.ref M) { s with heap := h' }) : wpAny (model prog w) A (call (.type "map") [f, .ref a]) Q E s := by
  have hL : s.heap.IsList a vs.toArray := ListO.isList (H.get hm)
  refine callType_new called_map (by decide) (typeCall_map_2 _ _) (newCall_map_2 _ _) (fun obj => args_init_map obj _ _) entry_map_new
    (meets_map_newL a vs.toArray f) ⟨hL, ?_⟩
  have H1 : Hp g ((s.heap.objs.size, IterO a 0) :: l) (s.heap.push { cls := .type "list_iterator", data := .fields #[.ref a, .int 0 0] }) := H.push (P := IterO a 0) _ ⟨rfl, rfl⟩
  have z1 : (s.heap.push { cls := .type "list_iterator", data := .fields #[.ref a, .int 0 0] }).objs.size = s.heap.objs.size + 1 := Heap.size_push ..
  have H2 := H1.push (P := TupO [.ref s.heap.objs.size]) { cls := .type "tuple", data := .seq #[.ref s.heap.objs.size] } ⟨0, rfl⟩
  rw [z1] at H2
  have z2 : ((s.heap.push { cls := .type "list_iterator", data := .fields #[.ref a, .int 0 0] }).push { cls := .type "tuple", data := .seq #[.ref s.heap.objs.size] }).objs.size = s.heap.objs.size + 1 + 1 := by rw [Heap.size_push, z1]
  have H3 := H2.push (P := MapO (s.heap.objs.size + 1) f) { cls := .type "map", data := .fields #[.ref (s.heap.objs.size + 1), f] } ⟨rfl, rfl⟩
  rw [z2] at H3
  refine ⟨⟨{ cls := .type "map", data := .fields #[.ref (s.heap.objs.size + 1), f] }, ?_, rfl⟩, h _ _ _ _ H3⟩
  rw [← z2]
  exact Heap.get?_push_size _ rfl
end
section
variable {M : Model} {A : Around} {E : Value → Shared → Prop} {s : Shared} {env : Env} {Q : Value → Shared → Prop} {k : Nat} {pos : Pos}
end
section
variable {prog : Program} {w : World} {A : Around} {E : Value → Shared → Prop} {s : Shared} {g : Heap} {env : Env} {own : List (Str × Addr)} {u : List (Str × Value)} {l : Led}
theorem setL {a : Addr} {xs : List Value} {k : Int} {t : Tok} {v : Value} {j : Nat} {Q : Unit → Shared → Prop} (hk : k = (j : Int) ∨ (k < 0 ∧ k + xs.length = j)) (hj : j < xs.length) (hz : xs.length ≤ 100000) (H : Hp g ((a, ListO xs) :: l) s.heap)
    (h : ∀ h', Hp g ((a, ListO (xs.set j v)) :: l) h' → Q () { s with heap := h' }) : wpAny (model prog w) A (setItem (.ref a) (.int k t) v) Q E s := by
  obtain ⟨n, ho⟩ := ListO.obj (H.has (a, ListO xs) (.head _))
  have hl : s.heap.IsList a xs.toArray := ⟨_, ho, rfl, n, rfl⟩
  have fin : Q () { s with heap := s.heap.update a (Obj.mapSeq (·.setIfInBounds j v)) } := by
    refine h _ (H.set (o' := _) (fun b o hb e => (Heap.get?_update_other _ _ (Ne.symm hb)).trans e) (Heap.get?_update_self _ ho rfl) ?_)
    refine ⟨(if (xs.toArray.setIfInBounds j v).size == xs.toArray.size then n else n + 1), ?_⟩
    unfold Obj.mapSeq
    dsimp only
    rw [List.setIfInBounds_toArray]
  have hx' : xs.toArray[j]? = some xs[j] := by simp [hj]
  unfold setItem
  try with_reducible refine wpAny_holding ?_
  first | refine wpAny_bind (wpAny_pure ?_) | skip
  refine wpAny_bind (wpAny_sequenceKey hl.typeIs (by decide) ?_)
  refine wpAny_bind (wpAny_callSpecial?_slot (name := Str.ofString "__setitem__") hl.typeIs PySem.slot_list_setitem
    (wpAny_call_entry PySem.slot_list_setitem hl.typeIs PySem.entry_list_setitem ?_ (PySem.args_list_setitem _ _ _)))
  show wpAny _ _ (Builtin.List.listSubscript? (.int k t) >>= _) _ _ s
  have hfit : Builtin.List.listFitsIndex k = true := by
    rcases hk with e | ⟨h0, hk⟩
    · exact fitsIndex_of (by omega) (by omega)
    · exact fitsIndex_neg h0 (by omega)
  refine wpAny_bind (wpAny_listSubscript_int hfit ?_)
  clear hfit
  rcases hk with rfl | ⟨h0, hk⟩
  · show wpAny _ _ ((seqItemAt a j >>= fun r => pure (r.map (j, ·))) >>= _) _ _ s
    refine wpAny_bind (wpAny_bind (wpAny_seqItemAt ho rfl (wpAny_pure ?_)))
    rw [hx']
    show wpAny _ _ (setSeqItemAt a j v >>= _) _ _ s
    refine wpAny_bind (wpAny_setSeqItemAt ho rfl ?_)
    first
      | exact wpAny_bind (wpAny_pure (wpAny_pure ⟨.none, rfl, wpAny_pure fin⟩))
      | exact wpAny_pure ⟨.none, rfl, wpAny_pure fin⟩
  · have hidx := seqIndex_neg (n := xs.toArray.size) h0 (by simp; omega)
    obtain ⟨i, rfl⟩ : ∃ i : Nat, k = Int.negSucc i := by
      cases k with
      | ofNat n => exact absurd h0 (Int.not_lt.mpr (Int.natCast_nonneg n))
      | negSucc n => exact ⟨n, rfl⟩
    show wpAny _ _ ((Builtin.List.listItems (.ref a) >>= fun xs => pure ((seqIndex? (Int.negSucc i) xs.size).bind fun i => xs[i]?.map (i, ·))) >>= _) _ _ s
    refine wpAny_bind (wpAny_bind ?_)
    show wpAny _ _ (seqItems? (.ref a) >>= _) _ _ s
    refine wpAny_bind (wpAny_seqItems ho rfl (wpAny_pure (wpAny_pure ?_)))
    rw [hidx]
    have e1 : (Int.negSucc i + (xs.toArray.size : Int)).toNat = j := by simp; omega
    rw [e1]
    simp only [Option.bind_some, hx', Option.map_some]
    show wpAny _ _ (setSeqItemAt a j v >>= _) _ _ s
    refine wpAny_bind (wpAny_setSeqItemAt ho rfl ?_)
    first
      | exact wpAny_bind (wpAny_pure (wpAny_pure ⟨.none, rfl, wpAny_pure fin⟩))
      | exact wpAny_pure ⟨.none, rfl, wpAny_pure fin⟩
theorem strs_of : ∀ {xs : List (List Nat)} {p : List (Str × Tok)}, p.map (·.1) = xs.map Tx → Strs xs (strValues p)
  | xs, p, h => by
    have hl : p.length = xs.length := by simpa using congrArg List.length h
    refine ⟨by simp [strValues, hl], fun i x hx => ?_⟩
    have hi : i < p.length := by rw [hl]; exact (List.getElem?_eq_some_iff.mp hx).1
    refine ⟨p[i].2, ?_⟩
    have : p[i].1 = Tx x := by
      have := congrArg (fun q => q[i]?) h
      simp only [List.getElem?_map, hx, List.getElem?_eq_getElem hi, Option.map_some] at this
      injection this
    simp [strValues, List.getElem?_eq_getElem hi, this]
theorem of_strs : ∀ {xs : List (List Nat)} {vs : List Value}, Strs xs vs → ∃ p : List (Str × Tok), p.map (·.1) = xs.map Tx ∧ vs = strValues p
  | [], vs, h => ⟨[], rfl, List.length_eq_zero_iff.mp h.1⟩
  | x :: xs, vs, h => by
    obtain ⟨t, e⟩ := h.2 0 x rfl
    cases vs with
    | nil => cases e
    | cons v r =>
      obtain ⟨p, q1, q2⟩ := of_strs (xs := xs) (vs := r) ⟨by have := h.1; simpa using this, fun i y hy => h.2 (i + 1) y hy⟩
      refine ⟨(Tx x, t) :: p, by simp [q1], ?_⟩
      have : v = .str (Tx x) t := by simpa using e
      rw [this, q2]; rfl
theorem splitStar {x : List Nat} {t t' : Tok} {Q : Value → Shared → Prop} (hz : x.length ≤ 1000) (S : St g env own u l s.heap) (h : ∀ D vs h' tk, Strs (sp x) vs → St g env own u ((D, ListO vs) :: l) h' → Q (.ref D) { s with heap := h', toks := tk }) :
    wpAny (model prog w) A (call (.builtin "str.split") [.str (Tx x) t, .str (Tx [42]) t']) Q E s := by
  have hsp := split_sp x
  have hy : ((Tx [42]).length == 0) = false := rfl
  have hx : (Tx x).length ≤ sizeLine := by rw [Tx_len, sizeLine_eq]; omega
  cases h1 : (decide ((Tx x).length < (Tx [42]).length) || decide (Builtin.Str.strKind (Tx x) < Builtin.Str.strKind (Tx [42])))
  · cases hf : (Builtin.Str.occurrences (Tx x) (Tx [42]) 0 (Tx x).length ((Tx x).length + 1)).isEmpty
    · have e0 : Txt.split (Tx x) (Tx [42]) = Builtin.Str.partsBetween (Tx x) (Builtin.Str.occurrences (Tx x) (Tx [42]) 0 (Tx x).length ((Tx x).length + 1)) (Tx [42]).length := by
        unfold Txt.split; rw [if_neg (ne_true_of_eq_false h1), if_neg (ne_true_of_eq_false hf)]
      have hn := PyProof.Rows.split_le (Tx x) (Tx [42])
      rw [e0] at hn
      have hlx := Tx_len x
      refine call_meets F.slot_str_split (typeIs_str _ _ _) F.entry_str_split (F.args_str_split_2 _ _) (meets_str_split_sep _ _ _ _ h1 hy hf hx (by rw [sizeLine_eq]; omega)) ?_
      rw [strsFrom_eq]
      refine h _ _ _ _ (strs_of (p := numbered s.toks _) ?_) (S.push (P := ListO _) _ ⟨0, rfl⟩)
      rw [numbered_texts, ← e0, hsp]
    · have e0 : Txt.split (Tx x) (Tx [42]) = [Tx x] := by unfold Txt.split; rw [if_neg (ne_true_of_eq_false h1), if_pos hf]
      refine call_meets F.slot_str_split (typeIs_str _ _ _) F.entry_str_split (F.args_str_split_2 _ _) (meets_str_split_not_found _ _ _ _ h1 hy hf) ?_
      exact h _ _ _ _ (strs_of (p := [(Tx x, t)]) (by rw [← hsp, e0]; rfl)) (S.push (P := ListO _) _ ⟨0, rfl⟩)
  · have e0 : Txt.split (Tx x) (Tx [42]) = [Tx x] := by unfold Txt.split; rw [if_pos h1]
    refine call_meets F.slot_str_split (typeIs_str _ _ _) F.entry_str_split (F.args_str_split_2 _ _) (meets_str_split_cannot_occur _ _ _ _ h1) ?_
    exact h _ _ _ _ (strs_of (p := [(Tx x, t)]) (by rw [← hsp, e0]; rfl)) (S.push (P := ListO _) _ ⟨0, rfl⟩)
theorem joinL {D : Addr} {xs : List (List Nat)} {vs : List Value} {t : Tok} {Q : Value → Shared → Prop} (S : St g env own u l s.heap) (hm : (D, ListO vs) ∈ l) (hs : Strs xs vs) (hz : (joinN [] xs).length + xs.length ≤ 100000)
    (h : ∀ t' tk, Q (.str (Tx (joinN [] xs)) t') { s with toks := tk }) : wpAny (model prog w) A (call (.builtin "str.join") [.str (Tx []) t, .ref D]) Q E s := by
  obtain ⟨p, e, rfl⟩ := of_strs hs
  have hj : Txt.join (Tx []) (xs.map Tx) = Tx (joinN [] xs) := by
    show Builtin.Str.glued (Tx []) (xs.map Tx) = _
    rw [StrLaws.glued_eq_join, join_Tx, List.map_map]
    congr 2
    exact (List.map_congr_left fun q _ => Tx_cps q).trans (List.map_id _)
  refine SC.join (l := p) (texts := xs.map Tx) (ListO.isList (S.get hm)) e ?_ fun t' k => ?_
  · unfold JoinOk
    rw [StrLaws.joinTotal]
    have e1 : ((xs.map Tx).map (·.length)).sum = (joinN [] xs).length := by
      clear hz h e S hm hs hj
      induction xs with
      | nil => rfl
      | cons x r ih =>
        cases r with
        | nil => simp [joinN, Tx_len]
        | cons y r =>
          rw [joinN_cons2, List.map_cons, List.map_cons, List.sum_cons, ih, Tx_len]; simp
    rw [e1, show (Tx []).length = 0 from rfl, Nat.mul_zero, Nat.add_zero, Bool.not_eq_true']
    unfold Builtin.Str.tooLong
    exact decide_eq_false (by rw [sizeLine_eq]; omega)
  · rw [hj]; exact h t' k
theorem joinsC {v : PySem.Expr} {rest : List PySem.Expr} {acc : List Nat} {Q : Str → Shared → Prop} (h : wpAny (model prog w) A (eval v env) (fun r s₁ => ∃ y t, r = .str (Tx y) t ∧ acc.length + y.length ≤ 10000 ∧ Joins (model prog w) A E (evalEach rest env) (Tx (acc ++ y)) Q s₁) E s) :
    Joins (model prog w) A E (evalEach (v :: rest) env) (Tx acc) Q s :=
  wpAny_mono h (fun r s₁ q => by
    obtain ⟨y, t, rfl, hz, hj⟩ := q
    refine ⟨_, t, rfl, ?_, ?_⟩
    · rw [Tx_app, Tx_len, List.length_append, sizeLine_eq]; omega
    · rw [Tx_app]; exact hj) fun _ _ e => e
theorem joinsN {acc : List Nat} {Q : Value → Shared → Prop} (hz : acc.length ≤ 10000) (h : Q (.str (Tx acc) s.toks) { s with toks := s.toks + 1 }) :
    Joins (model prog w) A E (evalEach [] env) (Tx acc) (fun out s₁ => out.length ≤ sizeLine ∧ Q (.str out s₁.toks) { s₁ with toks := s₁.toks + 1 }) s :=
  ⟨by rw [Tx_len, sizeLine_eq]; omega, h⟩
end
noncomputable def midP (p : List Nat) : List Nat := [40, 63, 62, 46, 42, 63] ++ p ++ [41]
noncomputable def endP (p : List Nat) : List Nat := [46, 42] ++ p
noncomputable def stage (k : Nat) (ps : List (List Nat)) : List (List Nat) := ps.mapIdx fun j p => if 1 ≤ j ∧ j ≤ k then midP p else p
noncomputable def finP (ps : List (List Nat)) : List (List Nat) := ps.mapIdx fun j p => if j + 1 = ps.length then endP p else if 1 ≤ j then midP p else p
noncomputable def patOf (x : List Nat) : List Nat := joinN [] (finP ((sp x).map esc))
theorem stage_len (k : Nat) (ps : List (List Nat)) : (stage k ps).length = ps.length := by simp [stage]
theorem stage_get {k j : Nat} {ps : List (List Nat)} {p : List Nat} (h : ps[j]? = some p) : (stage k ps)[j]? = some (if 1 ≤ j ∧ j ≤ k then midP p else p) := by
  simp [stage, h]
theorem stage_zero (ps : List (List Nat)) : stage 0 ps = ps := by
  refine List.ext_getElem? fun j => ?_
  simp only [stage, List.getElem?_mapIdx]
  have : ∀ p : List Nat, (if 1 ≤ j ∧ j ≤ 0 then midP p else p) = p := fun p => if_neg (by omega)
  simp only [this]
  cases ps[j]? <;> rfl
theorem stage_set {k : Nat} {ps : List (List Nat)} {p : List Nat} (h : ps[k + 1]? = some p) : (stage k ps).set (k + 1) (midP p) = stage (k + 1) ps := by
  have hl := (List.getElem?_eq_some_iff.mp h).1
  refine List.ext_getElem? fun j => ?_
  rw [List.getElem?_set]
  by_cases e : k + 1 = j
  · subst e
    rw [if_pos rfl, if_pos (by rw [stage_len]; exact hl), stage_get h, if_pos (by omega)]
  · rw [if_neg e]
    simp only [stage, List.getElem?_mapIdx]
    have : (1 ≤ j ∧ j ≤ k) ↔ (1 ≤ j ∧ j ≤ k + 1) := by omega
    simp only [this]
theorem stage_fin {n : Nat} {ps : List (List Nat)} {p : List Nat} (hn : ps.length = n + 1) (h : ps[n]? = some p) : (stage (n - 1) ps).set n (endP p) = finP ps := by
  have hl := (List.getElem?_eq_some_iff.mp h).1
  refine List.ext_getElem? fun j => ?_
  rw [List.getElem?_set]
  by_cases e : n = j
  · subst e
    rw [if_pos rfl, if_pos (by rw [stage_len]; exact hl)]
    simp only [finP, List.getElem?_mapIdx, h, Option.map_some, hn, if_true]
  · rw [if_neg e]
    simp only [stage, finP, List.getElem?_mapIdx]
    by_cases hj : j < ps.length
    · have h1 : (1 ≤ j ∧ j ≤ n - 1) ↔ 1 ≤ j := by omega
      have h2 : ¬ (j + 1 = ps.length) := by omega
      simp only [h1, h2, if_false]
    · rw [List.getElem?_eq_none (by omega)]; rfl
theorem finP_len {ps : List (List Nat)} (h : ∀ p ∈ ps, p.length ≤ 40) : ∀ p ∈ finP ps, p.length ≤ 47 := by
  intro p hp
  obtain ⟨i, hi⟩ := List.getElem?_of_mem hp
  simp only [finP, List.getElem?_mapIdx] at hi
  cases e : ps[i]? with
  | none => rw [e] at hi; cases hi
  | some q =>
    rw [e] at hi
    injection hi with hi
    have := h q (List.mem_of_getElem? e)
    subst hi
    split
    · simp [endP]; omega
    · split
      · simp [midP]; omega
      · exact Nat.le_trans this (by decide)
theorem Strs.set {xs : List (List Nat)} {vs : List Value} {x : List Nat} {t : Tok} {j : Nat} (h : Strs xs vs) : Strs (xs.set j x) (vs.set j (.str (Tx x) t)) := by
  refine ⟨by simp [h.1], fun i y hy => ?_⟩
  rw [List.getElem?_set] at hy
  rw [List.getElem?_set]
  by_cases e : j = i
  · rw [if_pos e] at hy ⊢
    split at hy
    · rename_i hl
      injection hy with hy
      subst hy
      exact ⟨t, by rw [if_pos (by rw [h.1]; exact hl)]⟩
    · cases hy
  · rw [if_neg e] at hy ⊢
    exact h.2 i y hy
theorem sp_len : ∀ x, (sp x).length ≤ x.length + 1
  | [] => by simp [sp]
  | c :: r => by
    have ih := sp_len r
    have hn := sp_ne r
    cases h : sp r with
    | nil => exact absurd h hn
    | cons p ps =>
      rw [h] at ih
      by_cases hc : c = 42
      · subst hc; rw [sp_star, h]; simp at ih ⊢; omega
      · rw [sp_other hc h]; simp at ih ⊢; omega
theorem sp_sub : ∀ x, ∀ p ∈ sp x, p.length ≤ x.length ∧ ∀ c ∈ p, c ∈ x
  | [], p, h => by
    simp [sp] at h; subst h; simp
  | c :: r, p, h => by
    have ih := sp_sub r
    have hn := sp_ne r
    cases e : sp r with
    | nil => exact absurd e hn
    | cons q ps =>
      rw [e] at ih
      by_cases hc : c = 42
      · subst hc; rw [sp_star, e] at h
        rcases List.mem_cons.mp h with rfl | h
        · simp
        · have := ih p h; exact ⟨by simp; omega, fun z hz => .tail _ (this.2 z hz)⟩
      · rw [sp_other hc e] at h
        rcases List.mem_cons.mp h with rfl | h
        · have := ih q (.head _)
          exact ⟨by simp; omega, fun z hz => (List.mem_cons.mp hz).elim (fun e => e ▸ .head _) fun m => .tail _ (this.2 z m)⟩
        · have := ih p (.tail _ h); exact ⟨by simp; omega, fun z hz => .tail _ (this.2 z hz)⟩
theorem joinN_nil_len {B : Nat} : ∀ xs : List (List Nat), (∀ x ∈ xs, x.length ≤ B) → (joinN [] xs).length ≤ xs.length * B
  | [], _ => Nat.zero_le _
  | [x], h => by have := h x (.head _); simp [joinN]; omega
  | x :: y :: r, h => by
    have ih := joinN_nil_len (y :: r) fun z hz => h z (.tail _ hz)
    have := h x (.head _)
    rw [joinN_cons2, List.length_append, List.length_append, List.length_cons, Nat.succ_mul]
    simp only [List.length_nil]
    omega
theorem setS {prog : Program} {w : World} {A : Around} {E : Value → Shared → Prop} {s : Shared} {g : Heap} {env : Env} {own : List (Str × Addr)} {u : List (Str × Value)} {pre post : Led} {a : Addr} {xs : List Value} {k : Int} {t : Tok} {v : Value} {j : Nat} {Q : Unit → Shared → Prop}
    (S : St g env own u (pre ++ (a, ListO xs) :: post) s.heap) (hk : k = (j : Int) ∨ (k < 0 ∧ k + xs.length = j)) (hj : j < xs.length) (hz : xs.length ≤ 100000)
    (h : ∀ h', St g env own u (pre ++ (a, ListO (xs.set j v)) :: post) h' → Q () { s with heap := h' }) : wpAny (model prog w) A (setItem (.ref a) (.int k t) v) Q E s := by
  have H : Hp g ((a, ListO xs) :: (frL env own u ++ (pre ++ post))) s.heap := S.hp.le fun a => by simp only [cnt_cons, cnt_append]; first | ac_rfl | omega
  refine setL hk hj hz H fun h' H' => h h' (S.of' (H'.le fun a => by simp only [cnt_cons, cnt_append]; first | ac_rfl | omega) fun p hp => ?_)
  rcases List.mem_append.mp hp with hp | hp
  · exact .inl (List.mem_append_left _ hp)
  · rcases List.mem_cons.mp hp with rfl | hp
    · exact .inr (ListO.nc _)
    · exact .inl (List.mem_append_right _ (.tail _ hp))
theorem joinsE {M : Model} {A : Around} {E : Value → Shared → Prop} {env : Env} {acc : Str} {G : Str → Shared → Prop} {s : Shared} (h : G acc s) : Joins M A E (evalEach [] env) acc G s := h
section
variable {prog : Program} {w : World} {A : Around} {E : Value → Shared → Prop} {s : Shared} {g : Heap} {l : Led} {Q : Value → Shared → Prop}
theorem tp_spec {n : Nat} (W : Wd w g) (R : Rm A (n + 8)) (H : Hp g l s.heap) {x : List Nat} {t : Tok} (hx : ∀ c ∈ x, c < 128) (hz : x.length ≤ 20)
    (h : ∀ u h' tk, Hp g l h' → Q (.str (Tx (patOf x)) u) { s with heap := h', toks := tk }) : wpAny (model prog w) A (call (.ref 75) [.str (Tx x) t] []) Q E s := by
  refine call_top (args := ⟨[.str (Tx x) t], []⟩) (binds := [("path", .str (Tx x) t)]) W R H (lk_75 w) (cd_75 w) (bh_75 w) (by kernel_rfl) (by kernel_rfl) (by kernel_rfl) fun L h₁ tk S R1 => ?_
  dsimp only [bd_75]
  have KD := kd_75 w L
  repeat walk_at "rp"
  refine mcS F.slot_str_split F.type_str_split rfl rfl rfl rfl rfl ?_
  repeat walk_at "rp"
  refine ⟨_, _, rfl, ?_⟩
  repeat walk_at "rp"
  refine splitStar (by omega) S fun D vs h' tk hvs S => ?_
  repeat walk_at "rp"
  refine call_map_list S.hp (List.mem_append_right _ (.head _)) fun M T I h' H' => ?_
  repeat walk_at "rp"
  have hM : Hp g (MapS M T I D (.ref 68) vs 0 ++ (frL (fenv (fdOf w 75) L 75) (fown (fdOf w 75) L) [("path", .str (Tx x) t)] ++ l)) h' := H'.le fun a => by
    simp only [MapS, cnt_cons, cnt_append, cnt_nil]; first | ac_rfl | omega
  have hsl := sp_len x
  have hvl : vs.length ≤ 100 := by rw [hvs.1]; omega
  refine call_list_map (P := fun i y => ∃ p t, (sp x)[i]? = some p ∧ y = .str (Tx (esc p)) t) (A := A.deeper (fenv (fdOf w 75) L 75)) R1.hh (by omega) (fun i v l' s' hv H hQ => ?_) hM fun P0 ys h' tk hl hP H2 => ?_
  · have hi : i < (sp x).length := by rw [← hvs.1]; exact (List.getElem?_eq_some_iff.mp hv).1
    obtain ⟨tp, e⟩ := hvs.2 i (sp x)[i] (List.getElem?_eq_getElem hi)
    rw [hv] at e; injection e with e; subst e
    have hsub := sp_sub x (sp x)[i] (List.getElem_mem hi)
    exact escape_spec (n := n + 1) W (R1.in1.in1.in1) H (x := Tx (sp x)[i]) (fun c hc => hx c (hsub.2 c hc)) (by rw [Tx_len]; omega) fun u new h' tk H' => hQ _ new h' tk ⟨_, u, List.getElem?_eq_getElem hi, rfl⟩ H'
  have hys : Strs ((sp x).map esc) ys := by
    refine ⟨by rw [hl, hvs.1, List.length_map], fun i y hy => ?_⟩
    rw [List.getElem?_map] at hy
    cases e : (sp x)[i]? with
    | none => rw [e] at hy; cases hy
    | some p =>
      rw [e] at hy; injection hy with hy; subst hy
      have hi : i < ys.length := by rw [hl, hvs.1]; exact (List.getElem?_eq_some_iff.mp e).1
      obtain ⟨p', t', e', q⟩ := hP i ys[i] (List.getElem?_eq_getElem hi)
      rw [e] at e'; injection e' with e'; subst e'
      exact ⟨t', by rw [List.getElem?_eq_getElem hi, q]⟩
  have S : St g (fenv (fdOf w 75) L 75) (fown (fdOf w 75) L) [("path", .str (Tx x) t)] ((P0, ListO ys) :: l) h' := S.of' H2.mid fun p hp => by
    rcases List.mem_cons.mp hp with rfl | hp
    · exact .inr (ListO.nc _)
    · exact .inl (.tail _ hp)
  clear hM H' H2 hP
  have hps : ∀ p ∈ (sp x).map esc, p.length ≤ 40 := by
    intro p hp
    obtain ⟨q, hq, rfl⟩ := List.mem_map.mp hp
    have h1 := sp_sub x q hq
    have h2 : ∀ q : List Nat, (esc q).length ≤ 2 * q.length := by
      intro q
      induction q with
      | nil => simp [esc]
      | cons c r ih =>
        have : (esc1 c).length ≤ 2 := by unfold esc1; split <;> simp
        unfold esc at ih ⊢
        rw [List.flatMap_cons, List.length_append, List.length_cons]; omega
    have := h2 q
    omega
  have hpl : ((sp x).map esc).length ≤ 21 ∧ 1 ≤ ((sp x).map esc).length := by
    rw [List.length_map]
    have := List.length_pos_iff.mpr (sp_ne x)
    omega
  have hfin : patOf x = joinN [] (finP ((sp x).map esc)) := rfl
  generalize (sp x).map esc = ps at hys hps hpl hfin
  refine sta S (by walk_at "sto") fun h' tk S => ?_
  repeat walk_at "rp"
  refine wpAny_For ?_
  repeat walk_at "rp"
  refine lenL S.led (by walk_at "mem") (by rw [hys.1, sizeLine_eq]; omega) fun _ _ => ?_
  ((repeat walk_at "rp"); (with_reducible refine subI (fun _ _ => ?_)); walk_at "d"; (repeat walk_at "rp"); (with_reducible refine range2 (by assumption) (fun _ _ _ _ => ?_)); walk_at "d")
  rename_i rr _ _ S
  rw [hys.1] at S
  refine iterR (n := ps.length - 2) S (by walk_at "mem") (by omega) (by split <;> omega) fun K h' S => ?_
  dsimp only
  refine forLoop_ (Itr.from R1.hh 1 (ps.length - 2)) (by walk_at "sto") (fun k u l1 => ∃ pv, l1 = (rr, RangeO 1 (↑ps.length - 1) 1) :: (P0, ListO pv) :: l ∧ Strs (stage k ps) pv ∧ (("parts", .ref P0) : Str × Value) ∈ u) S ?_ ?_ ?_ ?_
  · intro p hp; cases hp
  · exact ⟨ys, rfl, by rw [stage_zero]; exact hys, by walk_at "mem"⟩
  · rintro k v u l1 h' tk hk ⟨tv, rfl⟩ ⟨pv, rfl, hpv, hu⟩ - S
    have hk1 : k + 1 < ps.length := by omega
    obtain ⟨q, hq⟩ : ∃ q, ps[k + 1]? = some q := ⟨_, List.getElem?_eq_getElem hk1⟩
    have hql := hps q (List.mem_of_getElem? hq)
    obtain ⟨tq, eq⟩ := hpv.2 (k + 1) q (by rw [stage_get hq, if_neg (by omega)])
    have hvl : pv.length = ps.length := by rw [hpv.1, stage_len]
    repeat walk_at "rp"
    refine wpAny_Assign_Subscript ?_ rfl
    refine wpAny_JoinedStr (joinsC (acc := []) ?_)
    ((with_reducible refine lit_23 ?_); walk_at "d")
    refine ⟨_, _, rfl, by simp, joinsC ?_⟩
    ((with_reducible refine wpAny_FormattedValue_plain ?_); walk_at "d"; (repeat walk_at "rp"))
    refine itemL (k := 1 + (k : Int)) S.led (by walk_at "mem") (by omega) (by omega) (by rw [show (1 + (k : Int)).toNat = k + 1 by omega]; exact eq) ?_ rfl
    refine wpAny_formatField_str ⟨q, _, rfl, by simp; omega, joinsC ?_⟩ ⟨q, _, rfl, by simp; omega, joinsC ?_⟩ (by rw [Tx_len, sizeLine_eq]; omega)
    all_goals
      (repeat (first | walk_at "rp" | ((with_reducible refine lit_8 ?_); walk_at "d")))
      refine ⟨_, _, rfl, ?_, joinsE ⟨?_, ?_⟩⟩
      · simp; omega
      · rw [Tx_len, sizeLine_eq]; simp; omega
      repeat walk_at "rp"
      refine setS (pre := [_, _]) (j := k + 1) S (.inl (by omega)) (by omega) (by omega) fun h' S => ?_
      repeat walk_at "rp"
      refine ⟨_, _, _, _, rfl, S, fun p hp => (by cases hp), _, rfl, ?_, by walk_at "mem"⟩
      rw [← stage_set hq]
      exact hpv.set
  · rintro u l1 h' tk ⟨pv, rfl, hpv, hu⟩ S
    dsimp only
    repeat walk_at "rp"
    obtain ⟨q, hq⟩ : ∃ q, ps[ps.length - 1]? = some q := ⟨_, List.getElem?_eq_getElem (by omega)⟩
    have hql := hps q (List.mem_of_getElem? hq)
    obtain ⟨tq, eq⟩ := hpv.2 (ps.length - 1) q (by rw [stage_get hq, if_neg (by omega)])
    have hvl : pv.length = ps.length := by rw [hpv.1, stage_len]
    refine wpAny_Assign_Subscript ?_ rfl
    refine wpAny_JoinedStr (joinsC (acc := []) ?_)
    ((with_reducible refine lit_13 ?_); walk_at "d")
    refine ⟨_, _, rfl, by simp, joinsC ?_⟩
    ((with_reducible refine wpAny_FormattedValue_plain ?_); walk_at "d"; (repeat walk_at "rp"))
    refine itemLast S.led (by walk_at "mem") (by rw [List.getLast?_eq_getElem?, hvl]; exact eq) ?_ rfl
    refine wpAny_formatField_str ⟨q, _, rfl, by simp; omega, joinsE ⟨?_, ?_⟩⟩ ⟨q, _, rfl, by simp; omega, joinsE ⟨?_, ?_⟩⟩ (by rw [Tx_len, sizeLine_eq]; omega)
    · rw [Tx_len, sizeLine_eq]; simp; omega
    rotate_left
    · rw [Tx_len, sizeLine_eq]; simp; omega
    all_goals
      repeat walk_at "rp"
      refine setS (pre := [_]) (j := ps.length - 1) S (.inr ⟨by decide, by omega⟩) (by omega) (by omega) fun h' S => ?_
      have hv2 : ∀ t : Tok, Strs ((stage (ps.length - 2) ps).set (ps.length - 1) (endP q)) (pv.set (ps.length - 1) (.str (Tx (46 :: 42 :: q)) t)) := fun t => hpv.set (x := endP q)
      rw [show ps.length - 2 = ps.length - 1 - 1 by omega] at hv2
      rw [stage_fin (by omega) hq] at hv2
      repeat walk_at "rp"
      with_reducible refine' mcS F.slot_str_join F.type_str_join ?h1 ?h2 ?h3 ?h4 ?h5 ?_
      case h1 => rfl
      case h2 => rfl
      case h3 => rfl
      case h4 => rfl
      case h5 => rfl
      (repeat (first | walk_at "rp" | ((with_reducible refine lit_0 ?_); walk_at "d")))
      refine ⟨_, _, rfl, ?_⟩
      repeat walk_at "rp"
      have hfl : (finP ps).length = ps.length := by simp [finP]
      have hfb := joinN_nil_len (B := 47) (finP ps) (finP_len hps)
      rw [hfl] at hfb
      have hmul : ps.length * 47 ≤ 21 * 47 := Nat.mul_le_mul_right _ hpl.1
      refine joinL S (by walk_at "mem") (hv2 _) (by rw [hfl]; omega) fun t' tk => ?_
      rw [← hfin]
      exact h t' h' tk (S.led.right (l := [_, _]))
end
/-- a token: a text, or a group of texts -/
inductive TokG where
  | s (t : List Nat)
  | g (ts : List (List Nat))
inductive Lx where
  | opn | cls | tok (t : List Nat) (k : Nat)
noncomputable def wBare : List Nat := [98, 97, 114, 101]
noncomputable def wNear : List Nat := [110, 101, 97, 114, 101, 115, 116]
noncomputable def wFar : List Nat := [102, 97, 114, 116, 104, 101, 115, 116]
noncomputable def signsB : List Nat := [46, 42, 43, 63, 124, 40, 41, 91, 93, 123, 125, 94, 36]
noncomputable def lex (x : List Nat) : Lx :=
  if cut none (some 3) x = [40, 63, 62] then .opn
  else if x.head? = some 41 then .cls
  else if cut none (some 3) x = [46, 42, 63] then .tok wNear 3
  else if cut none (some 2) x = [46, 42] then .tok wFar 2
  else if x.head? = some 92 then .tok (if ((cut (some 1) (some 2) x).all fun c => decide (c ∈ [65, 98])) = true then wBare else cut (some 1) (some 2) x) 2
  else .tok (if ((cut none (some 1) x).all fun c => decide (c ∈ signsB)) = true then wBare else cut none (some 1) x) 1
/-- the tokens of a text: the row, and the group that is open -/
noncomputable def toks : Nat → List Nat → List TokG → Option (List (List Nat)) → Option (List TokG)
  | _, [], done, none => some done
  | _, [], _, some _ => none
  | 0, _ :: _, _, _ => none
  | n + 1, c :: x, done, cur => match lex (c :: x), cur with
    | .opn, none => toks n ((c :: x).drop 3) done (some [])
    | .opn, some _ => none
    | .cls, some ts => toks n x (done ++ [.g ts]) none
    | .cls, none => none
    | .tok t k, none => toks n ((c :: x).drop k) (done ++ [.s t]) none
    | .tok t k, some ts => toks n ((c :: x).drop k) done (some (ts ++ [t]))
noncomputable def TokV (l : Led) : TokG → Value → Prop
  | .s t, v => ∃ k, v = .str (Tx t) k
  | .g ts, v => ∃ a ws, v = .ref a ∧ Strs ts ws ∧ (a, ListO ws) ∈ l
noncomputable def TokVs (l : Led) (ts : List TokG) (vs : List Value) : Prop := vs.length = ts.length ∧ ∀ (i : Nat) (t : TokG), ts[i]? = some t → ∃ v, vs[i]? = some v ∧ TokV l t v
theorem TokV.mono {l l' : Led} (h : ∀ p ∈ l, p ∈ l') : ∀ {t : TokG} {v : Value}, TokV l t v → TokV l' t v
  | .s _, _, q => q
  | .g _, _, ⟨a, ws, e, s, m⟩ => ⟨a, ws, e, s, h _ m⟩
theorem TokVs.mono {l l' : Led} (h : ∀ p ∈ l, p ∈ l') {ts : List TokG} {vs : List Value} (q : TokVs l ts vs) : TokVs l' ts vs :=
  ⟨q.1, fun i t e => let ⟨v, e', q'⟩ := q.2 i t e; ⟨v, e', q'.mono h⟩⟩
theorem TokVs.snoc {l : Led} {ts : List TokG} {vs : List Value} {t : TokG} {v : Value} (q : TokVs l ts vs) (h : TokV l t v) : TokVs l (ts ++ [t]) (vs ++ [v]) := by
  refine ⟨by simp [q.1], fun i y hy => ?_⟩
  by_cases hi : i < ts.length
  · rw [List.getElem?_append_left hi] at hy
    rw [List.getElem?_append_left (by rw [q.1]; exact hi)]
    exact q.2 i y hy
  · rw [List.getElem?_append_right (by omega)] at hy
    have h0 : i - ts.length = 0 := by
      have := (List.getElem?_eq_some_iff.mp hy).1
      simp at this; omega
    rw [h0] at hy
    have : y = t := by simpa using hy.symm
    subst this
    refine ⟨v, ?_, h⟩
    rw [List.getElem?_append_right (by rw [q.1]; omega), q.1, h0]; rfl
section
variable {prog : Program} {w : World} {A : Around} {E : Value → Shared → Prop} {s : Shared} {g : Heap} {l : Led} {Q : Value → Shared → Prop}
noncomputable def Rows (Rw r0 : Addr) (l l1 : Led) (done : List TokG) : Option (List (List Nat)) → Prop
  | none => ∃ v0 gs, l1 = (Rw, ListO [.ref r0]) :: (r0, ListO v0) :: (gs ++ l) ∧ TokVs gs done v0
  | some ws => ∃ v0 r1 v1 gs, l1 = (Rw, ListO [.ref r0, .ref r1]) :: (r0, ListO v0) :: (r1, ListO v1) :: (gs ++ l) ∧ TokVs gs done v0 ∧ Strs ws v1
theorem mcL0 {env : Env} {pos apos : Pos} {o : PySem.Expr} {name : Str} {id : String} (slot : Slot "list" name id) (hty : typeOf (.builtin id) = pure (.type "method_descriptor")) (hbase : attributeBase o name env (eval o env) = eval o env) (hline : (apos.endLine == pos.line) = true)
    (h : wpAny (model prog w) A (eval o env) (fun ov s₁ => ∃ a xs, ov = .ref a ∧ (∃ o, s₁.heap.get? a = some o ∧ ListO xs o) ∧ wpAny (model prog w) A (callWith pos (.builtin id) [.ref a] [] []) Q E s₁) E s) :
    wpAny (model prog w) A (eval (.Call (.Attribute o name apos) [] [] pos) env) Q E s := by
  refine wpAny_Call_method hbase rfl hline F.plainAttrs_list slot hty (wpAny_mono h (fun ov s₁ h₁ => ?_) fun _ _ x => x)
  obtain ⟨a, xs, rfl, ⟨o, ho, n, e⟩, h₁⟩ := h₁
  exact ⟨⟨o, ho, by rw [e]⟩, (fun b q => by cases q; exact ⟨o, ho, by rw [e]⟩), h₁⟩
theorem popS {env : Env} {own : List (Str × Addr)} {u : List (Str × Value)} {pre post : Led} {D : Addr} {xs : List Value} {y : Value} {pos : Pos} (S : St g env own u (pre ++ (D, ListO (xs ++ [y])) :: post) s.heap) (hz : xs.length ≤ 100000)
    (h : ∀ h', St g env own u (pre ++ (D, ListO xs) :: post) h' → Q y { s with heap := h' }) : wpAny (model prog w) A (callWith pos (.builtin "list.pop") [.ref D] [] []) Q E s := by
  have H : Hp g ((D, ListO (xs ++ [y])) :: (frL env own u ++ (pre ++ post))) s.heap := S.hp.le fun a => by simp only [cnt_cons, cnt_append]; first | ac_rfl | omega
  obtain ⟨n, hl⟩ := ListO.obj (H.has (D, ListO (xs ++ [y])) (.head _))
  refine P.pop_list hl (y := y) (by simp) ?_ (by rw [sizeLine_eq]; simp; omega)
  have H' : Hp g ((D, ListO xs) :: (frL env own u ++ (pre ++ post))) (s.heap.update D (Obj.mapSeq fun q => q.eraseIdxIfInBounds ((xs ++ [y]).toArray.size - 1))) := by
    refine H.set (o' := _) (fun b o hb e => (Heap.get?_update_other _ _ (Ne.symm hb)).trans e) (Heap.get?_update_self _ hl rfl) ?_
    have e : (xs ++ [y]).toArray.eraseIdxIfInBounds ((xs ++ [y]).toArray.size - 1) = xs.toArray := by simp [List.eraseIdx_append_of_length_le]
    refine ⟨(if xs.toArray.size == (xs ++ [y]).toArray.size then n else n + 1), ?_⟩
    unfold Obj.mapSeq
    dsimp only
    rw [e]
  refine h _ (S.of' (H'.le fun a => by simp only [cnt_cons, cnt_append]; first | ac_rfl | omega) fun p hp => ?_)
  rcases List.mem_append.mp hp with hp | hp
  · exact .inl (List.mem_append_left _ hp)
  · rcases List.mem_cons.mp hp with rfl | hp
    · exact .inr (ListO.nc _)
    · exact .inl (List.mem_append_right _ (.tail _ hp))
noncomputable def addT (t : List Nat) (done : List TokG) : Option (List (List Nat)) → List TokG × Option (List (List Nat))
  | none => (done ++ [.s t], none)
  | some ws => (done, some (ws ++ [t]))
noncomputable def szT (done : List TokG) : Option (List (List Nat)) → Nat
  | none => done.length
  | some ws => done.length + 1 + ws.length
theorem szT_add (t : List Nat) (done : List TokG) (cur : Option (List (List Nat))) : szT (addT t done cur).1 (addT t done cur).2 = szT done cur + 1 := by
  cases cur <;> simp [szT, addT]; omega
theorem rows_last {Rw r0 : Addr} {l l1 : Led} {done : List TokG} {cur : Option (List (List Nat))} (h : Rows Rw r0 l l1 done cur) :
    ∃ rv D dv, (Rw, ListO rv) ∈ l1 ∧ rv.getLast? = some (.ref D) ∧ (D, ListO dv) ∈ l1 ∧ dv.length ≤ szT done cur ∧
      ∀ (t : List Nat) (k : Tok) (l2 : Led), (∀ a, cnt a l2 + one a (D, ListO dv) = cnt a l1 + one a (D, ListO (dv ++ [.str (Tx t) k]))) → ∃ l3, Rows Rw r0 l l3 (addT t done cur).1 (addT t done cur).2 ∧ ∀ a, cnt a l3 = cnt a l2 := by
  cases cur with
  | none =>
    obtain ⟨v0, gs, rfl, hv⟩ := h
    refine ⟨_, r0, v0, .head _, rfl, .tail _ (.head _), by rw [hv.1]; exact Nat.le_refl _, fun t k l2 hc => ⟨_, ⟨v0 ++ [.str (Tx t) k], gs, rfl, hv.snoc ⟨k, rfl⟩⟩, fun a => ?_⟩⟩
    have := hc a
    simp only [cnt_cons, cnt_append] at this ⊢
    omega
  | some ws =>
    obtain ⟨v0, r1, v1, gs, rfl, hv, hw⟩ := h
    refine ⟨_, r1, v1, .head _, rfl, .tail _ (.tail _ (.head _)), by rw [hw.1]; show _ ≤ done.length + 1 + ws.length; omega, fun t k l2 hc => ⟨_, ⟨v0, r1, v1 ++ [.str (Tx t) k], gs, rfl, hv, hw.snoc⟩, fun a => ?_⟩⟩
    have := hc a
    simp only [cnt_cons, cnt_append] at this ⊢
    omega
theorem toks_tok {n : Nat} {c : Nat} {x : List Nat} {done : List TokG} {cur : Option (List (List Nat))} {t : List Nat} {k : Nat} (h : lex (c :: x) = .tok t k) : toks (n + 1) (c :: x) done cur = toks n ((c :: x).drop k) (addT t done cur).1 (addT t done cur).2 := by
  cases cur <;> simp only [toks, h, addT]
/-- what holds ahead of each turn; what holds behind a turn's tests -/
noncomputable abbrev TokW (w : World) (g : Heap) (s : Shared) (l : Led) (ts : List TokG) (L r0 Rw : Addr) (k : Nat) (s' : Shared) : Prop := ∃ x' done cur u l1 h' tk tx, toks k x' done cur = some ts ∧ szT done cur + x'.length ≤ 1000 ∧ s' = { s with heap := h', toks := tk } ∧ St g (fenv (fdOf w 110) L 110) (fown (fdOf w 110) L) u l1 h' ∧
    (("text", .str (Tx x') tx) : Str × Value) ∈ u ∧ (("rows", .ref Rw) : Str × Value) ∈ u ∧ Rows Rw r0 l l1 done cur
noncomputable abbrev TokI (w : World) (g : Heap) (s : Shared) (l : Led) (ts : List TokG) (L r0 Rw : Addr) (cr : List Nat) (tx : Tok) (k' : Nat) (f : Flow) (s'' : Shared) : Prop := f = .next ∧ ∃ kk done' cur' u l1 h' tk tz, s'' = { s with heap := h', toks := tk } ∧ St g (fenv (fdOf w 110) L 110) (fown (fdOf w 110) L) u l1 h' ∧
      (("text", .str (Tx cr) tx) : Str × Value) ∈ u ∧ (("rows", .ref Rw) : Str × Value) ∈ u ∧ (("size", .int ((kk : Nat) : Int) tz) : Str × Value) ∈ u ∧ Rows Rw r0 l l1 done' cur' ∧ toks k' (cr.drop kk) done' cur' = some ts ∧ szT done' cur' + (cr.drop kk).length ≤ 1000
theorem tokens_spec {n : Nat} (W : Wd w g) (R : Rm A (n + 3)) (H : Hp g l s.heap) {x : List Nat} {t : Tok} {ts : List TokG} {fu : Nat} (hz : x.length ≤ 1000) (hts : toks fu x [] none = some ts)
    (h : ∀ D vs new h' tk, TokVs new ts vs → Hp g ((D, ListO vs) :: new ++ l) h' → Q (.ref D) { s with heap := h', toks := tk }) : wpAny (model prog w) A (call (.ref 110) [.str (Tx x) t] []) Q E s := by
  refine call_top (args := ⟨[.str (Tx x) t], []⟩) (binds := [("text", .str (Tx x) t)]) W R H (lk_110 w) (cd_110 w) (bh_110 w) (by kernel_rfl) (by kernel_rfl) (by kernel_rfl) fun L h₁ tk S R1 => ?_
  dsimp only [bd_110]
  have KD := kd_110 w L
  repeat walk_at "rp"
  refine newL S (Nat.le_of_ble_eq_true rfl) fun r0 h' S => ?_
  repeat walk_at "rp"
  refine newL S (Nat.le_of_ble_eq_true rfl) fun Rw h' S => ?_
  repeat walk_at "rp"
  refine sta S (by walk_at "sto") fun h' tk S => ?_
  repeat walk_at "rp"
  refine wpAny_While ?_
  refine codeAny_whileLoop (TokW w g s l ts L r0 Rw) ?_ fu
      ⟨x, [], none, _, _, _, _, t, hts, by show 0 + _ ≤ _; omega, rfl, S, by walk_at "mem", by walk_at "mem", [], [], rfl, ⟨rfl, fun i t e => by simp at e⟩⟩
  rintro k s' ⟨x', done, cur, u, l1, h', tk, tx, hk, hx', rfl, S, m1, m2, hR⟩
  ((repeat walk_at "rp"); (with_reducible refine lit_0 ?_); walk_at "d"; (with_reducible refine neS ?_); walk_at "d"; (repeat walk_at "rp"))
  rcases x' with _ | ⟨c, r⟩
  · refine iteF rfl ?_
    repeat walk_at "rp"
    cases cur with
    | some ws => simp [toks] at hk
    | none =>
      have e : done = ts := by simpa [toks] using hk
      subst e
      obtain ⟨v0, gs, rfl, hv⟩ := hR
      refine itemL S.led (by walk_at "mem") (by decide) (by decide) rfl ?_ rfl
      exact h r0 v0 gs h' _ (hv.mono fun p hp => hp) S.led.tail
  · refine iteT rfl ?_
    obtain ⟨k', rfl⟩ : ∃ k', k = k' + 1 := by
      cases k with
      | zero => cases cur <;> simp [toks] at hk
      | succ k' => exact ⟨k', rfl⟩
    have hzl : (c :: r).length ≤ 1000 := by omega
    repeat walk_at "rp"
    refine sta S (by walk_at "sto") fun h' tk S => ?_
    refine wpAny_execs_cons ?_
    refine wpAny_mono (Q := TokI w g s l ts L r0 Rw (c :: r) tx k') ?_ ?_ (fun _ _ e => e)
    · ((repeat walk_at "rp"); ((with_reducible refine' sliceSt ?hl ?hu (by assumption) ?hz (fun _ _ _ _ => ?_)); (case hl => first | exact natPart.none | exact natPart.lit 1 _ _ rfl); (case hu => first | exact natPart.none | exact natPart.lit 1 _ _ rfl | exact natPart.lit 2 _ _ rfl | exact natPart.lit 3 _ _ rfl); (case hz => omega)); walk_at "d"; (with_reducible refine lit_7 ?_); walk_at "d"; (repeat walk_at "rp"))
      by_cases b1 : cut none (some 3) (c :: r) = [40, 63, 62]
      · have hlex : lex (c :: r) = .opn := by unfold lex; rw [if_pos b1]
        cases cur with
        | some ws => simp [toks, hlex] at hk
        | none =>
          simp only [toks, hlex] at hk
          obtain ⟨v0, gs, rfl, hv⟩ := hR
          refine iteT (by simp [b1]) ?_
          repeat walk_at "rp"
          refine exprS (by kernel_rfl) rfl ?_
          refine mcL F.slot_list_append F.type_list_append rfl rfl rfl rfl rfl ?_
          repeat walk_at "rp"
          rename_i _ _ _ S
          refine ⟨Rw, _, rfl, S.get (by walk_at "mem"), ?_⟩
          repeat walk_at "rp"
          refine newL S (Nat.le_of_ble_eq_true rfl) fun r1 h' S => ?_
          repeat walk_at "rp"
          refine appendL (pre := [_]) S (Nat.le_of_ble_eq_true rfl) fun h' tk S => ?_
          dsimp only
          repeat walk_at "rp"
          refine sta S (by walk_at "sto") fun h' tk S => ?_
          repeat walk_at "rp"
          refine ⟨rfl, 3, done, some [], _, (Rw, ListO [.ref r0, .ref r1]) :: (r0, ListO v0) :: (r1, ListO []) :: (gs ++ l), _, _, _, rfl, S.re fun a => ?_, by walk_at "mem", by walk_at "mem", by show ((_ : Str), Value.int 3 _) ∈ _; walk_at "mem", ⟨v0, r1, [], gs, rfl, hv, .nil⟩, hk, ?_⟩
          · simp only [cnt_cons, cnt_append, cnt_nil, List.cons_append, List.nil_append]; first | ac_rfl | omega
          · have h3 : 3 ≤ (c :: r).length := by
              have := congrArg List.length b1
              simp [cut] at this; simp; omega
            rw [List.length_drop]
            show done.length + 1 + 0 + _ ≤ _
            have : done.length + (c :: r).length ≤ 1000 := hx'
            omega
      · refine iteF (by simp [b1]) ?_
        ((repeat walk_at "rp"); (with_reducible refine lit_8 ?_); walk_at "d"; (repeat walk_at "rp"))
        by_cases b2 : c = 41
        · subst b2
          have hlex : lex (41 :: r) = .cls := by unfold lex; rw [if_neg b1, if_pos (show (41 :: r).head? = some 41 from rfl)]
          cases cur with
          | none => simp [toks, hlex] at hk
          | some ws =>
            simp only [toks, hlex] at hk
            obtain ⟨v0, r1, v1, gs, rfl, hv, hw⟩ := hR
            refine iteT rfl ?_
            repeat walk_at "rp"
            rename_i _ _ _ S
            refine mcL0 F.slot_list_pop F.type_list_pop rfl rfl ?_
            repeat walk_at "rp"
            refine ⟨Rw, _, rfl, S.get (by walk_at "mem"), ?_⟩
            refine popS (pre := []) (xs := [.ref r0]) S (by simp) fun h' S => ?_
            refine sta S (by walk_at "sto") fun h' tk S => ?_
            repeat walk_at "rp"
            refine exprS (by kernel_rfl) rfl ?_
            refine mcL F.slot_list_append F.type_list_append rfl rfl rfl rfl rfl ?_
            repeat walk_at "rp"
            refine itemLast S.led (by walk_at "mem") rfl ?_ rfl
            refine ⟨r0, _, rfl, S.get (by walk_at "mem"), ?_⟩
            repeat walk_at "rp"
            have hvl : v0.length ≤ 1000 := by rw [hv.1]; have : done.length + 1 + ws.length + _ ≤ 1000 := hx'; omega
            refine appendL (pre := [_]) S (by rw [sizeLine_eq]; omega) fun h' tk S => ?_
            dsimp only
            repeat walk_at "rp"
            refine ⟨rfl, 1, done ++ [.g ws], none, _, (Rw, ListO [.ref r0]) :: (r0, ListO (v0 ++ [.ref r1])) :: (((r1, ListO v1) :: gs) ++ l), _, _, _, rfl, S.re fun a => ?_, by walk_at "mem", by walk_at "mem", by show ((_ : Str), Value.int 1 _) ∈ _; walk_at "mem", ⟨_, (r1, ListO v1) :: gs, rfl, TokVs.snoc (t := .g ws) (hv.mono fun p hp => .tail _ hp) (show ∃ a ws', _ = Value.ref a ∧ Strs ws ws' ∧ (a, ListO ws') ∈ _ from ⟨r1, v1, rfl, hw, .head _⟩)⟩, (by exact hk), ?_⟩
            · simp only [cnt_cons, cnt_append, cnt_nil, List.cons_append, List.nil_append]
            · show (done ++ [TokG.g ws]).length + r.length ≤ 1000
              have : done.length + 1 + ws.length + (41 :: r).length ≤ 1000 := hx'
              simp at this ⊢; omega
        · refine iteF (by simp [b2]) ?_
          ((repeat walk_at "rp"); ((with_reducible refine' sliceSt ?hl ?hu (by assumption) ?hz (fun _ _ _ _ => ?_)); (case hl => first | exact natPart.none | exact natPart.lit 1 _ _ rfl); (case hu => first | exact natPart.none | exact natPart.lit 1 _ _ rfl | exact natPart.lit 2 _ _ rfl | exact natPart.lit 3 _ _ rfl); (case hz => omega)); walk_at "d"; (with_reducible refine lit_12 ?_); walk_at "d"; (repeat walk_at "rp"))
          have hlen : (c :: r).length = r.length + 1 := rfl
          by_cases b3 : cut none (some 3) (c :: r) = [46, 42, 63]
          · have hlex : lex (c :: r) = .tok wNear 3 := by unfold lex; rw [if_neg b1, if_neg (by simpa using b2), if_pos b3]
            refine iteT (by simp [b3]) ?_
            repeat walk_at "rp"
            refine exprS (by kernel_rfl) rfl ?_
            refine mcL F.slot_list_append F.type_list_append rfl rfl rfl rfl rfl ?_
            repeat walk_at "rp"
            obtain ⟨rv, Dl, dv, q1, q2, q3, q4, q5⟩ := rows_last hR
            refine itemLast (St.led (by assumption)) q1 q2 ?_ rfl
            refine ⟨Dl, dv, rfl, St.get (by assumption) q3, ?_⟩
            ((repeat walk_at "rp"); (with_reducible refine lit_9 ?_); walk_at "d"; (repeat walk_at "rp"))
            refine appendM (by assumption) q3 (by rw [sizeLine_eq]; omega) fun l2 h' tk S hc => ?_
            dsimp only
            repeat walk_at "rp"
            refine sta S (by walk_at "sto") fun h' tk S => ?_
            repeat walk_at "rp"
            obtain ⟨l3, r3, c3⟩ := q5 _ _ _ hc
            refine ⟨rfl, 3, _, _, _, l3, _, _, _, rfl, S.re c3, by walk_at "mem", by walk_at "mem", by show ((_ : Str), Value.int 3 _) ∈ _; walk_at "mem", r3, (toks_tok hlex).symm.trans hk, ?_⟩
            rw [szT_add, List.length_drop]
            omega
          · refine iteF (by simp [b3]) ?_
            ((repeat walk_at "rp"); ((with_reducible refine' sliceSt ?hl ?hu (by assumption) ?hz (fun _ _ _ _ => ?_)); (case hl => first | exact natPart.none | exact natPart.lit 1 _ _ rfl); (case hu => first | exact natPart.none | exact natPart.lit 1 _ _ rfl | exact natPart.lit 2 _ _ rfl | exact natPart.lit 3 _ _ rfl); (case hz => omega)); walk_at "d"; (with_reducible refine lit_13 ?_); walk_at "d"; (repeat walk_at "rp"))
            by_cases b4 : cut none (some 2) (c :: r) = [46, 42]
            · have hlex : lex (c :: r) = .tok wFar 2 := by unfold lex; rw [if_neg b1, if_neg (by simpa using b2), if_neg b3, if_pos b4]
              refine iteT (by simp [b4]) ?_
              repeat walk_at "rp"
              refine exprS (by kernel_rfl) rfl ?_
              refine mcL F.slot_list_append F.type_list_append rfl rfl rfl rfl rfl ?_
              repeat walk_at "rp"
              obtain ⟨rv, Dl, dv, q1, q2, q3, q4, q5⟩ := rows_last hR
              refine itemLast (St.led (by assumption)) q1 q2 ?_ rfl
              refine ⟨Dl, dv, rfl, St.get (by assumption) q3, ?_⟩
              ((repeat walk_at "rp"); (with_reducible refine lit_10 ?_); walk_at "d"; (repeat walk_at "rp"))
              refine appendM (by assumption) q3 (by rw [sizeLine_eq]; omega) fun l2 h' tk S hc => ?_
              dsimp only
              repeat walk_at "rp"
              refine sta S (by walk_at "sto") fun h' tk S => ?_
              repeat walk_at "rp"
              obtain ⟨l3, r3, c3⟩ := q5 _ _ _ hc
              refine ⟨rfl, 2, _, _, _, l3, _, _, _, rfl, S.re c3, by walk_at "mem", by walk_at "mem", by show ((_ : Str), Value.int 2 _) ∈ _; walk_at "mem", r3, (toks_tok hlex).symm.trans hk, ?_⟩
              rw [szT_add, List.length_drop]
              omega
            · refine iteF (by simp [b4]) ?_
              ((repeat walk_at "rp"); (with_reducible refine lit_14 ?_); walk_at "d"; (repeat walk_at "rp"))
              by_cases b5 : c = 92
              · subst b5
                have hc1 : (cut (some 1) (some 2) (92 :: r)).length ≤ 1 := by simp [cut]; omega
                refine iteT rfl ?_
                repeat walk_at "rp"
                refine exprS (by kernel_rfl) rfl ?_
                refine mcL F.slot_list_append F.type_list_append rfl rfl rfl rfl rfl ?_
                repeat walk_at "rp"
                obtain ⟨rv, Dl, dv, q1, q2, q3, q4, q5⟩ := rows_last hR
                refine itemLast (St.led (by assumption)) q1 q2 ?_ rfl
                refine ⟨Dl, dv, rfl, St.get (by assumption) q3, ?_⟩
                ((repeat walk_at "rp"); (with_reducible refine wpAny_IfExp ?_); walk_at "d"; (repeat walk_at "rp"); ((with_reducible refine' sliceSt ?hl ?hu (by assumption) ?hz (fun _ _ _ _ => ?_)); (case hl => first | exact natPart.none | exact natPart.lit 1 _ _ rfl); (case hu => first | exact natPart.none | exact natPart.lit 1 _ _ rfl | exact natPart.lit 2 _ _ rfl | exact natPart.lit 3 _ _ rfl); (case hz => omega)); walk_at "d"; (with_reducible refine lit_15 ?_); walk_at "d"; ((with_reducible refine' inS ?hb ?_); (case hb => first | assumption | (simp; done))); walk_at "d"; (repeat walk_at "rp"))
                by_cases b6 : ((cut (some 1) (some 2) (92 :: r)).all fun c => decide (c ∈ [65, 98])) = true
                · have hlex : lex (92 :: r) = .tok wBare 2 := by unfold lex; rw [if_neg b1, if_neg (by simpa using b2), if_neg b3, if_neg b4, if_pos (show (92 :: r).head? = some 92 from rfl), if_pos b6]
                  refine iteT b6 ?_
                  ((with_reducible refine lit_11 ?_); walk_at "d"; (repeat walk_at "rp"))
                  refine appendM (by assumption) q3 (by rw [sizeLine_eq]; omega) fun l2 h' tk S hc => ?_
                  dsimp only
                  repeat walk_at "rp"
                  refine sta S (by walk_at "sto") fun h' tk S => ?_
                  repeat walk_at "rp"
                  obtain ⟨l3, r3, c3⟩ := q5 _ _ _ hc
                  refine ⟨rfl, 2, _, _, _, l3, _, _, _, rfl, S.re c3, by walk_at "mem", by walk_at "mem", by show ((_ : Str), Value.int 2 _) ∈ _; walk_at "mem", r3, (toks_tok hlex).symm.trans hk, ?_⟩
                  rw [szT_add, List.length_drop]
                  omega
                · rcases r with _ | ⟨d, r⟩
                  · exact absurd rfl b6
                  have hlex : lex (92 :: d :: r) = .tok [d] 2 := by unfold lex; rw [if_neg b1, if_neg (by simpa using b2), if_neg b3, if_neg b4, if_pos (show (92 :: d :: r).head? = some 92 from rfl), if_neg b6]; rfl
                  refine iteF (by simpa using b6) ?_
                  repeat walk_at "rp"
                  refine appendM (by assumption) q3 (by rw [sizeLine_eq]; omega) fun l2 h' tk S hc => ?_
                  dsimp only
                  repeat walk_at "rp"
                  refine sta S (by walk_at "sto") fun h' tk S => ?_
                  repeat walk_at "rp"
                  obtain ⟨l3, r3, c3⟩ := q5 _ _ _ hc
                  refine ⟨rfl, 2, _, _, _, l3, _, _, _, rfl, S.re c3, by walk_at "mem", by walk_at "mem", by show ((_ : Str), Value.int 2 _) ∈ _; walk_at "mem", r3, (toks_tok hlex).symm.trans hk, ?_⟩
                  rw [szT_add, List.length_drop]
                  omega
              · refine iteF (by simp [b5]) ?_
                repeat walk_at "rp"
                refine exprS (by kernel_rfl) rfl ?_
                refine mcL F.slot_list_append F.type_list_append rfl rfl rfl rfl rfl ?_
                repeat walk_at "rp"
                obtain ⟨rv, Dl, dv, q1, q2, q3, q4, q5⟩ := rows_last hR
                refine itemLast (St.led (by assumption)) q1 q2 ?_ rfl
                refine ⟨Dl, dv, rfl, St.get (by assumption) q3, ?_⟩
                ((repeat walk_at "rp"); (with_reducible refine wpAny_IfExp ?_); walk_at "d"; (repeat walk_at "rp"); (with_reducible refine lit_16 ?_); walk_at "d"; ((with_reducible refine' inS ?hb ?_); (case hb => first | assumption | (simp; done))); walk_at "d"; (repeat walk_at "rp"))
                by_cases b6 : ([c].all fun c => decide (c ∈ signsB)) = true
                · have hlex : lex (c :: r) = .tok wBare 1 := by unfold lex; rw [if_neg b1, if_neg (by simpa using b2), if_neg b3, if_neg b4, if_neg (by simpa using b5)]; exact congrArg (fun q => Lx.tok q 1) (if_pos b6)
                  refine iteT b6 ?_
                  ((with_reducible refine lit_11 ?_); walk_at "d"; (repeat walk_at "rp"))
                  refine appendM (by assumption) q3 (by rw [sizeLine_eq]; omega) fun l2 h' tk S hc => ?_
                  dsimp only
                  repeat walk_at "rp"
                  obtain ⟨l3, r3, c3⟩ := q5 _ _ _ hc
                  refine ⟨rfl, 1, _, _, _, l3, _, _, _, rfl, S.re c3, by walk_at "mem", by walk_at "mem", by show ((_ : Str), Value.int 1 _) ∈ _; walk_at "mem", r3, (toks_tok hlex).symm.trans hk, ?_⟩
                  rw [szT_add, List.length_drop]
                  omega
                · have hlex : lex (c :: r) = .tok [c] 1 := by unfold lex; rw [if_neg b1, if_neg (by simpa using b2), if_neg b3, if_neg b4, if_neg (by simpa using b5)]; exact congrArg (fun q => Lx.tok q 1) (if_neg b6)
                  refine iteF (Bool.eq_false_iff.mpr b6) ?_
                  repeat walk_at "rp"
                  refine appendM (by assumption) q3 (by rw [sizeLine_eq]; omega) fun l2 h' tk S hc => ?_
                  dsimp only
                  repeat walk_at "rp"
                  obtain ⟨l3, r3, c3⟩ := q5 _ _ _ hc
                  refine ⟨rfl, 1, _, _, _, l3, _, _, _, rfl, S.re c3, by walk_at "mem", by walk_at "mem", by show ((_ : Str), Value.int 1 _) ∈ _; walk_at "mem", r3, (toks_tok hlex).symm.trans hk, ?_⟩
                  rw [szT_add, List.length_drop]
                  omega
    · rintro f s'' ⟨rfl, kk, done', cur', u', l2, h2, tk2, tz, rfl, S2, n1, n2, n3, hR2, hk2, hz2⟩
      repeat walk_at "rp"
      refine sliceSt (natPart.int kk _) natPart.none S2 (by omega) fun t' tk3 h3 S3 => ?_
      rw [show cut (some kk) none (c :: r) = (c :: r).drop kk from rfl]
      refine sta S3 (by walk_at "sto") fun h4 tk4 S4 => ?_
      repeat walk_at "rp"
      refine ⟨k', Nat.lt_succ_self _, (c :: r).drop kk, done', cur', _, l2, h4, tk4, t', hk2, hz2, rfl, S4, by walk_at "mem", by walk_at "mem", hR2⟩
end
noncomputable def TabO (ps : Array Value) (o : Obj) : Prop := o = tabObj ps
noncomputable def CodeO (qual : Str) (o : Obj) : Prop := ∃ vs t, o.data = .fields vs ∧ vs[1]? = some (.str qual t)
noncomputable def FnO (name qual : Str) (params : Arguments) (body : List Stmt) (scope : Scope) (clos : List (Str × Addr)) (c' : Addr) (o : Obj) : Prop := ∃ doc pm ctv, o = fnMade name qual params body scope clos doc pm c' ctv
section
variable {M : Model} {A : Around} {E : Value → Shared → Prop} {s : Shared} {g : Heap} {env : Env} {own : List (Str × Addr)} {u : List (Str × Value)} {l : Led} {Q : Value → Shared → Prop}
  {name qual : Str} {params : Arguments} {body : List Stmt} {scope : Scope} {c P : Addr} {ps : Array Value} {pos : Pos} {firstLine : Nat} {mg : Str → Option Value} {clos : List (Str × Addr)}
theorem Hp.below {h : Heap} {q : Addr × (Obj → Prop)} (H : Hp g l h) (hq : q ∈ l) : q.1 < h.objs.size := let ⟨_, e, _⟩ := H.has q hq; Heap.lt_size e
theorem ns_get {h : Heap} {a : Addr} (x : h.Ns a mg) : ∃ o, h.get? a = some o := by
  obtain ⟨o, _, _, ho, _⟩ := x
  exact ⟨o, ho⟩
theorem builtinsAt_keeps {h h' : Heap} (hb : h.BuiltinsAt mg P) (k : ∀ b o, h.get? b = some o → h'.get? b = some o) : h'.BuiltinsAt mg P :=
  let ⟨bm, o, a1, a2, a3, a4, a5, r⟩ := hb; ⟨bm, o, a1, a2, a3, a4, k _ _ a5, r⟩
/-- a def or a lambda is made for the first time -/
theorem mkFn (S : St g env own u ((P, TabO ps) :: l) s.heap) (hmg : g.Ns mainGlobals mg) (hb : g.BuiltinsAt mg P) (hge0 : env.globals = mainGlobals) (hcode : env.code = .ref c) (C : CodeHd g c P) (ht : TriplesOk ps.toList) (hnf : codeAmong pos ps.toList = none)
    (hcl : closureFor scope env = pure clos)
    (h : ∀ f c' h' tk, St g env own u ((f, FnO name qual params body scope clos c') :: (c', CodeO qual) :: (P, TabO (ps ++ #[rawInt pos.line, rawInt pos.col, .ref c'])) :: l) h' → Q (.ref f) { s with heap := h', toks := tk }) :
    wpAny M A (makeFunction name qual params (.stmts body) scope env [] [] [] pos firstLine) Q E s := by
  have H : Hp g ((P, TabO ps) :: (frL env own u ++ l)) s.heap := S.hp.unmid
  obtain ⟨o, hP, rfl⟩ := H.has (P, TabO ps) (.head _)
  have hgP : mainGlobals ≠ P := fun e => by
    have h0 : g.get? P = none := H.off (P, TabO ps) (.head _)
    obtain ⟨o, ho⟩ := ns_get hmg
    rw [e, h0] at ho; cases ho
  refine makeFunction_K hcl hge0 (hmg.keeps H.base) hcode (C.keeps H.base) hP ht hnf hgP (builtinsAt_keeps hb H.base) fun c' ctv doc h' tk hx hge hlt hrec htb => ?_
  have H1 : Hp g ((P, TabO (ps ++ #[rawInt pos.line, rawInt pos.col, .ref c'])) :: (frL env own u ++ l)) h' := H.set (P' := TabO _) (fun b o hb e => hx b o hb e) htb rfl
  obtain ⟨cc, oc, vs, t, e1, e2, e3, e4⟩ := hrec
  cases e1
  have H2 : Hp g ((c', CodeO qual) :: (P, TabO (ps ++ #[rawInt pos.line, rawInt pos.col, .ref c'])) :: (frL env own u ++ l)) h' := H1.cons (P := CodeO qual) (fun p hp e => ?_) ?_ e2 ⟨vs, t, e3, e4⟩
  · have H3 := H2.push (P := FnO name qual params body scope clos c') (fnMade name qual params body scope clos doc ((mg "__name__").getD .none) c' ctv) ⟨_, _, _, rfl⟩
    refine h _ c' _ tk (S.of' (H3.le fun a => by simp only [cnt_cons, cnt_append]; first | ac_rfl | omega) fun p hp => ?_)
    rcases List.mem_cons.mp hp with rfl | hp
    · exact .inr fun o e v q => by rw [e] at q; cases q
    · exact .inl (.tail _ (.tail _ (.tail _ hp)))
  · rcases List.mem_cons.mp hp with rfl | hp
    · exact absurd (Nat.lt_of_lt_of_le (e ▸ H.below (q := (P, TabO ps)) (.head _)) hge) (Nat.lt_irrefl _)
    · exact absurd (Nat.lt_of_lt_of_le (e ▸ H.below (q := p) (.tail _ hp)) hge) (Nat.lt_irrefl _)
  · cases e : g.get? c' with
    | none => rfl
    | some o =>
      exact absurd (Nat.lt_of_lt_of_le (Heap.lt_size (H.base _ _ e)) hge) (Nat.lt_irrefl _)
/-- a def or a lambda whose code is in the table -/
theorem mkFnHit {c' : Addr} (S : St g env own u ((P, TabO ps) :: l) s.heap) (hmg : g.Ns mainGlobals mg) (hb : g.BuiltinsAt mg P) (hge0 : env.globals = mainGlobals) (hcode : env.code = .ref c) (C : CodeHd g c P) (ht : TriplesOk ps.toList) (hf : codeAmong pos ps.toList = some (.ref c'))
    (hcl : closureFor scope env = pure clos)
    (h : ∀ f h' tk, St g env own u ((f, FnO name qual params body scope clos c') :: (P, TabO ps) :: l) h' → Q (.ref f) { s with heap := h', toks := tk }) :
    wpAny M A (makeFunction name qual params (.stmts body) scope env [] [] [] pos firstLine) Q E s := by
  have H : Hp g ((P, TabO ps) :: (frL env own u ++ l)) s.heap := S.hp.unmid
  obtain ⟨o, hP, rfl⟩ := H.has (P, TabO ps) (.head _)
  refine makeFunction_hit hcl hge0 (hmg.keeps H.base) hcode (C.keeps H.base) hP ht hf (builtinsAt_keeps hb H.base) fun ctv doc h' tk hk _ => ?_
  exact h _ _ tk ((S.keeps hk).push (P := FnO name qual params body scope clos c') _ ⟨_, _, _, rfl⟩)
end
noncomputable def nfd (name qual : Str) (params : Arguments) (body : List Stmt) (scope : Scope) (clos : List (Str × Addr)) (c' : Addr) : FuncData := fnX name qual params body scope clos .none .none .none .none none (.ref c') .none
section
variable {prog : Program} {w : World} {A : Around} {E : Value → Shared → Prop} {s : Shared} {g : Heap} {l : Led} {Q : Value → Shared → Prop}
/-- the call of a def made within a def -/
theorem fn_call {name qual : Str} {params : Arguments} {body : List Stmt} {scope : Scope} {clos : List (Str × Addr)} {f c' : Addr} {args : Args} {binds cu : List (Str × Value)} {n : Nat} (W : Wd w g) (R : Rm A (n + 1)) (H : Hp g l s.heap)
    (hf : (f, FnO name qual params body scope clos c') ∈ l) (hc : (c', CodeO qual) ∈ l)
    (hbind : ∀ doc pm ctv, bindArgs (fnX name qual params body scope clos .none .none doc pm none (.ref c') ctv) args = pure binds)
    (hk : scope.kind = .function) (hnd : (scope.names.map (·.1)).Nodup) (hbn : (binds.map (·.1)).Nodup)
    (hb : ∀ x ∈ binds, scope.names.lookup x.1 = some .local ∨ scope.names.lookup x.1 = some .cell)
    (hcu : ∀ x v, (x, v) ∈ cu → scope.names.lookup x = some .free ∧ ∃ c, clos.lookup x = some c ∧ ∃ P, (c, P) ∈ l ∧ ∀ o, P o → o.data = .cell (some v))
    (hco : scope.isCoroutine = false) (hgen : scope.isGenerator = false)
    (h : ∀ L h₁ tk, St g (fenv (nfd name qual params body scope clos c') L f) (fown (nfd name qual params body scope clos c') L) (binds ++ cu) l h₁ → Rm (A.deeper (fenv (nfd name qual params body scope clos c') L f)) n →
      wpAny (model prog w) (A.deeper (fenv (nfd name qual params body scope clos c') L f)) (execs body (fenv (nfd name qual params body scope clos c') L f)) (fun f s' => Q (match f with | .ret v => v | _ => .none) s') (fun _ _ => False) { s with heap := h₁, toks := tk }) :
    wpAny (model prog w) A (call (.ref f) args.pos args.kw) Q E s := by
  obtain ⟨o, ho, doc, pm, ctv, e⟩ := H.has _ hf
  obtain ⟨oc, hoc, vs, t, e1, e2⟩ := H.has _ hc
  have hcd : s.heap.CodeRec (.ref c') qual := ⟨c', oc, vs, t, rfl, hoc, e1, e2⟩
  refine wpAny_call (code_enter (cu := cu) H W.lim R.room ho (by rw [e]) hcd rfl (hbind doc pm ctv) (fun L h₁ tk S => ?_) hk hnd hbn hb hcu hco hgen)
  exact h L h₁ tk S (R.deeper _)
end
section
variable {prog : Program} {w : World} {A : Around} {E : Value → Shared → Prop} {s : Shared} {g : Heap} {env : Env} {own : List (Str × Addr)} {u : List (Str × Value)}
theorem inner2 {iter : PySem.Expr} {g1 : Comprehension} {y : Str} {py py2 : Pos} {scope : Scope} {pos : Pos} {I D : Addr} {It : Nat → Obj → Prop} {n : Nat} {P : Nat → Value → Prop} {pers LL : Led} {ys0 : List Value} {R : Result → Shared → Prop}
    (K : Itr prog w g A It n P pers) (hp : ∀ p ∈ pers, p ∈ LL) (hsz : ys0.length + n ≤ sizeLine) (S : St g env own u ((D, ListO ys0) :: (I, It 0) :: LL) s.heap) (hy : Sto env own y)
    (hld : ∀ {u : List (Str × Value)} {l : Led} {s : Shared} {v : Value} {Q : Value → Shared → Prop}, St g env own u l s.heap → (y, v) ∈ u → Q v s → wpAny (model prog w) A (eval (.Name y py) env) Q (fun _ _ => False) s)
    (fin : ∀ u' ws h' tk, (∀ p ∈ u, p.1 ≠ y → p ∈ u') → ws.length = n → (∀ (j : Nat) (v : Value), ws[j]? = some v → P j v) → St g env own u' ((D, ListO (ys0 ++ ws)) :: LL) h' → R (.ok .next) { s with heap := h', toks := tk }) :
    codeAny (model prog w) A (.compLoop (.ListComp (.Name y py) [g1, ⟨.Name y py2, iter, [], 0⟩] scope pos) 1 (.ref I) (.ref D) env) R s := by
  refine compLoop_in (fun k s' => ∃ i ws u' h' tk, s' = { s with heap := h', toks := tk } ∧ St g env own u' ((D, ListO (ys0 ++ ws)) :: (I, It i) :: LL) h' ∧ (∀ p ∈ u, p.1 ≠ y → p ∈ u') ∧ ws.length = i ∧ (∀ (j : Nat) (v : Value), ws[j]? = some v → P j v) ∧ i ≤ n ∧ k = n + 1 - i) ?_ (n + 1)
    ⟨0, [], u, s.heap, s.toks, rfl, by rw [List.append_nil]; exact S, fun p h _ => h, rfl, fun j v h => by simp at h, Nat.zero_le _, rfl⟩
  rintro k s' ⟨i, ws, u', h', tk, rfl, S', hu, hws, hP, hi, rfl⟩
  have H : Hp g ((I, It i) :: (frL env own u' ++ (D, ListO (ys0 ++ ws)) :: LL)) h' := S'.hp.le fun a => by simp only [cnt_cons, cnt_append]; first | ac_rfl | omega
  have hpm : ∀ p ∈ pers, p ∈ frL env own u' ++ (D, ListO (ys0 ++ ws)) :: LL := fun p h => List.mem_append_right _ (.tail _ (hp p h))
  by_cases hlt : i < n
  · refine K.next hlt H hpm fun v h₁ tk₁ hv H₁ => ?_
    have S₁ : St g env own u' ((D, ListO (ys0 ++ ws)) :: (I, It (i + 1)) :: LL) h₁ :=
      S'.of' (H₁.le fun a => by simp only [cnt_cons, cnt_append]; first | ac_rfl | omega) fun p hp => by
        rcases List.mem_cons.mp hp with rfl | hp
        · exact .inl (.head _)
        · rcases List.mem_cons.mp hp with rfl | hp
          · exact .inr (K.nc i)
          · exact .inl (.tail _ (.tail _ hp))
    refine wpAny_assign_Name (sta (s := { s with heap := h₁, toks := tk₁ }) S₁ hy fun h₂ tk₂ S₂ => ?_)
    refine wpAny_tests_nil ?_
    rw [if_pos rfl]
    refine hld S₂ (.head _) ?_
    refine appendL (pre := []) (s := { s with heap := h₂, toks := tk₂ }) S₂ (by simp; omega) fun h₃ tk₃ S₃ => ?_
    refine ⟨n + 1 - (i + 1), by omega, i + 1, ws ++ [v], (y, v) :: drop y u', h₃, tk₃, rfl, by rw [← List.append_assoc]; exact S₃, fun p hp hne => .tail _ (mem_dropP (hu p hp hne) (by simpa using hne)), by simp [hws], fun j z hz => ?_, hlt, rfl⟩
    by_cases hjl : j < ws.length
    · rw [List.getElem?_append_left hjl] at hz; exact hP j z hz
    · rw [List.getElem?_append_right (by omega)] at hz
      have h0 : j - ws.length = 0 := by
        have := (List.getElem?_eq_some_iff.mp hz).1
        simp at this; omega
      rw [h0] at hz
      have e1 : z = v := by simpa using hz.symm
      have e2 : j = i := by omega
      subst e1 e2; exact hv
  · have hin : i = n := by omega
    refine K.done (hin ▸ H) hpm fun h₁ tk₁ H₁ => ?_
    refine fin u' ws h₁ tk₁ hu (hws.trans hin) hP (S'.of' H₁ fun p hp => ?_)
    rcases List.mem_cons.mp hp with rfl | hp
    · exact .inl (.head _)
    · rcases List.mem_cons.mp hp with rfl | hp
      · exact .inr (K.nc i)
      · exact .inl (.tail _ hp)
theorem outer2 {iter iter2 : PySem.Expr} {x y : Str} {px py py2 : Pos} {scope : Scope} {pos : Pos} {I D : Addr} {It : Nat → Obj → Prop} {n : Nat} {P : Nat → Value → Prop} {pers LL : Led} {cu : List (Str × Value)} {R : Result → Shared → Prop}
    (K : Itr prog w g A It n P pers) (hp : ∀ p ∈ pers, p ∈ LL) (S : St g env own cu ((D, ListO []) :: (I, It 0) :: LL) s.heap) (hx : Sto env own x) (hy : Sto env own y) (hs : ∀ x, foldedSetIterable iter2 env x = pure x)
    (hld : ∀ {u : List (Str × Value)} {l : Led} {s : Shared} {v : Value} {Q : Value → Shared → Prop}, St g env own u l s.heap → (y, v) ∈ u → Q v s → wpAny (model prog w) A (eval (.Name y py) env) Q (fun _ _ => False) s)
    (hcx : ∀ p ∈ cu, p.1 ≠ x ∧ p.1 ≠ y) (J : Nat → List Value → Led → Prop) (hj : J 0 [] [])
    (turn : ∀ i v ys ex h' tk, i < n → P i v → J i ys ex → St g env own ((x, v) :: cu) ((D, ListO ys) :: (I, It (i + 1)) :: (ex ++ LL)) h' →
      wpAny (model prog w) A (eval iter2 env) (fun xv s₄ => wpAny (model prog w) A (pyIter xv) (fun it2 s₅ => ∃ I2 It2 n2 P2 pers2 ex' h'' tk', it2 = .ref I2 ∧ s₅ = { s with heap := h'', toks := tk' } ∧ Itr prog w g A It2 n2 P2 pers2 ∧
        St g env own ((x, v) :: cu) ((I2, It2 0) :: (ex' ++ ((D, ListO ys) :: (I, It (i + 1)) :: (ex ++ LL)))) h'' ∧ (∀ p ∈ pers2, p ∈ ex' ++ (ex ++ LL)) ∧ ys.length + n2 ≤ sizeLine ∧
        ∀ ws, ws.length = n2 → (∀ (j : Nat) (v : Value), ws[j]? = some v → P2 j v) → J (i + 1) (ys ++ ws) (ex' ++ ex)) (fun _ _ => False) s₄) (fun _ _ => False) { s with heap := h', toks := tk })
    (fin : ∀ ys ex u' h' tk, J n ys ex → St g env own u' ((D, ListO ys) :: (ex ++ LL)) h' → R (.ok .next) { s with heap := h', toks := tk }) :
    codeAny (model prog w) A (.compLoop (.ListComp (.Name y py) [⟨.Name x px, iter, [], 0⟩, ⟨.Name y py2, iter2, [], 0⟩] scope pos) 0 (.ref I) (.ref D) env) R s := by
  refine compLoop_out (fun k s' => ∃ i ys ex u' h' tk, s' = { s with heap := h', toks := tk } ∧ St g env own u' ((D, ListO ys) :: (I, It i) :: (ex ++ LL)) h' ∧ (∀ p ∈ cu, p ∈ u') ∧ J i ys ex ∧ i ≤ n ∧ k = n + 1 - i) ?_ (n + 1)
    ⟨0, [], [], cu, s.heap, s.toks, rfl, S, fun _ h => h, hj, Nat.zero_le _, rfl⟩ (fun _ => rfl) hs
  rintro k s' ⟨i, ys, ex, u', h', tk, rfl, S', hu, hj', hi, rfl⟩
  have H : Hp g ((I, It i) :: (frL env own u' ++ (D, ListO ys) :: (ex ++ LL))) h' := S'.hp.le fun a => by simp only [cnt_cons, cnt_append]; first | ac_rfl | omega
  have hpm : ∀ p ∈ pers, p ∈ frL env own u' ++ (D, ListO ys) :: (ex ++ LL) := fun p h => List.mem_append_right _ (.tail _ (List.mem_append_right _ (hp p h)))
  by_cases hlt : i < n
  · refine K.next hlt H hpm fun v h₁ tk₁ hv H₁ => ?_
    have S₁ : St g env own u' ((D, ListO ys) :: (I, It (i + 1)) :: (ex ++ LL)) h₁ :=
      S'.of' (H₁.le fun a => by simp only [cnt_cons, cnt_append]; first | ac_rfl | omega) fun p hp => by
        rcases List.mem_cons.mp hp with rfl | hp
        · exact .inl (.head _)
        · rcases List.mem_cons.mp hp with rfl | hp
          · exact .inr (K.nc i)
          · exact .inl (.tail _ (.tail _ hp))
    refine wpAny_assign_Name (sta (s := { s with heap := h₁, toks := tk₁ }) S₁ hx fun h₂ tk₂ S₂ => ?_)
    have S₃ : St g env own ((x, v) :: cu) ((D, ListO ys) :: (I, It (i + 1)) :: (ex ++ LL)) h₂ := S₂.mono fun p hp => by
      rcases List.mem_cons.mp hp with rfl | hp
      · exact .head _
      · exact .tail _ (mem_dropP (hu p hp) (by simpa using (hcx p hp).1))
    refine wpAny_tests_nil ?_
    rw [if_pos rfl]
    refine wpAny_mono (turn i v ys ex h₂ tk₂ hlt hv hj' S₃) (fun xv s₄ q => wpAny_mono q (fun it2 s₅ q => ?_) fun _ _ e => e) fun _ _ e => e
    obtain ⟨I2, It2, n2, P2, pers2, ex', h'', tk', rfl, rfl, K2, S₄, hp2, hsz, hJ⟩ := q
    have S₅ : St g env own ((x, v) :: cu) ((D, ListO ys) :: (I2, It2 0) :: (ex' ++ ((I, It (i + 1)) :: (ex ++ LL)))) h'' := S₄.re fun a => by simp only [cnt_cons, cnt_append]; first | ac_rfl | omega
    have hp3 : ∀ p ∈ pers2, p ∈ ex' ++ ((I, It (i + 1)) :: (ex ++ LL)) := fun p h => by
      rcases List.mem_append.mp (hp2 p h) with h | h
      · exact List.mem_append_left _ h
      · exact List.mem_append_right _ (.tail _ h)
    have loop : codeAny (model prog w) A (.compLoop (.ListComp (.Name y py) [⟨.Name x px, iter, [], 0⟩, ⟨.Name y py2, iter2, [], 0⟩] scope pos) 1 (.ref I2) (.ref D) env) (fun r s₆ => r = .ok .next ∧ ∃ m, m < n + 1 - i ∧ ∃ i ys ex u' h' tk, s₆ = { s with heap := h', toks := tk } ∧ St g env own u' ((D, ListO ys) :: (I, It i) :: (ex ++ LL)) h' ∧ (∀ p ∈ cu, p ∈ u') ∧ J i ys ex ∧ i ≤ n ∧ m = n + 1 - i) { s with heap := h'', toks := tk' } := by
      refine inner2 (s := { s with heap := h'', toks := tk' }) K2 hp3 hsz S₅ hy hld fun u2 ws h3 tk3 hu2 hws hPw S₆ => ?_
      exact ⟨rfl, n + 1 - (i + 1), by omega, i + 1, ys ++ ws, ex' ++ ex, u2, h3, tk3, rfl, S₆.re fun a => by simp only [cnt_cons, cnt_append]; first | ac_rfl | omega, fun p hp => hu2 p (.tail _ hp) (hcx p hp).2, hJ ws hws hPw, hlt, rfl⟩
    exact compStart_in loop (K2.self (i := 0) (l := (D, ListO ys) :: (frL env own ((x, v) :: cu) ++ (ex' ++ ((I, It (i + 1)) :: (ex ++ LL))))) (S₅.hp.le fun a => by simp only [cnt_cons, cnt_append]; first | ac_rfl | omega)
      (fun p h => .tail _ (List.mem_append_right _ (hp3 p h))) loop)
  · have hin : i = n := by omega
    refine K.done (hin ▸ H) hpm fun h₁ tk₁ H₁ => ?_
    refine fin ys ex u' h₁ tk₁ (hin ▸ hj') (S'.of' H₁ fun p hp => ?_)
    rcases List.mem_cons.mp hp with rfl | hp
    · exact .inl (.head _)
    · rcases List.mem_cons.mp hp with rfl | hp
      · exact .inr (K.nc i)
      · exact .inl (.tail _ hp)
end
section
variable {prog : Program} {w : World} {A : Around} {E : Value → Shared → Prop} {s : Shared} {g : Heap} {env : Env} {own : List (Str × Addr)} {u : List (Str × Value)} {l : Led}
/-- a comprehension with two fors, its value the inner one's name -/
theorem compAt2 {iter iter2 : PySem.Expr} {x y : Str} {px py py2 : Pos} {scope : Scope} {pos : Pos} {I : Addr} {It : Nat → Obj → Prop} {n : Nat} {P : Nat → Value → Prop} {pers : Led} {RR : Value → Addr → Result → Shared → Prop}
    {nm : List (Str × NameKind)} (KD : Kd env nm) (hck : compCk scope env x = true) (hyk : (relabN scope.names nm).lookup y = some .local) (hyd : (y == ("__debug__" : Str)) = false) (K : Itr prog w g A It n P pers) (S : St g env own u ((I, It 0) :: l) s.heap) (hp : ∀ p ∈ pers, p ∈ l)
    (cu : List (Str × Value)) (hcu : ∀ p ∈ cu, p ∈ u) (hcf : ((cu.map (·.1)).all fun z => scope.names.lookup z == some .free && !(z == y)) = true) (hs : ∀ cl C x, foldedSetIterable iter2 (cenvX scope cl C env) x = pure x)
    (J : Nat → List Value → Led → Prop) (hj : J 0 [] [])
    (turn : ∀ cl C D i v ys ex h' tk, Kd (cenvX scope cl C env) (relabN scope.names nm) → i < n → P i v → J i ys ex → St g (cenvX scope cl C env) (cown scope C) ((x, v) :: cu) ((D, ListO ys) :: (I, It (i + 1)) :: (ex ++ (frL env own u ++ l))) h' →
      wpAny (model prog w) A (eval iter2 (cenvX scope cl C env)) (fun xv s₄ => wpAny (model prog w) A (pyIter xv) (fun it2 s₅ => ∃ I2 It2 n2 P2 pers2 ex' h'' tk', it2 = .ref I2 ∧ s₅ = { s with heap := h'', toks := tk' } ∧ Itr prog w g A It2 n2 P2 pers2 ∧
        St g (cenvX scope cl C env) (cown scope C) ((x, v) :: cu) ((I2, It2 0) :: (ex' ++ ((D, ListO ys) :: (I, It (i + 1)) :: (ex ++ (frL env own u ++ l))))) h'' ∧ (∀ p ∈ pers2, p ∈ ex' ++ (ex ++ (frL env own u ++ l))) ∧ ys.length + n2 ≤ sizeLine ∧
        ∀ ws, ws.length = n2 → (∀ (j : Nat) (v : Value), ws[j]? = some v → P2 j v) → J (i + 1) (ys ++ ws) (ex' ++ ex)) (fun _ _ => False) s₄) (fun _ _ => False) { s with heap := h', toks := tk })
    (fin : ∀ C D ys ex h' tk, J n ys ex → Hp g ((C, NsAny) :: (D, ListO ys) :: (ex ++ (frL env own u ++ l))) h' → RR (.ref D) C (.ok .next) { s with heap := h', toks := tk }) :
    CompAt prog w A env (.ListComp (.Name y py) [⟨.Name x px, iter, [], 0⟩, ⟨.Name y py2, iter2, [], 0⟩] scope pos) scope RR E (.ref I) s := by
  intro cl hcl hlk
  have ok := compOk hck
  refine wpAny_newObj_type ?_ (by size_fits)
  have H0 : Hp g ((I, It 0) :: (frL env own u ++ l)) s.heap := S.hp.unmid
  have H1 : Hp g ((s.heap.objs.size, ListO []) :: (I, It 0) :: (frL env own u ++ l)) (s.heap.push { cls := .type "list", data := .seq ([] : List Value).toArray }) := H0.push _ ⟨0, rfl⟩
  have hfree : ∀ z v, (z, v) ∈ cu → scope.names.lookup z = some .free ∧ z ≠ y := fun z v h => by
    have := List.all_eq_true.mp hcf z (List.mem_map_of_mem (f := fun p : Str × Value => p.1) h)
    simpa using this
  refine newComp_St (s := { s with heap := s.heap.push { cls := .type "list", data := .seq ([] : List Value).toArray } }) (cu := cu) H1 ok.k ok.nd (fun z v hy => ⟨(hfree z v hy).1, ?_⟩) fun C h' cenv hC hE S' => ?_
  · have hyf := mem_of_lookup (hfree z v hy).1
    obtain ⟨c, e, Pc, hm, hq⟩ := S.cellAt (hcu _ hy) (ok.fr z hyf).2
    refine ⟨c, (hlk z hyf).trans e, Pc, List.mem_cons_of_mem _ ?_, hq⟩
    rcases List.mem_append.mp hm with hm | hm
    · exact .tail _ (List.mem_append_left _ hm)
    · rcases List.mem_cons.mp hm with e2 | hm
      · rw [e2]; exact .head _
      · exact .tail _ (List.mem_append_right _ hm)
  · rw [hE, hC]
    have hcx : ∀ p ∈ cu, p.1 ≠ x ∧ p.1 ≠ y := fun p hp => by
      refine ⟨fun e => ?_, (hfree p.1 p.2 hp).2⟩
      have h1 := (hfree p.1 p.2 hp).1
      rw [e] at h1
      rcases ok.x with q | q <;> (rw [q] at h1; cases h1)
    have hpL : ∀ p ∈ pers, p ∈ frL env own u ++ l := fun p h => List.mem_append_right _ (hp p h)
    have KD1 : Kd (cenvX scope cl C env) (relabN scope.names nm) := KD.comp scope cl C ok.k
    have loop : ∀ s₃ : Shared, s₃ = { s with heap := h' } → codeAny (model prog w) A (.compLoop (.ListComp (.Name y py) [⟨.Name x px, iter, [], 0⟩, ⟨.Name y py2, iter2, [], 0⟩] scope pos) 0 (.ref I) (.ref s.heap.objs.size) (cenvX scope cl C env)) (RR (.ref s.heap.objs.size) C) s₃ := by
      rintro s₃ rfl
      refine outer2 (s := { s with heap := h' }) K hpL S' (ok.sto cl C) (.inl ((KD1.kind y).trans hyk)) (hs cl C) (fun S q hq => nmL S KD1 q hyk hyd hq) hcx J hj (fun i v ys ex h'' tk hi hv hj' S'' => turn cl C _ i v ys ex h'' tk KD1 hi hv hj' S'') fun ys ex u' h'' tk hj' S'' => ?_
      refine fin C _ ys ex h'' tk hj' ?_
      have H₂ : Hp g ((C, NsO (cenvX scope cl C env) u') :: (s.heap.objs.size, ListO ys) :: (ex ++ (frL env own u ++ l))) h'' := S''.hp.le fun a => by
        show _ ≤ cnt a (((C, NsO (cenvX scope cl C env) u') :: ownL (cown scope C) u') ++ (s.heap.objs.size, ListO ys) :: (ex ++ (frL env own u ++ l)))
        simp only [cnt_cons, cnt_append]; first | ac_rfl | omega
      exact H₂.weak fun o ⟨es, ep, d, k, _⟩ => ⟨es, ep, d, k⟩
    exact codeAny_compStart_list (loop _ rfl) (K.self (i := 0) (l := (s.heap.objs.size, ListO []) :: (frL (cenvX scope cl C env) (cown scope C) cu ++ (frL env own u ++ l))) (S'.hp.le fun a => by simp only [cnt_cons, cnt_append]; first | ac_rfl | omega)
      (fun p h => List.mem_cons_of_mem _ (List.mem_append_right _ (hpL p h))) (loop _ rfl))
end
section
variable {prog : Program} {w : World} {A : Around} {E : Value → Shared → Prop} {s : Shared} {g : Heap} {F : Led} {Q : Value → Shared → Prop}
/-- the call of a def of the text's top that has defaults -/
theorem call_topB {fa : Addr} {oc : Value} {od : Option Addr} {osl : Array (Option Value)} {args : Args} {body : List Stmt} {binds : List (Str × Value)} {n : Nat} (W : Wd w g) (R : Rm A (n + 1)) (H : Hp g F s.heap)
    (hlk : (KK w).lookup fa = some ⟨oc, od, .func (fdOf w fa), osl⟩) (hcode : codeIn (KK w) (fdOf w fa).code (fdOf w fa).qualname = true) (hbody : (fdOf w fa).body = .stmts body)
    (hbind : ∀ S, peek (KK w) S (bindArgs (fdOf w fa) args) = some binds) (hbk : (binds.map (·.1)) = (fdOf w fa).params.args.map (·.arg))
    (hck : ((fdOf w fa).scope.kind == .function && !(fdOf w fa).scope.isCoroutine && !(fdOf w fa).scope.isGenerator && decide (((fdOf w fa).scope.names.map (·.1)).Nodup) && decide (((fdOf w fa).params.args.map (·.arg)).Nodup) &&
      (((fdOf w fa).params.args.map (·.arg)).all fun x => (fdOf w fa).scope.names.lookup x == some .local || (fdOf w fa).scope.names.lookup x == some .cell)) = true)
    (h : ∀ L h₁ tk, St g (fenv (fdOf w fa) L fa) (fown (fdOf w fa) L) binds F h₁ → Rm (A.deeper (fenv (fdOf w fa) L fa)) n →
      wpAny (model prog w) (A.deeper (fenv (fdOf w fa) L fa)) (execs body (fenv (fdOf w fa) L fa)) (fun f s' => Q (match f with | .ret v => v | _ => .none) s') (fun _ _ => False) { s with heap := h₁, toks := tk }) :
    wpAny (model prog w) A (call (.ref fa) args.pos args.kw) Q E s := by
  simp only [Bool.and_eq_true, decide_eq_true_eq, Bool.not_eq_true', List.all_eq_true, Bool.or_eq_true, beq_iff_eq] at hck
  obtain ⟨⟨⟨⟨⟨c1, c2⟩, c3⟩, c4⟩, c5⟩, c6⟩ := hck
  have hcd := ((codeRec_of W.X hcode).keeps H.base)
  have hB : BindsTo s (fdOf w fa) args binds := kp_binds (K := KK w) (fun a o e => H.base a o (W.X a o e)) hbind
  refine wpAny_call (codeAny_call_function R.room (H.base _ _ (W.X _ _ hlk)) rfl c2 c3 hbody hcd (hB _ _ _ _ ?_))
  refine newEnv_St (cu := []) H c1 c4 (by rw [hbk]; exact c5) (fun x hx => ?_) (fun _ _ h => by cases h) fun h' tk S => ?_
  · exact c6 x.1 (by rw [← hbk]; exact List.mem_map_of_mem (f := fun p : Str × Value => p.1) hx)
  · rw [List.append_nil] at S
    exact ⟨W.lim.keeps S.hp.base, codeAny_func (wpAny_mono (h _ _ _ S (R.deeper _)) (fun _ _ q => q) fun _ _ q => q.elim)⟩
end
section
variable {prog : Program} {w : World} {A : Around} {E : Value → Shared → Prop} {s : Shared} {g : Heap} {l : Led} {Q : Value → Shared → Prop}
theorem reduce_spec {n : Nat} (W : Wd w g) (R : Rm A (n + 3)) (H : Hp g l s.heap) {f sq i0 : Addr} {vs : List Value} (hm : (sq, ListO vs) ∈ l) (hz : vs.length ≤ 100000) (hi0 : ∃ P, (i0, P) ∈ l ∧ ∀ o, P o → o.cls ≠ .type "tuple")
    (hfn : ∀ h, Hp g l h → FnAt f h) (J : Nat → Value → Led → Prop) (hj : J 0 (.ref i0) [])
    (step : ∀ {A' : Around} {Q' : Value → Shared → Prop} (i : Nat) (v e : Value) (l' ex : Led) (s' : Shared), Rm A' n → vs[i]? = some e → J i v ex → (∀ p ∈ ex ++ l, p ∈ l') → Hp g l' s'.heap →
      (∀ v' new h' tk, J (i + 1) v' (new ++ ex) → Hp g (new ++ l') h' → Q' v' { s' with heap := h', toks := tk }) → wpAny (model prog w) A' (call (.ref f) [v, e]) Q' (fun _ _ => False) s')
    (h : ∀ v ex h' tk, J vs.length v ex → Hp g (ex ++ l) h' → Q v { s with heap := h', toks := tk }) : wpAny (model prog w) A (call (.ref 91) [.ref f, .ref sq, .ref i0] []) Q E s := by
  refine call_topB (args := ⟨[.ref f, .ref sq, .ref i0], []⟩) (binds := [("function", .ref f), ("sequence", .ref sq), ("initial", .ref i0)]) W R H (lk_91 w) (cd_91 w) (bh_91 w) (fun S => by kernel_rfl) (by kernel_rfl) (by kernel_rfl) fun L h₁ tk S R1 => ?_
  dsimp only [bd_91]
  have KD := kd_91 w L
  repeat walk_at "rp"
  refine call_function_entry (by decide +kernel) (by decide +kernel) kdk_entry_iter (kdk_args_iter _) ?_
  unfold Builtin.«iter»
  refine wpAny_bind (m := PySem.someArgs "iter" 1 2 _) (wpAny_of_eq (a := [Value.ref sq]) (by first | rfl | kernel_rfl!) ?_)
  show wpAny _ _ (pyIter (.ref sq) >>= _) _ _ _
  refine wpAny_bind (iterL S hm fun I h' S => ?_)
  refine wpAny_pure ⟨_, rfl, ?_⟩
  refine sta S (by walk_at "sto") fun h' tk S => ?_
  repeat walk_at "rp"
  obtain ⟨P0, hP0, hP0t⟩ := hi0
  obtain ⟨oi, hoi, hpi⟩ := S.get (List.mem_cons_of_mem _ hP0)
  obtain ⟨o83, h83⟩ := Option.isSome_iff_exists.mp (show ((KK w).lookup 83).isSome = true by kernel_rfl)
  have g83 := W.X _ _ h83
  have hne : i0 ≠ 83 := fun e => by
    have := H.off (i0, P0) hP0
    have e2 : g.get? 83 = none := e ▸ this
    rw [e2] at g83; cases g83
  refine wpAny_is_ref_other hne hoi (S.hp.base _ _ g83) (hP0t _ hpi) ?_
  repeat walk_at "rp"
  refine iteF rfl ?_
  repeat walk_at "rp"
  refine sta S (by walk_at "sto") fun h' tk S => ?_
  repeat walk_at "rp"
  refine wpAny_For ?_
  repeat walk_at "rp"
  refine (Itr.list R1.hh sq vs).self (S.hp.unmid (l := frL _ _ _) (b := l)) (fun p hp => ?_) ?_
  · rcases List.mem_singleton.mp hp with rfl; exact List.mem_append_right _ hm
  refine forLoop_ (Itr.list R1.hh sq vs) (by walk_at "sto") (fun i u l1 => ∃ v ex, l1 = ex ++ l ∧ (("value", v) : Str × Value) ∈ u ∧ (("function", .ref f) : Str × Value) ∈ u ∧ J i v ex) S (fun p hp => (by rcases List.mem_singleton.mp hp with rfl; exact hm)) ⟨_, [], rfl, by walk_at "mem", by walk_at "mem", hj⟩ ?_ ?_
  · rintro i e u l1 h' tk hi he ⟨v, ex, rfl, m1, m2, hJ⟩ hpers S
    repeat walk_at "rp"
    refine cwF rfl rfl ?_
    repeat walk_at "rp"
    refine ⟨hfn _ (Hp.right (l := ex) S.led.tail), ?_⟩
    refine step i v e _ ex _ (R1.less (by omega)) he hJ (fun p hp => List.mem_append_right _ (.tail _ hp)) S.hp fun v' new h' tk hJ' H' => ?_
    have S2 := S.app H'
    refine sta S2 (by walk_at "sto") fun h' tk S3 => ?_
    repeat walk_at "rp"
    refine ⟨_, (new ++ ex) ++ l, h', tk, rfl, S3.re fun a => ?_, fun p hp => List.mem_append_right _ (by rcases List.mem_singleton.mp hp with rfl; exact hm), v', new ++ ex, rfl, .head _, by walk_at "mem", hJ'⟩
    simp only [cnt_cons, cnt_append]; first | ac_rfl | omega
  · rintro u l1 h' tk ⟨v, ex, rfl, m1, m2, hJ⟩ S
    dsimp only
    repeat walk_at "rp"
    exact h v ex h' _ hJ S.led
end
noncomputable def oneOf (nm t : List Nat) (ways : List Nat) : List Nat :=
  if t = wFar then ways.flatMap fun w => (List.range (nm.length + 1 - w)).map (nm.length - ·)
  else if t = wNear then ways.flatMap fun w => (List.range (nm.length + 1 - w)).map (w + ·)
  else (ways.filter fun w => cut (some w) (some (w + 1)) nm == t).map (· + 1)
/-! the plain law of the patterns -/
noncomputable def nextOf (nm : List Nat) (ways : List Nat) : TokG → List Nat
  | .s t => oneOf nm t ways
  | .g ts => ways.flatMap fun w => (ts.foldl (fun ws t => oneOf nm t ws) [w]).take 1
noncomputable def endsOf (nm : List Nat) (ts : List TokG) : List Nat := ts.foldl (nextOf nm) [0]
noncomputable def toldOf (ts : List TokG) (whole : Bool) (nm : List Nat) : Nat := match (endsOf nm ts).filter (okP nm whole) with
  | [] => 0
  | p :: _ => p + 1
noncomputable def lit1 (nm : List Nat) (ws : List Nat) (c : Nat) : List Nat := (ws.filter fun p => nm[p]? == some c).map (· + 1)
noncomputable def lits (nm : List Nat) (p : List Nat) (ws : List Nat) : List Nat := p.foldl (lit1 nm) ws
noncomputable def upR (nm : List Nat) (d : Nat) : List Nat := (List.range (nm.length + 1 - d)).map (d + ·)
noncomputable def starD (nm ws : List Nat) : List Nat := match ws with | [] => [] | p :: _ => upR nm p
noncomputable def dueS (nm : List Nat) : List (List Nat) → List Nat → List Nat
  | [], ws => ws
  | p :: ps, ws => ps.foldl (fun ws p => lits nm p (starD nm ws)) (lits nm p ws)
theorem oneOf_lit (nm : List Nat) (c : Nat) (ws : List Nat) : oneOf nm [c] ws = lit1 nm ws c := by
  unfold oneOf lit1
  rw [if_neg (fun e => absurd (congrArg List.length e) (by simp [wFar])), if_neg (fun e => absurd (congrArg List.length e) (by simp [wNear]))]
  congr 1
  exact List.filter_congr fun w _ => cut_eq nm w c
theorem stepD_lit {nm ws : List Nat} {c : Nat} (h : c ≠ 42) : stepD nm ws c = lit1 nm ws c := by unfold stepD lit1; rw [if_neg h]
theorem stepD_star {nm ws : List Nat} : stepD nm ws 42 = starD nm ws := by unfold stepD starD; rw [if_pos rfl]; cases ws <;> rfl
theorem due_sp (nm : List Nat) : ∀ (x ws : List Nat), x.foldl (stepD nm) ws = dueS nm (sp x) ws
  | [], ws => rfl
  | c :: r, ws => by
    have ih := due_sp nm r
    have hn := sp_ne r
    rw [List.foldl_cons, ih]
    cases h : sp r with
    | nil => exact absurd h hn
    | cons q qs =>
      by_cases hc : c = 42
      · subst hc; rw [sp_star, h, stepD_star]; rfl
      · rw [sp_other hc h, stepD_lit hc]; rfl
theorem foldl_lits (nm : List Nat) : ∀ (p ws : List Nat), (p.map fun c => [c]).foldl (fun ws t => oneOf nm t ws) ws = lits nm p ws
  | [], _ => rfl
  | c :: p, ws => by rw [List.map_cons, List.foldl_cons, oneOf_lit, foldl_lits nm p]; rfl
theorem foldl_next (nm : List Nat) : ∀ (p ws : List Nat), (p.map fun c => TokG.s [c]).foldl (nextOf nm) ws = lits nm p ws
  | [], _ => rfl
  | c :: p, ws => by
    rw [List.map_cons, List.foldl_cons, show nextOf nm ws (.s [c]) = oneOf nm [c] ws from rfl, oneOf_lit, foldl_next nm p]; rfl
noncomputable def midT : List (List Nat) → List TokG
  | [] => []
  | [p] => .s wFar :: p.map fun c => .s [c]
  | p :: q :: r => .g (wNear :: p.map fun c => [c]) :: midT (q :: r)
noncomputable def tokOf : List (List Nat) → List TokG
  | [] => []
  | p :: ps => (p.map fun c => .s [c]) ++ midT ps
theorem lits_nil (nm : List Nat) : ∀ p : List Nat, lits nm p [] = []
  | [] => rfl
  | c :: p => by show lits nm p (lit1 nm [] c) = []; exact lits_nil nm p
theorem lits_rev (nm : List Nat) : ∀ (p ws : List Nat), lits nm p ws.reverse = (lits nm p ws).reverse
  | [], _ => rfl
  | c :: p, ws => by
    show lits nm p (lit1 nm ws.reverse c) = (lits nm p (lit1 nm ws c)).reverse
    rw [← lits_rev nm p]
    unfold lit1
    rw [List.filter_reverse, List.map_reverse]
theorem lit1_asc {nm ws : List Nat} (c : Nat) (h : ws.Pairwise (· < ·)) : (lit1 nm ws c).Pairwise (· < ·) := by
  unfold lit1
  rw [List.pairwise_map]
  exact (h.filter _).imp fun h => by omega
theorem lits_asc (nm : List Nat) : ∀ (p : List Nat) {ws : List Nat}, ws.Pairwise (· < ·) → (lits nm p ws).Pairwise (· < ·)
  | [], _, h => h
  | c :: p, _, h => lits_asc nm p (lit1_asc c h)
theorem upR_asc (nm : List Nat) (d : Nat) : (upR nm d).Pairwise (· < ·) := by
  unfold upR
  rw [List.pairwise_map]
  exact List.pairwise_lt_range.imp fun h => by omega
theorem downR (nm : List Nat) {d : Nat} (h : d ≤ nm.length) : (List.range (nm.length + 1 - d)).map (nm.length - ·) = (upR nm d).reverse := by
  unfold upR
  refine List.ext_getElem (by simp) fun i h1 h2 => ?_
  simp at h1 h2 ⊢
  omega
theorem lit1_len1 {nm ws : List Nat} (c : Nat) (h : ws.length ≤ 1) : (lit1 nm ws c).length ≤ 1 := by
  unfold lit1; rw [List.length_map]; exact Nat.le_trans (List.length_filter_le _ _) h
theorem lits_len1 (nm : List Nat) : ∀ (p : List Nat) {ws : List Nat}, ws.length ≤ 1 → (lits nm p ws).length ≤ 1
  | [], _, h => h
  | c :: p, _, h => lits_len1 nm p (lit1_len1 c h)
theorem lit1_le {nm ws : List Nat} (c : Nat) : ∀ p ∈ lit1 nm ws c, p ≤ nm.length := fun p hp => by
  obtain ⟨i, hi, rfl⟩ := List.mem_map.mp hp
  have e : nm[i]? = some c := by simpa using (List.mem_filter.mp hi).2
  have := (List.getElem?_eq_some_iff.mp e).1
  omega
theorem lits_le (nm : List Nat) : ∀ (p : List Nat) {ws : List Nat}, (∀ q ∈ ws, q ≤ nm.length) → ∀ q ∈ lits nm p ws, q ≤ nm.length
  | [], _, h => h
  | c :: p, _, _ => lits_le nm p (lit1_le c)
theorem upR_le {nm : List Nat} {d : Nat} (h : d ≤ nm.length) : ∀ q ∈ upR nm d, q ≤ nm.length := fun q hq => by
  obtain ⟨i, hi, rfl⟩ := List.mem_map.mp hq
  have := List.mem_range.mp hi
  omega
theorem starD_le {nm ws : List Nat} (h : ∀ q ∈ ws, q ≤ nm.length) : ∀ q ∈ starD nm ws, q ≤ nm.length := by
  cases ws with
  | nil => exact fun q hq => by cases hq
  | cons d r => exact upR_le (h d (.head _))
theorem next_mid (nm : List Nat) : ∀ (ps : List (List Nat)) (D : List Nat), ps ≠ [] → (∀ q ∈ D, q ≤ nm.length) →
    ∃ Z : List Nat, Z.Pairwise (· < ·) ∧ ps.foldl (fun ws p => lits nm p (starD nm ws)) D = Z ∧ (midT ps).foldl (nextOf nm) (D.take 1) = Z.reverse
  | [], _, h, _ => absurd rfl h
  | [p], D, _, hD => by
    refine ⟨_, ?_, rfl, ?_⟩
    · show (lits nm p (starD nm D)).Pairwise _
      refine lits_asc nm p ?_
      cases D with
      | nil => exact .nil
      | cons d r => exact upR_asc nm d
    · show (midT [p]).foldl (nextOf nm) (D.take 1) = (lits nm p (starD nm D)).reverse
      unfold midT
      rw [List.foldl_cons, foldl_next, ← lits_rev]
      congr 1
      cases D with
      | nil => rfl
      | cons d r =>
        show ([d].flatMap fun w => (List.range (nm.length + 1 - w)).map (nm.length - ·)) = (upR nm d).reverse
        rw [← downR nm (hD d (.head _))]; simp
  | p :: q :: r, D, _, hD => by
    have hle : ∀ z ∈ lits nm p (starD nm D), z ≤ nm.length := lits_le nm p (starD_le hD)
    obtain ⟨Z, h1, h2, h3⟩ := next_mid nm (q :: r) (lits nm p (starD nm D)) (by simp) hle
    refine ⟨Z, h1, h2, ?_⟩
    rw [← h3]
    show (midT (q :: r)).foldl (nextOf nm) (nextOf nm (D.take 1) (.g (wNear :: p.map fun c => [c]))) = _
    congr 1
    cases D with
    | nil => show [] = (lits nm p []).take 1; rw [lits_nil]; rfl
    | cons d r' =>
      show ([d].flatMap fun w => (((p.map fun c => [c]).foldl (fun ws t => oneOf nm t ws) (oneOf nm wNear [w])).take 1)) = (lits nm p (upR nm d)).take 1
      rw [List.flatMap_cons, List.flatMap_nil, List.append_nil, foldl_lits]
      congr 2
      show oneOf nm wNear [d] = upR nm d
      unfold oneOf upR
      rw [if_neg (by decide), if_pos rfl]; simp
theorem mx_rev {l : List Nat} (h : l.Pairwise (· < ·)) : (match l.reverse with | [] => 0 | p :: _ => p + 1) = mxN (l.map (· + 1)) := by
  cases e : l.reverse with
  | nil =>
    have : l = [] := by simpa using e
    subst this; rfl
  | cons p r =>
    have el : l = r.reverse ++ [p] := by rw [← List.reverse_reverse l, e, List.reverse_cons]
    have hm : p + 1 ∈ l.map (· + 1) := List.mem_map_of_mem (f := (· + 1)) (by rw [el]; simp)
    have h1 := mxN_le _ _ hm
    have h2 : mxN (l.map (· + 1)) ≤ p + 1 := by
      rcases mxN_mem (l.map (· + 1)) with q | q
      · omega
      · obtain ⟨z, hz, e2⟩ := List.mem_map.mp q
        rw [el] at hz h
        have := (List.pairwise_append.mp h).2.2
        rcases List.mem_append.mp hz with hz | hz
        · have := this z hz p (by simp); omega
        · have := List.mem_singleton.mp hz; omega
    show p + 1 = _
    omega
theorem told_due {nm x : List Nat} (whole : Bool) (hs : (sp x).length ≠ 1) : toldOf (tokOf (sp x)) whole nm = dueOf x whole nm := by
  have hn := sp_ne x
  unfold toldOf dueOf endsOf placesD
  rw [due_sp nm x [0]]
  cases h : sp x with
  | nil => exact absurd h hn
  | cons p0 ps =>
    have hps : ps ≠ [] := fun e => by rw [h, e] at hs; exact hs rfl
    have hle : ∀ q ∈ lits nm p0 [0], q ≤ nm.length := lits_le nm p0 fun q hq => by rcases List.mem_singleton.mp hq with rfl; omega
    obtain ⟨Z, h1, h2, h3⟩ := next_mid nm ps (lits nm p0 [0]) hps hle
    have e1 : (lits nm p0 [0]).take 1 = lits nm p0 [0] := List.take_of_length_le (lits_len1 nm p0 (by simp))
    rw [e1] at h3
    have e2 : dueS nm (p0 :: ps) [0] = Z := h2
    unfold tokOf
    rw [List.foldl_append, foldl_next, h3, e2, List.filter_reverse]
    exact mx_rev (h1.filter _)
/-! the tokens of a pattern -/
theorem lex_special {c : Nat} (r : List Nat) (h : special.contains c = true) : lex (92 :: c :: r) = .tok [c] 2 := by
  unfold lex
  rw [if_neg (by simp [cut]), if_neg (by simp), if_neg (by simp [cut]), if_neg (by simp [cut]), if_pos (by rfl)]
  have hc : ¬ c ∈ [65, 98] := fun hm => by
    rcases List.mem_cons.mp hm with rfl | hm
    · exact absurd h (by decide)
    · rcases List.mem_singleton.mp hm with rfl; exact absurd h (by decide)
  have e : cut (some 1) (some 2) (92 :: c :: r) = [c] := rfl
  rw [e, if_neg (by simpa using hc)]
theorem lex_plain {c : Nat} (r : List Nat) (h : special.contains c = false) : lex (c :: r) = .tok [c] 1 := by
  have hs : ∀ d, special.contains d = true → c ≠ d := fun d hd e => by rw [e, hd] at h; cases h
  have h40 := hs 40 (by decide)
  have h41 := hs 41 (by decide)
  have h46 := hs 46 (by decide)
  have h92 := hs 92 (by decide)
  unfold lex
  rw [if_neg (by simp [cut, h40]), if_neg (by simp [h41]), if_neg (by simp [cut, h46]), if_neg (by simp [cut, h46]), if_neg (by simp [h92])]
  have e : cut none (some 1) (c :: r) = [c] := rfl
  have hc : ¬ c ∈ signsB := fun hm => by
    have : special.contains c = true := (show ∀ d ∈ signsB, special.contains d = true by decide) c hm
    rw [h] at this; cases this
  rw [e, if_neg (by simpa using hc)]
noncomputable def addTs (p : List Nat) (done : List TokG) : Option (List (List Nat)) → List TokG × Option (List (List Nat))
  | none => (done ++ p.map (fun c => .s [c]), none)
  | some ws => (done, some (ws ++ p.map fun c => [c]))
theorem addTs_cons (c : Nat) (p : List Nat) (done : List TokG) (cur : Option (List (List Nat))) : addTs p (addT [c] done cur).1 (addT [c] done cur).2 = addTs (c :: p) done cur := by
  cases cur <;> simp [addTs, addT]
theorem toks_esc : ∀ (p r : List Nat) (n : Nat) (done : List TokG) (cur : Option (List (List Nat))), (esc p ++ r).length ≤ n →
    ∃ m, r.length ≤ m ∧ toks n (esc p ++ r) done cur = toks m r (addTs p done cur).1 (addTs p done cur).2
  | [], r, n, done, cur, h => ⟨n, h, by cases cur <;> simp [addTs, esc]⟩
  | c :: p, r, n, done, cur, h => by
    have e : esc (c :: p) ++ r = esc1 c ++ (esc p ++ r) := by simp [esc]
    rw [e] at h ⊢
    cases hc : special.contains c with
    | true =>
      have e1 : esc1 c = [92, c] := by unfold esc1; rw [hc]; rfl
      rw [e1] at h ⊢
      obtain ⟨n, rfl⟩ : ∃ k, n = k + 1 := ⟨n - 1, by simp at h; omega⟩
      show ∃ m, _ ∧ toks (n + 1) (92 :: c :: (esc p ++ r)) done cur = _
      rw [toks_tok (lex_special _ hc)]
      obtain ⟨m, h1, h2⟩ := toks_esc p r n (addT [c] done cur).1 (addT [c] done cur).2 (by simp at h ⊢; omega)
      exact ⟨m, h1, by rw [← addTs_cons]; exact h2⟩
    | false =>
      have e1 : esc1 c = [c] := by unfold esc1; rw [hc]; rfl
      rw [e1] at h ⊢
      obtain ⟨n, rfl⟩ : ∃ k, n = k + 1 := ⟨n - 1, by simp at h; omega⟩
      show ∃ m, _ ∧ toks (n + 1) (c :: (esc p ++ r)) done cur = _
      rw [toks_tok (lex_plain _ hc)]
      obtain ⟨m, h1, h2⟩ := toks_esc p r n (addT [c] done cur).1 (addT [c] done cur).2 (by simp at h ⊢; omega)
      exact ⟨m, h1, by rw [← addTs_cons]; exact h2⟩
noncomputable def midX : List (List Nat) → List Nat
  | [] => []
  | [p] => endP (esc p)
  | p :: q :: r => midP (esc p) ++ midX (q :: r)
theorem esc_head (p : List Nat) : (esc p).head? ≠ some 63 := by
  cases p with
  | nil => simp [esc]
  | cons c r =>
    cases hc : special.contains c with
    | true =>
      have e1 : esc1 c = [92, c] := by unfold esc1; rw [hc]; rfl
      simp [esc, e1]
    | false =>
      have e1 : esc1 c = [c] := by unfold esc1; rw [hc]; rfl
      simp [esc, e1]
      rintro rfl; exact absurd hc (by decide)
theorem toks_mid : ∀ (ps : List (List Nat)) (n : Nat) (done : List TokG), ps ≠ [] → (midX ps).length ≤ n → toks n (midX ps) done none = some (done ++ midT ps)
  | [], _, _, h, _ => absurd rfl h
  | [p], n, done, _, h => by
    have e0 : midX [p] = 46 :: 42 :: esc p := rfl
    rw [e0] at h ⊢
    obtain ⟨n, rfl⟩ : ∃ k, n = k + 1 := ⟨n - 1, by simp at h; omega⟩
    have hl : lex (46 :: 42 :: esc p) = .tok wFar 2 := by
      unfold lex
      have hh := esc_head p
      rw [if_neg (by simp [cut]), if_neg (by simp), if_neg ?_, if_pos (by rfl)]
      cases e : esc p with
      | nil => simp [cut]
      | cons d r =>
        rw [e] at hh
        simp [cut]
        intro q; exact hh (by rw [q]; rfl)
    rw [toks_tok hl]
    obtain ⟨m, h1, h2⟩ := toks_esc p [] n (done ++ [.s wFar]) none (by simp at h ⊢; omega)
    rw [List.append_nil] at h2
    show toks n (esc p) (done ++ [.s wFar]) none = _
    rw [h2]
    cases m <;> simp [toks, addTs, midT]
  | p :: q :: r, n, done, _, h => by
    have e0 : midX (p :: q :: r) = 40 :: 63 :: 62 :: 46 :: 42 :: 63 :: (esc p ++ (41 :: midX (q :: r))) := by simp [midX, midP]
    rw [e0] at h ⊢
    obtain ⟨n, rfl⟩ : ∃ k, n = k + 1 + 1 := ⟨n - 2, by simp at h; omega⟩
    have hl1 : ∀ r, lex (40 :: 63 :: 62 :: r) = .opn := fun r => rfl
    have hl2 : ∀ r, lex (46 :: 42 :: 63 :: r) = .tok wNear 3 := fun r => rfl
    have e1 : toks (n + 1 + 1) (40 :: 63 :: 62 :: 46 :: 42 :: 63 :: (esc p ++ (41 :: midX (q :: r)))) done none = toks (n + 1) (46 :: 42 :: 63 :: (esc p ++ (41 :: midX (q :: r)))) done (some []) := by
      rw [toks]
      · rfl
      · exact hl1 _
    rw [e1, toks_tok (hl2 _)]
    obtain ⟨m, h1, h2⟩ := toks_esc p (41 :: midX (q :: r)) n done (some [wNear]) (by simp at h ⊢; omega)
    show toks n (esc p ++ 41 :: midX (q :: r)) done (some [wNear]) = _
    rw [h2]
    obtain ⟨m, rfl⟩ : ∃ k, m = k + 1 := ⟨m - 1, by simp at h1; omega⟩
    have hl3 : ∀ r, lex (41 :: r) = .cls := fun r => by
      unfold lex
      rw [if_neg (by simp [cut]), if_pos (by rfl)]
    show toks (m + 1) (41 :: midX (q :: r)) done (some ([wNear] ++ p.map fun c => [c])) = _
    have e2 : ∀ ts, toks (m + 1) (41 :: midX (q :: r)) done (some ts) = toks m (midX (q :: r)) (done ++ [.g ts]) none := fun ts => by
      simp only [toks, hl3]
    rw [e2]
    show toks m (midX (q :: r)) (done ++ [.g ([wNear] ++ p.map fun c => [c])]) none = _
    rw [toks_mid (q :: r) m _ (by simp) (by simp at h1; omega)]
    simp [midT]
theorem joinN_flat : ∀ ps : List (List Nat), joinN [] ps = ps.flatten
  | [] => rfl
  | [p] => by simp [joinN]
  | p :: q :: r => by rw [joinN_cons2, joinN_flat (q :: r)]; simp
theorem finP_mid (n : Nat) : ∀ (ps : List (List Nat)) (k : Nat), 1 ≤ k → n = ps.length + k → ((ps.map esc).mapIdx fun j p => if j + k + 1 = n then endP p else if 1 ≤ j + k then midP p else p).flatten = midX ps
  | [], _, _, _ => rfl
  | [p], k, hk, hn => by
    rw [List.map_cons, List.mapIdx_cons]
    rw [if_pos (by simp at hn; omega)]
    simp [midX]
  | p :: q :: r, k, hk, hn => by
    rw [List.map_cons, List.mapIdx_cons, List.flatten_cons]
    rw [if_neg (by simp at hn; omega), if_pos (by omega)]
    have := finP_mid n (q :: r) (k + 1) (by omega) (by simp at hn ⊢; omega)
    show _ = midP (esc p) ++ midX (q :: r)
    rw [← this]
    congr 2
    refine List.mapIdx_eq_mapIdx_iff.mpr fun i hi => ?_
    simp only [show i + 1 + k = i + (k + 1) by omega]
theorem patOf_eq {x p : List Nat} {ps : List (List Nat)} (h : sp x = p :: ps) (hn : ps ≠ []) : patOf x = esc p ++ midX ps := by
  unfold patOf finP
  rw [h, joinN_flat, List.map_cons, List.mapIdx_cons, List.flatten_cons]
  have hl : 0 < ps.length := List.length_pos_iff.mpr hn
  rw [if_neg (by simp; omega), if_neg (by omega)]
  congr 1
  rw [← finP_mid (ps.length + 1) ps 1 (Nat.le_refl _) rfl]
  congr 1
  refine List.mapIdx_eq_mapIdx_iff.mpr fun i hi => ?_
  simp
theorem toks_pat {x : List Nat} (hs : (sp x).length ≠ 1) : ∃ n, toks n (patOf x) [] none = some (tokOf (sp x)) := by
  have hn := sp_ne x
  cases h : sp x with
  | nil => exact absurd h hn
  | cons p ps =>
    have hps : ps ≠ [] := fun e => by rw [h, e] at hs; exact hs rfl
    rw [patOf_eq h hps]
    obtain ⟨m, h1, h2⟩ := toks_esc p (midX ps) _ [] none (Nat.le_refl _)
    refine ⟨_, h2.trans ?_⟩
    show toks m (midX ps) ([] ++ p.map fun c => .s [c]) none = _
    rw [toks_mid ps m _ hps h1]
    rfl
/-- the parts of a def within a def's text -/
noncomputable def defAt (b : List Stmt) (i : Nat) : Option (Str × Arguments × List Stmt × Scope × Pos) := match b[i]? with
  | some (.FunctionDef name params body _ _ _ sc _ _ pos) => some (name, params, body, sc, pos)
  | _ => none
noncomputable def one_ : { p : Str × Arguments × List Stmt × Scope × Pos // defAt bd_117.1 0 = some p } := ⟨_, rfl⟩
noncomputable def nxt_ : { p : Str × Arguments × List Stmt × Scope × Pos // defAt bd_117.1 1 = some p } := ⟨_, rfl⟩
theorem one_names : (one_.1.2.2.2.1.names.map (·.1)).Nodup := by decide +kernel
theorem nxt_names : (nxt_.1.2.2.2.1.names.map (·.1)).Nodup := by decide +kernel
theorem nfd_Kd {name qual : Str} {params : Arguments} {body : List Stmt} {scope : Scope} {clos : List (Str × Addr)} {c' L f : Addr} (hk : scope.kind = .function) : Kd (fenv (nfd name qual params body scope clos c') L f) scope.names := by
  refine ⟨fun x => rfl, ?_, ?_, ?_⟩
  all_goals first | rfl | exact hk | skip
theorem flat_len {B : Nat} (F : Nat → List Nat) (hF : ∀ w, (F w).length ≤ B) : ∀ l : List Nat, (l.flatMap F).length ≤ l.length * B
  | [] => by simp
  | a :: r => by
    have := flat_len F hF r
    have := hF a
    rw [List.flatMap_cons, List.length_append, List.length_cons, Nat.succ_mul]; omega
theorem nats_of (G : Nat → Nat) : ∀ (n : Nat) (ws : List Value), ws.length = n → (∀ (j : Nat) (v : Value), ws[j]? = some v → ∃ t : Tok, v = .int ((G j : Nat) : Int) t) → Nats ws ((List.range n).map G)
  | 0, ws, h, _ => by rw [List.length_eq_zero_iff.mp h]; exact .nil
  | n + 1, ws, h, hq => by
    obtain ⟨t, et⟩ := hq n ws[n] (List.getElem?_eq_getElem (by omega))
    have e : ws = ws.take n ++ [.int ((G n : Nat) : Int) t] := by
      rw [← et]
      conv => lhs; rw [← List.take_length (l := ws), h]
      rw [List.take_add_one, List.getElem?_eq_getElem (by omega)]; rfl
    rw [e, List.range_succ, List.map_append]
    exact Nats.snoc (nats_of G n _ (by rw [List.length_take]; omega) fun j v hj => by
      rw [List.getElem?_take] at hj
      split at hj
      · exact hq j v hj
      · cases hj)
section
variable {prog : Program} {w : World} {A : Around} {E : Value → Shared → Prop} {s : Shared} {g : Heap} {l : Led} {Q : Value → Shared → Prop}
theorem one_spec {n : Nat} (W : Wd w g) (R : Rm A (n + 3)) (H : Hp g l s.heap) {qual : Str} {f c' cN wa : Addr} {nm tt : List Nat} {tn t2 : Tok} {ways : List Nat} {wv : List Value}
    (hf : (f, FnO one_.1.1 qual one_.1.2.1 one_.1.2.2.1 one_.1.2.2.2.1 [("name", cN)] c') ∈ l) (hc : (c', CodeO qual) ∈ l) (hcell : ∃ P, (cN, P) ∈ l ∧ ∀ o, P o → o.data = .cell (some (.str (Tx nm) tn)))
    (hm : (wa, ListO wv) ∈ l) (hwv : Nats wv ways) (hz : nm.length ≤ 1000) (hw : ways.length ≤ 10000 ∧ ∀ x ∈ ways, x ≤ nm.length)
    (h : ∀ D vs new h' tk, Nats vs (oneOf nm tt ways) → Hp g ((D, ListO vs) :: new ++ l) h' → Q (.ref D) { s with heap := h', toks := tk }) : wpAny (model prog w) A (call (.ref f) [.ref wa, .str (Tx tt) t2] []) Q E s := by
  refine fn_call (args := ⟨[.ref wa, .str (Tx tt) t2], []⟩) (binds := [("ways", .ref wa), ("token", .str (Tx tt) t2)]) (cu := [("name", .str (Tx nm) tn)]) W R H hf hc (fun _ _ _ => by kernel_rfl) (by kernel_rfl) one_names (show (["ways", "token"] : List Str).Nodup by decide +kernel) (fun x hx => by
    rcases List.mem_cons.mp hx with rfl | hx
    · exact .inl (by dsimp only; decide +kernel)
    · rcases List.mem_singleton.mp hx with rfl; exact .inr (by dsimp only; decide +kernel)) ?_ (by kernel_rfl) (by kernel_rfl) fun L h₁ tk S R1 => ?_
  · intro x v hx
    rcases List.mem_singleton.mp hx with e
    cases e
    obtain ⟨P, hP, hq⟩ := hcell
    exact ⟨by decide +kernel, cN, rfl, P, hP, hq⟩
  have KD := nfd_Kd (name := one_.1.1) (qual := qual) (params := one_.1.2.1) (body := one_.1.2.2.1) (scope := one_.1.2.2.2.1) (clos := [("name", cN)]) (c' := c') (L := L) (f := f) (by kernel_rfl)
  dsimp only [one_] at KD S R1 ⊢
  ((repeat walk_at "rp"); (with_reducible refine lit_10 ?_); walk_at "d"; (repeat walk_at "rp"))
  by_cases b1 : tt = wFar
  · refine iteT (by rw [b1]; rfl) ?_
    repeat walk_at "rp"
    refine comp_eval (by kernel_rfl) ?_ (fun _ => rfl)
    repeat walk_at "rp"
    refine iterL S (by walk_at "mem") fun I h' S => ?_
    refine compAt2 KD (by kernel_rfl) (by decide +kernel) (by decide +kernel) (Itr.list R1.hh wa wv) S ?_ [("name", .str (Tx nm) tn)] ?_ (by kernel_rfl) (fun _ _ _ => rfl)
      (fun i ys ex => Nats ys ((ways.take i).flatMap fun w => (List.range (nm.length + 1 - w)).map (nm.length - ·))) .nil ?_ ?_
    · intro p hp; rcases List.mem_singleton.mp hp with rfl; walk_at "mem"
    · intro p hp; rcases List.mem_singleton.mp hp with rfl; walk_at "mem"
    · rintro cl C D i v ys ex h' tk KD1 hi hv hj S
      obtain ⟨p, tp, rfl, hp⟩ := hwv.get hv
      have hpl := hw.2 p (List.mem_of_getElem? hp)
      ((repeat walk_at "rp"); ((with_reducible refine' lenS ?hz (fun _ _ => ?_)); (case hz => omega)); walk_at "d"; (repeat walk_at "rp"); (with_reducible refine subI (fun _ _ => ?_)); walk_at "d"; (repeat walk_at "rp"); (with_reducible refine rangeDown (by assumption) (fun _ _ _ _ => ?_)); walk_at "d")
      refine iterDown (n := nm.length + 1 - p) (by assumption) (by walk_at "mem") (by omega) (by split <;> omega) fun I2 h' S => ?_
      refine ⟨I2, _, nm.length + 1 - p, _, [], [_], h', _, rfl, rfl, Itr.down R1.hh nm.length (nm.length + 1 - p), S, fun p hp => (by cases hp), ?_, fun ws hws hPw => ?_⟩
      · have h1 := hj.len
        have h2 := flat_len (B := nm.length + 1) (fun w => (List.range (nm.length + 1 - w)).map (nm.length - ·)) (fun w => by simp) (ways.take i)
        have h3 : (ways.take i).length ≤ 10000 := by rw [List.length_take]; omega
        have h4 := Nat.mul_le_mul h3 (show nm.length + 1 ≤ 1001 by omega)
        rw [sizeLine_eq]; omega
      · rw [take_snoc hp, List.flatMap_append]
        unfold Nats
        rw [List.map_append]
        refine IntsAre.append hj ?_
        have := nats_of (fun j => nm.length - j) _ ws hws fun j v hv => by
          obtain ⟨t, e⟩ := hPw j v hv
          have := (List.getElem?_eq_some_iff.mp hv).1
          exact ⟨t, by rw [e]; congr 1; omega⟩
        simpa [Nats] using this
    · intro C D ys ex h' tk hj2 H'
      refine comp_fin_none (l₀ := []) S (IterO.nc _ _) H' fun h' S => ?_
      rw [hwv.len, List.take_length] at hj2
      exact h D ys ex h' _ (by unfold oneOf; rw [if_pos b1]; exact hj2) S.led
  · refine iteF (by simpa [wFar] using b1) ?_
    ((repeat walk_at "rp"); (with_reducible refine lit_9 ?_); walk_at "d"; (repeat walk_at "rp"))
    by_cases b2 : tt = wNear
    · refine iteT (by rw [b2]; rfl) ?_
      repeat walk_at "rp"
      refine comp_eval (by kernel_rfl) ?_ (fun _ => rfl)
      repeat walk_at "rp"
      refine iterL S (by walk_at "mem") fun I h' S => ?_
      refine compAt2 KD (by kernel_rfl) (by decide +kernel) (by decide +kernel) (Itr.list R1.hh wa wv) S ?_ [("name", .str (Tx nm) tn)] ?_ (by kernel_rfl) (fun _ _ _ => rfl)
        (fun i ys ex => Nats ys ((ways.take i).flatMap fun w => (List.range (nm.length + 1 - w)).map (w + ·))) .nil ?_ ?_
      · intro p hp; rcases List.mem_singleton.mp hp with rfl; walk_at "mem"
      · intro p hp; rcases List.mem_singleton.mp hp with rfl; walk_at "mem"
      · rintro cl C D i v ys ex h' tk KD1 hi hv hj S
        obtain ⟨p, tp, rfl, hp⟩ := hwv.get hv
        have hpl := hw.2 p (List.mem_of_getElem? hp)
        ((repeat walk_at "rp"); ((with_reducible refine' lenS ?hz (fun _ _ => ?_)); (case hz => omega)); walk_at "d"; (repeat walk_at "rp"); (with_reducible refine range2 (by assumption) (fun _ _ _ _ => ?_)); walk_at "d")
        refine iterR (n := nm.length + 1 - p) (by assumption) (by walk_at "mem") (by omega) (by split <;> omega) fun I2 h' S => ?_
        refine ⟨I2, _, nm.length + 1 - p, _, [], [_], h', _, rfl, rfl, Itr.from R1.hh p (nm.length + 1 - p), S, fun p hp => (by cases hp), ?_, fun ws hws hPw => ?_⟩
        · have h1 := hj.len
          have h2 := flat_len (B := nm.length + 1) (fun w => (List.range (nm.length + 1 - w)).map (w + ·)) (fun w => by simp) (ways.take i)
          have h3 : (ways.take i).length ≤ 10000 := by rw [List.length_take]; omega
          have h4 := Nat.mul_le_mul h3 (show nm.length + 1 ≤ 1001 by omega)
          rw [sizeLine_eq]; omega
        · rw [take_snoc hp, List.flatMap_append]
          unfold Nats
          rw [List.map_append]
          refine IntsAre.append hj ?_
          have := nats_of (fun j => p + j) _ ws hws fun j v hv => by
            obtain ⟨t, e⟩ := hPw j v hv
            have := (List.getElem?_eq_some_iff.mp hv).1
            exact ⟨t, by rw [e]; (first | rfl | (congr 1; omega))⟩
          simpa [Nats] using this
      · intro C D ys ex h' tk hj2 H'
        refine comp_fin_none (l₀ := []) S (IterO.nc _ _) H' fun h' S => ?_
        rw [hwv.len, List.take_length] at hj2
        exact h D ys ex h' _ (by unfold oneOf; rw [if_neg b1, if_pos b2]; exact hj2) S.led
    · refine iteF (by simpa [wNear] using b2) ?_
      repeat walk_at "rp"
      refine comp_eval (by kernel_rfl) ?_ (fun _ => rfl)
      repeat walk_at "rp"
      refine iterL S (by walk_at "mem") fun I h' S => ?_
      dsimp only
      refine compAt1 KD (by kernel_rfl) (Itr.list R1.hh wa wv) S ?_ (by have := hwv.len; rw [sizeLine_eq]; omega) [("name", .str (Tx nm) tn), ("token", .str (Tx tt) t2)] ?_ (by kernel_rfl)
        (fun i ys ex => Nats ys (((ways.take i).filter fun w => cut (some w) (some (w + 1)) nm == tt).map (· + 1))) .nil ?_ ?_
      · intro p hp; rcases List.mem_singleton.mp hp with rfl; walk_at "mem"
      · intro p hp
        rcases List.mem_cons.mp hp with rfl | hp
        · walk_at "mem"
        · rcases List.mem_singleton.mp hp with rfl; walk_at "mem"
      · rintro cl C Dc i2 v ys ex h' tk KD1 hi2 hv2 hys hylen S
        obtain ⟨p, tp, rfl, hp⟩ := hwv.get hv2
        refine wpAny_tests_one ?_
        repeat walk_at "rp"
        refine sliceSt (natPart.int p _) (natPart.lit (p + 1) _ _ rfl) (by assumption) (by omega) fun t' tk h' S => ?_
        repeat walk_at "rp"
        have hfs : ((ways.take (i2 + 1)).filter fun w => cut (some w) (some (w + 1)) nm == tt).map (· + 1) = ((ways.take i2).filter fun w => cut (some w) (some (w + 1)) nm == tt).map (· + 1) ++ if (cut (some p) (some (p + 1)) nm == tt) = true then [p + 1] else [] := by
          rw [take_snoc hp, List.filter_append, List.map_append]
          congr 1
          cases hq : (cut (some p) (some (p + 1)) nm == tt) <;> simp [hq]
        cases hq : (cut (some p) (some (p + 1)) nm == tt)
        · refine iteF rfl ⟨[], _, _, rfl, S, ?_⟩
          rw [hfs, hq]; simpa using hys
        · refine iteT rfl ?_
          repeat walk_at "rp"
          refine ⟨[], _, _, rfl, S, ?_⟩
          rw [hfs, hq]; exact hys.snoc
      · intro C D ys ex h' tk hj2 H'
        refine comp_fin_none (l₀ := []) S (IterO.nc _ _) H' fun h' S => ?_
        rw [hwv.len, List.take_length] at hj2
        exact h D ys ex h' _ (by unfold oneOf; rw [if_neg b1, if_neg b2]; exact hj2) S.led
end
/-- a closure _law_next over a name, with all that it leans on -/
noncomputable def Rdr (l : Led) (f2 : Addr) (nm : List Nat) : Prop := ∃ (q1 q2 : Str) (c1 c2 f1 cN cO : Addr) (tn : Tok),
  (f2, FnO nxt_.1.1 q2 nxt_.1.2.1 nxt_.1.2.2.1 nxt_.1.2.2.2.1 [("_law_one", cO)] c2) ∈ l ∧ (c2, CodeO q2) ∈ l ∧ (∃ P, (cO, P) ∈ l ∧ ∀ o, P o → o.data = .cell (some (.ref f1))) ∧
  (f1, FnO one_.1.1 q1 one_.1.2.1 one_.1.2.2.1 one_.1.2.2.2.1 [("name", cN)] c1) ∈ l ∧ (c1, CodeO q1) ∈ l ∧ (∃ P, (cN, P) ∈ l ∧ ∀ o, P o → o.data = .cell (some (.str (Tx nm) tn)))
theorem Rdr.mono {l l' : Led} {f2 : Addr} {nm : List Nat} (r : Rdr l f2 nm) (h : ∀ p ∈ l, p ∈ l') : Rdr l' f2 nm :=
  let ⟨q1, q2, c1, c2, f1, cN, cO, tn, a, b, ⟨P, c, c'⟩, d, e, ⟨P', f, f'⟩⟩ := r
  ⟨q1, q2, c1, c2, f1, cN, cO, tn, h _ a, h _ b, ⟨P, h _ c, c'⟩, h _ d, h _ e, ⟨P', h _ f, f'⟩⟩
theorem Rdr.fnAt {g h : Heap} {l : Led} {f2 : Addr} {nm : List Nat} (r : Rdr l f2 nm) (H : Hp g l h) : FnAt f2 h := by
  obtain ⟨q1, q2, c1, c2, f1, cN, cO, tn, a, -⟩ := r
  obtain ⟨o, ho, doc, pm, ctv, e⟩ := H.has _ a
  exact ⟨_, _, _, _, ho.trans (by rw [e])⟩
theorem fnK {w : World} {g h : Heap} {l : Led} {fa : Addr} {fd : FuncData} {oc : Value} {od : Option Addr} {osl : Array (Option Value)} (W : Wd w g) (H : Hp g l h) (hlk : (KK w).lookup fa = some ⟨oc, od, .func fd, osl⟩) : FnAt fa h :=
  ⟨_, _, _, _, H.base _ _ (W.X _ _ hlk)⟩
theorem St.subs {g : Heap} {env : Env} {own : List (Str × Addr)} {u : List (Str × Value)} {L : Led} {h : Heap} (_ : St g env own u L h) {l : Led} (x : ∀ q ∈ l, q ∈ L) : ∀ q ∈ l, q ∈ L := x
theorem St.mem {g : Heap} {env : Env} {own : List (Str × Addr)} {u : List (Str × Value)} {L : Led} {h : Heap} (_ : St g env own u L h) {e : Addr × (Obj → Prop)} (x : e ∈ L) : e ∈ L := x
theorem isi_list {prog : Program} {w : World} {A : Around} {E : Value → Shared → Prop} {s : Shared} {Q : Value → Shared → Prop} {a : Addr} {xs : List Value} (x : ∃ o, s.heap.get? a = some o ∧ ListO xs o) (h : Q (.bool true) s) :
    wpAny (model prog w) A (call (.builtin "isinstance") [.ref a, .type "list"]) Q E s := by
  obtain ⟨o, ho, n, e⟩ := x
  exact call_isinstance_yes (Tx := "list") (T := "list") ⟨o, ho, by rw [e]⟩ (by rfl) (by rw [isSubtype_type]; kernel_rfl) h
noncomputable def Good (nm ways : List Nat) : Prop := ways.length ≤ nm.length + 1 ∧ ∀ q ∈ ways, q ≤ nm.length
noncomputable def GoodT (nm : List Nat) : TokG → Prop
  | .s _ => True
  | .g ts => ts.length ≤ 1000 ∧ ∀ (i way : Nat), way ≤ nm.length → Good nm ((ts.take i).foldl (fun ws t => oneOf nm t ws) [way])
section
variable {prog : Program} {w : World} {A : Around} {E : Value → Shared → Prop} {s : Shared} {g : Heap} {l : Led} {Q : Value → Shared → Prop}
theorem next_spec {n : Nat} (W : Wd w g) (R : Rm A (n + 10)) (H : Hp g l s.heap) {f2 wa : Addr} {nm : List Nat} {t : TokG} {tv : Value} {ways : List Nat} {wv : List Value}
    (hf : Rdr l f2 nm) (htv : TokV l t tv) (hgt : GoodT nm t)
    (hm : (wa, ListO wv) ∈ l) (hwv : Nats wv ways) (hz : nm.length ≤ 1000) (hw : Good nm ways)
    (h : ∀ D vs new h' tk, Nats vs (nextOf nm ways t) → Hp g ((D, ListO vs) :: new ++ l) h' → Q (.ref D) { s with heap := h', toks := tk }) : wpAny (model prog w) A (call (.ref f2) [.ref wa, tv] []) Q E s := by
  obtain ⟨q1, q2, c1, c2, f1, cN, cO, tn, hf2, hc2, hO, hf1, hc1, hN⟩ := hf
  refine fn_call (args := ⟨[.ref wa, tv], []⟩) (binds := [("ways", .ref wa), ("token", tv)]) (cu := [("_law_one", .ref f1)]) W R H hf2 hc2 (fun _ _ _ => by kernel_rfl) (by kernel_rfl) nxt_names (show (["ways", "token"] : List Str).Nodup by decide +kernel) (fun x hx => by
    rcases List.mem_cons.mp hx with rfl | hx
    · exact .inl (by dsimp only; decide +kernel)
    · rcases List.mem_singleton.mp hx with rfl; exact .inr (by dsimp only; decide +kernel)) ?_ (by kernel_rfl) (by kernel_rfl) fun L h₁ tk S R1 => ?_
  · intro x v hx
    rcases List.mem_singleton.mp hx with e
    cases e
    obtain ⟨P, hP, hq⟩ := hO
    exact ⟨by decide +kernel, cO, rfl, P, hP, hq⟩
  have KD := nfd_Kd (name := nxt_.1.1) (qual := q2) (params := nxt_.1.2.1) (body := nxt_.1.2.2.1) (scope := nxt_.1.2.2.2.1) (clos := [("_law_one", cO)]) (c' := c2) (L := L) (f := f2) (by kernel_rfl)
  dsimp only [nxt_, List.cons_append, List.nil_append] at KD S R1 ⊢
  have fn1 : ∀ {l' : Led} {h : Heap}, Hp g l' h → (∀ p ∈ l, p ∈ l') → FnAt f1 h := fun {l' h} H hl => by
    obtain ⟨o, ho, doc, pm, ctv, e⟩ := H.has _ (hl _ hf1)
    exact ⟨_, _, _, _, ho.trans (by rw [e])⟩
  ((repeat walk_at "rp"); ((with_reducible refine wpAny_isTrue_value ?_ ?_); rotate_left; rfl); walk_at "d"; (repeat walk_at "rp"))
  cases t with
  | s t =>
    obtain ⟨k, rfl⟩ := htv
    refine IsiPair.str_list ?_
    repeat walk_at "rp"
    refine iteF rfl ?_
    repeat walk_at "rp"
    refine cwF rfl rfl ?_
    repeat walk_at "rp"
    refine ⟨fn1 S.led fun p hp => hp, ?_⟩
    refine one_spec (n := n + 6) W (R1.less (by omega)) S.hp (qual := q1) (c' := c1) (cN := cN) (tn := tn) (List.mem_append_right _ hf1) (List.mem_append_right _ hc1) ?_ (List.mem_append_right _ hm) hwv hz ⟨by have := hw.1; omega, hw.2⟩ fun D vs new h' tk hv H' => ?_
    · obtain ⟨P, hP, hq⟩ := hN; exact ⟨P, List.mem_append_right _ hP, hq⟩
    exact h D vs new h' tk hv (H'.le fun a => by simp only [cnt_cons, cnt_append]; first | ac_rfl | omega)
  | g ts =>
    obtain ⟨ta, ws, rfl, hws, hta⟩ := htv
    obtain ⟨hgl, hgt⟩ := hgt
    refine isi_list (S.get hta) ?_
    repeat walk_at "rp"
    refine iteT rfl ?_
    repeat walk_at "rp"
    refine comp_eval (by kernel_rfl) ?_ (fun _ => rfl)
    repeat walk_at "rp"
    refine iterL S hm fun I h' S => ?_
    refine compAt2 KD (by kernel_rfl) (by decide +kernel) (by decide +kernel) (Itr.list R1.hh wa wv) S ?_ [("_law_one", .ref f1), ("token", .ref ta)] ?_ (by kernel_rfl) (fun _ _ _ => rfl)
      (fun i ys ex => Nats ys ((ways.take i).flatMap fun w => (ts.foldl (fun ws t => oneOf nm t ws) [w]).take 1)) .nil ?_ ?_
    · intro p hp; rcases List.mem_singleton.mp hp with rfl; exact hm
    · intro p hp
      rcases List.mem_cons.mp hp with rfl | hp
      · walk_at "mem"
      · rcases List.mem_singleton.mp hp with rfl; walk_at "mem"
    · rintro cl C D i v ys ex h' tk KD1 hi hv hj S
      obtain ⟨p, tp, rfl, hp⟩ := hwv.get hv
      have hpl := hw.2 p (List.mem_of_getElem? hp)
      repeat walk_at "rp"
      refine cwF rfl rfl ?_
      repeat walk_at "rp"
      rename_i _ _ _ S
      refine newL S (Nat.le_of_ble_eq_true rfl) fun W0 h' S => ?_
      repeat walk_at "rp"
      refine ⟨fnK W S.hp (lk_91 w), ?_⟩
      have ml := S.subs (l := l) fun q hq => .tail _ (.tail _ (.tail _ (List.mem_append_right _ (List.mem_append_right _ hq))))
      refine reduce_spec (n := n + 3) W (R1.less (by omega)) S.hp (f := f1) (sq := ta) (i0 := W0) (vs := ws) (List.mem_append_right _ (ml _ hta)) (by rw [hws.1]; omega) ⟨_, List.mem_append_right _ (.head _), fun o ⟨n, e⟩ => by rw [e]; simp⟩ (fun h H => fn1 H fun q hq => List.mem_append_right _ (ml _ hq))
        (fun i v ex => ∃ D vs, v = .ref D ∧ ((D, ListO vs) ∈ ex ∨ (D, ListO vs) = (W0, ListO [.int (p : Int) tp])) ∧ Nats vs ((ts.take i).foldl (fun ws t => oneOf nm t ws) [p])) ⟨W0, _, rfl, .inr rfl, .cons _ _ .nil⟩ ?_ ?_
      · rintro A' Q' i2 v e l' ex2 s' RA he ⟨D2, vs, rfl, hD, hvs⟩ hl H' hQ'
        have hi2 : i2 < ts.length := by rw [← hws.1]; exact (List.getElem?_eq_some_iff.mp he).1
        obtain ⟨tk2, e2⟩ := hws.2 i2 ts[i2] (List.getElem?_eq_getElem hi2)
        rw [he] at e2; injection e2 with e2; subst e2
        have hl2 : ∀ q ∈ l, q ∈ l' := fun q hq => hl _ (List.mem_append_right _ (List.mem_append_right _ (ml _ hq)))
        have hgi := hgt i2 p hpl
        refine one_spec (n := n) W RA H' (qual := q1) (c' := c1) (cN := cN) (tn := tn) (hl2 _ hf1) (hl2 _ hc1) ?_ (hl _ ?_) hvs hz ⟨by have := hgi.1; omega, hgi.2⟩ fun D' vs' new h' tk hv H2 => ?_
        · obtain ⟨P, hP, hq⟩ := hN; exact ⟨P, hl2 _ hP, hq⟩
        · rcases hD with hD | hD
          · exact List.mem_append_left _ hD
          · rw [hD]; exact List.mem_append_right _ (List.mem_append_right _ (.head _))
        · refine hQ' (.ref D') ((D', ListO vs') :: new) h' tk ⟨D', vs', rfl, .inl (.head _), ?_⟩ H2
          rw [take_snoc (List.getElem?_eq_getElem hi2), List.foldl_append]; exact hv
      · rintro v ex2 h' tk ⟨D2, vs, rfl, hD, hvs⟩ H'
        have hgi := hgt ts.length p hpl
        rw [hws.1, List.take_length] at hvs
        rw [List.take_length] at hgi
        have S := S.app H'
        repeat walk_at "rp"
        have hD' := S.mem (e := (D2, ListO vs)) <| by
          rcases hD with hD | hD
          · exact List.mem_append_left _ hD
          · rw [hD]; exact List.mem_append_right _ (.head _)
        refine sliceLt natPart.none (natPart.lit 1 _ _ rfl) S hD' (by rw [hvs.len, sizeLine_eq]; have := hgi.1; omega) fun b h' S => ?_
        refine iterL S (.head _) fun I2 h' S => ?_
        have hc : cutV none (some 1) vs = vs.take 1 := rfl
        rw [hc] at S
        refine ⟨I2, _, (vs.take 1).length, _, _, (b, ListO (vs.take 1)) :: (ex2 ++ [(W0, ListO [.int (p : Int) tp])]), h', _, rfl, rfl, Itr.list R1.hh b (vs.take 1), S.re fun a => ?_, fun q hq => ?_, ?_, fun ws2 hws2 hPw => ?_⟩
        · simp only [cnt_cons, cnt_append, cnt_nil]; first | ac_rfl | omega
        · rcases List.mem_singleton.mp hq with rfl; exact .head _
        · have h1 := hj.len
          have h2 := flat_len (B := 1) (fun w => (ts.foldl (fun ws t => oneOf nm t ws) [w]).take 1) (fun w => by rw [List.length_take]; omega) (ways.take i)
          have h3 : (ways.take i).length ≤ 1001 := by rw [List.length_take]; have := hw.1; omega
          have h4 : (vs.take 1).length ≤ 1 := by rw [List.length_take]; omega
          rw [sizeLine_eq]; omega
        · have e : ws2 = vs.take 1 := List.ext_getElem? fun j => by
            by_cases hj : j < ws2.length
            · rw [hPw j ws2[j] (List.getElem?_eq_getElem hj)]; exact List.getElem?_eq_getElem hj
            · rw [List.getElem?_eq_none (by omega), List.getElem?_eq_none (by omega)]
          rw [e, take_snoc hp, List.flatMap_append]
          unfold Nats
          rw [List.map_append]
          refine IntsAre.append hj ?_
          rw [List.flatMap_cons, List.flatMap_nil, List.append_nil, List.map_take]
          exact IntsAre.take hvs 1
    · intro C D ys ex h' tk hj2 H'
      refine comp_fin_none (l₀ := []) S (IterO.nc _ _) H' fun h' S => ?_
      rw [hwv.len, List.take_length] at hj2
      exact h D ys ex h' _ hj2 S.led
end
structure Tb (g : Heap) : Prop where
  mg : ∃ mg, g.Ns mainGlobals mg ∧ g.BuiltinsAt mg 112 ∧ g.BuiltinsAt mg 129
  c1 : CodeHd g 116 112
  c2 : CodeHd g 133 129
noncomputable def qOne : Str := Str.ofString "_law_reads.<locals>._law_one"
noncomputable def qNxt : Str := Str.ofString "_law_reads.<locals>._law_next"
noncomputable def tp1 : Pos := one_.1.2.2.2.2
noncomputable def tp2 : Pos := nxt_.1.2.2.2.2
/-- the table of _law_reads: empty, or with both its defs -/
noncomputable def HR : Option (Addr × Addr) → Led
  | none => [(112, TabO #[])]
  | some (c1, c2) => [(112, TabO ((#[] ++ #[rawInt tp1.line, rawInt tp1.col, .ref c1]) ++ #[rawInt tp2.line, rawInt tp2.col, .ref c2])), (c1, CodeO qOne), (c2, CodeO qNxt)]
theorem qual_one (w : World) (L : Addr) : qualnameIn (fenv (fdOf w 117) L 117) "_law_one" "_law_one" = qOne := by kernel_rfl
theorem qual_nxt (w : World) (L : Addr) : qualnameIn (fenv (fdOf w 117) L 117) "_law_next" "_law_next" = qNxt := by kernel_rfl
theorem clos_one (w : World) (L : Addr) : closureFor one_.1.2.2.2.1 (fenv (fdOf w 117) L 117) = pure [(("name" : Str), L + 1)] := by kernel_rfl
theorem clos_nxt (w : World) (L : Addr) : closureFor nxt_.1.2.2.2.1 (fenv (fdOf w 117) L 117) = pure [(("_law_one" : Str), L + 2)] := by kernel_rfl
theorem own_117 (w : World) (L : Addr) : fown (fdOf w 117) L = [(("_law_one" : Str), L + 2), (("name" : Str), L + 1)] := by kernel_rfl
theorem code_117 (w : World) (L : Addr) : (fenv (fdOf w 117) L 117).code = .ref 116 := by kernel_rfl
section
variable {prog : Program} {w : World} {A : Around} {E : Value → Shared → Prop} {s : Shared} {g : Heap} {l : Led} {Q : Value → Shared → Prop}
theorem reads_spec {n : Nat} (W : Wd w g) (T : Tb g) (R : Rm A (n + 3)) (o : Option (Addr × Addr)) (H : Hp g (HR o ++ l) s.heap) {nm : List Nat} {tn : Tok}
    (h : ∀ f2 o' new h' tk, Rdr (new ++ (HR o' ++ l)) f2 nm → Hp g (new ++ (HR o' ++ l)) h' → Q (.ref f2) { s with heap := h', toks := tk }) : wpAny (model prog w) A (call (.ref 117) [.str (Tx nm) tn] []) Q E s := by
  obtain ⟨⟨mg, hmg, hb, -⟩, C, -⟩ := T
  refine call_top (args := ⟨[.str (Tx nm) tn], []⟩) (binds := [("name", .str (Tx nm) tn)]) W R H (lk_117 w) (cd_117 w) (bh_117 w) (by kernel_rfl) (by kernel_rfl) (by kernel_rfl) fun L h₁ tk S R1 => ?_
  dsimp only [bd_117]
  have KD := kd_117 w L
  walk_at "rp"
  refine nestDef_K rfl rfl rfl ?_
  rw [qual_one]
  show wpAny _ _ (makeFunction one_.1.1 qOne one_.1.2.1 (.stmts one_.1.2.2.1) one_.1.2.2.2.1 (fenv (fdOf w 117) L 117) [] [] [] tp1 tp1.line) _ _ _
  have fin : ∀ (f1 c1 f2 c2 : Addr) (h' : Heap) (tk : Nat) (u : List (Str × Value)), (("_law_one", .ref f1) : Str × Value) ∈ u → (("name", .str (Tx nm) tn) : Str × Value) ∈ u →
      St g (fenv (fdOf w 117) L 117) (fown (fdOf w 117) L) u ((f2, FnO nxt_.1.1 qNxt nxt_.1.2.1 nxt_.1.2.2.1 nxt_.1.2.2.2.1 [("_law_one", L + 2)] c2) :: (f1, FnO one_.1.1 qOne one_.1.2.1 one_.1.2.2.1 one_.1.2.2.2.1 [("name", L + 1)] c1) :: (HR (some (c1, c2)) ++ l)) h' → Q (.ref f2) { s with heap := h', toks := tk } := by
    intro f1 c1 f2 c2 h' tk u hu1 hu2 S
    refine h f2 (some (c1, c2)) (frL (fenv (fdOf w 117) L 117) (fown (fdOf w 117) L) u ++ [_, _]) h' tk ?_ (by rw [List.append_assoc]; exact S.hp)
    rw [own_117]
    refine ⟨qOne, qNxt, c1, c2, f1, L + 1, L + 2, tn, ?_, ?_, ⟨CellU "_law_one" u, ?_, fun o ⟨w, d, q⟩ => d.trans (by rw [q _ hu1])⟩, ?_, ?_, ⟨CellU "name" u, ?_, fun o ⟨w, d, q⟩ => d.trans (by rw [q _ hu2])⟩⟩
    · exact List.mem_append_left _ (List.mem_append_right _ (.head _))
    · exact List.mem_append_right _ (.tail _ (.tail _ (.head _)))
    · exact List.mem_append_left _ (List.mem_append_left _ (.tail _ (.head _)))
    · exact List.mem_append_left _ (List.mem_append_right _ (.tail _ (.head _)))
    · exact List.mem_append_right _ (.tail _ (.head _))
    · exact List.mem_append_left _ (List.mem_append_left _ (.tail _ (.tail _ (.head _))))
  cases o with
  | none =>
    have S : St g _ _ _ ((112, TabO #[]) :: l) _ := S
    refine mkFn (ps := #[]) S hmg hb KD.gl (code_117 w L) C trivial rfl (clos_one w L) fun f1 c1 h' tk S => ?_
    refine sta S (by walk_at "sto") fun h' tk S => ?_
    repeat walk_at "rp"
    refine nestDef_K rfl rfl rfl ?_
    rw [qual_nxt]
    show wpAny _ _ (makeFunction nxt_.1.1 qNxt nxt_.1.2.1 (.stmts nxt_.1.2.2.1) nxt_.1.2.2.2.1 (fenv (fdOf w 117) L 117) [] [] [] tp2 tp2.line) _ _ _
    have S := St.front (pre := [_, _]) S
    refine mkFn S hmg hb KD.gl (code_117 w L) C trivial rfl (clos_nxt w L) fun f2 c2 h' tk S => ?_
    refine sta S (by walk_at "sto") fun h' tk S => ?_
    repeat walk_at "rp"
    refine fin f1 c1 f2 c2 h' _ _ (by walk_at "mem") (by walk_at "mem") (S.re fun a => ?_)
    simp only [HR, cnt_cons, cnt_append, cnt_nil]; first | ac_rfl | omega
  | some cc =>
    obtain ⟨c1, c2⟩ := cc
    have S : St g _ _ _ ((112, TabO _) :: (c1, CodeO qOne) :: (c2, CodeO qNxt) :: l) _ := S
    refine mkFnHit (c' := c1) S hmg hb KD.gl (code_117 w L) C trivial rfl (clos_one w L) fun f1 h' tk S => ?_
    refine sta S (by walk_at "sto") fun h' tk S => ?_
    repeat walk_at "rp"
    refine nestDef_K rfl rfl rfl ?_
    rw [qual_nxt]
    show wpAny _ _ (makeFunction nxt_.1.1 qNxt nxt_.1.2.1 (.stmts nxt_.1.2.2.1) nxt_.1.2.2.2.1 (fenv (fdOf w 117) L 117) [] [] [] tp2 tp2.line) _ _ _
    have S := St.front (pre := [_]) S
    refine mkFnHit (c' := c2) S hmg hb KD.gl (code_117 w L) C trivial rfl (clos_nxt w L) fun f2 h' tk S => ?_
    refine sta S (by walk_at "sto") fun h' tk S => ?_
    repeat walk_at "rp"
    refine fin f1 c1 f2 c2 h' _ _ (by walk_at "mem") (by walk_at "mem") (S.re fun a => ?_)
    simp only [HR, cnt_cons, cnt_append, cnt_nil, List.cons_append, List.nil_append]; first | ac_rfl | omega
end
theorem patOf_len {x : List Nat} (hz : x.length ≤ 20) : (patOf x).length ≤ 1000 := by
  have hps : ∀ p ∈ (sp x).map esc, p.length ≤ 40 := by
    intro p hp
    obtain ⟨q, hq, rfl⟩ := List.mem_map.mp hp
    have h1 := sp_sub x q hq
    have h2 := esc_len q
    omega
  have h1 := sp_len x
  have h2 := joinN_nil_len (B := 47) (finP ((sp x).map esc)) (finP_len hps)
  have h3 : (finP ((sp x).map esc)).length = (sp x).length := by simp [finP]
  rw [h3] at h2
  have h4 : (sp x).length * 47 ≤ 21 * 47 := Nat.mul_le_mul_right _ (by omega)
  unfold patOf
  omega
theorem subC {l l' : Led} (h : ∀ a, cnt a l ≤ cnt a l') : ∀ p ∈ l, p ∈ l' := fun p hp => mem_cnt.mpr (Nat.lt_of_lt_of_le (mem_cnt.mp hp) (h p))
theorem Rdr.inn {g h : Heap} {l l' : Led} {f2 : Addr} {nm : List Nat} (r : Rdr l f2 nm) (_ : Hp g l' h) (x : ∀ a, cnt a l ≤ cnt a l') : Rdr l' f2 nm := r.mono (subC x)
theorem newL0 {prog : Program} {w : World} {A : Around} {E : Value → Shared → Prop} {s : Shared} {g : Heap} {env : Env} {own : List (Str × Addr)} {u : List (Str × Value)} {l : Led} {Q : Value → Shared → Prop} {t : Tok} (S : St g env own u l s.heap)
    (h : ∀ t a h', St g env own u ((a, ListO [.int 0 t]) :: l) h' → Q (.ref a) { s with heap := h' }) : wpAny (model prog w) A (newList [.int 0 t]) Q E s := newL S (Nat.le_of_ble_eq_true rfl) (h t)
theorem appendI {prog : Program} {w : World} {A : Around} {E : Value → Shared → Prop} {s : Shared} {g : Heap} {env : Env} {own : List (Str × Addr)} {u : List (Str × Value)} {l : Led} {Q : Value → Shared → Prop} {D : Addr} {xs : List Value} {n : Int} {t : Tok} (S : St g env own u l s.heap) (hm : (D, ListO xs) ∈ l) (hsz : xs.length ≤ sizeLine)
    (h : ∀ (t : Tok) l' h' tk, St g env own u l' h' → (∀ a, cnt a l' + one a (D, ListO xs) = cnt a l + one a (D, ListO (xs ++ [.int n t]))) → Q .none { s with heap := h', toks := tk }) : wpAny (model prog w) A (call (.builtin "list.append") [.ref D, .int n t]) Q E s := appendM S hm hsz (h t)
theorem HR_nc : ∀ (o : Option (Addr × Addr)) (p : Addr × (Obj → Prop)), p ∈ HR o → NotCell p.2 := by
  have t : ∀ ps, NotCell (TabO ps) := fun ps o e v q => by rw [e] at q; cases q
  have c : ∀ q, NotCell (CodeO q) := fun q o ⟨vs, t, e, _⟩ v z => by rw [e] at z; cases z
  rintro (_ | ⟨c1, c2⟩) p hp
  · rcases List.mem_singleton.mp hp with rfl; exact t _
  · rcases List.mem_cons.mp hp with rfl | hp
    · exact t _
    · rcases List.mem_cons.mp hp with rfl | hp
      · exact c _
      · rcases List.mem_singleton.mp hp with rfl; exact c _
noncomputable abbrev ToldO (l : Led) (nms : List (List Nat)) (ts : List TokG) (whole : Bool) (D TK : Addr) (tvs : List Value) (tnew : Led) (i : Nat) (u : List (Str × Value)) (l1 : Led) : Prop := ∃ o' dv new, l1 = (D, ListO dv) :: (TK, ListO tvs) :: (new ++ (tnew ++ (HR o' ++ l))) ∧ Nats dv ((nms.take i).map (toldOf ts whole)) ∧
    (("whole", .bool whole) : Str × Value) ∈ u ∧ (("tokens", .ref TK) : Str × Value) ∈ u ∧ (("told", .ref D) : Str × Value) ∈ u
section
variable {prog : Program} {w : World} {A : Around} {E : Value → Shared → Prop} {s : Shared} {g : Heap} {l : Led} {Q : Value → Shared → Prop}
theorem told_spec {n : Nat} (W : Wd w g) (T : Tb g) (R : Rm A (n + 20)) (o : Option (Addr × Addr)) (H : Hp g (HR o ++ l) s.heap) {pa : List Nat} {nms : List (List Nat)} {nv : List Value} {nA : Addr} {t : Tok} {whole : Bool} {ts : List TokG} {fu : Nat}
    (hpa : ∀ c ∈ pa, c < 128) (hpz : pa.length ≤ 20) (hts : toks fu (patOf pa) [] none = some ts) (htl : ts.length ≤ 1000)
    (hn : (nA, ListO nv) ∈ l) (hnv : Strs nms nv) (hnz : ∀ x ∈ nms, x.length ≤ 1000) (hnl : nms.length ≤ 1000)
    (hgd : ∀ nm ∈ nms, (∀ i, Good nm (endsOf nm (ts.take i))) ∧ ∀ t ∈ ts, GoodT nm t)
    (h : ∀ D dv o' new h' tk, Nats dv (nms.map (toldOf ts whole)) → Hp g ((D, ListO dv) :: new ++ (HR o' ++ l)) h' → Q (.ref D) { s with heap := h', toks := tk }) : wpAny (model prog w) A (call (.ref 122) [.str (Tx pa) t, .ref nA, .bool whole] []) Q E s := by
  refine call_top (args := ⟨[.str (Tx pa) t, .ref nA, .bool whole], []⟩) (binds := [("path", .str (Tx pa) t), ("names", .ref nA), ("whole", .bool whole)]) W R H (lk_122 w) (cd_122 w) (bh_122 w) (by kernel_rfl) (by kernel_rfl) (by kernel_rfl) fun L h₁ tk S R1 => ?_
  dsimp only [bd_122]
  have KD := kd_122 w L
  repeat walk_at "rp"
  refine cwF rfl rfl ?_
  repeat walk_at "rp"
  refine cwF rfl rfl ?_
  repeat walk_at "rp"
  refine ⟨fnK W S.hp (lk_75 w), ?_⟩
  refine tp_spec (n := n + 11) W R1 S.hp hpa hpz fun u h' tk H' => ?_
  have S := S.of' H' fun _ hp => .inl hp
  repeat walk_at "rp"
  refine ⟨fnK W S.hp (lk_110 w), ?_⟩
  refine tokens_spec (n := n + 16) W R1 S.hp (patOf_len hpz) hts fun TK tvs tnew h' tk htv H' => ?_
  have S := S.app H'
  refine sta S (by walk_at "sto") fun h' tk S => ?_
  repeat walk_at "rp"
  refine newL S (Nat.le_of_ble_eq_true rfl) fun D h' S => ?_
  refine sta S (by walk_at "sto") fun h' tk S => ?_
  repeat walk_at "rp"
  refine wpAny_For ?_
  repeat walk_at "rp"
  refine iterL S (.tail _ (.tail _ (List.mem_append_right _ (List.mem_append_right _ hn)))) fun I h' S => ?_
  refine forLoop_ (Itr.list R1.hh nA nv) (by walk_at "sto") (ToldO l nms ts whole D TK tvs tnew) S ?_ ?_ ?_ ?_
  · intro p hp; rcases List.mem_singleton.mp hp with rfl; exact .tail _ (.tail _ (List.mem_append_right _ (List.mem_append_right _ hn)))
  · exact ⟨o, [], [], rfl, .nil, by walk_at "mem", by walk_at "mem", by walk_at "mem"⟩
  · rintro i v u l1 h' tk hi hv ⟨o1, dv, new, rfl, hdv, hu1, hu2, hu3⟩ - S
    have hi' : i < nms.length := by rw [← hnv.1]; exact hi
    obtain ⟨nm, hnm⟩ : ∃ nm, nms[i]? = some nm := ⟨_, List.getElem?_eq_getElem hi'⟩
    obtain ⟨tn, e⟩ := hnv.2 i nm hnm
    rw [hv] at e; injection e with e; subst e
    have hnz' := hnz nm (List.mem_of_getElem? hnm)
    obtain ⟨hg1, hg2⟩ := hgd nm (List.mem_of_getElem? hnm)
    walk_at "rp"
    refine comp_assign (by kernel_rfl) (by kernel_rfl) ?_ (fun _ => rfl) rfl
    repeat walk_at "rp"
    refine cwF rfl rfl ?_
    repeat walk_at "rp"
    refine cwF rfl rfl ?_
    repeat walk_at "rp"
    refine ⟨fnK W S.hp (lk_117 w), ?_⟩
    have S := S.re (l' := HR o1 ++ ((I, IterO nA (i + 1)) :: (D, ListO dv) :: (TK, ListO tvs) :: (new ++ (tnew ++ l)))) fun a => by simp only [cnt_cons, cnt_append]; first | ac_rfl | omega
    refine reads_spec (n := n + 16) W T (R1.less (by omega)) o1 (Hp.swapA S.hp) fun f2 o2 rn h' tk hRd H' => ?_
    have S : St g _ _ _ (rn ++ (HR o2 ++ ((I, IterO nA (i + 1)) :: (D, ListO dv) :: (TK, ListO tvs) :: (new ++ (tnew ++ l))))) h' := S.of' (H'.le fun a => by simp only [cnt_cons, cnt_append]; first | ac_rfl | omega) fun p hp => by
      rcases List.mem_append.mp hp with hp | hp
      · exact .inr (HR_nc _ p hp)
      · exact .inl (List.mem_append_right _ (List.mem_append_right _ hp))
    repeat walk_at "rp"
    refine newL0 S fun t0 W0 h' S => ?_
    repeat walk_at "rp"
    refine ⟨fnK W S.hp (lk_91 w), ?_⟩
    have hRd := hRd.inn S.hp fun a => by simp only [cnt_cons, cnt_append]; first | ac_rfl | omega
    refine reduce_spec (n := n + 15) W (R1.less (by omega)) S.hp (f := f2) (sq := TK) (i0 := W0) (vs := tvs) (List.mem_append_right _ (.tail _ (List.mem_append_right _ (List.mem_append_right _ (.tail _ (.tail _ (.head _))))))) (by rw [htv.1]; omega)
      ⟨_, List.mem_append_right _ (.head _), fun o ⟨n, e⟩ => by rw [e]; simp⟩ (fun h H => hRd.fnAt H)
      (fun i v ex => ∃ D vs, v = .ref D ∧ ((D, ListO vs) ∈ ex ∨ (D, ListO vs) = (W0, ListO [.int 0 t0])) ∧ Nats vs (endsOf nm (ts.take i))) ⟨W0, _, rfl, .inr rfl, .cons _ _ .nil⟩ ?_ ?_
    · rintro A' Q' i2 v e l' ex2 s' RA he ⟨D2, vs, rfl, hD, hvs⟩ hl H' hQ'
      have hi2 : i2 < ts.length := by rw [← htv.1]; exact (List.getElem?_eq_some_iff.mp he).1
      obtain ⟨e', e2, hte⟩ := htv.2 i2 ts[i2] (List.getElem?_eq_getElem hi2)
      rw [he] at e2; injection e2 with e2; subst e2
      have hl2 := fun q hq => hl q (List.mem_append_right ex2 hq)
      refine next_spec (n := n + 5) W RA H' (hRd.mono hl2) (hte.mono fun q hq => hl2 _ (List.mem_append_right _ (.tail _ (List.mem_append_right _ (List.mem_append_right _ (.tail _ (.tail _ (.tail _ (List.mem_append_right _ (List.mem_append_left _ hq)))))))))) (hg2 _ (List.getElem_mem hi2)) (hl _ ?_) hvs hnz' (hg1 i2) fun D' vs' new h' tk hv H2 => ?_
      · rcases hD with hD | hD
        · exact List.mem_append_left _ hD
        · rw [hD]; exact List.mem_append_right _ (List.mem_append_right _ (.head _))
      · refine hQ' (.ref D') ((D', ListO vs') :: new) h' tk ⟨D', vs', rfl, .inl (.head _), ?_⟩ H2
        unfold endsOf at hv ⊢
        rw [take_snoc (List.getElem?_eq_getElem hi2), List.foldl_append]; exact hv
    · rintro v ex2 h' tk ⟨D2, vs, rfl, hD, hvs⟩ H'
      have hgi := hg1 ts.length
      rw [htv.1, List.take_length] at hvs
      rw [List.take_length] at hgi
      have S := S.app H'
      have hD' := S.mem (e := (D2, ListO vs)) <| by
        rcases hD with hD | hD
        · exact List.mem_append_left _ hD
        · rw [hD]; exact List.mem_append_right _ (.head _)
      refine iterL S hD' fun I2 h' S => ?_
      have hpk := hgi
      generalize hps : endsOf nm ts = ps at hvs hpk
      refine compAt1 KD (by kernel_rfl) (Itr.list R1.hh D2 vs) S (fun p hp => by rcases List.mem_singleton.mp hp with rfl; exact hD') (by have := hvs.len; have := hpk.1; rw [sizeLine_eq]; omega) [("name", .str (Tx nm) tn), ("whole", .bool whole)] ?_ (by kernel_rfl)
        (fun i ys ex => Nats ys ((ps.take i).filter (okP nm whole))) .nil ?_ ?_
      · intro p hp
        rcases List.mem_cons.mp hp with rfl | hp
        · walk_at "mem"
        · rcases List.mem_singleton.mp hp with rfl; walk_at "mem"
      · rintro cl C Dc i2 v ys ex h' tk KD1 hi2 hv2 hys hylen S
        obtain ⟨p, tp, rfl, hp⟩ := hvs.get hv2
        refine wpAny_tests_one ?_
        ((with_reducible refine wpAny_isTrue_BoolOp ?_); walk_at "d"; (with_reducible refine wpAny_allTrue_Or_cons ?_); walk_at "d"; (repeat walk_at "rp"); ((with_reducible refine' lenS ?hz (fun _ _ => ?_)); (case hz => omega)); walk_at "d"; (repeat walk_at "rp"))
        have hfs : (ps.take (i2 + 1)).filter (okP nm whole) = (ps.take i2).filter (okP nm whole) ++ if okP nm whole p = true then [p] else [] := by
          rw [take_snoc hp, List.filter_append]
          congr 1
          cases hq : okP nm whole p <;> simp [hq]
        by_cases hpl : p = nm.length
        · have hq : okP nm whole p = true := by simp [okP, hpl]
          refine iteT (by simp [hpl]) (iteT rfl ?_)
          repeat walk_at "rp"
          refine ⟨[], _, _, rfl, by assumption, ?_⟩
          rw [hfs, hq]; exact hys.snoc
        · refine iteF (by simp; omega) ?_
          ((with_reducible refine wpAny_allTrue_Or_cons ?_); walk_at "d"; (with_reducible refine wpAny_isTrue_Not ?_); walk_at "d"; ((with_reducible refine wpAny_isTrue_value ?_ ?_); rotate_left; rfl); walk_at "d"; (repeat walk_at "rp"))
          by_cases hw : whole = true
          · have hq : okP nm whole p = false := by simp [okP, hpl, hw]
            refine iteF (by simp [hw]) ?_
            ((with_reducible refine wpAny_allTrue_Or_nil ?_); walk_at "d")
            refine iteF rfl ⟨[], _, _, rfl, by assumption, ?_⟩
            rw [hfs, hq]; simpa using hys
          · have hq : okP nm whole p = true := by simp [okP, hw]
            refine iteT (by simp [hw]) (iteT rfl ?_)
            repeat walk_at "rp"
            refine ⟨[], _, _, rfl, by assumption, ?_⟩
            rw [hfs, hq]; exact hys.snoc
      · intro C Dc ys ex h' tk hj2 H'
        refine comp_fin_assign (y := "ends") S (IterO.nc _ _) (by walk_at "sto") H' fun h' tk S => ?_
        have hys : Nats ys (ps.filter (okP nm whole)) := by
          have := hj2; rw [hvs.len, List.take_length] at this; exact this
        have ht0 : ps.filter (okP nm whole) = [] → toldOf ts whole nm = 0 := fun e => by unfold toldOf; rw [hps, e]
        have ht1 : ∀ p r, ps.filter (okP nm whole) = p :: r → toldOf ts whole nm = p + 1 := fun p r e => by unfold toldOf; rw [hps, e]
        have hdl : dv.length ≤ 1000 := by rw [hdv.len, List.length_map, List.length_take]; omega
        have mD := S.mem (e := (D, ListO dv)) (.tail _ (List.mem_append_right _ (List.mem_append_right _ (.tail _ (List.mem_append_right _ (List.mem_append_right _ (.tail _ (.head _))))))))
        repeat walk_at "rp"
        refine exprS (by kernel_rfl) rfl ?_
        refine mcL F.slot_list_append F.type_list_append rfl rfl rfl rfl rfl ?_
        repeat walk_at "rp"
        refine ⟨D, dv, rfl, S.get mD, ?_⟩
        ((repeat walk_at "rp"); (with_reducible refine wpAny_IfExp ?_); walk_at "d"; (repeat walk_at "rp"))
        refine newL S (Nat.le_of_ble_eq_true rfl) fun N h' S => ?_
        refine neNil (by have := R1.units; omega) S (by walk_at "mem") (by walk_at "mem") ?_
        repeat walk_at "rp"
        cases hf : ps.filter (okP nm whole) with
        | nil =>
          rw [hf] at hys
          have e0 := hys.nil_inv
          subst e0
          refine iteF rfl ?_
          repeat walk_at "rp"
          refine appendI (by assumption) (.tail _ mD) (by rw [sizeLine_eq]; omega) fun tz l' h' tk S hcnt => ?_
          dsimp only
          repeat walk_at "rp"
          refine ⟨_, (D, ListO (dv ++ [.int 0 tz])) :: (TK, ListO tvs) :: (((N, ListO []) :: (Dc, ListO []) :: (ex ++ (ex2 ++ ((W0, ListO [.int 0 t0]) :: (rn ++ new))))) ++ (tnew ++ (HR o2 ++ l))), _, _, rfl, S.re fun a => ?_, ?_, o2, _, _, rfl, ?_, ?_, ?_, ?_⟩
          · have := hcnt a
            simp only [cnt_cons, cnt_append, cnt_nil] at this ⊢
            omega
          · intro p hp; rcases List.mem_singleton.mp hp with rfl; exact .tail _ (.tail _ (List.mem_append_right _ (List.mem_append_right _ (List.mem_append_right _ hn))))
          · rw [take_snoc hnm, List.map_append]
            rw [List.map_cons, List.map_nil, ht0 hf]
            exact hdv.snoc (n := 0) (t := tz)
          all_goals walk_at "mem"
        | cons p r =>
          rw [hf] at hys
          obtain ⟨tp, ys', rfl, hys'⟩ := IntsAre.cons_inv hys
          refine iteT rfl ?_
          repeat walk_at "rp"
          refine appendI (by assumption) (.tail _ mD) (by rw [sizeLine_eq]; omega) fun tz l' h' tk S hcnt => ?_
          dsimp only
          repeat walk_at "rp"
          refine ⟨_, (D, ListO (dv ++ [.int (Int.ofNat p + 1) tz])) :: (TK, ListO tvs) :: (((N, ListO []) :: (Dc, ListO (.int (Int.ofNat p) tp :: ys')) :: (ex ++ (ex2 ++ ((W0, ListO [.int 0 t0]) :: (rn ++ new))))) ++ (tnew ++ (HR o2 ++ l))), _, _, rfl, S.re fun a => ?_, ?_, o2, _, _, rfl, ?_, ?_, ?_, ?_⟩
          · have := hcnt a
            simp only [cnt_cons, cnt_append, cnt_nil] at this ⊢
            omega
          · intro p hp; rcases List.mem_singleton.mp hp with rfl; exact .tail _ (.tail _ (List.mem_append_right _ (List.mem_append_right _ (List.mem_append_right _ hn))))
          · rw [take_snoc hnm, List.map_append]
            rw [List.map_cons, List.map_nil, ht1 p r hf]
            exact hdv.snoc (n := p + 1) (t := tz)
          all_goals walk_at "mem"
  · rintro u l1 h' tk ⟨o', dv, new, rfl, hdv, hu1, hu2, hu3⟩ S
    dsimp only
    repeat walk_at "rp"
    rw [hnv.1, List.take_length] at hdv
    exact h D dv o' ((TK, ListO tvs) :: (new ++ tnew)) h' _ hdv (by simpa only [List.cons_append, List.append_assoc] using S.led)
end
noncomputable def Good1 (nm ways : List Nat) : Prop := ways.length ≤ 1 ∧ ∀ q ∈ ways, q ≤ nm.length
theorem Good1.good {nm ws : List Nat} (h : Good1 nm ws) : Good nm ws := ⟨by have := h.1; omega, h.2⟩
theorem good_lit1 {nm ws : List Nat} (c : Nat) (h : Good nm ws) : Good nm (lit1 nm ws c) :=
  ⟨by unfold lit1; rw [List.length_map]; exact Nat.le_trans (List.length_filter_le _ _) h.1, lit1_le c⟩
theorem good1_lit1 {nm ws : List Nat} (c : Nat) (h : Good1 nm ws) : Good1 nm (lit1 nm ws c) := ⟨lit1_len1 c h.1, lit1_le c⟩
theorem good_lits (nm : List Nat) : ∀ (p : List Nat) {ws : List Nat}, Good nm ws → Good nm (lits nm p ws)
  | [], _, h => h
  | c :: p, _, h => good_lits nm p (good_lit1 c h)
theorem good_upR {nm : List Nat} {d : Nat} (h : d ≤ nm.length) : Good nm (upR nm d) := ⟨by unfold upR; simp, upR_le h⟩
noncomputable def GoodF (nm : List Nat) (ts : List TokG) (ws : List Nat) : Prop := ∀ i, Good nm ((ts.take i).foldl (nextOf nm) ws)
theorem GoodF.nil {nm ws : List Nat} (h : Good nm ws) : GoodF nm [] ws := fun i => by rw [List.take_nil]; exact h
theorem GoodF.cons {nm ws : List Nat} {t : TokG} {ts : List TokG} (h : Good nm ws) (r : GoodF nm ts (nextOf nm ws t)) : GoodF nm (t :: ts) ws := fun i => by
  cases i with
  | zero => exact h
  | succ i => exact r i
theorem goodF_lits (nm : List Nat) : ∀ (p : List Nat) {ws : List Nat}, Good nm ws → GoodF nm (p.map fun c => .s [c]) ws
  | [], _, h => .nil h
  | c :: p, ws, h => .cons h (by
      rw [show nextOf nm ws (.s [c]) = oneOf nm [c] ws from rfl, oneOf_lit]
      exact goodF_lits nm p (good_lit1 c h))
theorem goodF_pre (nm : List Nat) (rest : List TokG) (hr : ∀ ws', Good1 nm ws' → GoodF nm rest ws') : ∀ (p : List Nat) {ws : List Nat}, Good1 nm ws → GoodF nm ((p.map fun c => .s [c]) ++ rest) ws
  | [], _, h => hr _ h
  | c :: p, ws, h => .cons h.good (by
      rw [show nextOf nm ws (.s [c]) = oneOf nm [c] ws from rfl, oneOf_lit]
      exact goodF_pre nm rest hr p (good1_lit1 c h))
theorem good_far {nm ws : List Nat} (h : Good1 nm ws) : Good nm (oneOf nm wFar ws) := by
  refine ⟨?_, oneOf_far_le⟩
  unfold oneOf
  rw [if_pos rfl]
  match ws, h.1 with
  | [], _ => exact Nat.zero_le _
  | [w], _ => simp
where
  oneOf_far_le {nm ws : List Nat} : ∀ q ∈ oneOf nm wFar ws, q ≤ nm.length := fun q hq => by
    unfold oneOf at hq
    rw [if_pos rfl] at hq
    obtain ⟨w, _, hq⟩ := List.mem_flatMap.mp hq
    obtain ⟨i, _, rfl⟩ := List.mem_map.mp hq
    omega
theorem near_upR (nm : List Nat) (w : Nat) : oneOf nm wNear [w] = upR nm w := by
  unfold oneOf upR
  rw [if_neg (by decide), if_pos rfl]; simp
theorem goodF_mid (nm : List Nat) : ∀ (ps : List (List Nat)) {ws : List Nat}, Good1 nm ws → GoodF nm (midT ps) ws
  | [], _, h => .nil h.good
  | [p], _, h => .cons h.good (goodF_lits nm p (good_far h))
  | p :: q :: r, ws, h => .cons h.good (goodF_mid nm (q :: r) (by
      show Good1 nm (ws.flatMap fun w => ((wNear :: p.map fun c => [c]).foldl (fun ws t => oneOf nm t ws) [w]).take 1)
      refine ⟨?_, fun z hz => ?_⟩
      · match ws, h.1 with
        | [], _ => exact Nat.zero_le _
        | [w], _ => rw [List.flatMap_cons, List.flatMap_nil, List.append_nil, List.length_take]; omega
      · obtain ⟨w, hw, hz⟩ := List.mem_flatMap.mp hz
        have hz := List.mem_of_mem_take hz
        rw [List.foldl_cons, foldl_lits, near_upR] at hz
        exact lits_le nm p (upR_le (h.2 w hw)) z hz))
theorem goodT_mid (nm : List Nat) : ∀ (ps : List (List Nat)), (∀ p ∈ ps, p.length ≤ 900) → ∀ t ∈ midT ps, GoodT nm t
  | [], _, t, ht => by cases ht
  | [p], _, t, ht => by
    rcases List.mem_cons.mp ht with rfl | ht
    · exact trivial
    · obtain ⟨c, _, rfl⟩ := List.mem_map.mp ht; exact trivial
  | p :: q :: r, hp, t, ht => by
    rcases List.mem_cons.mp ht with rfl | ht
    · refine ⟨by have := hp p (.head _); simp; omega, fun i way hw => ?_⟩
      cases i with
      | zero => exact ⟨by simp, fun q hq => by rcases List.mem_singleton.mp hq with rfl; exact hw⟩
      | succ i =>
        rw [List.take_succ_cons, List.foldl_cons, near_upR, ← List.map_take, foldl_lits]
        exact good_lits nm _ (good_upR hw)
    · exact goodT_mid nm (q :: r) (fun z hz => hp z (.tail _ hz)) t ht
theorem midT_len : ∀ ps : List (List Nat), (∀ p ∈ ps, p.length ≤ 20) → (midT ps).length ≤ ps.length + 20
  | [], _ => Nat.zero_le _
  | [p], h => by have := h p (.head _); simp [midT]; omega
  | p :: q :: r, h => by
    have := midT_len (q :: r) fun z hz => h z (.tail _ hz)
    simp only [midT, List.length_cons] at this ⊢; omega
theorem tok_good {x : List Nat} (hz : x.length ≤ 20) : (tokOf (sp x)).length ≤ 1000 ∧ ∀ nm, (∀ i, Good nm (endsOf nm ((tokOf (sp x)).take i))) ∧ ∀ t ∈ tokOf (sp x), GoodT nm t := by
  have hsub := sp_sub x
  have hl := sp_len x
  cases h : sp x with
  | nil => exact absurd h (sp_ne x)
  | cons p ps =>
    rw [h] at hsub hl
    have hps : ∀ q ∈ ps, q.length ≤ 20 := fun q hq => by have := (hsub q (.tail _ hq)).1; omega
    have hp : p.length ≤ 20 := by have := (hsub p (.head _)).1; omega
    refine ⟨?_, fun nm => ⟨?_, fun t ht => ?_⟩⟩
    · have := midT_len ps hps
      simp only [tokOf, List.length_append, List.length_map, List.length_cons] at this hl ⊢; omega
    · exact goodF_pre nm (midT ps) (fun ws' h' => goodF_mid nm ps h') p ⟨by simp, fun q hq => by rcases List.mem_singleton.mp hq with rfl; omega⟩
    · rcases List.mem_append.mp ht with ht | ht
      · obtain ⟨c, _, rfl⟩ := List.mem_map.mp ht; exact trivial
      · exact goodT_mid nm ps (fun q hq => by have := hps q hq; omega) t ht
section
variable {prog : Program} {w : World} {A : Around} {E : Value → Shared → Prop} {s : Shared} {g : Heap} {l : Led} {Q : Value → Shared → Prop}
/-- what a pattern is told is what is due -/
theorem told_due_spec {n : Nat} (W : Wd w g) (T : Tb g) (R : Rm A (n + 20)) (o : Option (Addr × Addr)) (H : Hp g (HR o ++ l) s.heap) {pa : List Nat} {nms : List (List Nat)} {nv : List Value} {nA : Addr} {t : Tok} {whole : Bool}
    (hpa : ∀ c ∈ pa, c < 128) (hpz : pa.length ≤ 20) (hps : 42 ∈ pa)
    (hn : (nA, ListO nv) ∈ l) (hnv : Strs nms nv) (hnz : ∀ x ∈ nms, x.length ≤ 1000) (hnl : nms.length ≤ 1000)
    (h : ∀ D dv o' new h' tk, Nats dv (nms.map (dueOf pa whole)) → Hp g ((D, ListO dv) :: new ++ (HR o' ++ l)) h' → Q (.ref D) { s with heap := h', toks := tk }) : wpAny (model prog w) A (call (.ref 122) [.str (Tx pa) t, .ref nA, .bool whole] []) Q E s := by
  have hs : (sp pa).length ≠ 1 := by
    have key : ∀ x : List Nat, 42 ∈ x → 2 ≤ (sp x).length := by
      intro x
      induction x with
      | nil => intro h; cases h
      | cons c r ih =>
        intro hm
        have hn := sp_ne r
        cases e : sp r with
        | nil => exact absurd e hn
        | cons q qs =>
          by_cases hc : c = 42
          · subst hc; rw [sp_star, e]; simp
          · rw [sp_other hc e]
            have := ih ((List.mem_cons.mp hm).resolve_left (fun e => hc e.symm))
            rw [e] at this; simpa using this
    have := key pa hps; omega
  obtain ⟨fu, hts⟩ := toks_pat hs
  obtain ⟨h1, h2⟩ := tok_good hpz
  refine told_spec W T R o H hpa hpz hts h1 hn hnv hnz hnl (fun nm _ => h2 nm) fun D dv o' new h' tk hd H' => h D dv o' new h' tk ?_ H'
  have e : nms.map (toldOf (tokOf (sp pa)) whole) = nms.map (dueOf pa whole) := List.map_congr_left fun nm _ => told_due whole hs
  rw [← e]; exact hd
end
/-- a dict with names as keys -/
noncomputable def DicO (kv : List (Str × Value)) (o : Obj) : Prop := ∃ es ep, o = { cls := .type "dict", dict := none, data := .dict es ep, slots := #[] } ∧ es.size ≤ kv.length ∧ StrKeys es ∧ ∀ x, nsFind es x = kv.lookup x
theorem DicO.nc (kv : List (Str × Value)) : NotCell (DicO kv) := fun o ⟨es, ep, e, _⟩ v q => by rw [e] at q; cases q
theorem DicO.ns {h : Heap} {d : Addr} {kv : List (Str × Value)} (x : ∃ o, h.get? d = some o ∧ DicO kv o) : h.Ns d (kv.lookup ·) := by
  obtain ⟨o, ho, es, ep, rfl, hz, hk, hm⟩ := x
  exact ⟨_, es, ep, ho, rfl, hk, hm⟩
theorem DicO.look {kv : List (Str × Value)} {o : Obj} (x : DicO kv o) (name : Str) : lookIn name o = some (kv.lookup name) := by
  obtain ⟨es, ep, rfl, hz, hk, hm⟩ := x
  rw [← hm name]
  unfold lookIn nsFind findBy
  dsimp only
  rw [← Array.find?_toList]
  cases e : es.toList.find? fun e => e.key.isStr name with
  | some en => rfl
  | none =>
    dsimp only
    rw [if_neg]
    · rfl
    · rw [Bool.not_eq_true, List.any_eq_false]
      intro en hen
      obtain ⟨n, t, h⟩ := hk en (Array.mem_toList_iff.mp hen)
      simp [DictEntry.refKey, h]
section
variable {prog : Program} {w : World} {A : Around} {E : Value → Shared → Prop} {s : Shared} {g : Heap} {l : Led}
theorem nsSetD {d : Addr} {kv : List (Str × Value)} {name : Str} {v : Value} {Q : Unit → Shared → Prop} (hz : kv.length ≤ 1000) (H : Hp g ((d, DicO kv) :: l) s.heap)
    (h : ∀ h', Hp g ((d, DicO ((name, v) :: kv)) :: l) h' → Q () { s with heap := h', toks := s.toks + 1 }) : wpAny (model prog w) A (nsSet d name v) Q E s := by
  obtain ⟨o, ho, es, ep, rfl, hsz, hk, hm⟩ := H.has _ (.head _)
  unfold nsSet
  refine wpAny_bind (wpAny_bind (wpAny_askSetting (wpAny_pure (wpAny_bind (wpAny_mkText (wpAny_bind (wpAny_loadPart ho ?_)))))))
  dsimp only
  have hany : es.any (·.refKey) = false := by
    rw [Array.any_eq_false']; intro e he; obtain ⟨n, t, h⟩ := hk e he; simp [DictEntry.refKey, h]
  rw [aRefKeyMayBeTheName_at, hany, Bool.and_false, if_neg Bool.false_ne_true]
  refine wpAny_updatePart ho ?_
  cases hi : es.findIdx? (·.key.isStr name) with
  | some i =>
    refine h _ (H.set (o' := { cls := .type "dict", dict := none, data := .dict (es.modify i fun e => { e with val := v }) ep, slots := #[] }) (fun b o hb e => (Heap.get?_update_other _ _ (Ne.symm hb)).trans e) (Heap.get?_update_self _ ho (by simp only [Obj.putName_eq, Obj.putNameByArray, hi]; rfl) |>.trans (by simp only [Obj.putName_eq, Obj.putNameByArray, hi]))
      ⟨_, _, rfl, by simp; omega, hk.modify _ _, fun x => ?_⟩)
    rw [List.lookup_cons, ← hm]
    refine (findBy_modify (fun n v => v.isStr n) Value.isStr_inj es name x v i hi).trans ?_
    by_cases hx : x = name
    · simp [hx]
    · rw [if_neg hx, show (x == name) = false from by simpa using hx]; rfl
  | none =>
    refine h _ (H.set (o' := { cls := .type "dict", dict := none, data := .dict (es.push ⟨_, _, v⟩) (ep + 1), slots := #[] }) (fun b o hb e => (Heap.get?_update_other _ _ (Ne.symm hb)).trans e) (Heap.get?_update_self _ ho (by simp only [Obj.putName_eq, Obj.putNameByArray, hi]; rfl) |>.trans (by simp only [Obj.putName_eq, Obj.putNameByArray, hi]; rfl))
      ⟨_, _, rfl, by simp; omega, hk.push _ _ _ _, fun x => ?_⟩)
    rw [List.lookup_cons, ← hm]
    refine (findBy_push (fun n v => v.isStr n) es name x _ _ v (fun y => by
        show (name == y) = decide (y = name)
        by_cases h : y = name
        · subst h; simp
        · have : ¬ name = y := fun e => h e.symm
          simp [h, this]) hi).trans ?_
    by_cases hx : x = name
    · simp [hx]
    · rw [if_neg hx, show (x == name) = false from by simpa using hx]; rfl
theorem storeInDictD {d : Addr} {kv : List (Str × Value)} {name : Str} {tk : Tok} {v : Value} {Q : PySem.Fin → Shared → Prop} (hz : kv.length ≤ 1000) (H : Hp g ((d, DicO kv) :: l) s.heap)
    (h : ∀ h', Hp g ((d, DicO ((name, v) :: kv)) :: l) h' → Q (.done (.ret .none)) { s with heap := h', toks := s.toks + 1 }) : wpAny (model prog w) A (Builtin.ObjectAttr.storeInDict d (.str name tk) name v) Q E s := by
  unfold Builtin.ObjectAttr.storeInDict
  refine wpAny_bind (wpAny_pure (wpAny_bind (nsSetD hz H fun h' H' => wpAny_bind ?_)))
  obtain ⟨o, ho, es, ep, rfl, hsz, hk, hm⟩ := H'.has _ (.head _)
  refine wpAny_lookBehind ho (pastItsLine_dict ?_) (wpAny_pure (h h' H'))
  rw [List.length_cons] at hsz
  rw [sizeLine_eq]; omega
end
theorem slot_fn_sa : Slot "function" "__setattr__" "object.__setattr__" :=
  .of (owner := "object") (n := "__setattr__") (by rw [typeLookup_type, builtinLookup_eq_fast]; kernel_rfl) (by decide +kernel) (by decide +kernel) (by decide +kernel)
    (by first | exact .inl (by decide +kernel) | exact .inr (by decide +kernel)) (by rw [isSubtype_type]; kernel_rfl)
theorem mro_fn : mroOf (.type "function") = pure [.type "function", .type "object"] := by rw [mroOf_type]; kernel_rfl
theorem passes_fn (self : Value) : refuseLoop self "__setattr__" [.type "function", .type "object"] = pure () := by kernel_rfl
noncomputable def LamO (d : Option Addr) (qual : Str) (params : Arguments) (body : PySem.Expr) (scope : Scope) (clos : List (Str × Addr)) (c' : Addr) (o : Obj) : Prop :=
  ∃ pm ctv, o = { cls := .type "function", dict := d, data := .func (kla_fn "<lambda>" qual params body scope clos pm (.ref c') ctv), slots := #[] }
theorem LamO.nc {d : Option Addr} {qual : Str} {params : Arguments} {body : PySem.Expr} {scope : Scope} {clos : List (Str × Addr)} {c' : Addr} : NotCell (LamO d qual params body scope clos c') := fun o ⟨pm, ctv, e⟩ v q => by rw [e] at q; cases q
section
variable {prog : Program} {w : World} {A : Around} {E : Value → Shared → Prop} {s : Shared} {g : Heap} {l : Led} {qual : Str} {params : Arguments} {body : PySem.Expr} {scope : Scope} {clos : List (Str × Addr)} {c' : Addr}
theorem setFn_open {f : Addr} {name : Str} {v : Value} {Q : Unit → Shared → Prop} (hn : typeLookup (.type "function") name = pure none) (hTy : s.TypeIs (.ref f) "function")
    (h : wpAny (model prog w) A.in1 (Builtin.ObjectAttr.ownDictForStores (.ref f) >>= fun r => match r with
      | some d => Builtin.ObjectAttr.storeInDict d (.str name s.toks) name v
      | none => Builtin.ObjectAttr.noDictFor (.ref f) (.type "function") name false) (fun fin s' => ∃ r, fin = .done (.ret r) ∧ Q () s') E { s with toks := s.toks + 1 }) : wpAny (model prog w) A (setAttr (.ref f) name v) Q E s := by
  unfold setAttr
  refine wpAny_bind (wpAny_mkText ?_)
  have hTy2 : ({ s with toks := s.toks + 1 } : Shared).TypeIs (.ref f) "function" := hTy
  refine wpAny_bind (wpAny_callSpecial?_slot (name := Str.ofString "__setattr__") hTy2 slot_fn_sa (wpAny_call_entry slot_fn_sa hTy2 F.entry_object_sa ?_ (F.store_object.args _ _ _)))
  rw [osa_eq, refuse_eq]
  refine wpAny_bind (wpAny_bind (wpAny_typeOf hTy2 ?_))
  refine wpAny_bind (wpAny_of_eq mro_fn ?_)
  rw [passes_fn]
  refine wpAny_pure (wpAny_bind (wpAny_typeOf hTy2 ?_))
  refine wpAny_bind (wpAny_of_eq hn ?_)
  refine wpAny_bind (m := Builtin.ObjectAttr.storeTaker? none) (wpAny_pure ?_)
  show wpAny _ _ (Builtin.ObjectAttr.storeInOwnDict _ _ _ _ _ _) _ _ _
  unfold Builtin.ObjectAttr.storeInOwnDict
  refine wpAny_bind (m := ownStreamTells (.ref f) (.type "function")) (wpAny_of_eq (a := ()) (by kernel_rfl) ?_)
  refine wpAny_mono h (fun fin s' q => ?_) fun _ _ e => e
  obtain ⟨r, rfl, q⟩ := q
  exact ⟨r, rfl, wpAny_pure q⟩
/-- the first attribute that a lambda's object bears -/
theorem setFn0 {f : Addr} {name : Str} {v : Value} {Q : Unit → Shared → Prop} (hn : typeLookup (.type "function") name = pure none) (H : Hp g ((f, LamO none qual params body scope clos c') :: l) s.heap)
    (h : ∀ d h' tk, Hp g ((d, DicO [(name, v)]) :: (f, LamO (some d) qual params body scope clos c') :: l) h' → Q () { s with heap := h', toks := tk }) : wpAny (model prog w) A (setAttr (.ref f) name v) Q E s := by
  obtain ⟨o, ho, pm, ctv, rfl⟩ := H.has _ (.head _)
  refine setFn_open hn ⟨_, ho, rfl⟩ ?_
  show wpAny _ _ (instanceDict f true >>= _) _ _ _
  unfold instanceDict
  refine wpAny_bind (wpAny_bind (wpAny_loadPart ho ?_))
  dsimp only
  rw [if_neg (by decide +kernel)]
  refine wpAny_bind (wpAny_alloc ?_)
  have H1 : Hp g ((s.heap.objs.size, DicO []) :: (f, LamO none qual params body scope clos c') :: l) (s.heap.push { cls := .type "dict", data := .dict #[] }) := H.push (P := DicO []) _ ⟨#[], 0, rfl, Nat.le_refl _, fun e he => by simp at he, fun x => rfl⟩
  have ho1 := Heap.get?_push_of_some { cls := .type "dict", data := .dict #[] } ho
  refine wpAny_bind (wpAny_update' ho1 ?_)
  have H2 : Hp g ((f, LamO none qual params body scope clos c') :: (s.heap.objs.size, DicO []) :: l) (s.heap.push { cls := .type "dict", data := .dict #[] }) := H1.perm (.swap ..)
  have H3 : Hp g ((f, LamO (some s.heap.objs.size) qual params body scope clos c') :: (s.heap.objs.size, DicO []) :: l) ((s.heap.push { cls := .type "dict", data := .dict #[] }).update f fun o => { o with dict := some s.heap.objs.size }) :=
    H2.set (o' := _) (fun b o hb e => (Heap.get?_update_other _ _ (Ne.symm hb)).trans e) (Heap.get?_update_self _ ho1 rfl) ⟨pm, ctv, rfl⟩
  refine wpAny_of_eq (a := some s.heap.objs.size) (by kernel_rfl) ?_
  refine storeInDictD (by simp) (H3.perm (.swap ..)) fun h' H' => ⟨_, rfl, ?_⟩
  exact h _ h' _ H'
/-- a further one -/
theorem setFn1 {f d : Addr} {kv : List (Str × Value)} {name : Str} {v : Value} {Q : Unit → Shared → Prop} (hn : typeLookup (.type "function") name = pure none) (hz : kv.length ≤ 1000) (H : Hp g ((d, DicO kv) :: (f, LamO (some d) qual params body scope clos c') :: l) s.heap)
    (h : ∀ h' tk, Hp g ((d, DicO ((name, v) :: kv)) :: (f, LamO (some d) qual params body scope clos c') :: l) h' → Q () { s with heap := h', toks := tk }) : wpAny (model prog w) A (setAttr (.ref f) name v) Q E s := by
  obtain ⟨o, ho, pm, ctv, rfl⟩ := H.has (f, LamO (some d) qual params body scope clos c') (.tail _ (.head _))
  refine setFn_open hn ⟨_, ho, rfl⟩ ?_
  show wpAny _ _ (instanceDict f true >>= _) _ _ _
  unfold instanceDict
  refine wpAny_bind (wpAny_bind (wpAny_loadPart ho ?_))
  refine wpAny_pure ?_
  refine storeInDictD hz H fun h' H' => ⟨_, rfl, ?_⟩
  exact h h' _ H'
theorem nolk_applies : typeLookup (.type "function") "applies_to" = pure none := by rw [typeLookup_type, builtinLookup_eq_fast]; kernel_rfl
theorem nolk_allowance : typeLookup (.type "function") "allowance" = pure none := by rw [typeLookup_type, builtinLookup_eq_fast]; kernel_rfl
end
noncomputable def lamAt (b : List Stmt) (i : Nat) : Option (Arguments × PySem.Expr × Scope × Pos) := match b[i]? with
  | some (.Assign _ (.Lambda params body scope pos) _) => some (params, body, scope, pos)
  | _ => none
noncomputable def la1 : { p : Arguments × PySem.Expr × Scope × Pos // lamAt bd_134.1 0 = some p } := ⟨_, rfl⟩
noncomputable def la2 : { p : Arguments × PySem.Expr × Scope × Pos // lamAt bd_134.1 1 = some p } := ⟨_, rfl⟩
section
variable {M : Model} {A : Around} {E : Value → Shared → Prop} {s : Shared} {g : Heap} {env : Env} {own : List (Str × Addr)} {u : List (Str × Value)} {l : Led} {Q : Value → Shared → Prop}
  {qual : Str} {params : Arguments} {body : PySem.Expr} {scope : Scope} {c P : Addr} {ps : Array Value} {pos : Pos} {firstLine : Nat} {mg : Str → Option Value} {clos : List (Str × Addr)}
/-- a lambda is made for the first time -/
theorem mkLam (S : St g env own u ((P, TabO ps) :: l) s.heap) (hmg : g.Ns mainGlobals mg) (hb : g.BuiltinsAt mg P) (hge0 : env.globals = mainGlobals) (hcode : env.code = .ref c) (C : CodeHd g c P) (ht : TriplesOk ps.toList) (hnf : codeAmong pos ps.toList = none)
    (hcl : closureFor scope env = pure clos)
    (h : ∀ f c' h' tk, St g env own u ((f, LamO none qual params body scope clos c') :: (c', CodeO qual) :: (P, TabO (ps ++ #[rawInt pos.line, rawInt pos.col, .ref c'])) :: l) h' → Q (.ref f) { s with heap := h', toks := tk }) :
    wpAny M A (makeFunction "<lambda>" qual params (.expr body) scope env [] [] [] pos firstLine) Q E s := by
  have H : Hp g ((P, TabO ps) :: (frL env own u ++ l)) s.heap := S.hp.unmid
  obtain ⟨o, hP, rfl⟩ := H.has (P, TabO ps) (.head _)
  have hgP : mainGlobals ≠ P := fun e => by
    have h0 : g.get? P = none := H.off (P, TabO ps) (.head _)
    obtain ⟨o, ho⟩ := ns_get hmg
    rw [e, h0] at ho; cases ho
  refine kla_makeFunction hcl hge0 (hmg.keeps H.base) hcode (C.keeps H.base) hP ht hnf hgP (builtinsAt_keeps hb H.base) fun c' ctv h' tk hx hge hlt hrec htb => ?_
  have H1 : Hp g ((P, TabO (ps ++ #[rawInt pos.line, rawInt pos.col, .ref c'])) :: (frL env own u ++ l)) h' := H.set (P' := TabO _) (fun b o hb e => hx b o hb e) htb rfl
  obtain ⟨cc, oc, vs, t, e1, e2, e3, e4⟩ := hrec
  cases e1
  have H2 : Hp g ((c', CodeO qual) :: (P, TabO (ps ++ #[rawInt pos.line, rawInt pos.col, .ref c'])) :: (frL env own u ++ l)) h' := H1.cons (P := CodeO qual) (fun p hp e => ?_) ?_ e2 ⟨vs, t, e3, e4⟩
  · have H3 := H2.push (P := LamO none qual params body scope clos c') (kla_obj "<lambda>" qual params body scope clos ((mg "__name__").getD .none) c' ctv) ⟨_, _, rfl⟩
    refine h _ c' _ tk (S.of' (H3.le fun a => by simp only [cnt_cons, cnt_append]; first | ac_rfl | omega) fun p hp => ?_)
    rcases List.mem_cons.mp hp with rfl | hp
    · exact .inr fun o e v q => by rw [e] at q; cases q
    · exact .inl (.tail _ (.tail _ (.tail _ hp)))
  · rcases List.mem_cons.mp hp with rfl | hp
    · exact absurd (Nat.lt_of_lt_of_le (e ▸ H.below (q := (P, TabO ps)) (.head _)) hge) (Nat.lt_irrefl _)
    · exact absurd (Nat.lt_of_lt_of_le (e ▸ H.below (q := p) (.tail _ hp)) hge) (Nat.lt_irrefl _)
  · cases e : g.get? c' with
    | none => rfl
    | some o =>
      exact absurd (Nat.lt_of_lt_of_le (Heap.lt_size (H.base _ _ e)) hge) (Nat.lt_irrefl _)
/-- a lambda whose code is in the table -/
theorem mkLamHit {c' : Addr} (S : St g env own u ((P, TabO ps) :: l) s.heap) (hmg : g.Ns mainGlobals mg) (hb : g.BuiltinsAt mg P) (hge0 : env.globals = mainGlobals) (hcode : env.code = .ref c) (C : CodeHd g c P) (ht : TriplesOk ps.toList) (hf : codeAmong pos ps.toList = some (.ref c'))
    (hcl : closureFor scope env = pure clos)
    (h : ∀ f h' tk, St g env own u ((f, LamO none qual params body scope clos c') :: (P, TabO ps) :: l) h' → Q (.ref f) { s with heap := h', toks := tk }) :
    wpAny M A (makeFunction "<lambda>" qual params (.expr body) scope env [] [] [] pos firstLine) Q E s := by
  have H : Hp g ((P, TabO ps) :: (frL env own u ++ l)) s.heap := S.hp.unmid
  obtain ⟨o, hP, rfl⟩ := H.has (P, TabO ps) (.head _)
  refine kla_makeFunctionHit hcl hge0 (hmg.keeps H.base) hcode (C.keeps H.base) hP ht hf (builtinsAt_keeps hb H.base) fun ctv h' tk hk _ => ?_
  exact h _ _ tk ((S.keeps hk).push (P := LamO none qual params body scope clos c') _ ⟨_, _, rfl⟩)
end
section
variable {prog : Program} {w : World} {A : Around} {E : Value → Shared → Prop} {s : Shared} {g : Heap} {env : Env} {own : List (Str × Addr)} {u : List (Str × Value)} {l : Led} {qual : Str} {params : Arguments} {body : PySem.Expr} {scope : Scope} {clos : List (Str × Addr)} {c' : Addr}
theorem setFn0S {f : Addr} {name : Str} {v : Value} {Q : Unit → Shared → Prop} (hn : typeLookup (.type "function") name = pure none) (S : St g env own u ((f, LamO none qual params body scope clos c') :: l) s.heap)
    (h : ∀ d h' tk, St g env own u ((d, DicO [(name, v)]) :: (f, LamO (some d) qual params body scope clos c') :: l) h' → Q () { s with heap := h', toks := tk }) : wpAny (model prog w) A (setAttr (.ref f) name v) Q E s :=
  setFn0 hn (S.hp.unmid (l := frL env own u) (b := l)) fun d h' tk H' => h d h' tk (S.of' (H'.le fun a => by simp only [cnt_cons, cnt_append]; first | ac_rfl | omega) fun p hp => by
    rcases List.mem_cons.mp hp with rfl | hp
    · exact .inr LamO.nc
    · exact .inl (.tail _ (.tail _ hp)))
theorem setFn1S {f d : Addr} {kv : List (Str × Value)} {name : Str} {v : Value} {Q : Unit → Shared → Prop} (hn : typeLookup (.type "function") name = pure none) (hz : kv.length ≤ 1000) (S : St g env own u ((d, DicO kv) :: (f, LamO (some d) qual params body scope clos c') :: l) s.heap)
    (h : ∀ h' tk, St g env own u ((d, DicO ((name, v) :: kv)) :: (f, LamO (some d) qual params body scope clos c') :: l) h' → Q () { s with heap := h', toks := tk }) : wpAny (model prog w) A (setAttr (.ref f) name v) Q E s :=
  have H : Hp g ((d, DicO kv) :: (f, LamO (some d) qual params body scope clos c') :: (frL env own u ++ l)) s.heap := S.hp.le fun a => by simp only [cnt_cons, cnt_append]; first | ac_rfl | omega
  setFn1 hn hz H fun h' tk H' => h h' tk (S.of' (H'.le fun a => by simp only [cnt_cons, cnt_append]; first | ac_rfl | omega) fun p hp => by
    rcases List.mem_cons.mp hp with rfl | hp
    · exact .inr (DicO.nc _)
    · exact .inl (.tail _ hp))
end
noncomputable def qLam : Str := Str.ofString "_law_rule.<locals>.<lambda>"
/-- the table of _law_rule: empty, or with both its lambdas -/
noncomputable def HL : Option (Addr × Addr) → Led
  | none => [(129, TabO #[])]
  | some (c1, c2) => [(129, TabO ((#[] ++ #[rawInt la1.1.2.2.2.line, rawInt la1.1.2.2.2.col, .ref c1]) ++ #[rawInt la2.1.2.2.2.line, rawInt la2.1.2.2.2.col, .ref c2])), (c1, CodeO qLam), (c2, CodeO qLam)]
theorem HL_nc : ∀ (o : Option (Addr × Addr)) (p : Addr × (Obj → Prop)), p ∈ HL o → NotCell p.2 := by
  have t : ∀ ps, NotCell (TabO ps) := fun ps o e v q => by rw [e] at q; cases q
  have c : ∀ q, NotCell (CodeO q) := fun q o ⟨vs, t, e, _⟩ v z => by rw [e] at z; cases z
  rintro (_ | ⟨c1, c2⟩) p hp
  · rcases List.mem_singleton.mp hp with rfl; exact t _
  · rcases List.mem_cons.mp hp with rfl | hp
    · exact t _
    · rcases List.mem_cons.mp hp with rfl | hp
      · exact c _
      · rcases List.mem_singleton.mp hp with rfl; exact c _
theorem qual_lam (w : World) (L : Addr) : (fenv (fdOf w 134) L 134).qual ++ ("<lambda>" : Str) = qLam := by kernel_rfl
theorem clos_la1 (w : World) (L : Addr) : closureFor la1.1.2.2.1 (fenv (fdOf w 134) L 134) = pure [] := by kernel_rfl
theorem own_134 (w : World) (L : Addr) : fown (fdOf w 134) L = [(("names" : Str), L + 2), (("reaches" : Str), L + 1)] := by kernel_rfl
theorem clos_la2 (w : World) (L : Addr) : closureFor la2.1.2.2.1 (fenv (fdOf w 134) L 134) = pure [(("reaches" : Str), L + 1), (("names" : Str), L + 2)] := by kernel_rfl
theorem code_134 (w : World) (L : Addr) : (fenv (fdOf w 134) L 134).code = .ref 133 := by kernel_rfl
/-- a rule's object, with all that it leans on -/
noncomputable def Rul (l : Led) (f rA nA : Addr) (vd : Bool) : Prop := ∃ d c1 f2 c2 cR cN : Addr,
  (f, LamO (some d) qLam la1.1.1 la1.1.2.1 la1.1.2.2.1 [] c1) ∈ l ∧ (d, DicO [("allowance", .bool vd), ("applies_to", .ref f2)]) ∈ l ∧
  (f2, LamO none qLam la2.1.1 la2.1.2.1 la2.1.2.2.1 [("reaches", cR), ("names", cN)] c2) ∈ l ∧ (c2, CodeO qLam) ∈ l ∧
  (∃ P, (cR, P) ∈ l ∧ ∀ o, P o → o.data = .cell (some (.ref rA))) ∧ (∃ P, (cN, P) ∈ l ∧ ∀ o, P o → o.data = .cell (some (.ref nA)))
theorem Rul.mono {l l' : Led} {f rA nA : Addr} {vd : Bool} (r : Rul l f rA nA vd) (h : ∀ p ∈ l, p ∈ l') : Rul l' f rA nA vd :=
  let ⟨d, c1, f2, c2, cR, cN, a, b, c, e, ⟨P, p1, p2⟩, ⟨P', p3, p4⟩⟩ := r
  ⟨d, c1, f2, c2, cR, cN, h _ a, h _ b, h _ c, h _ e, ⟨P, h _ p1, p2⟩, ⟨P', h _ p3, p4⟩⟩
section
variable {prog : Program} {w : World} {A : Around} {E : Value → Shared → Prop} {s : Shared} {g : Heap} {l : Led} {Q : Value → Shared → Prop}
end
theorem slot_fn_ga : Slot "function" "__getattribute__" "object.__getattribute__" :=
  .of (owner := "object") (n := "__getattribute__") (by rw [typeLookup_type, builtinLookup_eq_fast]; kernel_rfl) (by decide +kernel) (by decide +kernel) (by decide +kernel)
    (by first | exact .inl (by decide +kernel) | exact .inr (by decide +kernel)) (by rw [isSubtype_type]; kernel_rfl)
theorem args_oga (a b : Value) : argsOk "object.__getattribute__" ⟨[a, b], []⟩ := by unfold argsOk; rw [Fast.signatureQ_eq]; kernel_rfl
theorem lk_fn_getattr : typeLookup (.type "function") "__getattr__" = pure none := by rw [typeLookup_type, builtinLookup_eq_fast]; kernel_rfl
section
variable {prog : Program} {w : World} {A : Around} {E : Value → Shared → Prop} {s : Shared} {g : Heap} {l : Led} {qual : Str} {params : Arguments} {body : PySem.Expr} {scope : Scope} {clos : List (Str × Addr)} {c' : Addr}
theorem fn_entry {f d : Addr} {kv : List (Str × Value)} {name : Str} {v : Value} {tk : Tok} {Q : PySem.Fin → Shared → Prop} (hn : typeLookup (.type "function") name = pure none) (hf : ∃ o, s.heap.get? f = some o ∧ LamO (some d) qual params body scope clos c' o)
    (hd : ∃ o, s.heap.get? d = some o ∧ DicO kv o) (hv : kv.lookup name = some v) (hq : Q (.done (.ret v)) s) :
    wpAny (model prog w) A (Builtin.«object.__getattribute__» ⟨[.ref f, .str name tk], []⟩) Q E s := by
  obtain ⟨o, ho, pm, ctv, rfl⟩ := hf
  have hD := DicO.ns hd
  have hT : s.TypeIs (.ref f) "function" := ⟨_, ho, rfl⟩
  show wpAny _ _ (typeOf (.ref f) >>= _) _ _ _
  refine wpAny_bind (wpAny_typeOf hT ?_)
  refine wpAny_bind (m := Builtin.ObjectAttr.find (.ref f) (.type "function") name) ?_
  unfold Builtin.ObjectAttr.find
  refine wpAny_bind (wpAny_of_eq hn ?_)
  refine wpAny_bind (m := Builtin.ObjectAttr.getOf none) (wpAny_pure ?_)
  refine wpAny_bind (m := Builtin.ObjectAttr.dataDescriptor? none none) (wpAny_pure ?_)
  show wpAny _ _ (Builtin.ObjectAttr.ownThenClass _ _ _ _) _ _ _
  unfold Builtin.ObjectAttr.ownThenClass Builtin.ObjectAttr.inOwnDict Builtin.ObjectAttr.ownDict
  refine wpAny_bind (wpAny_bind (wpAny_bind (m := loadHead f) (wpAny_loadPart ho ?_)))
  show wpAny _ _ (instanceDict f false) _ _ _
  unfold instanceDict
  refine wpAny_bind (wpAny_loadPart ho ?_)
  refine wpAny_pure ?_
  show wpAny _ _ (nsGet d name) _ _ _
  refine wpAny_nsGet hD ?_
  rw [hv]
  refine wpAny_bind (wpAny_rule (wpAny_pure ?_))
  exact wpAny_pure hq
theorem getFn {f d : Addr} {kv : List (Str × Value)} {name : Str} {v : Value} {ex : Bool} {Q : Value → Shared → Prop} (hn : typeLookup (.type "function") name = pure none) (hf : ∃ o, s.heap.get? f = some o ∧ LamO (some d) qual params body scope clos c' o)
    (hd : ∃ o, s.heap.get? d = some o ∧ DicO kv o) (hv : kv.lookup name = some v) (hh : handedOut v = pure v) (hq : Q v { s with toks := s.toks + 1 }) : wpAny (model prog w) A (getAttr (.ref f) name ex) Q E s := by
  have hT : ({ s with toks := s.toks + 1 } : Shared).TypeIs (.ref f) "function" := let ⟨o, ho, pm, ctv, e⟩ := hf; ⟨o, ho, by rw [e]⟩
  unfold getAttr getAttrBy
  refine wpAny_bind (wpAny_mkText (wpAny_holding (wpAny_bind (wpAny_typeOf hT (wpAny_bind (wpAny_of_eq slot_fn_ga.lookup ?_))))))
  show wpAny _ _ (getAttrByItsOwn (.ref f) (.str name s.toks) (.type "function") (.builtin "object.__getattribute__") true ex) _ _ _
  unfold getAttrByItsOwn hookBefore callGetattribute boundAndCalled
  refine wpAny_bind (wpAny_of_eq (show (if onTheHeap (.type "function") then typeLookup (.type "function") "__getattr__" else pure none) = pure none from rfl) ?_)
  refine wpAny_bind (wpAny_attempt (wpAny_holding ?_))
  rw [if_neg (by cases ex <;> decide)]
  refine wpAny_bind (wpAny_of_eq (slot_fn_ga.bind _) ?_)
  refine wpAny_mono (Q := fun v' s' => v' = v ∧ s' = { s with toks := s.toks + 1 }) (E := fun _ _ => False)
    (wpAny_call_entry slot_fn_ga hT F.entry_object_getattribute (fn_entry hn hf hd hv ⟨_, rfl, rfl, rfl⟩) (args_oga _ _)) (fun v' s' hv' => ?_) fun _ _ z => z.elim
  obtain ⟨rfl, rfl⟩ := hv'
  show wpAny _ _ (handedOut v') _ _ _
  rw [hh]
  exact wpAny_pure hq
theorem getMethodFn {f d : Addr} {kv : List (Str × Value)} {name : Str} {v : Value} {pl : Sem Bool} {Q : Value × List Value → Shared → Prop} (hn : typeLookup (.type "function") name = pure none) (hf : ∃ o, s.heap.get? f = some o ∧ LamO (some d) qual params body scope clos c' o)
    (hd : ∃ o, s.heap.get? d = some o ∧ DicO kv o) (hv : kv.lookup name = some v) (hh : handedOut v = pure v) (hq : Q (v, []) { s with toks := s.toks + 1 }) : wpAny (model prog w) A (getMethod (.ref f) name pl) Q E s := by
  have hT : s.TypeIs (.ref f) "function" := let ⟨o, ho, pm, ctv, e⟩ := hf; ⟨o, ho, by rw [e]⟩
  have hcan := PySem.F.canon_object_ga
  unfold getMethod
  refine wpAny_bind (wpAny_specialOf hT slot_fn_ga.lookup ?_)
  dsimp only
  rw [hcan, if_neg (by decide)]
  refine wpAny_bind (wpAny_specialOf hT lk_fn_getattr ?_)
  refine wpAny_bind (wpAny_specialOf hT hn ?_)
  exact wpAny_bind (getFn hn hf hd hv hh (wpAny_pure hq))
end
theorem ne_lt_idx {k : List Nat} : ∀ {ns : List (List Nat)} {j : Nat}, j < ns.idxOf k → ∀ (h2 : j < ns.length), (ns[j] == k) = false
  | n :: r, 0, h, _ => by
    by_cases e : n = k
    · subst e; simp at h
    · simpa using e
  | n :: r, j + 1, h, h2 => by
    by_cases e : n = k
    · subst e; simp at h
    · have h' : j < r.idxOf k := by
        rw [List.idxOf_cons, show (n == k) = false from by simpa using e] at h
        simpa using h
      exact ne_lt_idx (ns := r) h' (by simpa using h2)
theorem strsAre : ∀ {xs : List (List Nat)} {vs : List Value}, Strs xs vs → StrsAre vs (xs.map Tx)
  | [], vs, h => by rw [List.length_eq_zero_iff.mp h.1]; exact .nil
  | x :: xs, vs, h => by
    obtain ⟨t, e⟩ := h.2 0 x rfl
    cases vs with
    | nil => cases e
    | cons v r =>
      have : v = .str (Tx x) t := by simpa using e
      subst this
      exact .cons _ _ (strsAre ⟨by have := h.1; simpa using this, fun i y hy => h.2 (i + 1) y hy⟩)
section
variable {prog : Program} {w : World} {A : Around} {E : Value → Shared → Prop} {s : Shared} {g : Heap} {l : Led} {Q : Value → Shared → Prop}
theorem indexS {nA : Addr} {nv : List Value} {nms : List (List Nat)} {nm : List Nat} {t : Tok} (H : Hp g l s.heap) (hm : (nA, ListO nv) ∈ l) (hnv : Strs nms nv) (hz : nms.length ≤ 1000) (hk : nm ∈ nms)
    (h : Q (.int (nms.idxOf nm : Nat) s.toks) { s with toks := s.toks + 1 }) : wpAny (model prog w) A (call (.builtin "list.index") [.ref nA, .str (Tx nm) t]) Q E s := by
  obtain ⟨n, ho⟩ := ListO.obj (H.get hm)
  have hj : nms.idxOf nm < nms.length := List.idxOf_lt_length_iff.mpr hk
  have hat : ∀ (j : Nat) (hj : j < nv.length), isStrOf (Tx nm) nv[j] = (nms[j]'(by rw [← hnv.1]; exact hj) == nm) := fun j hj => by
    have hj' : j < nms.length := by rw [← hnv.1]; exact hj
    obtain ⟨t', e⟩ := hnv.2 j nms[j] (List.getElem?_eq_getElem hj')
    rw [List.getElem?_eq_getElem hj] at e
    injection e with e
    rw [e]
    show (Tx nms[j] == Tx nm) = _
    rw [Tx_beq]
  refine call_meets PySem.F.slot_list_index ⟨_, ho, rfl⟩ PySem.F.entry_list_index (PySem.F.args_list_index_2 _ _)
    (PySem.SeqAt.list_indexAt nA nv.toArray n none #[] (.str (Tx nm) t) (isStrOf (Tx nm)) (nms.idxOf nm) (by simpa [hnv.1] using hj) (by omega) ?_ ?_) ⟨ho, fun y hy => (eq_isStrOf (Tx nm) t (strsAre hnv) y (by simpa using hy)).at _ _, h⟩
  · show isStrOf (Tx nm) (nv[nms.idxOf nm]'(by rw [hnv.1]; exact hj)) = true
    rw [hat _ (by rw [hnv.1]; exact hj)]
    simp
  · intro j hjs hlt
    have hjs' : j < nv.length := by simpa using hjs
    show isStrOf (Tx nm) nv[j] = false
    rw [hat j hjs']
    have hl : j < nms.length := by rw [← hnv.1]; exact hjs'
    exact ne_lt_idx hlt hl
/-- the call of a lambda -/
theorem lam_call {qual : Str} {params : Arguments} {body : PySem.Expr} {scope : Scope} {clos : List (Str × Addr)} {d : Option Addr} {f c' : Addr} {args : Args} {binds cu : List (Str × Value)} {n : Nat} (W : Wd w g) (R : Rm A (n + 1)) (H : Hp g l s.heap)
    (hf : (f, LamO d qual params body scope clos c') ∈ l) (hc : (c', CodeO qual) ∈ l)
    (hbind : ∀ pm ctv, bindArgs (kla_fn "<lambda>" qual params body scope clos pm (.ref c') ctv) args = pure binds)
    (hk : scope.kind = .function) (hnd : (scope.names.map (·.1)).Nodup) (hbn : (binds.map (·.1)).Nodup)
    (hb : ∀ x ∈ binds, scope.names.lookup x.1 = some .local ∨ scope.names.lookup x.1 = some .cell)
    (hcu : ∀ x v, (x, v) ∈ cu → scope.names.lookup x = some .free ∧ ∃ c, clos.lookup x = some c ∧ ∃ P, (c, P) ∈ l ∧ ∀ o, P o → o.data = .cell (some v))
    (hco : scope.isCoroutine = false) (hgen : scope.isGenerator = false)
    (h : ∀ L h₁ tk, St g (fenv (kla_fn "<lambda>" qual params body scope clos .none (.ref c') .none) L f) (fown (kla_fn "<lambda>" qual params body scope clos .none (.ref c') .none) L) (binds ++ cu) l h₁ → Rm (A.deeper (fenv (kla_fn "<lambda>" qual params body scope clos .none (.ref c') .none) L f)) n →
      wpAny (model prog w) (A.deeper (fenv (kla_fn "<lambda>" qual params body scope clos .none (.ref c') .none) L f)) (eval body (fenv (kla_fn "<lambda>" qual params body scope clos .none (.ref c') .none) L f)) Q (fun _ _ => False) { s with heap := h₁, toks := tk }) :
    wpAny (model prog w) A (call (.ref f) args.pos args.kw) Q E s := by
  obtain ⟨o, ho, pm, ctv, e⟩ := H.has _ hf
  obtain ⟨oc, hoc, vs, t, e1, e2⟩ := H.has _ hc
  have hcd : s.heap.CodeRec (.ref c') qual := ⟨c', oc, vs, t, rfl, hoc, e1, e2⟩
  refine wpAny_call (kla_callFunE (fd := kla_fn "<lambda>" qual params body scope clos pm (.ref c') ctv) R.room ho (by rw [e]) hco hgen rfl hcd ?_)
  rw [hbind pm ctv]
  refine wpAny_pure (newEnv_St (fd := kla_fn "<lambda>" qual params body scope clos pm (.ref c') ctv) (cu := cu) H hk hnd hbn hb hcu fun h' tk S => ⟨W.lim.keeps S.hp.base, ?_⟩)
  exact kla_codeExpr (wpAny_mono (h _ _ _ S (R.deeper _)) (fun _ _ q => q) fun _ _ q => q.elim)
theorem lam_Kd {qual : Str} {params : Arguments} {body : PySem.Expr} {scope : Scope} {clos : List (Str × Addr)} {c' L f : Addr} (hk : scope.kind = .function) : Kd (fenv (kla_fn "<lambda>" qual params body scope clos .none (.ref c') .none) L f) scope.names := by
  refine ⟨fun x => rfl, ?_, ?_, ?_⟩
  all_goals first | rfl | exact hk | skip
theorem la2_names : (la2.1.2.2.1.names.map (·.1)).Nodup := by decide +kernel
theorem rul_call {n : Nat} (W : Wd w g) (R : Rm A (n + 3)) (H : Hp g l s.heap) {f2 c2 cR cN rA nA : Addr} {rv nv : List Value} {reach : List Nat} {nms : List (List Nat)} {nm : List Nat} {t : Tok}
    (hf : (f2, LamO none qLam la2.1.1 la2.1.2.1 la2.1.2.2.1 [("reaches", cR), ("names", cN)] c2) ∈ l) (hc : (c2, CodeO qLam) ∈ l)
    (hR : ∃ P, (cR, P) ∈ l ∧ ∀ o, P o → o.data = .cell (some (.ref rA))) (hN : ∃ P, (cN, P) ∈ l ∧ ∀ o, P o → o.data = .cell (some (.ref nA)))
    (hrA : (rA, ListO rv) ∈ l) (hrv : Nats rv reach) (hnA : (nA, ListO nv) ∈ l) (hnv : Strs nms nv) (hz : nms.length ≤ 1000) (hl : reach.length = nms.length) (hk : nm ∈ nms)
    (h : ∀ t new h' tk, Hp g (new ++ l) h' → Q (.int ((reach.getD (nms.idxOf nm) 0 : Nat) : Int) t) { s with heap := h', toks := tk }) : wpAny (model prog w) A (call (.ref f2) [.str (Tx nm) t] []) Q E s := by
  refine lam_call (args := ⟨[.str (Tx nm) t], []⟩) (binds := [("name", .str (Tx nm) t)]) (cu := [("reaches", .ref rA), ("names", .ref nA)]) W R H hf hc (fun _ _ => by kernel_rfl) (by kernel_rfl) la2_names (show (["name"] : List Str).Nodup by decide +kernel) (fun x hx => by
    rcases List.mem_singleton.mp hx with rfl; exact .inl (by dsimp only; decide +kernel)) ?_ (by kernel_rfl) (by kernel_rfl) fun L h₁ tk S R1 => ?_
  · intro x v hx
    rcases List.mem_cons.mp hx with e | hx
    · cases e
      obtain ⟨P, hP, hq⟩ := hR
      exact ⟨by decide +kernel, cR, rfl, P, hP, hq⟩
    · rcases List.mem_singleton.mp hx with e
      cases e
      obtain ⟨P, hP, hq⟩ := hN
      exact ⟨by decide +kernel, cN, by kernel_rfl, P, hP, hq⟩
  have KD := lam_Kd (qual := qLam) (params := la2.1.1) (body := la2.1.2.1) (scope := la2.1.2.2.1) (clos := [("reaches", cR), ("names", cN)]) (c' := c2) (L := L) (f := f2) (by kernel_rfl)
  dsimp only [la2, List.cons_append, List.nil_append] at KD S R1 ⊢
  repeat walk_at "rp"
  refine mcL PySem.F.slot_list_index PySem.F.type_list_index rfl rfl rfl rfl rfl ?_
  repeat walk_at "rp"
  refine ⟨nA, nv, rfl, S.get hnA, ?_⟩
  repeat walk_at "rp"
  refine indexS S.led hnA hnv hz hk ?_
  have hj : nms.idxOf nm < nms.length := List.idxOf_lt_length_iff.mpr hk
  have hx : reach[nms.idxOf nm]? = some (reach.getD (nms.idxOf nm) 0) := by rw [List.getD_eq_getElem?_getD, List.getElem?_eq_getElem (by omega)]; rfl
  obtain ⟨v, hv⟩ : ∃ v, rv[nms.idxOf nm]? = some v := ⟨_, List.getElem?_eq_getElem (by rw [hrv.len]; omega)⟩
  obtain ⟨k, tk', rfl, hk'⟩ := hrv.get hv
  rw [hx] at hk'; injection hk' with hk'; subst hk'
  refine itemL S.led hrA (by omega) (by omega) (by rw [Int.toNat_natCast]; exact hv) ?_ rfl
  exact h _ _ _ _ S.hp
end
/-- the def of that name in the class Entry of the text -/
noncomputable def clsStmts : List Stmt := match PySem.Challenge.pw_ij0197_01.main.body.find? (fun st => match st with | .ClassDef m .. => m == ("Entry" : Str) | _ => false) with
  | some (.ClassDef _ _ _ b _ _ _ _ _ _ _) => b | _ => []
noncomputable def clsBody (n : Str) : Option (List Stmt) := match clsStmts.find? (fun st => match st with | .FunctionDef m .. => m == n | _ => false) with
  | some (.FunctionDef _ _ b _ _ _ _ _ _ _) => some b | _ => none
noncomputable def clsNames (n : Str) : Option (List (Str × NameKind)) := match clsStmts.find? (fun st => match st with | .FunctionDef m .. => m == n | _ => false) with
  | some (.FunctionDef _ _ _ _ _ _ sc _ _ _) => some sc.names | _ => none

noncomputable def nm_28 : { b : List (Str × NameKind) // clsNames "__init__" = some b } := ⟨_, rfl⟩
theorem kd_28 (w : World) (L : Addr) : Kd (fenv (fdOf w 28) L 28) nm_28.1 := ⟨fun x => congrArg (fun n => List.lookup x n) (by kernel_rfl : (fdOf w 28).scope.names = nm_28.1), by kernel_rfl, by kernel_rfl, by kernel_rfl⟩
noncomputable def bd_28 : { b : List Stmt // clsBody "__init__" = some b } := ⟨_, rfl⟩
theorem bh_28 (w : World) : (fdOf w 28).body = .stmts bd_28.1 := by kernel_rfl
theorem lk_28 (w : World) : (KK w).lookup 28 = some ⟨.type "function", none, .func (fdOf w 28), #[]⟩ := by kernel_rfl
theorem cd_28 (w : World) : codeIn (KK w) (fdOf w 28).code (fdOf w 28).qualname = true := by kernel_rfl
theorem fi_28 (w : World) : findIn (KK w) (.ref 52) "__init__" = some (some (.ref 28)) := by kernel_rfl
theorem ty_28 (w : World) : typeIn (KK w) (.ref 28) = some (.type "function") := by kernel_rfl
noncomputable def nm_42 : { b : List (Str × NameKind) // clsNames "applies_to" = some b } := ⟨_, rfl⟩
theorem kd_42 (w : World) (L : Addr) : Kd (fenv (fdOf w 42) L 42) nm_42.1 := ⟨fun x => congrArg (fun n => List.lookup x n) (by kernel_rfl : (fdOf w 42).scope.names = nm_42.1), by kernel_rfl, by kernel_rfl, by kernel_rfl⟩
noncomputable def bd_42 : { b : List Stmt // clsBody "applies_to" = some b } := ⟨_, rfl⟩
theorem bh_42 (w : World) : (fdOf w 42).body = .stmts bd_42.1 := by kernel_rfl
theorem lk_42 (w : World) : (KK w).lookup 42 = some ⟨.type "function", none, .func (fdOf w 42), #[]⟩ := by kernel_rfl
theorem cd_42 (w : World) : codeIn (KK w) (fdOf w 42).code (fdOf w 42).qualname = true := by kernel_rfl
theorem fi_42 (w : World) : findIn (KK w) (.ref 52) "applies_to" = some (some (.ref 42)) := by kernel_rfl
theorem ty_42 (w : World) : typeIn (KK w) (.ref 42) = some (.type "function") := by kernel_rfl
noncomputable def nm_49 : { b : List (Str × NameKind) // clsNames "allowance" = some b } := ⟨_, rfl⟩
theorem kd_49 (w : World) (L : Addr) : Kd (fenv (fdOf w 49) L 49) nm_49.1 := ⟨fun x => congrArg (fun n => List.lookup x n) (by kernel_rfl : (fdOf w 49).scope.names = nm_49.1), by kernel_rfl, by kernel_rfl, by kernel_rfl⟩
noncomputable def bd_49 : { b : List Stmt // clsBody "allowance" = some b } := ⟨_, rfl⟩
theorem bh_49 (w : World) : (fdOf w 49).body = .stmts bd_49.1 := by kernel_rfl
theorem lk_49 (w : World) : (KK w).lookup 49 = some ⟨.type "function", none, .func (fdOf w 49), #[]⟩ := by kernel_rfl
theorem cd_49 (w : World) : codeIn (KK w) (fdOf w 49).code (fdOf w 49).qualname = true := by kernel_rfl
theorem fi_49 (w : World) : findIn (KK w) (.ref 52) "allowance" = some (some (.ref 49)) := by kernel_rfl
theorem ty_49 (w : World) : typeIn (KK w) (.ref 49) = some (.type "function") := by kernel_rfl
theorem c52_makes (w : World) : makesIn (KK w) 52 = true := by kernel_rfl
theorem c52_sa (w : World) : findIn (KK w) (.ref 52) "__setattr__" = some (some (.builtin "object.__setattr__")) := by kernel_rfl
theorem c52_ga (w : World) : findIn (KK w) (.ref 52) "__getattribute__" = some (some (.builtin "object.__getattribute__")) := by kernel_rfl
theorem c52_gt (w : World) : findIn (KK w) (.ref 52) "__getattr__" = some none := by kernel_rfl
theorem c52_over (w : World) : plainOver (KK w) 52 = true := by kernel_rfl
theorem c52_dict (w : World) : (clsIn (KK w) 52).any (·.hasDict) = true := by kernel_rfl
theorem fi_useragents (w : World) : findIn (KK w) (.ref 52) "useragents" = some none := by kernel_rfl
theorem tk_useragents (w : World) : takerIn (KK w) 52 "useragents" = some none := by kernel_rfl
theorem fi_rulelines (w : World) : findIn (KK w) (.ref 52) "rulelines" = some none := by kernel_rfl
theorem tk_rulelines (w : World) : takerIn (KK w) 52 "rulelines" = some none := by kernel_rfl
theorem fi_delay (w : World) : findIn (KK w) (.ref 52) "delay" = some none := by kernel_rfl
theorem tk_delay (w : World) : takerIn (KK w) 52 "delay" = some none := by kernel_rfl
theorem fi_req_rate (w : World) : findIn (KK w) (.ref 52) "req_rate" = some none := by kernel_rfl
theorem tk_req_rate (w : World) : takerIn (KK w) 52 "req_rate" = some none := by kernel_rfl
theorem tc_weight (C : Addr) (rest : List Value) : (Code.builtin "type.__call__" ⟨.ref C :: rest, []⟩).weight = 1 := by kernel_rfl
theorem tc_units (C : Addr) (rest : List Value) : (Code.builtin "type.__call__" ⟨.ref C :: rest, []⟩).cUnits = 1 := by kernel_rfl
theorem Rm.tc {A : Around} {n : Nat} (R : Rm A (n + 1)) (C : Addr) (rest : List Value) : Rm (A.under (.builtin "type.__call__" ⟨.ref C :: rest, []⟩)) n :=
  ⟨R.hh, by have := R.dp; show A.depth + (Code.builtin "type.__call__" ⟨.ref C :: rest, []⟩).weight + n < 900; rw [tc_weight]; omega, by have := R.un; show A.units + (Code.builtin "type.__call__" ⟨.ref C :: rest, []⟩).cUnits + 8 * n < 9000; rw [tc_units]; omega⟩
noncomputable def InstO (dx : Addr) (o : Obj) : Prop := o = instObj 52 dx
theorem InstO.nc (dx : Addr) : NotCell (InstO dx) := fun o e v q => by rw [e] at q; cases q
/-- the dict of an Entry -/
structure EntK (kv : List (Str × Value)) (ua rl : Addr) (dl : Value) : Prop where
  sz : kv.length ≤ 20
  ua : kv.lookup ("useragents" : Str) = some (.ref ua)
  rl : kv.lookup ("rulelines" : Str) = some (.ref rl)
  dl : kv.lookup ("delay" : Str) = some dl
  rr : kv.lookup ("req_rate" : Str) = some .none
  ap : kv.lookup ("applies_to" : Str) = none
  al : kv.lookup ("allowance" : Str) = none
theorem look_ne {x y : Str} {v : Value} {kv : List (Str × Value)} (h : (x == y) = false) : List.lookup x ((y, v) :: kv) = kv.lookup x := by rw [List.lookup_cons, h]
theorem look_eq {x : Str} {v : Value} {kv : List (Str × Value)} : List.lookup x ((x, v) :: kv) = some v := by rw [List.lookup_cons]; simp
theorem EntK.setDl {kv : List (Str × Value)} {a b : Addr} {d v : Value} (k : EntK kv a b d) (hz : kv.length ≤ 19) : EntK (("delay", v) :: kv) a b v :=
  ⟨by rw [List.length_cons]; omega, (look_ne (by decide +kernel)).trans k.ua, (look_ne (by decide +kernel)).trans k.rl, look_eq, (look_ne (by decide +kernel)).trans k.rr, (look_ne (by decide +kernel)).trans k.ap, (look_ne (by decide +kernel)).trans k.al⟩
theorem EntK.setUa {kv : List (Str × Value)} {a b c : Addr} {d : Value} (k : EntK kv a b d) (hz : kv.length ≤ 19) : EntK (("useragents", .ref c) :: kv) c b d :=
  ⟨by rw [List.length_cons]; omega, look_eq, (look_ne (by decide +kernel)).trans k.rl, (look_ne (by decide +kernel)).trans k.dl, (look_ne (by decide +kernel)).trans k.rr, (look_ne (by decide +kernel)).trans k.ap, (look_ne (by decide +kernel)).trans k.al⟩
theorem EntK.setRl {kv : List (Str × Value)} {a b c : Addr} {d : Value} (k : EntK kv a b d) (hz : kv.length ≤ 19) : EntK (("rulelines", .ref c) :: kv) a c d :=
  ⟨by rw [List.length_cons]; omega, (look_ne (by decide +kernel)).trans k.ua, look_eq, (look_ne (by decide +kernel)).trans k.dl, (look_ne (by decide +kernel)).trans k.rr, (look_ne (by decide +kernel)).trans k.ap, (look_ne (by decide +kernel)).trans k.al⟩
theorem EntK.setRr {kv : List (Str × Value)} {a b : Addr} {d : Value} (k : EntK kv a b d) (hz : kv.length ≤ 19) : EntK (("req_rate", .none) :: kv) a b d :=
  ⟨by rw [List.length_cons]; omega, (look_ne (by decide +kernel)).trans k.ua, (look_ne (by decide +kernel)).trans k.rl, (look_ne (by decide +kernel)).trans k.dl, look_eq, (look_ne (by decide +kernel)).trans k.ap, (look_ne (by decide +kernel)).trans k.al⟩
theorem findObj_own {K : Frag} {C : Addr} {od : Obj} {name : Str} {v : Value} (hn : findIn K (.ref C) name = some none) (hd : (clsIn K C).any (·.hasDict) = true) (hl : lookIn name od = some (some v)) : findObj K C (some od) name = some (.value v) := by
  obtain ⟨cd, hc, hd⟩ := any_some hd
  unfold findObj
  rw [hc, Option.bind_some, hn, Option.bind_some]
  simp only [Option.bind_some, PySem.W.ownOf, hd, if_true, hl]
section
variable {prog : Program} {w : World} {A : Around} {E : Value → Shared → Prop} {s : Shared} {g : Heap} {env : Env} {own : List (Str × Addr)} {u : List (Str × Value)} {l : Led}
theorem instAt {h : Heap} {x dx : Addr} {kv : List (Str × Value)} (hx : ∃ o, h.get? x = some o ∧ InstO dx o) (hd : ∃ o, h.get? dx = some o ∧ DicO kv o) : ∃ od, InstAt h x (instObj 52 dx) 52 (some od) ∧ DicO kv od := by
  obtain ⟨o, ho, e⟩ := hx
  obtain ⟨od, hod, e2⟩ := hd
  exact ⟨od, ⟨ho.trans (by rw [e]), rfl, rfl, hod⟩, e2⟩
/-- an attribute that an Entry bears -/
theorem getE {x dx : Addr} {kv : List (Str × Value)} {name : Str} {v : Value} {ex : Bool} {Q : Value → Shared → Prop} (W : Wd w g) (H : Hp g l s.heap) (hx : (x, InstO dx) ∈ l) (hd : (dx, DicO kv) ∈ l) (hn : findIn (KK w) (.ref 52) name = some none) (hv : kv.lookup name = some v) (hh : handedIn v = true)
    (h : Q v { s with toks := s.toks + 1 }) : wpAny (model prog w) A (getAttr (.ref x) name ex) Q E s := by
  obtain ⟨od, I, D⟩ := instAt (H.get hx) (H.get hd)
  exact get_value (K := KK w) (fun a o e => H.base a o (W.X a o e)) I (c52_ga w) (findObj_own hn (c52_dict w) (by rw [D.look, hv])) hh h
theorem setE {x dx : Addr} {kv : List (Str × Value)} {name : Str} {v : Value} {Q : Unit → Shared → Prop} (W : Wd w g) (hz : kv.length ≤ 1000) (H : Hp g ((dx, DicO kv) :: l) s.heap) (hx : (x, InstO dx) ∈ l) (ht : takerIn (KK w) 52 name = some none)
    (h : ∀ h' tk, Hp g ((dx, DicO ((name, v) :: kv)) :: l) h' → Q () { s with heap := h', toks := tk }) : wpAny (model prog w) A (setAttr (.ref x) name v) Q E s := by
  obtain ⟨od, I, D⟩ := instAt (H.get (List.mem_cons_of_mem _ hx)) (H.get (.head _))
  have X : (KK w).In s.heap := fun a o e => H.base a o (W.X a o e)
  refine set_plain X I (c52_sa w) (osa_open (s := { s with toks := s.toks + 1 }) (r := none) X I (c52_over w) ht fun b => ?_)
  obtain ⟨cd, hc, hd'⟩ := any_some (c52_dict w)
  refine wpAny_bind (wpAny_pure (wpAny_bind (wpAny_bind (wpAny_loadPart I.at_ (wpAny_bind (Looks.here (s := { s with toks := s.toks + 1 }) (looks_clsIn X hc) ?_))))))
  rw [hd']
  refine wpAny_pure (a := some dx) ?_
  exact storeInDictD (s := { s with toks := s.toks + 1 }) hz H fun h' H' => h h' _ H'
theorem setES {x dx : Addr} {kv : List (Str × Value)} {name : Str} {v : Value} {Q : Unit → Shared → Prop} (W : Wd w g) (hz : kv.length ≤ 1000) (S : St g env own u ((dx, DicO kv) :: l) s.heap) (hx : (x, InstO dx) ∈ l) (ht : takerIn (KK w) 52 name = some none)
    (h : ∀ h' tk, St g env own u ((dx, DicO ((name, v) :: kv)) :: l) h' → Q () { s with heap := h', toks := tk }) : wpAny (model prog w) A (setAttr (.ref x) name v) Q E s :=
  have H : Hp g ((dx, DicO kv) :: (frL env own u ++ l)) s.heap := S.hp.unmid
  setE W hz H (List.mem_append_right _ hx) ht fun h' tk H' => h h' tk (S.of' H'.mid fun p hp => by
    rcases List.mem_cons.mp hp with rfl | hp
    · exact .inr (DicO.nc _)
    · exact .inl (.tail _ hp))
end
section
variable {prog : Program} {w : World} {A : Around} {E : Value → Shared → Prop} {s : Shared} {g : Heap} {F : Led} {Q : Value → Shared → Prop}
/-- the same as call_top, of the code itself -/
theorem code_top {Rr : Result → Shared → Prop} {fa : Addr} {oc : Value} {od : Option Addr} {osl : Array (Option Value)} {args : Args} {body : List Stmt} {binds : List (Str × Value)} {n : Nat} (W : Wd w g) (R : Rm A (n + 1)) (H : Hp g F s.heap)
    (hlk : (KK w).lookup fa = some ⟨oc, od, .func (fdOf w fa), osl⟩) (hcode : codeIn (KK w) (fdOf w fa).code (fdOf w fa).qualname = true) (hbody : (fdOf w fa).body = .stmts body)
    (hbind : bindArgs (fdOf w fa) args = pure binds) (hbk : (binds.map (·.1)) = (fdOf w fa).params.args.map (·.arg))
    (hck : ((fdOf w fa).scope.kind == .function && !(fdOf w fa).scope.isCoroutine && !(fdOf w fa).scope.isGenerator && decide (((fdOf w fa).scope.names.map (·.1)).Nodup) && decide (((fdOf w fa).params.args.map (·.arg)).Nodup) &&
      (((fdOf w fa).params.args.map (·.arg)).all fun x => (fdOf w fa).scope.names.lookup x == some .local || (fdOf w fa).scope.names.lookup x == some .cell)) = true)
    (h : ∀ L h₁ tk, St g (fenv (fdOf w fa) L fa) (fown (fdOf w fa) L) binds F h₁ → Rm (A.deeper (fenv (fdOf w fa) L fa)) n →
      wpAny (model prog w) (A.deeper (fenv (fdOf w fa) L fa)) (execs body (fenv (fdOf w fa) L fa)) (fun f s' => Rr (.ok (.ret (match f with | .ret v => v | _ => .none))) s') (fun _ _ => False) { s with heap := h₁, toks := tk }) :
    codeAny (model prog w) A (.call (.ref fa) args) Rr s := by
  simp only [Bool.and_eq_true, decide_eq_true_eq, Bool.not_eq_true', List.all_eq_true, Bool.or_eq_true, beq_iff_eq] at hck
  obtain ⟨⟨⟨⟨⟨c1, c2⟩, c3⟩, c4⟩, c5⟩, c6⟩ := hck
  refine code_enter (cu := []) H W.lim R.room (H.base _ _ (W.X _ _ hlk)) rfl ((codeRec_of W.X hcode).keeps H.base) hbody hbind (fun L h₁ tk S => ?_) c1 c4 (by rw [hbk]; exact c5) (fun x hx => ?_) (fun _ _ h => by cases h) c2 c3
  · rw [List.append_nil] at S
    exact h L h₁ tk S (R.deeper _)
  · exact c6 x.1 (by rw [← hbk]; exact List.mem_map_of_mem (f := fun p : Str × Value => p.1) hx)
end
section
variable {prog : Program} {w : World} {A : Around} {E : Value → Shared → Prop} {s : Shared} {g : Heap} {l : Led} {Q : Value → Shared → Prop}
/-- Entry() -/
theorem entry_new {n : Nat} (W : Wd w g) (R : Rm A (n + 4)) (H : Hp g l s.heap)
    (h : ∀ x dx a b kv h' tk, kv.length ≤ 4 → EntK kv a b .none → Hp g ((x, InstO dx) :: (dx, DicO kv) :: (a, ListO []) :: (b, ListO []) :: l) h' → Q (.ref x) { s with heap := h', toks := tk }) : wpAny (model prog w) A (call (.ref 52) []) Q E s := by
  have X : (KK w).In s.heap := fun a o e => H.base a o (W.X a o e)
  obtain ⟨hh, gs, dr, tk0, os⟩ := s
  refine wpAny_call (make_core (makes_of X (c52_makes w)) (looks_findIn X (fi_28 w)) (fun self => bind_fn X self (ty_28 w)) (.inl rfl) ?_)
  have H1 : Hp g ((hh.objs.size, DicO []) :: l) (hh.push emptyDict) := H.push (P := DicO []) _ ⟨#[], 0, rfl, Nat.le_refl _, fun e he => by simp at he, fun x => rfl⟩
  have H2 : Hp g ((hh.objs.size + 1, InstO hh.objs.size) :: (hh.objs.size, DicO []) :: l) ((hh.push emptyDict).push (instObj 52 hh.objs.size)) := by
    have := H1.push (P := InstO hh.objs.size) (instObj 52 hh.objs.size) rfl
    rwa [Heap.size_push] at this
  generalize hh.objs.size = dx at *
  generalize hx : dx + 1 = x at *
  refine code_top (s := ⟨(hh.push emptyDict).push (instObj 52 dx), gs, dr, tk0, os⟩) (args := ⟨[.ref x], []⟩) (binds := [("self", .ref x)]) (n := n + 2) W (R.tc 52 []) H2 (lk_28 w) (cd_28 w) (bh_28 w) (by kernel_rfl) (by kernel_rfl) (by kernel_rfl) fun L h₁ tk S R1 => ?_
  dsimp only [bd_28]
  have KD := kd_28 w L
  walk_at "rp"
  refine plainObj_wpAny_Assign_Attribute ?_ rfl
  repeat walk_at "rp"
  refine newL S (Nat.le_of_ble_eq_true rfl) fun a h' S => ?_
  repeat walk_at "rp"
  have S := St.front (pre := [_, _]) S
  refine setES W (by simp) S (.tail _ (.head _)) (tk_useragents w) fun h' tk S => ?_
  walk_at "rp"
  refine plainObj_wpAny_Assign_Attribute ?_ rfl
  repeat walk_at "rp"
  refine newL S (Nat.le_of_ble_eq_true rfl) fun b h' S => ?_
  repeat walk_at "rp"
  have S := St.front (pre := [_]) S
  refine setES W (by simp) S (.tail _ (.tail _ (.head _))) (tk_rulelines w) fun h' tk S => ?_
  walk_at "rp"
  refine plainObj_wpAny_Assign_Attribute ?_ rfl
  repeat walk_at "rp"
  refine setES W (by simp) S (.tail _ (.tail _ (.head _))) (tk_delay w) fun h' tk S => ?_
  walk_at "rp"
  refine plainObj_wpAny_Assign_Attribute ?_ rfl
  repeat walk_at "rp"
  refine setES W (by simp) S (.tail _ (.tail _ (.head _))) (tk_req_rate w) fun h' tk S => ?_
  repeat walk_at "rp"
  refine ⟨rfl, h x dx a b [("req_rate", .none), ("delay", .none), ("rulelines", .ref b), ("useragents", .ref a)] h' _ (Nat.le_refl 4) ⟨Nat.le_of_ble_eq_true rfl, by kernel_rfl, by kernel_rfl, by kernel_rfl, by kernel_rfl, by kernel_rfl, by kernel_rfl⟩ (S.led.le fun a => ?_)⟩
  simp only [cnt_cons, cnt_append, cnt_nil, List.cons_append, List.nil_append]; first | ac_rfl | omega
end
theorem keep_52 (w : World) : keepIn (KK w) (.ref 52) = true := by kernel_rfl
theorem setESI {prog : Program} {w : World} {A : Around} {E : Value → Shared → Prop} {s : Shared} {g : Heap} {env : Env} {own : List (Str × Addr)} {u : List (Str × Value)} {l : Led} {x dx : Addr} {kv : List (Str × Value)} {name : Str} {k : Int} {t : Tok} {Q : Unit → Shared → Prop} (W : Wd w g) (hz : kv.length ≤ 1000) (S : St g env own u ((dx, DicO kv) :: l) s.heap) (hx : (x, InstO dx) ∈ l) (ht : takerIn (KK w) 52 name = some none)
    (h : ∀ (t : Tok) h' tk, St g env own u ((dx, DicO ((name, .int k t) :: kv)) :: l) h' → Q () { s with heap := h', toks := tk }) : wpAny (model prog w) A (setAttr (.ref x) name (.int k t)) Q E s := setES W hz S hx ht (h t)
noncomputable def dlV (o : Option Int) (v : Value) : Prop := match o with | none => v = .none | some n => ∃ t, v = .int n t
section
variable {prog : Program} {w : World} {A : Around} {E : Value → Shared → Prop} {s : Shared} {g : Heap} {env : Env} {own : List (Str × Addr)} {u : List (Str × Value)} {l : Led} {Q : Value → Shared → Prop}
theorem extendL {D B : Addr} {xs ys : List Value} (S : St g env own u ((D, ListO xs) :: l) s.heap) (hb : (B, ListO ys) ∈ l) (hz : xs.length + ys.length ≤ 1000)
    (h : ∀ h', St g env own u ((D, ListO (xs ++ ys)) :: l) h' → Q .none { s with heap := h' }) : wpAny (model prog w) A (call (.builtin "list.extend") [.ref D, .ref B]) Q E s := by
  have H : Hp g ((D, ListO xs) :: (frL env own u ++ l)) s.heap := S.hp.unmid
  obtain ⟨n, hl⟩ := ListO.obj (H.has (D, ListO xs) (.head _))
  obtain ⟨m, hr⟩ := ListO.obj (H.has (B, ListO ys) (.tail _ (List.mem_append_right _ hb)))
  refine call_meets F.slot_list_extend ⟨_, hl, rfl⟩ F.entry_list_extend (F.args_list_extend_2 _ _) (PySem.AutoSeq1.list_extend_list_list_0 D xs.toArray n B ys.toArray m ?_ ?_ ?_) ⟨hl, hr, ?_⟩
  · have : Builtin.List.listTooLong (xs.toArray.size + ys.toArray.size) = false := by
      unfold Builtin.List.listTooLong
      exact decide_eq_false (by rw [sizeLine_eq]; simp; omega)
    rw [this, Bool.and_false]; exact Bool.false_ne_true
  · rw [sizeLine_eq]; simp; omega
  · rw [sizeLine_eq]; simp; omega
  · refine h _ (S.of' ((H.set (P' := ListO (xs ++ ys)) (o' := _) (fun b o hb e => (Heap.get?_update_other _ _ (Ne.symm hb)).trans e) (Heap.get?_update_self _ hl rfl) ?_).mid) fun p hp => ?_)
    · refine ⟨(if (xs.toArray ++ ys.toArray).size == xs.toArray.size then n else n + 1), ?_⟩
      unfold Obj.mapSeq
      dsimp only
      rw [show xs.toArray ++ ys.toArray = (xs ++ ys).toArray by simp]
    · rcases List.mem_cons.mp hp with rfl | hp
      · exact .inr (ListO.nc _)
      · exact .inl (.tail _ hp)
end
section
variable {prog : Program} {w : World} {A : Around} {E : Value → Shared → Prop} {s : Shared} {g : Heap} {l : Led} {Q : Value → Shared → Prop}
theorem handed_ref (a : Addr) : handedIn (.ref a) = true := rfl
theorem record_spec {n : Nat} (W : Wd w g) (R : Rm A (n + 6)) (H : Hp g l s.heap) {aA rA : Addr} {av rv : List Value} {m : Int} {t : Tok} (ha : (aA, ListO av) ∈ l) (hr : (rA, ListO rv) ∈ l) (hz : av.length ≤ 100 ∧ rv.length ≤ 100)
    (h : ∀ x dx a b kv dl h' tk new, EntK kv a b dl → dlV (if m % 2 = 1 then some (m / 2) else none) dl → Hp g ((x, InstO dx) :: (dx, DicO kv) :: (a, ListO av) :: (b, ListO rv) :: (new ++ l)) h' → Q (.ref x) { s with heap := h', toks := tk }) : wpAny (model prog w) A (call (.ref 141) [.ref aA, .ref rA, .int m t] []) Q E s := by
  refine call_top (args := ⟨[.ref aA, .ref rA, .int m t], []⟩) (binds := [("agents", .ref aA), ("rules", .ref rA), ("number", .int m t)]) W R H (lk_141 w) (cd_141 w) (bh_141 w) (by kernel_rfl) (by kernel_rfl) (by kernel_rfl) fun L h₁ tk S R1 => ?_
  dsimp only [bd_141]
  have KD := kd_141 w L
  repeat walk_at "rp"
  refine callWith_K0 (K := KK w) (fun a o e => S.hp.base a o (W.X a o e)) (keep_52 w) ?_
  refine entry_new (n := n + 1) W R1 S.hp fun x dx a b kv h' tk hk4 hkv H' => ?_
  have S : St g _ _ _ ((x, InstO dx) :: (dx, DicO kv) :: (a, ListO []) :: (b, ListO []) :: l) h' := S.app (n := [_, _, _, _]) H'
  refine sta S (by walk_at "sto") fun h' tk S => ?_
  repeat walk_at "rp"
  refine exprS (by kernel_rfl) rfl ?_
  refine mcL F.slot_list_extend F.type_list_extend rfl rfl rfl rfl rfl ?_
  refine Attribute_Name_ ?_ rfl
  repeat walk_at "rp"
  refine getE W S.led (by walk_at "mem") (by walk_at "mem") (fi_useragents w) hkv.ua rfl ?_
  refine ⟨a, [], rfl, S.get (by walk_at "mem"), ?_⟩
  repeat walk_at "rp"
  have S := St.front (pre := [_, _]) S
  refine extendL S (.tail _ (.tail _ (.tail _ ha))) (by simp; omega) fun h' S => ?_
  repeat walk_at "rp"
  refine exprS (by kernel_rfl) rfl ?_
  refine mcL F.slot_list_extend F.type_list_extend rfl rfl rfl rfl rfl ?_
  refine Attribute_Name_ ?_ rfl
  repeat walk_at "rp"
  refine getE W S.led (by walk_at "mem") (by walk_at "mem") (fi_rulelines w) hkv.rl rfl ?_
  refine ⟨b, [], rfl, S.get (by walk_at "mem"), ?_⟩
  repeat walk_at "rp"
  have S := St.front (pre := [_, _, _]) S
  refine extendL S (.tail _ (.tail _ (.tail _ hr))) (by simp; omega) fun h' S => ?_
  repeat walk_at "rp"
  have hm := Int.emod_nonneg m (show (2 : Int) ≠ 0 by decide)
  have hm' := Int.emod_lt_of_pos m (show (0 : Int) < 2 by decide)
  by_cases h1 : m % 2 = 1
  · refine iteT (by simp [h1]) ?_
    walk_at "rp"
    refine plainObj_wpAny_Assign_Attribute ?_ rfl
    repeat walk_at "rp"
    have S := St.front (pre := [_, _, _]) S
    refine setESI W (by have := hkv.sz; omega) S (.tail _ (.tail _ (.head _))) (tk_delay w) fun tz h' tk S => ?_
    repeat walk_at "rp"
    refine h x dx a b _ (.int (m / 2) tz) h' _ [] (hkv.setDl (by omega)) (by rw [if_pos h1]; exact ⟨tz, rfl⟩) (S.hp.le fun a => ?_)
    simp only [cnt_cons, cnt_append, cnt_nil, List.cons_append, List.nil_append, List.append_eq]; first | ac_rfl | omega
  · refine iteF (by simp [h1]) ?_
    repeat walk_at "rp"
    refine h x dx a b _ _ h' _ [] hkv (by rw [if_neg h1]; rfl) (S.hp.le fun a => ?_)
    simp only [cnt_cons, cnt_append, cnt_nil, List.cons_append, List.nil_append, List.append_eq]; first | ac_rfl | omega
end
/-- a set of texts, of at most n -/
noncomputable def SetO (prog : Program) (w : World) (n : Nat) (o : Obj) : Prop := ∃ (S : Str → Bool) (k : Nat), k ≤ n ∧ o.SetObjOf (PySem.strKind prog w) S k
theorem SetO.nc {prog : Program} {w : World} {n : Nat} : NotCell (SetO prog w n) := fun o ⟨S, k, _, hx, es, ep, t, hd, _⟩ v e => by rw [hd] at e; cases e
theorem SetO.of {prog : Program} {w : World} {h : Heap} {a : Addr} {S : Str → Bool} {k n : Nat} (x : h.SetOf (PySem.strKind prog w) a S k) (hk : k ≤ n) : ∃ o, h.get? a = some o ∧ SetO prog w n o := by
  obtain ⟨o, es, ep, t, ho, hx, hd, hel, hm, hb, hf, hn⟩ := x
  exact ⟨o, ho, S, k, hk, hx, es, ep, t, hd, hel, hm, hn, hf⟩
section
variable {prog : Program} {w : World} {A : Around} {E : Value → Shared → Prop} {s : Shared} {g : Heap} {l : Led} {Q : Value → Shared → Prop}
theorem set_loop {Sx I a : Addr} {xs : List (List Nat)} {vs : List Value} {R : Result → Shared → Prop} (hh : A.handled = none) (hxs : Strs xs vs) (hz : vs.length ≤ 100) (hm : (a, ListO vs) ∈ l) :
    ∀ (k i : Nat) (s : Shared), vs.length - i = k → i ≤ vs.length → Hp g ((Sx, SetO prog w i) :: (I, IterO a i) :: l) s.heap →
      (∀ h' tk, Hp g ((Sx, SetO prog w vs.length) :: l) h' → R (.ok (.ret .none)) { s with heap := h', toks := tk }) → codeAny (model prog w) A (.builtin "set.update.loop" ⟨[.ref Sx, .ref I], []⟩) R s := by
  intro k
  have K := Itr.list (prog := prog) (w := w) (g := g) (A := A.in1) hh a vs
  induction k with
  | zero =>
    intro i s hk hi H hR
    have hin : i = vs.length := by omega
    subst hin
    refine codeAny_builtin F.entry_set_update_loop ?_
    rw [Around.under_plainId F.plain_set_update_loop _]
    show wpAny _ A.in1 (pyNext (.ref I) >>= _) _ _ s
    refine wpAny_bind (K.done (l := (Sx, SetO prog w vs.length) :: l) (H.perm (.swap ..)) (fun p hp => by rcases List.mem_singleton.mp hp with rfl; exact .tail _ hm) fun h' tk H' => ?_)
    show wpAny _ A.in1 (ret Value.none) _ _ _
    exact wpAny_pure (hR h' tk H')
  | succ k ih =>
    intro i s hk hi H hR
    have hlt : i < vs.length := by omega
    refine codeAny_builtin F.entry_set_update_loop ?_
    rw [Around.under_plainId F.plain_set_update_loop _]
    show wpAny _ A.in1 (pyNext (.ref I) >>= _) _ _ s
    refine wpAny_bind (K.next (l := (Sx, SetO prog w i) :: l) hlt (H.perm (.swap ..)) (fun p hp => by rcases List.mem_singleton.mp hp with rfl; exact .tail _ hm) fun v h' tk hv H' => ?_)
    have hi' : i < xs.length := by rw [← hxs.1]; exact hlt
    obtain ⟨t, e⟩ := hxs.2 i xs[i] (List.getElem?_eq_getElem hi')
    rw [hv] at e; injection e with e; subst e
    have H2 : Hp g ((Sx, SetO prog w i) :: (I, IterO a (i + 1)) :: l) h' := H'.perm (.swap ..)
    obtain ⟨o, ho, S, n, hn, hso⟩ := H2.has _ (.head _)
    have hS' := hso.setOf ho (by unfold scanBound; omega)
    show wpAny _ A.in1 (holding [Value.str (Tx xs[i]) t] (setAdd Sx (.str (Tx xs[i]) t)) >>= _) _ _ _
    refine wpAny_bind (wpAny_holding ?_)
    unfold setAdd
    refine wpAny_holding ?_
    refine wpAny_bind ((PySem.strKind prog w).pyHash (k := Tx xs[i]) (strKind_is _ _ _ _) ?_)
    refine wpAny_setAddHashed_of (knd := PySem.strKind prog w) (s := { s with heap := h', toks := tk + 1 }) (strKind_is _ _ _ _) rfl hS' (by unfold scanBound; omega) fun h2 hsb hS2 => ?_
    obtain ⟨o2, ho2, hp2⟩ := SetO.of (n := i + 1) hS2 (by split <;> omega)
    refine wpAny_pure ⟨plainId_quiet F.plain_set_update_loop _, ih (i + 1) _ (by omega) hlt (H2.set (fun b o hb e => (hsb.2 b hb).trans e) ho2 hp2) fun h3 tk3 H3 => hR h3 tk3 H3⟩
set_option maxHeartbeats 8000000 in
/-- set(xs) of a list of texts -/
theorem call_set_strs {a : Addr} {xs : List (List Nat)} {vs : List Value} (hh : A.handled = none) (hxs : Strs xs vs) (hz : vs.length ≤ 100) (H : Hp g l s.heap) (hm : (a, ListO vs) ∈ l)
    (h : ∀ S h' tk, Hp g ((S, SetO prog w vs.length) :: l) h' → Q (.ref S) { s with heap := h', toks := tk }) : wpAny (model prog w) A (call (.type "set") [.ref a]) Q E s := by
  obtain ⟨c, tl, hmro⟩ := PySem.F.called_set.mro
  have hmade := PySem.F.called_set.made
  have hsub := PySem.F.called_set.sub
  refine wpAny_call (codeAny_of_tree ?_)
  show wpAny _ _ (callAny (.type "set") _) _ _ _
  refine wpAny_pure ⟨Code.quiet_builtin _ (by decide +kernel), codeAny_builtin F.entry_type_call ?_⟩
  rw [Around.under_plain (weight_type_call_type "set" [.ref a] []) rfl]
  have h1 := PySem.F.called_set.notType
  have h2 := PySem.F.called_set.canCreate
  have hct := PySem.F.typeCall_set_1 (.ref a)
  repeat (any_goals (first | assumption | wp_step))
  refine codeAny_mono (code_set_new_1 (.ref a) (E := E) (Q₁ := fun obj s₁ => ∃ led : Bool, obj = .ref s.heap.objs.size ∧ s₁ = { s with heap := s.heap.push { cls := .type "set", dict := none, data := .set #[] 0 (.fresh 0 0 led) } }) fun led => ⟨led, rfl, rfl⟩) fun r s₁ hr => ?_
  cases r with
  | error e => exact hr
  | ok fl =>
    cases fl with
    | ret obj =>
      obtain ⟨led, rfl, rfl⟩ := hr
      have hS : (s.heap.push { cls := .type "set", dict := none, data := .set #[] 0 (.fresh 0 0 led) }).get? s.heap.objs.size = some { cls := .type "set", dict := none, data := .set #[] 0 (.fresh 0 0 led) } := Heap.get?_push_size _ rfl
      have hT : Shared.TypeIs { s with heap := s.heap.push { cls := .type "set", dict := none, data := .set #[] 0 (.fresh 0 0 led) } } (.ref s.heap.objs.size) "set" := ⟨_, hS, rfl⟩
      have H1 : Hp g ((s.heap.objs.size, SetO prog w 0) :: l) (s.heap.push { cls := .type "set", dict := none, data := .set #[] 0 (.fresh 0 0 led) }) := H.push (P := SetO prog w 0) _ ⟨_, 0, Nat.le_refl _, setObjOf_fresh led⟩
      have hli := PySem.F.called_set.init.lookup
      have hbi := PySem.F.called_set.init.bind (.ref s.heap.objs.size)
      repeat (any_goals (first | assumption | wp_step))
      refine codeAny_mono (codeAny_call_builtin (R := wants (fun r s₂ => r = .none ∧ ∃ h' tk, s₂ = { s with heap := h', toks := tk } ∧ Hp g ((s.heap.objs.size, SetO prog w vs.length) :: l) h') E) PySem.F.called_set.init.plain PySem.F.entry_set_init (check_set_init_1 hT ?_)) fun r₂ s₂ hr₂ => ?_
      · obtain ⟨nl, hol⟩ := ListO.obj (H.get hm)
        have hol' : (s.heap.push { cls := .type "set", dict := none, data := .set #[] 0 (.fresh 0 0 led) }).get? a = some { cls := .type "list", dict := none, data := .seq vs.toArray nl, slots := #[] } := Heap.get?_push_of_some _ hol
        have hsls := PySem.F.sub_list_set
        have hslf := PySem.F.sub_list_frozenset
        have hne : (Value.type "list" == Value.type "dict") = false := by decide
        have hl1 : (s.heap.push { cls := .type "set", dict := none, data := .set #[] 0 (.fresh 0 0 led) }).IsList a vs.toArray := ⟨_, hol', rfl, nl, rfl⟩
        unfold Builtin.«set.__init__» noKeywords Builtin.Frozenset.updateFrom
        generalize hPI : pyIter = PI
        clear hli hbi h1 h2 hct hS
        wp_walk
        subst hPI
        refine wpAny_pyIter_list hl1 ?_
        refine wpAny_bind (wpAny_runValue ?_)
        have H2 := H1.push (P := IterO a 0) { cls := .type "list_iterator", data := .fields #[.ref a, .int 0 0] } ⟨rfl, rfl⟩
        have hh3 : A.in1.in1.handled = none := hh
        refine set_loop (l := l) hh3 hxs hz hm (vs.length - 0) 0 _ rfl (Nat.zero_le _) (H2.perm (.swap ..)) fun h' tk H' => ?_
        refine wpAny_pure ?_
        show wpAny _ _ (ret Value.none) _ _ _
        exact wpAny_pure ⟨rfl, h', tk, rfl, H'⟩
      · cases r₂ with
        | error e => exact hr₂
        | ok fl₂ =>
          cases fl₂ with
          | ret r =>
            obtain ⟨rfl, h', tk, rfl, H'⟩ := hr₂
            repeat (any_goals (first | assumption | wp_step))
            exact h _ _ _ H'
          | _ => exact hr₂.elim
    | _ => exact hr.elim
end
theorem slot_set_ga : Slot "set" "__getattribute__" "set.__getattribute__" :=
  .of (owner := "set") (n := "__getattribute__") (by rw [typeLookup_type, builtinLookup_eq_fast]; kernel_rfl) (by decide +kernel) (by decide +kernel) (by decide +kernel)
    (by first | exact .inl (by decide +kernel) | exact .inr (by decide +kernel)) (by rw [isSubtype_type]; kernel_rfl)
theorem entry_set_ga : entryFor table "set.__getattribute__" = some Builtin.«object.__getattribute__» := by
  rw [table_eq_tree, Fast.te12177470255685639600, Fast.te14364793385576792824, Fast.te13103027639898740971]; kernel_rfl
theorem args_set_ga (a b : Value) : argsOk "set.__getattribute__" ⟨[a, b], []⟩ := by unfold argsOk; rw [Fast.signatureQ_eq]; kernel_rfl
theorem lk_set_cont : typeLookup (.type "set") "__contains__" = pure (some (.builtin "set.__contains__")) := by rw [typeLookup_type, builtinLookup_eq_fast]; kernel_rfl
theorem ty_set_cont : typeOf (.builtin "set.__contains__") = pure (.type "method_descriptor") := by show builtinType _ = _; rw [builtinType_eq_fast]; kernel_rfl
theorem slot_md_get : Slot "method_descriptor" "__get__" "method_descriptor.__get__" :=
  .of (owner := "method_descriptor") (n := "__get__") (by rw [typeLookup_type, builtinLookup_eq_fast]; kernel_rfl) (by decide +kernel) (by decide +kernel) (by decide +kernel)
    (by first | exact .inl (by decide +kernel) | exact .inr (by decide +kernel)) (by rw [isSubtype_type]; kernel_rfl)
theorem entry_md_get : entryFor table "method_descriptor.__get__" = some Builtin.«method_descriptor.__get__» := entryFor_of_tree (by kernel_rfl)
theorem args_md_get (a b c : Value) : argsOk "method_descriptor.__get__" ⟨[a, b, c], []⟩ := by unfold argsOk; rw [Fast.signatureQ_eq]; kernel_rfl
theorem lk_md_set : typeLookup (.type "method_descriptor") "__set__" = pure none := by rw [typeLookup_type, builtinLookup_eq_fast]; kernel_rfl
theorem lk_md_del : typeLookup (.type "method_descriptor") "__delete__" = pure none := by rw [typeLookup_type, builtinLookup_eq_fast]; kernel_rfl
theorem sub_set_set : isSubtype (.type "set") (.type "set") = pure true := by rw [isSubtype_type]; kernel_rfl
/-- a method of a built-in bound to an object -/
noncomputable def BndO (d : Value) (a : Addr) (o : Obj) : Prop := o = { cls := .type "builtin_function_or_method", data := .fields #[d, .ref a] }
section
variable {prog : Program} {w : World} {A : Around} {E : Value → Shared → Prop} {s : Shared} {g : Heap} {l : Led}
theorem md_get {S : Addr} {Q : Value → Shared → Prop} (H : Hp g l s.heap) (hT : s.TypeIs (.ref S) "set")
    (h : ∀ b h', Hp g ((b, BndO (.builtin "set.__contains__") S) :: l) h' → Q (.ref b) { s with heap := h' }) : wpAny (model prog w) A (call (.builtin "method_descriptor.__get__") [.builtin "set.__contains__", .ref S, .type "set"]) Q E s := by
  have hB : s.TypeIs (.builtin "set.__contains__") "method_descriptor" := ty_set_cont
  refine wpAny_call_entry slot_md_get hB entry_md_get ?_ (args_md_get _ _ _)
  unfold Builtin.«method_descriptor.__get__»
  refine wpAny_bind (wpAny_of_eq (a := (.builtin "set.__contains__", some (.ref S), some (.type "set"))) (by kernel_rfl) ?_)
  show wpAny _ _ (if Manifest.toldItsClass.contains "set.__contains__" = true then _ else _) _ _ _
  rw [if_neg (by decide +kernel)]
  k_node
  k_node
  refine wpAny_bind ?_
  k_node
  refine wpAny_bind (wpAny_of_eq (a := (("__contains__" : Str), Value.type "set")) (by kernel_rfl) ?_)
  refine wpAny_bind (m := isInstance (.ref S) (.type "set")) (wpAny_isInstance hT sub_set_set ?_)
  refine wpAny_pure ?_
  show wpAny _ _ (newFields "builtin_function_or_method" [.builtin "set.__contains__", .ref S] >>= _) _ _ _
  unfold newFields
  refine wpAny_bind (wpAny_newObj_type ?_ (by size_fits))
  refine wpAny_pure ⟨_, rfl, h _ _ (H.push (P := BndO (.builtin "set.__contains__") S) _ rfl)⟩
theorem set_entry {S : Addr} {tk : Tok} {Q : PySem.Fin → Shared → Prop} (H : Hp g l s.heap) (hS : ∃ o n, s.heap.get? S = some o ∧ SetO prog w n o)
    (h : ∀ b h', Hp g ((b, BndO (.builtin "set.__contains__") S) :: l) h' → Q (.done (.ret (.ref b))) { s with heap := h' }) :
    wpAny (model prog w) A (Builtin.«object.__getattribute__» ⟨[.ref S, .str "__contains__" tk], []⟩) Q E s := by
  obtain ⟨o, n, ho, Sx, k, _, hx, es, ep, t, hd, _⟩ := hS
  have hT : s.TypeIs (.ref S) "set" := ⟨o, ho, hx.1⟩
  have hB : s.TypeIs (.builtin "set.__contains__") "method_descriptor" := ty_set_cont
  show wpAny _ _ (typeOf (.ref S) >>= _) _ _ _
  refine wpAny_bind (wpAny_typeOf hT ?_)
  refine wpAny_bind (m := Builtin.ObjectAttr.find (.ref S) (.type "set") (Str.ofString "__contains__")) ?_
  unfold Builtin.ObjectAttr.find
  refine wpAny_bind (wpAny_of_eq lk_set_cont ?_)
  refine wpAny_bind (m := Builtin.ObjectAttr.getOf (some (.builtin "set.__contains__"))) ?_
  show wpAny _ _ (specialOf _ _) _ _ _
  refine wpAny_specialOf hB slot_md_get.lookup ?_
  refine wpAny_bind (m := Builtin.ObjectAttr.dataDescriptor? (some (.builtin "set.__contains__")) (some (.builtin "method_descriptor.__get__"))) ?_
  show wpAny _ _ (Builtin.ObjectAttr.takesStores _ >>= _) _ _ _
  unfold Builtin.ObjectAttr.takesStores
  refine wpAny_bind (wpAny_bind (wpAny_specialOf hB lk_md_set ?_))
  refine wpAny_bind (wpAny_specialOf hB lk_md_del ?_)
  refine wpAny_pure (wpAny_pure ?_)
  show wpAny _ _ (Builtin.ObjectAttr.ownThenClass _ _ _ _) _ _ _
  unfold Builtin.ObjectAttr.ownThenClass Builtin.ObjectAttr.inOwnDict Builtin.ObjectAttr.ownDict
  refine wpAny_bind (wpAny_bind (wpAny_bind (m := loadHead S) (wpAny_loadPart ho ?_)))
  rw [hd]
  show wpAny _ _ (instanceDict S false) _ _ _
  unfold instanceDict
  refine wpAny_bind (wpAny_loadPart ho ?_)
  rw [hx.1, hx.2.1]
  refine wpAny_pure (a := none) ?_
  refine wpAny_pure (a := none) ?_
  refine wpAny_bind (m := Builtin.ObjectAttr.copiedAttributeGuard _ _) (wpAny_of_eq (a := ()) (by kernel_rfl) ?_)
  refine wpAny_bind (wpAny_rule (wpAny_pure ?_))
  show wpAny _ _ (Builtin.ObjectAttr.bindTo _ _ _ _) _ _ _
  unfold Builtin.ObjectAttr.bindTo
  refine wpAny_bind (m := holding _ _) (wpAny_holding (md_get H hT fun b h' H' => wpAny_pure (h b h' H')))
theorem getContains {S : Addr} {ex : Bool} {n : Nat} {Q : Value → Shared → Prop} (H : Hp g l s.heap) (hS : (S, SetO prog w n) ∈ l)
    (h : ∀ b h' tk, Hp g ((b, BndO (.builtin "set.__contains__") S) :: l) h' → Q (.ref b) { s with heap := h', toks := tk }) : wpAny (model prog w) A (getAttr (.ref S) "__contains__" ex) Q E s := by
  obtain ⟨o, ho, hp⟩ := H.get hS
  have hT : ({ s with toks := s.toks + 1 } : Shared).TypeIs (.ref S) "set" := let ⟨_, _, _, hx, _⟩ := hp; ⟨o, ho, hx.1⟩
  unfold getAttr getAttrBy
  refine wpAny_bind (wpAny_mkText (wpAny_holding (wpAny_bind (wpAny_typeOf hT (wpAny_bind (wpAny_of_eq slot_set_ga.lookup ?_))))))
  show wpAny _ _ (getAttrByItsOwn (.ref S) (.str _ s.toks) (.type "set") (.builtin "set.__getattribute__") true ex) _ _ _
  unfold getAttrByItsOwn hookBefore callGetattribute boundAndCalled
  refine wpAny_bind (wpAny_of_eq (show (if onTheHeap (.type "set") then typeLookup (.type "set") "__getattr__" else pure none) = pure none from rfl) ?_)
  refine wpAny_bind (wpAny_attempt (wpAny_holding ?_))
  rw [if_neg (by cases ex <;> decide)]
  refine wpAny_bind (wpAny_of_eq (slot_set_ga.bind _) ?_)
  refine wpAny_mono (Q := fun v' s' => ∃ b h', v' = .ref b ∧ s' = { s with heap := h', toks := s.toks + 1 } ∧ Hp g ((b, BndO (.builtin "set.__contains__") S) :: l) h') (E := fun _ _ => False)
    (wpAny_call_entry slot_set_ga hT entry_set_ga (set_entry (s := { s with toks := s.toks + 1 }) H ⟨o, n, ho, hp⟩ fun b h' H' => ⟨_, rfl, b, h', rfl, rfl, H'⟩) (args_set_ga _ _)) (fun v' s' hv' => ?_) fun _ _ z => z.elim
  obtain ⟨b, h', rfl, rfl, H'⟩ := hv'
  exact wpAny_pure (h b h' _ H')
end
theorem mro_filter : mroOf (.type "filter") = pure [.type "filter", .type "object"] := by rw [mroOf_type]; kernel_rfl
theorem lookup_filter_new : typeLookup (.type "filter") "__new__" = pure (some (.builtin "filter.__new__")) := by rw [typeLookup_type, builtinLookup_eq_fast]; kernel_rfl
theorem slot_filter_init : Slot "filter" "__init__" "object.__init__" :=
  .of (owner := "object") (n := "__init__") (by rw [typeLookup_type, builtinLookup_eq_fast]; kernel_rfl) (by decide +kernel) (by decide +kernel) (by decide +kernel)
    (by first | exact .inl (by decide +kernel) | exact .inr (by decide +kernel)) (by rw [isSubtype_type]; kernel_rfl)
theorem slot_filter_iter : Slot "filter" "__iter__" "filter.__iter__" :=
  .of (owner := "filter") (n := "__iter__") (by rw [typeLookup_type, builtinLookup_eq_fast]; kernel_rfl) (by decide +kernel) (by decide +kernel) (by decide +kernel)
    (by first | exact .inl (by decide +kernel) | exact .inr (by decide +kernel)) (by rw [isSubtype_type]; kernel_rfl)
theorem slot_filter_next : Slot "filter" "__next__" "filter.__next__" :=
  .of (owner := "filter") (n := "__next__") (by rw [typeLookup_type, builtinLookup_eq_fast]; kernel_rfl) (by decide +kernel) (by decide +kernel) (by decide +kernel)
    (by first | exact .inl (by decide +kernel) | exact .inr (by decide +kernel)) (by rw [isSubtype_type]; kernel_rfl)
theorem args_filter_iter_1 (a : Value) : argsOk "filter.__iter__" ⟨[a], []⟩ := by unfold argsOk; rw [Fast.signatureQ_eq]; kernel_rfl
theorem args_filter_next_1 (a : Value) : argsOk "filter.__next__" ⟨[a], []⟩ := by unfold argsOk; rw [Fast.signatureQ_eq]; kernel_rfl
theorem entry_filter_next : entryFor table "filter.__next__" = some Builtin.«filter.__next__» := entryFor_of_tree (by kernel_rfl)
theorem entry_filter_iter : entryFor table "filter.__iter__" = some Builtin.«dict_keyiterator.__iter__» := by
  rw [table_eq_tree, Fast.te12177470255685639600, Fast.te14364793385576792824, Fast.te14515807449678170102]; kernel_rfl
theorem entry_filter_new : entryFor table "filter.__new__" = some Builtin.«filter.__new__» := entryFor_of_tree (by kernel_rfl)
theorem called_filter : TypeCalled "filter" "filter.__new__" "object.__init__" :=
  ⟨by decide +kernel, by decide +kernel, ⟨_, _, mro_filter⟩, madeBy_type mro_filter lookup_filter_new (by decide +kernel), by decide +kernel, by rw [isSubtype_type]; kernel_rfl, slot_filter_init⟩
theorem typeCall_filter_2 (a b : Value) : checkTypeCall "filter" ⟨[a, b], []⟩ = pure () := by rw [Fast.te11612656972197000677]; kernel_rfl
theorem newCall_filter_2 (a b : Value) : checkBuiltinCall "filter.__new__" ⟨[.type "filter", a, b], []⟩ = pure () := by rw [Fast.te10254737850608025244]; kernel_rfl
theorem nolen_filter : typeLookup (.type "filter") "__len__" = pure none := by rw [typeLookup_type, builtinLookup_eq_fast]; kernel_rfl
theorem nohint_filter : typeLookup (.type "filter") "__length_hint__" = pure none := by rw [typeLookup_type, builtinLookup_eq_fast]; kernel_rfl
theorem sub_filter : isSubtype (.type "filter") (.type "filter") = pure true := by rw [isSubtype_type]; kernel_rfl
/-- a filter over one iterator -/
noncomputable def FilO (I : Addr) (f : Value) (o : Obj) : Prop := o.cls = .type "filter" ∧ o.data = .fields #[f, .ref I]
section
variable {prog : Program} {w : World} {A : Around} {E : Value → Shared → Prop} {s : Shared} {g : Heap} {l : Led} {Q : Value → Shared → Prop}
theorem meets_filter_newL (a : Addr) (items : Array Value) (f : Value) :
    Meets (Builtin.«filter.__new__» ⟨[.type "filter", f, .ref a], []⟩) (fun _ R s => s.heap.IsList a items ∧
      R (.ok (.ret (.ref (s.heap.objs.size + 1))))
        { s with heap := (s.heap.push { cls := .type "list_iterator", data := .fields #[.ref a, .int 0 0] }).push { cls := .type "filter", data := .fields #[f, .ref s.heap.objs.size] } }) :=
  .of_wp fun prog w A R s h => by
    obtain ⟨hL, h⟩ := h
    obtain ⟨hp, g, d, tk, os⟩ := s
    have hsub := sub_filter
    wp_walk using wpAny_pyIter_list hL
    refine ⟨_, rfl, ?_⟩
    simpa only [Heap.size_push] using h
theorem call_filter_list {a : Addr} {f : Value} {vs : List Value} (H : Hp g l s.heap) (hm : (a, ListO vs) ∈ l)
    (h : ∀ M I h', Hp g ((M, FilO I f) :: (I, IterO a 0) :: l) h' → Q (.ref M) { s with heap := h' }) : wpAny (model prog w) A (call (.type "filter") [f, .ref a]) Q E s := by
  have hL : s.heap.IsList a vs.toArray := ListO.isList (H.get hm)
  refine callType_new called_filter (by decide) (typeCall_filter_2 _ _) (newCall_filter_2 _ _) (fun obj => F.args_object_init_3 obj _ _) entry_filter_new
    (meets_filter_newL a vs.toArray f) ⟨hL, ?_⟩
  have H1 : Hp g ((s.heap.objs.size, IterO a 0) :: l) (s.heap.push { cls := .type "list_iterator", data := .fields #[.ref a, .int 0 0] }) := H.push (P := IterO a 0) _ ⟨rfl, rfl⟩
  have z1 : (s.heap.push { cls := .type "list_iterator", data := .fields #[.ref a, .int 0 0] }).objs.size = s.heap.objs.size + 1 := Heap.size_push ..
  have H2 := H1.push (P := FilO s.heap.objs.size f) { cls := .type "filter", data := .fields #[f, .ref s.heap.objs.size] } ⟨rfl, rfl⟩
  rw [z1] at H2
  refine ⟨⟨{ cls := .type "filter", data := .fields #[f, .ref s.heap.objs.size] }, ?_, rfl⟩, h _ _ _ H2⟩
  rw [← z1]
  exact Heap.get?_push_size _ rfl
/-- the iterator of a list at its end raises -/
theorem next_at_end {I a : Addr} {vs : List Value} {Q : Option Value → Shared → Prop} {E : Value → Shared → Prop} (hh : A.handled = none) (hI : s.heap.IsListIter I a vs.length) (hL : s.heap.IsList a vs.toArray)
    (hE : ∀ h' e, Heap.ExtBut I s.heap h' → (∃ o, h'.get? e = some o ∧ o.cls = .type "StopIteration") → E (.ref e) { s with heap := h' }) : wpAny (model prog w) A (callSpecial? (.ref I) "__next__" []) Q E s := by
  obtain ⟨o, ho, hc, hd⟩ := id hI
  obtain ⟨ol, hol, _, nl, hdl⟩ := hL
  refine wpAny_callSpecial?_slot (name := Str.ofString "__next__") hI.typeIs slot_listiter_next (wpAny_call_entry slot_listiter_next hI.typeIs entry_listiter_next ?_ (args_listiter_next _))
  show wpAny _ _ (field (.ref I) 0 >>= _) _ _ s
  refine wpAny_bind (wpAny_field ho hd (x := .ref a) rfl ?_)
  show wpAny _ _ (if (Value.ref a == Value.none) = true then _ else _) _ _ s
  rw [if_neg (show ¬ ((Value.ref a == Value.none) = true) from Bool.false_ne_true)]
  refine wpAny_bind (m := field (.ref I) 1) (wpAny_field ho hd (x := .int vs.length 0) rfl ?_)
  refine wpAny_bind (m := seqItems? (.ref a)) (wpAny_seqItems hol hdl ?_)
  have hx : vs.toArray[vs.length]? = none := by simp
  simp only [Int.toNat_natCast, hx]
  refine wpAny_bind (wpAny_rule (wpAny_bind (wpAny_setField ho hd (by simp) (wpAny_bind (m := newExc (.type "StopIteration") []) ?_))))
  simp only [newExc, newTuple]
  refine wpAny_bind (wpAny_newObj_type ?_ (by size_fits))
  refine wpAny_bind (m := firstArgMember _ _) (wpAny_of_eq (a := Value.none) (by first | rfl | (simp only [firstArgMember]; rfl)) ?_)
  refine wpAny_newObj_type ?_ (by size_fits)
  simp only [raiseNew]
  refine wpAny_bind (wpAny_handled ?_)
  first | rw [show A.in1.handled = none from hh] | rw [hh]
  exact wpAny_bind (wpAny_pure (wpAny_throw (hE _ _ (((Heap.SameBut.update ..).extBut.push _).push _) ⟨_, Heap.get?_push_size _ rfl, rfl⟩)))
theorem filter_end {M I a : Addr} {f : Value} {vs : List Value} {Q : Option Value → Shared → Prop} (hh : A.handled = none) (hm : (a, ListO vs) ∈ l) (H : Hp g ((I, IterO a vs.length) :: (M, FilO I f) :: l) s.heap)
    (h : ∀ h', Hp g l h' → Q none { s with heap := h' }) : wpAny (model prog w) A (pyNext (.ref M)) Q E s := by
  obtain ⟨oM, hM, cM, dM⟩ := H.has (M, FilO I f) (.tail _ (.head _))
  obtain ⟨oI, hI, cI, dI⟩ := H.has (I, IterO a vs.length) (.head _)
  have hL : s.heap.IsList a vs.toArray := ListO.isList (H.has (a, ListO vs) (.tail _ (.tail _ hm)))
  have hTy : s.TypeIs (.ref M) "filter" := ⟨oM, hM, cM⟩
  unfold pyNext
  refine wpAny_bind (wpAny_attempt (wpAny_callSpecial?_slot (name := Str.ofString "__next__") hTy slot_filter_next
    (wpAny_call_entry slot_filter_next hTy entry_filter_next ?_ (args_filter_next_1 _))))
  show wpAny _ _ (field (.ref M) 0 >>= _) _ _ _
  refine wpAny_bind (wpAny_field hM dM (x := f) rfl ?_)
  refine wpAny_bind (m := field (.ref M) 1) (wpAny_field hM dM (x := .ref I) rfl ?_)
  refine wpAny_bind (m := callSpecial? (.ref I) "__next__" []) (next_at_end hh ⟨oI, hI, cI, dI⟩ hL fun h' e he' hx' => ?_)
  obtain ⟨o, ho, hc⟩ := hx'
  refine wpAny_bind (wpAny_isInstance (T := "StopIteration") (b := true) ⟨o, ho, hc⟩ isSubtype_stop ?_)
  refine wpAny_pure (h h' ?_)
  exact (H.tail.other H.notMem (H.off (I, IterO a vs.length) (.head _)) he').tail
/-- list(filter(f, [])) -/
theorem call_list_filter {M I a : Addr} {f : Value} (hh : A.handled = none) (hm : (a, ListO []) ∈ l) (H : Hp g ((I, IterO a 0) :: (M, FilO I f) :: l) s.heap)
    (h : ∀ D h' tk, Hp g ((D, ListO []) :: l) h' → Q (.ref D) { s with heap := h', toks := tk }) : wpAny (model prog w) A (call (.type "list") [.ref M]) Q E s := by
  refine callType_codes (Q₁ := fun obj s₁ => obj = .ref s.heap.objs.size ∧ s₁ = { s with heap := s.heap.push { cls := .type "list", data := .seq #[] } }) F.called_list (F.typeCall_list_1 _) F.entry_list_init
    (code_list_new _ ⟨rfl, rfl⟩) fun obj s₁ h₁ => ?_
  obtain ⟨rfl, rfl⟩ := h₁
  have hS : (s.heap.push { cls := .type "list", data := .seq #[] }).get? s.heap.objs.size = some { cls := .type "list", data := .seq #[] } := Heap.get?_push_size _ rfl
  have H1 : Hp g ((s.heap.objs.size, ListO []) :: (I, IterO a 0) :: (M, FilO I f) :: l) (s.heap.push { cls := .type "list", data := .seq #[] }) := H.push (P := ListO []) _ ⟨0, rfl⟩
  refine ⟨⟨_, hS, rfl⟩, F.args_list_init_2 _ _, ?_⟩
  generalize s.heap.objs.size = S at *
  generalize hs1 : s.heap.push { cls := .type "list", data := .seq #[] } = hp1 at *
  show wpAny _ A.in1.in1 (do let old ← Builtin.List.listItems (.ref S); Builtin.List.listUpdate (.ref S) (fun _ => #[]); letGo old.toList.reverse; Builtin.List.listExtendWith (.ref S) (.ref M) .none) _ _ _
  refine wpAny_bind ?_
  unfold Builtin.List.listItems
  refine wpAny_bind (wpAny_seqItems hS rfl (wpAny_pure ?_))
  show wpAny _ A.in1.in1 (updateSeq S (fun _ => #[]) >>= fun _ => letGo (#[] : Array Value).toList.reverse >>= fun _ => Builtin.List.listExtendWith (.ref S) (.ref M) .none) _ _ _
  refine wpAny_bind (wpAny_updateSeq hS rfl ?_)
  have hS₂ := Heap.get?_update_self (Obj.mapSeq (fun _ => (#[] : Array Value))) hS rfl
  refine wpAny_bind (wpAny_letGo ?_)
  have H2 : Hp g ((S, ListO []) :: (I, IterO a 0) :: (M, FilO I f) :: l) (hp1.update S (Obj.mapSeq fun _ => #[])) := H1.set (o' := _) (fun b o hb e => (Heap.get?_update_other _ _ (Ne.symm hb)).trans e) hS₂ ⟨_, rfl⟩
  generalize hp1.update S (Obj.mapSeq fun _ => #[]) = hp2 at *
  obtain ⟨oM, hM, cM, dM⟩ := H2.has (M, FilO I f) (.tail _ (.tail _ (.head _)))
  have hTy : ({ s with heap := hp2 } : Shared).TypeIs (.ref M) "filter" := ⟨oM, hM, cM⟩
  have hSM : S ≠ M := fun e => H2.notMem (M, FilO I f) (.tail _ (.head _)) e.symm
  unfold Builtin.List.listExtendWith
  refine wpAny_bind (wpAny_typeOf hTy ?_)
  have h1 : Builtin.List.listSameRef (.ref S) (.ref M) = false := by simp [Builtin.List.listSameRef, hSM]
  have h2 : (Value.type "filter" == Value.type "list") = false := by decide
  have h3 : (Value.type "filter" == Value.type "tuple") = false := by decide
  simp only [h1, h2, h3, Bool.or_false, Bool.false_eq_true, if_false]
  refine wpAny_bind (wpAny_pyIter_slot hTy slot_filter_iter (wpAny_call_entry slot_filter_iter hTy entry_filter_iter ?_ (args_filter_iter_1 _)))
  show wpAny _ _ (ret (.ref M)) _ _ _
  refine wpAny_pure ⟨_, rfl, "filter", _, hTy, slot_filter_next.lookup, ?_⟩
  refine wpAny_bind (wpAny_holding ?_)
  unfold Builtin.List.listLengthHint
  refine wpAny_bind (wpAny_specialOf hTy nolen_filter ?_)
  show wpAny _ _ (specialOf (Value.ref M) (Str.ofString "__length_hint__") >>= _) _ _ _
  refine wpAny_bind (wpAny_specialOf hTy nohint_filter ?_)
  refine wpAny_pure ?_
  show wpAny _ _ (rule "list.extend.makes-room" >>= fun _ => Builtin.List.listTouch (.ref S) >>= fun _ =>
    again (.builtin "list.extend.loop" ⟨[.ref S, .ref M, .none], []⟩)) _ _ _
  refine wpAny_bind (wpAny_rule (wpAny_bind ?_))
  show wpAny _ _ (updateSeq S (·.push .none) >>= fun _ => updateSeq S (·.pop)) _ _ _
  obtain ⟨n, hS4⟩ := ListO.obj (H2.has (S, ListO []) (.head _))
  refine wpAny_bind (wpAny_updateSeq hS4 rfl ?_)
  have hS5 := Heap.get?_update_self (Obj.mapSeq (·.push Value.none)) hS4 rfl
  refine wpAny_updateSeq (hz := by seq_fits) hS5 rfl ?_
  have hS6 := Heap.get?_update_self (Obj.mapSeq (·.pop)) hS5 rfl
  have H3 := H2.set (P' := ListO []) (o' := _) (fun b o hb e => (Heap.get?_update_other _ _ (Ne.symm hb)).trans ((Heap.get?_update_other _ _ (Ne.symm hb)).trans e)) hS6 ⟨_, rfl⟩
  refine wpAny_pure ⟨plainId_quiet F.plain_extend_loop _, codeAny_builtin F.entry_extend_loop ?_⟩
  rw [Around.under_plainId F.plain_extend_loop _]
  show wpAny _ _ (pyNext (.ref M) >>= _) _ _ _
  refine wpAny_bind (filter_end (l := (S, ListO []) :: l) (vs := []) (I := I) (f := f) hh (.tail _ hm) (H3.le fun a => by simp only [cnt_cons]; show _ ≤ _; simp only [List.length_nil]; omega) fun h' H' => ?_)
  exact wpAny_pure ⟨rfl, h S h' _ H'⟩
end
section
variable {prog : Program} {w : World} {A : Around} {E : Value → Shared → Prop} {s : Shared} {g : Heap} {l : Led} {Q : Value → Shared → Prop}
noncomputable def dlOf (d1 d2 : Value) : Value := if (d2 == .none) = true then d1 else d2
theorem dlV.merge {o1 o2 : Option Int} {d1 d2 : Value} (h1 : dlV o1 d1) (h2 : dlV o2 d2) : dlV (o2.orElse fun _ => o1) (dlOf d1 d2) := by
  cases o2 with
  | none =>
    have e : d2 = .none := h2
    subst e
    exact h1
  | some n =>
    obtain ⟨t, rfl⟩ := h2
    exact ⟨t, rfl⟩
theorem dlV.handed {o : Option Int} {d : Value} (h : dlV o d) : handedIn d = true := by
  cases o with
  | none => have e : d = .none := h; subst e; rfl
  | some n => obtain ⟨t, rfl⟩ := h; rfl
theorem merge_spec {n : Nat} (W : Wd w g) (R : Rm A (n + 6)) (H : Hp g l s.heap) {x1 d1 a1 b1 x2 d2 a2 b2 : Addr} {kv1 kv2 : List (Str × Value)} {dl1 dl2 : Value} {o1 o2 : Option Int} {ag : List (List Nat)} {av r1 r2 : List Value}
    (hx1 : (x1, InstO d1) ∈ l) (hd1 : (d1, DicO kv1) ∈ l) (k1 : EntK kv1 a1 b1 dl1) (ha1 : (a1, ListO []) ∈ l) (hb1 : (b1, ListO r1) ∈ l) (v1 : dlV o1 dl1)
    (hx2 : (x2, InstO d2) ∈ l) (hd2 : (d2, DicO kv2) ∈ l) (k2 : EntK kv2 a2 b2 dl2) (ha2 : (a2, ListO av) ∈ l) (hb2 : (b2, ListO r2) ∈ l) (v2 : dlV o2 dl2)
    (hag : Strs ag av) (hz : av.length ≤ 100 ∧ r1.length ≤ 1000 ∧ r2.length ≤ 1000)
    (h : ∀ x dx a b kv h' tk new, EntK kv a b (dlOf dl1 dl2) → Hp g ((x, InstO dx) :: (dx, DicO kv) :: (a, ListO []) :: (b, ListO (r1 ++ r2)) :: (new ++ l)) h' → Q (.ref x) { s with heap := h', toks := tk }) : wpAny (model prog w) A (call (.ref 82) [.ref x1, .ref x2] []) Q E s := by
  refine call_top (args := ⟨[.ref x1, .ref x2], []⟩) (binds := [("e1", .ref x1), ("e2", .ref x2)]) W R H (lk_82 w) (cd_82 w) (bh_82 w) (by kernel_rfl) (by kernel_rfl) (by kernel_rfl) fun L h₁ tk S R1 => ?_
  dsimp only [bd_82]
  have KD := kd_82 w L
  repeat walk_at "rp"
  refine callWith_K0 (K := KK w) (fun a o e => S.hp.base a o (W.X a o e)) (keep_52 w) ?_
  refine entry_new (n := n + 1) W R1 S.hp fun x dx a b kv h' tk hk4 hkv H' => ?_
  have S : St g _ _ _ ((x, InstO dx) :: (dx, DicO kv) :: (a, ListO []) :: (b, ListO []) :: l) h' := S.app (n := [_, _, _, _]) H'
  refine sta S (by walk_at "sto") fun h' tk S => ?_
  have ml : ∀ p ∈ l, p ∈ (x, InstO dx) :: (dx, DicO kv) :: (a, ListO []) :: (b, ListO []) :: l := fun p hp => .tail _ (.tail _ (.tail _ (.tail _ hp)))
  walk_at "rp"
  refine plainObj_wpAny_Assign_Attribute ?_ rfl
  repeat walk_at "rp"
  refine Attribute_any_ ?_ rfl
  repeat walk_at "rp"
  refine Attribute_Name_ ?_ rfl
  repeat walk_at "rp"
  refine getE W S.led (ml _ hx2) (ml _ hd2) (fi_useragents w) k2.ua rfl ?_
  repeat walk_at "rp"
  refine call_set_strs R1.hh hag hz.1 S.hp (List.mem_append_right _ (ml _ ha2)) fun Sx h' tk H' => ?_
  have S := S.cons H'
  refine getContains S.hp (List.mem_append_right _ (.head _)) fun B h' tk H' => ?_
  have S := S.cons H'
  repeat walk_at "rp"
  refine Attribute_Name_ ?_ rfl
  repeat walk_at "rp"
  refine getE W S.led (.tail _ (.tail _ (ml _ hx1))) (.tail _ (.tail _ (ml _ hd1))) (fi_useragents w) k1.ua rfl ?_
  repeat walk_at "rp"
  refine call_filter_list S.hp (List.mem_append_right _ (.tail _ (.tail _ (ml _ ha1)))) fun M I h' H' => ?_
  repeat walk_at "rp"
  refine call_list_filter R1.hh (List.mem_append_right _ (.tail _ (.tail _ (ml _ ha1)))) (H'.perm (.swap ..)) fun D h' tk H' => ?_
  have S := S.cons H'
  repeat walk_at "rp"
  have S := St.front (pre := [_, _, _, _]) S
  refine setES W (by omega) S (.tail _ (.tail _ (.tail _ (.head _)))) (tk_useragents w) fun h' tk S => ?_
  have hkv := hkv.setUa (c := D) (by omega)
  have ml2 := S.subs (l := l) fun p hp => .tail _ (.tail _ (.tail _ (.tail _ (.tail _ (.tail _ (.tail _ hp))))))
  walk_at "rp"
  refine plainObj_wpAny_Assign_Attribute ?_ rfl
  repeat walk_at "rp"
  refine Attribute_Name_ ?_ rfl
  repeat walk_at "rp"
  refine getE W S.led (ml2 _ hx1) (ml2 _ hd1) (fi_rulelines w) k1.rl rfl ?_
  refine Attribute_Name_ ?_ rfl
  repeat walk_at "rp"
  refine getE W S.led (ml2 _ hx2) (ml2 _ hd2) (fi_rulelines w) k2.rl rfl ?_
  refine addL S (ml2 _ hb1) (ml2 _ hb2) (by rw [sizeLine_eq]; omega) fun B2 h' S => ?_
  repeat walk_at "rp"
  have S := St.front (pre := [_]) S
  refine setES W (by rw [List.length_cons]; omega) S (.tail _ (.tail _ (.tail _ (.tail _ (.head _))))) (tk_rulelines w) fun h' tk S => ?_
  have hkv := hkv.setRl (c := B2) (by rw [List.length_cons]; omega)
  have ml3 := S.subs (l := l) fun p hp => .tail _ (.tail _ (.tail _ (.tail _ (.tail _ (.tail _ (.tail _ (.tail _ hp)))))))
  walk_at "rp"
  refine plainObj_wpAny_Assign_Attribute ?_ rfl
  ((with_reducible refine wpAny_IfExp ?_); walk_at "d"; (repeat walk_at "rp"))
  refine Attribute_Name_ ?_ rfl
  repeat walk_at "rp"
  refine getE W S.led (ml3 _ hx2) (ml3 _ hd2) (fi_delay w) k2.dl v2.handed ?_
  repeat walk_at "rp"
  refine is_none_gen ?_
  repeat walk_at "rp"
  by_cases hd : (dl2 == Value.none) = true
  all_goals
    first | have hdl : dlOf dl1 dl2 = dl1 := if_pos hd | have hdl : dlOf dl1 dl2 = dl2 := if_neg hd
    first | refine iteT hd ?_ | refine iteF (Bool.eq_false_iff.mpr hd) ?_
    refine Attribute_Name_ ?_ rfl
    repeat walk_at "rp"
    first | refine getE W S.led (ml3 _ hx1) (ml3 _ hd1) (fi_delay w) k1.dl v1.handed ?_ | refine getE W S.led (ml3 _ hx2) (ml3 _ hd2) (fi_delay w) k2.dl v2.handed ?_
    rw [← hdl]
    repeat walk_at "rp"
    refine setES W (by rw [List.length_cons, List.length_cons]; omega) S (.tail _ (.tail _ (.tail _ (.tail _ (.head _))))) (tk_delay w) fun h' tk S => ?_
    have hkv := hkv.setDl (v := dlOf dl1 dl2) (by rw [List.length_cons, List.length_cons]; omega)
    have ml4 := S.subs (l := l) fun p hp => .tail _ (.tail _ (.tail _ (.tail _ (.tail _ (.tail _ (.tail _ (.tail _ hp)))))))
    walk_at "rp"
    refine plainObj_wpAny_Assign_Attribute ?_ rfl
    (repeat (first | walk_at "rp" | ((with_reducible refine wpAny_IfExp ?_); walk_at "d")))
    refine Attribute_Name_ ?_ rfl
    repeat walk_at "rp"
    refine getE W S.led (ml4 _ hx2) (ml4 _ hd2) (fi_req_rate w) k2.rr rfl ?_
    repeat walk_at "rp"
    refine is_none_gen ?_
    repeat walk_at "rp"
    refine iteT rfl ?_
    refine Attribute_Name_ ?_ rfl
    repeat walk_at "rp"
    refine getE W S.led (ml4 _ hx1) (ml4 _ hd1) (fi_req_rate w) k1.rr rfl ?_
    repeat walk_at "rp"
    refine setES W (by rw [List.length_cons, List.length_cons, List.length_cons]; omega) S (.tail _ (.tail _ (.tail _ (.tail _ (.head _))))) (tk_req_rate w) fun h' tk S => ?_
    have hkv := hkv.setRr (by rw [List.length_cons, List.length_cons, List.length_cons]; omega)
    repeat walk_at "rp"
    refine h x dx D B2 _ h' _ [] hkv (S.hp.le fun a => ?_)
    simp only [cnt_cons, cnt_append, cnt_nil, List.cons_append, List.nil_append, List.append_eq]; first | ac_rfl | omega
end
/-- the parts between the signs c; the small letters; one text in another -/
noncomputable def spl (c : Nat) (x : List Nat) : List (List Nat) := (Txt.split (Tx x) (Tx [c])).map (·.cps.toList)
noncomputable def loN (x : List Nat) : List Nat := (Txt.lower (Tx x)).cps.toList
noncomputable def inN (b a : List Nat) : Bool := !(Builtin.Str.occurrences (Tx a) (Tx b) 0 (Tx a).length 1).isEmpty
theorem spl_Tx (c : Nat) (x : List Nat) : (spl c x).map Tx = Txt.split (Tx x) (Tx [c]) := by
  unfold spl
  rw [List.map_map]
  exact (List.map_congr_left fun q _ => (Tx_eta q).symm).trans (List.map_id _)
theorem loN_Tx (x : List Nat) : Txt.lower (Tx x) = Tx (loN x) := Tx_eta _
section
variable {prog : Program} {w : World} {A : Around} {E : Value → Shared → Prop} {s : Shared} {g : Heap} {env : Env} {own : List (Str × Addr)} {u : List (Str × Value)} {l : Led}
theorem splitC {c : Nat} {x : List Nat} {t t' : Tok} {Q : Value → Shared → Prop} (hz : x.length ≤ 1000) (S : St g env own u l s.heap) (h : ∀ D vs h' tk, Strs (spl c x) vs → St g env own u ((D, ListO vs) :: l) h' → Q (.ref D) { s with heap := h', toks := tk }) :
    wpAny (model prog w) A (call (.builtin "str.split") [.str (Tx x) t, .str (Tx [c]) t']) Q E s := by
  have hsp := spl_Tx c x
  have hy : ((Tx [c]).length == 0) = false := rfl
  have hx : (Tx x).length ≤ sizeLine := by rw [Tx_len, sizeLine_eq]; omega
  cases h1 : (decide ((Tx x).length < (Tx [c]).length) || decide (Builtin.Str.strKind (Tx x) < Builtin.Str.strKind (Tx [c])))
  · cases hf : (Builtin.Str.occurrences (Tx x) (Tx [c]) 0 (Tx x).length ((Tx x).length + 1)).isEmpty
    · have e0 : Txt.split (Tx x) (Tx [c]) = Builtin.Str.partsBetween (Tx x) (Builtin.Str.occurrences (Tx x) (Tx [c]) 0 (Tx x).length ((Tx x).length + 1)) (Tx [c]).length := by
        unfold Txt.split; rw [if_neg (ne_true_of_eq_false h1), if_neg (ne_true_of_eq_false hf)]
      have hn := PyProof.Rows.split_le (Tx x) (Tx [c])
      rw [e0] at hn
      have hlx := Tx_len x
      refine call_meets F.slot_str_split (typeIs_str _ _ _) F.entry_str_split (F.args_str_split_2 _ _) (meets_str_split_sep _ _ _ _ h1 hy hf hx (by rw [sizeLine_eq]; omega)) ?_
      rw [strsFrom_eq]
      refine h _ _ _ _ (strs_of (p := numbered s.toks _) ?_) (S.push (P := ListO _) _ ⟨0, rfl⟩)
      rw [numbered_texts, ← e0, hsp]
    · have e0 : Txt.split (Tx x) (Tx [c]) = [Tx x] := by unfold Txt.split; rw [if_neg (ne_true_of_eq_false h1), if_pos hf]
      refine call_meets F.slot_str_split (typeIs_str _ _ _) F.entry_str_split (F.args_str_split_2 _ _) (meets_str_split_not_found _ _ _ _ h1 hy hf) ?_
      exact h _ _ _ _ (strs_of (p := [(Tx x, t)]) (by rw [hsp, e0]; rfl)) (S.push (P := ListO _) _ ⟨0, rfl⟩)
  · have e0 : Txt.split (Tx x) (Tx [c]) = [Tx x] := by unfold Txt.split; rw [if_pos h1]
    refine call_meets F.slot_str_split (typeIs_str _ _ _) F.entry_str_split (F.args_str_split_2 _ _) (meets_str_split_cannot_occur _ _ _ _ h1) ?_
    exact h _ _ _ _ (strs_of (p := [(Tx x, t)]) (by rw [hsp, e0]; rfl)) (S.push (P := ListO _) _ ⟨0, rfl⟩)
theorem lowerS {x : List Nat} {t : Tok} {Q : Value → Shared → Prop} (hz : x.length ≤ 1000) (h : ∀ t' tk, Q (.str (Tx (loN x)) t') { s with toks := tk }) : wpAny (model prog w) A (call (.builtin "str.lower") [.str (Tx x) t]) Q E s := by
  refine SCL.lower (by rw [Tx_len]; omega) ?_
  rw [loN_Tx]; exact fun _ => h _ _
end
noncomputable def applN (ag : List (List Nat)) : Option (List Nat) → Bool
  | none => ag.any (· == [42])
  | some x => ag.any fun a => !(a == [42]) && inN (loN a) (loN ((spl 47 x).headD []))
theorem in_strsL {prog : Program} {w : World} {A : Around} {E : Value → Shared → Prop} {s : Shared} {g : Heap} {l : Led} {Q : Value → Shared → Prop} {a : Addr} {xs : List (List Nat)} {vs : List Value} {k : List Nat} {t : Tok} (H : Hp g l s.heap) (hm : (a, ListO vs) ∈ l) (hxs : Strs xs vs)
    (h : Q (.bool (xs.any (· == k))) s) : wpAny (model prog w) A (compareOp .In (.str (Tx k) t) (.ref a)) Q E s := by
  refine in_list_strs (ListO.isList (H.get hm)) (strsAre hxs) ?_
  have e : (xs.map Tx).any (· == Tx k) = xs.any (· == k) := by
    rw [List.any_map]
    congr 1
    funext x
    exact Tx_beq x k
  rw [e]; exact h
section
variable {prog : Program} {w : World} {A : Around} {E : Value → Shared → Prop} {s : Shared} {g : Heap} {l : Led} {Q : Value → Shared → Prop}
theorem applies_spec {n : Nat} (W : Wd w g) (R : Rm A (n + 3)) (H : Hp g l s.heap) {x dx a b : Addr} {kv : List (Str × Value)} {dl v : Value} {ag : List (List Nat)} {av : List Value} {ua : Option (List Nat)}
    (hx : (x, InstO dx) ∈ l) (hd : (dx, DicO kv) ∈ l) (k : EntK kv a b dl) (ha : (a, ListO av) ∈ l) (hag : Strs ag av) (hz : ∀ p ∈ ag, p.length ≤ 100)
    (hv : match ua with | none => v = .none | some y => ∃ t, v = .str (Tx y) t ∧ y.length ≤ 100 ∧ ((spl 47 y).headD []).length ≤ 100)
    (h : ∀ h' tk new, Hp g (new ++ l) h' → Q (.bool (applN ag ua)) { s with heap := h', toks := tk }) : wpAny (model prog w) A (call (.ref 42) [.ref x, v] []) Q E s := by
  refine call_top (args := ⟨[.ref x, v], []⟩) (binds := [("self", .ref x), ("useragent", v)]) W R H (lk_42 w) (cd_42 w) (bh_42 w) (by kernel_rfl) (by kernel_rfl) (by kernel_rfl) fun L h₁ tk S R1 => ?_
  dsimp only [bd_42]
  have KD := kd_42 w L
  repeat walk_at "rp"
  refine is_none_gen ?_
  repeat walk_at "rp"
  cases ua with
  | none =>
    have e : v = .none := hv
    subst e
    refine iteT rfl ?_
    repeat walk_at "rp"
    refine Attribute_Name_ ?_ rfl
    repeat walk_at "rp"
    refine getE W S.led hx hd (fi_useragents w) k.ua rfl ?_
    refine in_strsL S.led ha hag ?_
    exact h _ _ [] S.led
  | some y =>
    obtain ⟨t, rfl, hyz, hsz⟩ := hv
    refine iteF rfl ?_
    repeat walk_at "rp"
    refine mcS0 F.slot_str_lower F.type_str_lower rfl rfl ?_
    repeat walk_at "rp"
    refine mcS F.slot_str_split F.type_str_split rfl rfl rfl rfl rfl ?_
    repeat walk_at "rp"
    refine ⟨_, _, rfl, ?_⟩
    ((repeat walk_at "rp"); (with_reducible refine lit_2 ?_); walk_at "d"; (repeat walk_at "rp"))
    refine splitC (by omega) S fun D vs h' tk hvs S => ?_
    obtain ⟨u0, hu0⟩ : ∃ u0, (spl 47 y)[0]? = some u0 := by
      have h1 := PyProof.Rows.split_pos (Tx y) (Tx [47])
      have h2 : (spl 47 y).length = (Txt.split (Tx y) (Tx [47])).length := by unfold spl; rw [List.length_map]
      exact ⟨_, List.getElem?_eq_getElem (by omega)⟩
    have hu : (spl 47 y).headD [] = u0 := by
      cases e : spl 47 y with
      | nil => rw [e] at hu0; cases hu0
      | cons z r => rw [e] at hu0; simpa using hu0
    rw [hu] at hsz
    have happ : applN ag (some y) = ag.any fun a => !(a == [42]) && inN (loN a) (loN u0) := by
      show (ag.any fun a => !(a == [42]) && inN (loN a) (loN ((spl 47 y).headD []))) = _
      rw [hu]
    obtain ⟨t0, e0⟩ := hvs.2 0 u0 hu0
    repeat walk_at "rp"
    refine ⟨_, _, rfl, ?_⟩
    refine lowerS (by omega) fun tl tk => ?_
    refine sta S (by walk_at "sto") fun h' tk S => ?_
    repeat walk_at "rp"
    refine wpAny_For ?_
    refine Attribute_Name_ ?_ rfl
    repeat walk_at "rp"
    refine getE W S.led (.tail _ hx) (.tail _ hd) (fi_useragents w) k.ua rfl ?_
    refine iterL S (.tail _ ha) fun I h' S => ?_
    refine forLoop_ (Itr.list R1.hh a av) (by walk_at "sto") (fun i u l1 => l1 = (D, ListO vs) :: l ∧ (("useragent", .str (Tx (loN u0)) tl) : Str × Value) ∈ u ∧ ((ag.take i).any fun a => !(a == [42]) && inN (loN a) (loN u0)) = false) S (fun p hp => by rcases List.mem_singleton.mp hp with rfl; exact .tail _ ha) ⟨rfl, by walk_at "mem", rfl⟩ ?_ ?_
    · rintro i v u l1 h' tk hi hv ⟨rfl, m1, hno⟩ - S
      have hi' : i < ag.length := by rw [← hag.1]; exact hi
      obtain ⟨q, hq⟩ : ∃ q, ag[i]? = some q := ⟨_, List.getElem?_eq_getElem hi'⟩
      obtain ⟨tq, e⟩ := hag.2 i q hq
      rw [hv] at e; injection e with e; subst e
      have hqz := hz q (List.mem_of_getElem? hq)
      have hmem := List.mem_of_getElem? hq
      ((repeat walk_at "rp"); (with_reducible refine neS ?_); walk_at "d"; (repeat walk_at "rp"))
      by_cases b1 : q = [42]
      · refine iteF (by simp [b1]) ?_
        repeat walk_at "rp"
        refine ⟨_, _, _, _, rfl, S, fun p hp => (by rcases List.mem_singleton.mp hp with rfl; exact .tail _ ha), rfl, by walk_at "mem", ?_⟩
        rw [take_snoc hq, List.any_append, hno, b1]; rfl
      · refine iteT (by simp [b1]) ?_
        repeat walk_at "rp"
        refine mcS0 F.slot_str_lower F.type_str_lower rfl rfl ?_
        repeat walk_at "rp"
        refine ⟨_, _, rfl, lowerS (by omega) fun tq2 tk => ?_⟩
        refine sta S (by walk_at "sto") fun h' tk S => ?_
        repeat walk_at "rp"
        refine PyProof.Rows.in_str ?_
        refine wpAny_truthy_bool ?_
        have hb1 : (q == [42]) = false := by simpa using b1
        cases hin : inN (loN q) (loN u0) with
        | true =>
          refine iteT hin ?_
          ((repeat walk_at "rp"); (with_reducible refine wpAny_Constant_bool ?_); walk_at "d")
          have : applN ag (some y) = true := by
            rw [happ, List.any_eq_true]
            exact ⟨q, hmem, by rw [hb1, hin]; rfl⟩
          rw [← this]
          exact h h' _ [_, _] S.led
        | false =>
          refine iteF hin ?_
          repeat walk_at "rp"
          refine ⟨_, _, _, _, rfl, S, fun p hp => (by rcases List.mem_singleton.mp hp with rfl; exact .tail _ ha), rfl, by walk_at "mem", ?_⟩
          rw [take_snoc hq, List.any_append, hno]
          simp [hin]
    · rintro u l1 h' tk ⟨rfl, m1, hno⟩ S
      dsimp only
      ((repeat walk_at "rp"); (with_reducible refine wpAny_Constant_bool ?_); walk_at "d")
      have : applN ag (some y) = false := by
        rw [happ]
        rw [hag.1, List.take_length] at hno
        exact hno
      rw [← this]
      exact h h' _ [_] S.led
end
noncomputable def RulesAt (l : Led) (nA : Addr) (rs : List (List Nat × Bool)) (rv : List Value) : Prop := rv.length = rs.length ∧ ∀ (i : Nat) (r : List Nat × Bool), rs[i]? = some r → ∃ f rA rvv, rv[i]? = some (.ref f) ∧ Rul l f rA nA r.2 ∧ (rA, ListO rvv) ∈ l ∧ Nats rvv r.1
theorem RulesAt.mono {l l' : Led} {nA : Addr} {rs : List (List Nat × Bool)} {rv : List Value} (r : RulesAt l nA rs rv) (h : ∀ p ∈ l, p ∈ l') : RulesAt l' nA rs rv :=
  ⟨r.1, fun i q hq => let ⟨f, rA, rvv, a, b, c, d⟩ := r.2 i q hq; ⟨f, rA, rvv, a, b.mono h, h _ c, d⟩⟩
theorem Hp.subs {g : Heap} {L : Led} {h : Heap} (_ : Hp g L h) {l : Led} (x : ∀ q ∈ l, q ∈ L) : ∀ q ∈ l, q ∈ L := x
theorem lamAt_ {h : Heap} {f : Addr} {d : Option Addr} {qual : Str} {params : Arguments} {body : PySem.Expr} {scope : Scope} {clos : List (Str × Addr)} {c' : Addr} (x : ∃ o, h.get? f = some o ∧ LamO d qual params body scope clos c' o) : FnAt f h := by
  obtain ⟨o, ho, pm, ctv, e⟩ := x
  exact ⟨_, _, _, _, ho.trans (by rw [e])⟩
noncomputable def stepA (j : Nat) (st : Int × Bool) (r : List Nat × Bool) : Int × Bool :=
  if r.1.getD j 0 = 0 then st else if st.1 < (r.1.getD j 0 : Nat) then (((r.1.getD j 0 : Nat) : Int), r.2) else if ((r.1.getD j 0 : Nat) : Int) = st.1 ∧ st.2 = false then (st.1, r.2) else st
noncomputable def allowN (rs : List (List Nat × Bool)) (j : Nat) : Bool := (rs.foldl (stepA j) (-1, true)).2
noncomputable abbrev AlwO (l : Led) (rs : List (List Nat × Bool)) (nms : List (List Nat)) (nm : List Nat) (t : Tok) (i : Nat) (u : List (Str × Value)) (l1 : Led) : Prop := ∃ new tb best al, l1 = new ++ l ∧ (rs.take i).foldl (stepA (nms.idxOf nm)) (-1, true) = (best, al) ∧ (("best_match", .int best tb) : Str × Value) ∈ u ∧ (("allowance", .bool al) : Str × Value) ∈ u ∧ (("filename", .str (Tx nm) t) : Str × Value) ∈ u
section
variable {prog : Program} {w : World} {A : Around} {E : Value → Shared → Prop} {s : Shared} {g : Heap} {l : Led} {Q : Value → Shared → Prop}
theorem allowance_spec {n : Nat} (W : Wd w g) (R : Rm A (n + 6)) (H : Hp g l s.heap) {x dx a b nA : Addr} {kv : List (Str × Value)} {dl : Value} {rs : List (List Nat × Bool)} {rv nv : List Value} {nms : List (List Nat)} {nm : List Nat} {t : Tok}
    (hx : (x, InstO dx) ∈ l) (hd : (dx, DicO kv) ∈ l) (k : EntK kv a b dl) (hb : (b, ListO rv) ∈ l) (hrv : RulesAt l nA rs rv) (hnA : (nA, ListO nv) ∈ l) (hnv : Strs nms nv) (hz : nms.length ≤ 1000) (hl : ∀ r ∈ rs, r.1.length = nms.length) (hk : nm ∈ nms)
    (h : ∀ h' tk new, Hp g (new ++ l) h' → Q (.bool (allowN rs (nms.idxOf nm))) { s with heap := h', toks := tk }) : wpAny (model prog w) A (call (.ref 49) [.ref x, .str (Tx nm) t] []) Q E s := by
  refine call_top (args := ⟨[.ref x, .str (Tx nm) t], []⟩) (binds := [("self", .ref x), ("filename", .str (Tx nm) t)]) W R H (lk_49 w) (cd_49 w) (bh_49 w) (by kernel_rfl) (by kernel_rfl) (by kernel_rfl) fun L h₁ tk S R1 => ?_
  dsimp only [bd_49]
  have KD := kd_49 w L
  repeat walk_at "rp"
  refine sta S (by walk_at "sto") fun h' tk S => ?_
  ((repeat walk_at "rp"); (with_reducible refine wpAny_Constant_bool ?_); walk_at "d")
  refine sta S (by walk_at "sto") fun h' tk S => ?_
  repeat walk_at "rp"
  refine wpAny_For ?_
  refine Attribute_Name_ ?_ rfl
  repeat walk_at "rp"
  refine getE W S.led hx hd (fi_rulelines w) k.rl rfl ?_
  refine iterL S hb fun I h' S => ?_
  refine forLoop_ (Itr.list R1.hh b rv) (by walk_at "sto") (AlwO l rs nms nm t) S (fun p hp => by rcases List.mem_singleton.mp hp with rfl; exact hb) ⟨[], _, -1, true, rfl, rfl, by walk_at "mem", by walk_at "mem", by walk_at "mem"⟩ ?_ ?_
  · rintro i v u l1 h' tk hi hv ⟨new, tb, best, al, rfl, hfo, m1, m2, m3⟩ - S
    have hi' : i < rs.length := by rw [← hrv.1]; exact hi
    obtain ⟨r, hr⟩ : ∃ r, rs[i]? = some r := ⟨_, List.getElem?_eq_getElem hi'⟩
    obtain ⟨f, rA, rvv, e, ⟨d, c1, f2, c2, cR, cN, r1, r2, r3, r4, r5, r6⟩, hrA, hrvv⟩ := hrv.2 i r hr
    rw [hv] at e; injection e with e; subst e
    have hst : (rs.take (i + 1)).foldl (stepA (nms.idxOf nm)) (-1, true) = stepA (nms.idxOf nm) (best, al) r := by rw [take_snoc hr, List.foldl_append, hfo]; rfl
    have ml := S.subs (l := l) fun p hp => .tail _ (List.mem_append_right _ hp)
    repeat walk_at "rp"
    refine methodCall_KW ?_ rfl
    repeat walk_at "rp"
    refine getMethodFn nolk_applies (S.get (ml _ r1)) (S.get (ml _ r2)) rfl rfl ?_
    refine cwF (first := []) rfl rfl ?_
    repeat walk_at "rp"
    refine ⟨lamAt_ (S.get (ml _ r3)), ?_⟩
    have ml' := Hp.subs S.hp (l := l) fun p hp => List.mem_append_right _ (ml p hp)
    have hlr := hl r (List.mem_of_getElem? hr)
    refine rul_call (n := n + 2) W R1 S.hp (ml' _ r3) (ml' _ r4) (let ⟨P, p1, p2⟩ := r5; ⟨P, ml' _ p1, p2⟩) (let ⟨P, p1, p2⟩ := r6; ⟨P, ml' _ p1, p2⟩) (ml' _ hrA) hrvv (ml' _ hnA) hnv hz hlr hk fun tm new2 h' tk H' => ?_
    have S := S.app H'
    refine sta S (by walk_at "sto") fun h' tk S => ?_
    have ml2 := S.subs (l := l) fun p hp => List.mem_append_right _ (.tail _ (List.mem_append_right _ hp))
    generalize hm : r.1.getD (nms.idxOf nm) 0 = m at *
    ((repeat walk_at "rp"); ((with_reducible refine wpAny_isTrue_value ?_ ?_); rotate_left; rfl); walk_at "d"; (repeat walk_at "rp"))
    refine PyProof.Rows.truthy_int ?_
    by_cases h0 : m = 0
    · refine iteF (by simp [h0]) ?_
      repeat walk_at "rp"
      refine ⟨_, (new2 ++ new) ++ l, _, _, rfl, S.re fun a => by simp only [cnt_cons, cnt_append]; first | ac_rfl | omega, fun p hp => (by rcases List.mem_singleton.mp hp with rfl; exact List.mem_append_right _ hb), new2 ++ new, tb, best, al, rfl, ?_, by walk_at "mem", by walk_at "mem", by walk_at "mem"⟩
      rw [hst]; unfold stepA; rw [hm, if_pos h0]
    · refine iteT (by simp; omega) ?_
      ((repeat walk_at "rp"); (with_reducible refine gtI ?_); walk_at "d"; (repeat walk_at "rp"))
      by_cases h1 : best < m
      · refine iteT (by simp [h1]) ?_
        repeat walk_at "rp"
        refine sta S (by walk_at "sto") fun h' tk S => ?_
        repeat walk_at "rp"
        refine Attribute_Name_ ?_ rfl
        repeat walk_at "rp"
        refine getFn nolk_allowance (S.get (ml2 _ r1)) (S.get (ml2 _ r2)) rfl rfl ?_
        refine sta S (by walk_at "sto") fun h' tk S => ?_
        repeat walk_at "rp"
        refine ⟨_, (new2 ++ new) ++ l, _, _, rfl, S.re fun a => by simp only [cnt_cons, cnt_append]; first | ac_rfl | omega, fun p hp => (by rcases List.mem_singleton.mp hp with rfl; exact List.mem_append_right _ hb), new2 ++ new, tm, m, r.2, rfl, ?_, by walk_at "mem", by walk_at "mem", by walk_at "mem"⟩
        rw [hst]; unfold stepA; rw [hm, if_neg h0, if_pos h1]
      · refine iteF (by simp; omega) ?_
        ((repeat walk_at "rp"); (with_reducible refine wpAny_isTrue_BoolOp ?_); walk_at "d"; (with_reducible refine wpAny_allTrue_And_cons ?_); walk_at "d"; (repeat walk_at "rp"))
        by_cases h2 : (m : Int) = best
        · refine iteT (by simp [h2]) ?_
          ((with_reducible refine wpAny_allTrue_And_cons ?_); walk_at "d"; (with_reducible refine wpAny_isTrue_Not ?_); walk_at "d"; ((with_reducible refine wpAny_isTrue_value ?_ ?_); rotate_left; rfl); walk_at "d"; (repeat walk_at "rp"))
          cases al with
          | false =>
            refine iteT rfl ?_
            ((with_reducible refine wpAny_allTrue_And_nil ?_); walk_at "d")
            first | refine iteT rfl ?_ | skip
            repeat walk_at "rp"
            refine Attribute_Name_ ?_ rfl
            repeat walk_at "rp"
            refine getFn nolk_allowance (S.get (ml2 _ r1)) (S.get (ml2 _ r2)) rfl rfl ?_
            refine sta S (by walk_at "sto") fun h' tk S => ?_
            repeat walk_at "rp"
            refine ⟨_, (new2 ++ new) ++ l, _, _, rfl, S.re fun a => by simp only [cnt_cons, cnt_append]; first | ac_rfl | omega, fun p hp => (by rcases List.mem_singleton.mp hp with rfl; exact List.mem_append_right _ hb), new2 ++ new, tb, best, r.2, rfl, ?_, by walk_at "mem", by walk_at "mem", by walk_at "mem"⟩
            rw [hst]; unfold stepA; rw [hm, if_neg h0, if_neg h1, if_pos ⟨h2, rfl⟩]
          | true =>
            refine iteF rfl ?_
            repeat walk_at "rp"
            first | refine iteF rfl ?_ | skip
            repeat walk_at "rp"
            refine ⟨_, (new2 ++ new) ++ l, _, _, rfl, S.re fun a => by simp only [cnt_cons, cnt_append]; first | ac_rfl | omega, fun p hp => (by rcases List.mem_singleton.mp hp with rfl; exact List.mem_append_right _ hb), new2 ++ new, tb, best, true, rfl, ?_, by walk_at "mem", by walk_at "mem", by walk_at "mem"⟩
            rw [hst]; unfold stepA; rw [hm, if_neg h0, if_neg h1, if_neg (fun q => by cases q.2)]
        · refine iteF (by simp [h2]) ?_
          repeat walk_at "rp"
          first | refine iteF rfl ?_ | skip
          repeat walk_at "rp"
          refine ⟨_, (new2 ++ new) ++ l, _, _, rfl, S.re fun a => by simp only [cnt_cons, cnt_append]; first | ac_rfl | omega, fun p hp => (by rcases List.mem_singleton.mp hp with rfl; exact List.mem_append_right _ hb), new2 ++ new, tb, best, al, rfl, ?_, by walk_at "mem", by walk_at "mem", by walk_at "mem"⟩
          rw [hst]; unfold stepA; rw [hm, if_neg h0, if_neg h1, if_neg (fun q => h2 q.1)]
  · rintro u l1 h' tk ⟨new, tb, best, al, rfl, hfo, m1, m2, m3⟩ S
    dsimp only
    rw [hrv.1, List.take_length] at hfo
    have hal : allowN rs (nms.idxOf nm) = al := by unfold allowN; rw [hfo]
    rw [hal] at h
    repeat walk_at "rp"
    exact h h' _ new S.led
end
noncomputable abbrev Le (w : World) (L : Addr) : Env := fenv (fdOf w 146) L 146
noncomputable abbrev Lo (w : World) (L : Addr) : List (Str × Addr) := fown (fdOf w 146) L
noncomputable abbrev Pq (Q : Value → Shared → Prop) (f : Flow) (s' : Shared) : Prop := Q (match f with | .ret v => v | _ => .none) s'
noncomputable def TabsIn (l : Led) : Prop := (∃ ps, (112, TabO ps) ∈ l) ∧ ∃ ps, (129, TabO ps) ∈ l
theorem TabsIn.mono {l l' : Led} (t : TabsIn l) (h : ∀ p ∈ l, p ∈ l') : TabsIn l' := ⟨let ⟨ps, m⟩ := t.1; ⟨ps, h _ m⟩, let ⟨ps, m⟩ := t.2; ⟨ps, h _ m⟩⟩
theorem ints_get {vs : List Value} {ns : List Int} (h : IntsAre vs ns) {i : Nat} (hi : i < ns.length) : ∃ t, vs[i]? = some (.int (ns.getD i 0) t) := by
  have hl : i < vs.length := by rw [h.length]; exact hi
  have hv : vs[i]? = some vs[i] := List.getElem?_eq_getElem hl
  obtain ⟨t, e⟩ := IntsAre.int_at h i _ hv
  exact ⟨t, by rw [hv, e]⟩
theorem ints_last {ys : List Value} {ws : List Int} (h : IntsAre ys ws) : (ws.getLast? = none ∧ ys = []) ∨ ∃ z t, ws.getLast? = some z ∧ ys.getLast? = some (.int z t) := by
  rcases Nat.eq_zero_or_pos ws.length with h0 | h0
  · have e := List.length_eq_zero_iff.mp h0
    subst e
    exact .inl ⟨rfl, h.nil_inv⟩
  · obtain ⟨t, e⟩ := ints_get h (i := ws.length - 1) (by omega)
    refine .inr ⟨ws.getD (ws.length - 1) 0, t, ?_, ?_⟩
    · rw [List.getLast?_eq_getElem?, List.getD_eq_getElem?_getD, List.getElem?_eq_getElem (by omega)]; rfl
    · rw [List.getLast?_eq_getElem?, h.length]; exact e
/-- the waits of the records that are asked -/
noncomputable def waitsOf (ss : List Int) (mine : List Nat) : List Int := (mine.filter fun r => decide (ss.getD (6 + r) 0 / 16 % 2 = 1)).map fun r => ss.getD (6 + r) 0 / 32
section
variable {prog : Program} {w : World} {A : Around} {E : Value → Shared → Prop} {s : Shared} {g : Heap} {L : Addr} {u : List (Str × Value)} {l : Led} {Q : Value → Shared → Prop}
theorem seg16 {n : Nat} (W : Wd w g) (R : Rm A n) (S : St g (Le w L) (Lo w L) u l s.heap) {sA mA x dx a b : Addr} {sv mv : List Value} {ss : List Int} {mine : List Nat} {kv : List (Str × Value)} {dl : Value} (hT : TabsIn l)
    (us : (("sums", .ref sA) : Str × Value) ∈ u) (hs : (sA, ListO sv) ∈ l) (hsv : IntsAre sv ss) (hsl : ss.length = 10)
    (um : (("mine", .ref mA) : Str × Value) ∈ u) (hm : (mA, ListO mv) ∈ l) (hmv : Nats mv mine) (hml : mine.length ≤ 10 ∧ ∀ r ∈ mine, r < 3)
    (uj : (("joined", .ref x) : Str × Value) ∈ u) (hx : (x, InstO dx) ∈ l) (hd : (dx, DicO kv) ∈ l) (k : EntK kv a b dl) (hdl : dlV (waitsOf ss mine).getLast? dl)
    (h : ∀ h' tk l', Hp g l' h' → TabsIn l' → Q (.bool true) { s with heap := h', toks := tk }) : wpAny (model prog w) A (execs (bd_146.1.drop 16) (Le w L)) (Pq Q) E s := by
  have KD := kd_146 w L
  have hdh := hdl.handed
  dsimp only [bd_146, List.drop]
  walk_at "rp"
  refine comp_assign (by kernel_rfl) (by kernel_rfl) ?_ (fun _ => rfl) rfl
  repeat walk_at "rp"
  refine iterL S hm fun I h' S => ?_
  refine compAt1 KD (by kernel_rfl) (Itr.list R.hh mA mv) S (fun p hp => by rcases List.mem_singleton.mp hp with rfl; exact hm) (by rw [hmv.len, sizeLine_eq]; omega) [("sums", .ref sA)] (fun p hp => by rcases List.mem_singleton.mp hp with rfl; exact us) (by kernel_rfl)
    (fun i ys ex => IntsAre ys (waitsOf ss (mine.take i))) .nil ?_ ?_
  · rintro cl C D i v ys ex h' tk KD1 hi hv hj hys S
    obtain ⟨r, tr, rfl, hr⟩ := hmv.get hv
    have hr3 := hml.2 r (List.mem_of_getElem? hr)
    obtain ⟨ts, es⟩ := ints_get hsv (i := 6 + r) (by omega)
    have ms := S.mem (e := (sA, ListO sv)) (.tail _ (.tail _ (List.mem_append_right _ (List.mem_append_right _ hs))))
    have hw : waitsOf ss (mine.take (i + 1)) = waitsOf ss (mine.take i) ++ if ss.getD (6 + r) 0 / 16 % 2 = 1 then [ss.getD (6 + r) 0 / 32] else [] := by
      unfold waitsOf
      rw [take_snoc hr, List.filter_append, List.map_append]
      congr 1
      by_cases q : ss.getD (6 + r) 0 / 16 % 2 = 1
      · rw [if_pos q, List.filter_cons_of_pos (by simpa using q)]; rfl
      · rw [if_neg q, List.filter_cons_of_neg (by simpa using q)]; rfl
    refine wpAny_tests_one ?_
    repeat walk_at "rp"
    refine itemL S.led ms (by omega) (by omega) (by rw [show (6 + (r : Int)).toNat = 6 + r by omega]; exact es) ?_ rfl
    repeat walk_at "rp"
    generalize ss.getD (6 + r) 0 = z at *
    by_cases q : z / 16 % 2 = 1
    · refine iteT (by simp [q]) ?_
      repeat walk_at "rp"
      refine itemL S.led ms (by omega) (by omega) (by rw [show (6 + (r : Int)).toNat = 6 + r by omega]; exact es) ?_ rfl
      repeat walk_at "rp"
      refine ⟨[], _, _, rfl, S, ?_⟩
      rw [hw, if_pos q]
      exact IntsAre.append hj (.cons _ _ .nil)
    · refine iteF (by simp [q]) ⟨[], _, _, rfl, S, ?_⟩
      rw [hw, if_neg q]; simpa using hj
  · intro C D ys ex h' tk hj2 H'
    refine comp_fin_assign (y := "waits") S (IterO.nc _ _) (by walk_at "sto") H' fun h' tk S => ?_
    rw [hmv.len, List.take_length] at hj2
    have ml := S.subs (l := l) fun p hp => .tail _ (List.mem_append_right _ hp)
    walk_at "rp"
    walk_at "rp"
    walk_at "rp"
    refine Attribute_Name_ ?_ rfl
    repeat walk_at "rp"
    refine getE W S.led (ml _ hx) (ml _ hd) (fi_delay w) k.dl hdh ?_
    repeat walk_at "rp"
    refine newL S (Nat.le_of_ble_eq_true rfl) fun N h' S => ?_
    repeat walk_at "rp"
    have hwl : (waitsOf ss mine).length ≤ 10 := by
      unfold waitsOf; rw [List.length_map]; exact Nat.le_trans (List.length_filter_le _ _) hml.1
    refine addL S (.head _) (.tail _ (.head _)) (by rw [hj2.length, sizeLine_eq]; simp; omega) fun Z h' S => ?_
    repeat walk_at "rp"
    have fin : ∀ (h' : Heap) (tk : Nat) (l' : Led), Hp g l' h' → (∀ p ∈ l, p ∈ l') → Q (.bool true) { s with heap := h', toks := tk } := fun h' tk l' H' hl => h h' tk l' H' (hT.mono hl)
    have ml := S.subs (l := l) fun p hp => .tail _ (.tail _ (.tail _ (List.mem_append_right _ hp)))
    rcases ints_last hj2 with ⟨e1, e2⟩ | ⟨z, t, e1, e2⟩
    · rw [e1] at hdl
      have ed : dl = .none := hdl
      subst ed e2
      refine itemLast S.led (.head _) (v := .none) rfl ?_ rfl
      refine EqNone.eq_none_none ?_
      exact fin h' _ _ S.led ml
    · rw [e1] at hdl
      obtain ⟨td, rfl⟩ := (hdl : ∃ t, dl = .int z t)
      refine itemLast S.led (.head _) (v := .int z t) (by rw [List.getLast?_append, e2]; rfl) ?_ rfl
      refine eqI ?_
      rw [beq_self_eq_true]
      exact fin h' _ _ S.led ml
end
/-- the lists of what is due -/
noncomputable def Dues (l : Led) (ds : List (List Nat)) (dvv : List Value) : Prop := dvv.length = ds.length ∧ ∀ (k : Nat) (d : List Nat), ds[k]? = some d → ∃ D dv, dvv[k]? = some (.ref D) ∧ (D, ListO dv) ∈ l ∧ Nats dv d
theorem Dues.mono {l l' : Led} {ds : List (List Nat)} {dvv : List Value} (r : Dues l ds dvv) (h : ∀ p ∈ l, p ∈ l') : Dues l' ds dvv := ⟨r.1, fun k d e => let ⟨D, dv, a, b, c⟩ := r.2 k d e; ⟨D, dv, a, h _ b, c⟩⟩
theorem any_mod {mine : List Nat} (k : Nat) : ((mine.map Int.ofNat).any (· == ((k : Int) % 3))) = mine.contains (k % 3) := by
  rw [List.any_map, List.contains_eq_any_beq]
  congr 1
  funext m
  show (Int.ofNat m == (k : Int) % 3) = (k % 3 == m)
  by_cases h : m = k % 3
  · subst h; simp
  · have h1 : ¬ (Int.ofNat m = (k : Int) % 3) := fun e => h (by have e' : (m : Int) = (k : Int) % 3 := e; omega)
    rw [beq_eq_false_iff_ne.mpr h1, beq_eq_false_iff_ne.mpr (Ne.symm h)]
/-- a method of an Entry -/
theorem getMethodE {prog : Program} {w : World} {A : Around} {E : Value → Shared → Prop} {s : Shared} {g : Heap} {l : Led} {x dx f : Addr} {kv : List (Str × Value)} {name : Str} {pl : Sem Bool} {Q : Value × List Value → Shared → Prop} (W : Wd w g) (H : Hp g l s.heap) (hx : (x, InstO dx) ∈ l) (hd : (dx, DicO kv) ∈ l)
    (hf : findIn (KK w) (.ref 52) name = some (some (.ref f))) (ht : typeIn (KK w) (.ref f) = some (.type "function")) (hn : kv.lookup name = none) (h : Q (.ref f, [.ref x]) s) : wpAny (model prog w) A (getMethod (.ref x) name pl) Q E s := by
  obtain ⟨od, I, D⟩ := instAt (H.get hx) (H.get hd)
  refine method_fn (K := KK w) (fun a o e => H.base a o (W.X a o e)) I (c52_ga w) (c52_gt w) hf ht ?_ h
  unfold shadowIn
  dsimp only
  rw [D.look, hn]; rfl
noncomputable abbrev S15 (l : Led) (sA mA nA dA x : Addr) (i : Nat) (u1 : List (Str × Value)) (l1 : Led) : Prop := ∃ new, l1 = new ++ l ∧ (("sums", .ref sA) : Str × Value) ∈ u1 ∧ (("mine", .ref mA) : Str × Value) ∈ u1 ∧ (("names", .ref nA) : Str × Value) ∈ u1 ∧ (("due", .ref dA) : Str × Value) ∈ u1 ∧ (("joined", .ref x) : Str × Value) ∈ u1
section
variable {prog : Program} {w : World} {A : Around} {E : Value → Shared → Prop} {s : Shared} {g : Heap} {L : Addr} {u : List (Str × Value)} {l : Led} {Q : Value → Shared → Prop}
noncomputable def farL (ds : List (List Nat)) (mine : List Nat) (n t : Nat) : List Nat := ((List.range n).filter fun k => mine.contains (k % 3)).map fun k => (ds.getD k []).getD t 0
noncomputable def freeL (ss : List Int) (ds : List (List Nat)) (mine : List Nat) (M : Int) (n t : Nat) : List Int := ((List.range n).filter fun k => mine.contains (k % 3) && decide ((((ds.getD k []).getD t 0 : Nat) : Int) = M)).map fun k => ss.getD k 0 % 2
theorem join2 {M : Model} {b b2 : Bool} {t : Sem Value} {f : Value → Sem Unit} {K : Unit → Shared → Prop} {E : Value → Shared → Prop} {s : Shared} (P : Shared → Prop) (h1 : b = true → P s) (h2 : b = false → wpAny M A t (fun v s' => v = .bool b2 ∧ P s') E s) (h3 : ∀ s', P s' → wpAny M A (f (.bool (b || b2))) K E s') :
    if b = true then wpAny M A (f (.bool b)) K E s else wpAny M A t (fun v s' => wpAny M A (f v) K E s') E s := by
  cases b with
  | true => exact iteT rfl (h3 s (h1 rfl))
  | false =>
    refine iteF rfl (wpAny_mono (h2 rfl) (fun v s' q => ?_) fun _ _ e => e)
    obtain ⟨rfl, q⟩ := q
    exact h3 s' q
theorem seg15 {n : Nat} (W : Wd w g) (R : Rm A (n + 8)) (S : St g (Le w L) (Lo w L) u l s.heap) {sA mA nA dA x dx a b : Addr} {sv mv nv dvv rv : List Value} {ss : List Int} {mine : List Nat} {nms ds : List (List Nat)} {rs : List (List Nat × Bool)} {kv : List (Str × Value)} {dl : Value} (hT : TabsIn l)
    (us : (("sums", .ref sA) : Str × Value) ∈ u) (hs : (sA, ListO sv) ∈ l) (hsv : IntsAre sv ss) (hsl : ss.length = 10)
    (um : (("mine", .ref mA) : Str × Value) ∈ u) (hm : (mA, ListO mv) ∈ l) (hmv : Nats mv mine) (hml : mine.length ≤ 10 ∧ ∀ r ∈ mine, r < 3)
    (un : (("names", .ref nA) : Str × Value) ∈ u) (hn : (nA, ListO nv) ∈ l) (hnv : Strs nms nv) (hnl : nms.length = 2)
    (ud : (("due", .ref dA) : Str × Value) ∈ u) (hd0 : (dA, ListO dvv) ∈ l) (hdv : Dues l ds dvv) (hdl0 : ds.length = 6) (hdl1 : ∀ d ∈ ds, d.length = 2)
    (uj : (("joined", .ref x) : Str × Value) ∈ u) (hx : (x, InstO dx) ∈ l) (hd : (dx, DicO kv) ∈ l) (k : EntK kv a b dl) (hdl : dlV (waitsOf ss mine).getLast? dl)
    (hb : (b, ListO rv) ∈ l) (hrv : RulesAt l nA rs rv) (hrl : ∀ r ∈ rs, r.1.length = nms.length)
    (hfree : ∀ (t : Nat) (nm : List Nat) (M : Int), nms[t]? = some nm → M ∈ (0 : Int) :: (farL ds mine 6 t).map Int.ofNat → (∀ y ∈ (0 : Int) :: (farL ds mine 6 t).map Int.ofNat, y ≤ M) → allowN rs (nms.idxOf nm) = (M == 0 || (freeL ss ds mine M 6 t).any (· == 1)))
    (h : ∀ h' tk l', Hp g l' h' → TabsIn l' → Q (.bool true) { s with heap := h', toks := tk }) : wpAny (model prog w) A (execs (bd_146.1.drop 15) (Le w L)) (Pq Q) E s := by
  have KD := kd_146 w L
  dsimp only [bd_146, List.drop]
  walk_at "rp"
  refine wpAny_For ?_
  repeat walk_at "rp"
  rename_i rr _ _ S
  refine iterR (n := 2) S (by walk_at "mem") (by omega) (by decide) fun I h' S => ?_
  refine forLoop_ (Itr.upto R.hh 2) (by walk_at "sto") (S15 l sA mA nA dA x) S (fun p hp => by cases hp)
    ⟨[_], rfl, us, um, un, ud, uj⟩ ?_ ?_
  · rintro t v u1 l1 h' tk ht ⟨tv, rfl⟩ ⟨new, rfl, us, um, un, ud, uj⟩ - S
    obtain ⟨nm, hnm⟩ : ∃ nm, nms[t]? = some nm := ⟨_, List.getElem?_eq_getElem (by omega)⟩
    obtain ⟨tn, en⟩ := hnv.2 t nm hnm
    have ml := S.subs (l := l) fun p hp => .tail _ (List.mem_append_right _ hp)
    walk_at "rp"
    repeat walk_at "rp"
    refine newL0 S fun t0 N h' S => ?_
    repeat walk_at "rp"
    refine comp_eval (by kernel_rfl) ?_ (fun _ => rfl)
    repeat walk_at "rp"
    rename_i rr2 _ _ S
    refine iterR (n := 6) S (by walk_at "mem") (by omega) (by decide) fun J h' S => ?_
    have mtt : (("t", .int (t : Int) tv) : Str × Value) ∈ (("t", .int (t : Int) tv) : Str × Value) :: drop "t" u1 := .head _
    have mdue : (("due", .ref dA) : Str × Value) ∈ (("t", .int (t : Int) tv) : Str × Value) :: drop "t" u1 := by walk_at "mem"
    have mmine : (("mine", .ref mA) : Str × Value) ∈ (("t", .int (t : Int) tv) : Str × Value) :: drop "t" u1 := by walk_at "mem"
    have msums : (("sums", .ref sA) : Str × Value) ∈ (("t", .int (t : Int) tv) : Str × Value) :: drop "t" u1 := by walk_at "mem"
    have hdk : ∀ k, k < 6 → ∃ D dv, dvv[k]? = some (.ref D) ∧ (D, ListO dv) ∈ l ∧ Nats dv (ds.getD k []) ∧ ∃ tz, dv[t]? = some (.int (((ds.getD k []).getD t 0 : Nat) : Int) tz) := fun k hk => by
      have e : ds[k]? = some (ds.getD k []) := by rw [List.getD_eq_getElem?_getD, List.getElem?_eq_getElem (by omega)]; rfl
      obtain ⟨D, dv, a1, a2, a3⟩ := hdv.2 k _ e
      have hl2 := hdl1 _ (List.mem_of_getElem? e)
      obtain ⟨v, hv⟩ : ∃ v, dv[t]? = some v := ⟨_, List.getElem?_eq_getElem (by rw [a3.len]; omega)⟩
      obtain ⟨z, tz, rfl, ez⟩ := a3.get hv
      have ez' : (ds.getD k []).getD t 0 = z := by rw [List.getD_eq_getElem?_getD, ez]; rfl
      exact ⟨D, dv, a1, a2, a3, tz, by rw [ez']; exact hv⟩
    refine compAt1 KD (by kernel_rfl) (Itr.upto R.hh 6) S (fun p hp => by cases hp) (by decide) [("due", .ref dA), ("t", .int (t : Int) tv), ("mine", .ref mA)] ?_ (by kernel_rfl)
      (fun i ys ex => Nats ys (farL ds mine i t)) .nil ?_ ?_
    · intro p hp
      rcases List.mem_cons.mp hp with rfl | hp
      · exact mdue
      · rcases List.mem_cons.mp hp with rfl | hp
        · exact mtt
        · rcases List.mem_singleton.mp hp with rfl; exact mmine
    · rintro cl C D i v ys ex h' tk KD1 hi ⟨tk', rfl⟩ hj hys S
      obtain ⟨D2, dv, a1, a2, a3, tz, a4⟩ := hdk i hi
      have ml := S.subs (l := l) fun p hp => .tail _ (.tail _ (List.mem_append_right _ (List.mem_append_right _ (.tail _ (.tail _ (.tail _ (List.mem_append_right _ hp)))))))
      have hf : farL ds mine (i + 1) t = farL ds mine i t ++ if mine.contains (i % 3) = true then [(ds.getD i []).getD t 0] else [] := by
        unfold farL
        rw [List.range_succ, List.filter_append, List.map_append]
        congr 1
        cases q : mine.contains (i % 3)
        · rw [List.filter_cons_of_neg (by simp only [q]; exact Bool.false_ne_true)]; rfl
        · rw [List.filter_cons_of_pos (by simp only [q])]; rfl
      refine wpAny_tests_one ?_
      repeat walk_at "rp"
      refine in_list_ints (ListO.isList (S.get (ml _ hm))) hmv ?_
      rw [any_mod]
      repeat walk_at "rp"
      cases q : mine.contains (i % 3) with
      | false =>
        refine iteF rfl ⟨[], _, _, rfl, S, ?_⟩
        rw [hf, q]; simpa using hj
      | true =>
        refine iteT rfl ?_
        repeat walk_at "rp"
        refine itemL S.led (ml _ hd0) (by omega) (by omega) (by rw [Int.toNat_natCast]; exact a1) ?_ rfl
        repeat walk_at "rp"
        refine itemL S.led (ml _ a2) (by omega) (by omega) (by rw [Int.toNat_natCast]; exact a4) ?_ rfl
        refine ⟨[], _, _, rfl, S, ?_⟩
        rw [hf, q]; exact hj.snoc
    · intro C D ys ex h' tk hj2 H'
      refine comp_fin_none (l₀ := []) S (RIterO.nc _ _ _ _) H' fun h' S => ?_
      have hyl : ys.length ≤ 6 := by
        rw [hj2.len]; unfold farL
        rw [List.length_map]
        exact Nat.le_trans (List.length_filter_le _ _) (by simp)
      have mN := S.mem (e := (N, ListO [.int 0 t0])) (.tail _ (List.mem_append_right _ (.tail _ (.head _))))
      refine addL S mN (.head _) (by rw [sizeLine_eq]; simp; omega) fun Z h' S => ?_
      repeat walk_at "rp"
      refine maxL R.hh S (.head _) (IntsAre.append (.cons 0 t0 .nil) hj2) (by simp) fun h' M tM tk S hM1 hM2 => ?_
      have hfr := hfree t nm M hnm hM1 hM2
      refine sta S (by walk_at "sto") fun h' tk S => ?_
      ((repeat walk_at "rp"); (with_reducible refine wpAny_Or2 ?_); walk_at "d"; (repeat walk_at "rp"))
      refine join2 (b2 := (freeL ss ds mine M 6 t).any (· == 1)) (f := storeName (Le w L) "free") (fun s' => ∃ pre h' tk, s' = { s with heap := h', toks := tk } ∧ St g (Le w L) (Lo w L) (((("far" : Str), Value.int M tM)) :: drop "far" (((("t" : Str), Value.int (t : Int) tv)) :: drop "t" u1)) (pre ++ (I, RIterO 0 1 2 (t + 1)) :: (new ++ l)) h') ?_ ?_ ?_
      · exact fun _ => ⟨(Z, ListO ([.int 0 t0] ++ ys)) :: (D, ListO ys) :: (ex ++ [(rr2, RangeO 0 6 1), (N, ListO [.int 0 t0])]), _, _, rfl, S.re fun a => by simp only [cnt_cons, cnt_append, cnt_nil]; first | ac_rfl | omega⟩
      · intro _
        repeat walk_at "rp"
        refine comp_eval (by kernel_rfl) ?_ (fun _ => rfl)
        repeat walk_at "rp"
        rename_i rr3 _ _ S
        refine iterR (n := 6) S (by walk_at "mem") (by omega) (by decide) fun J2 h' S => ?_
        refine compAt1 KD (by kernel_rfl) (Itr.upto R.hh 6) S (fun p hp => by cases hp) (by decide) [("sums", .ref sA), ("mine", .ref mA), ("due", .ref dA), ("t", .int (t : Int) tv), ("far", .int M tM)] ?_ (by kernel_rfl)
          (fun i ys ex => IntsAre ys (freeL ss ds mine M i t)) .nil ?_ ?_
        · intro p hp
          simp only [List.mem_cons, List.not_mem_nil, or_false] at hp
          rcases hp with rfl | rfl | rfl | rfl | rfl
          · exact .tail _ (mem_dropP msums (by dsimp only; decide +kernel))
          · exact .tail _ (mem_dropP mmine (by dsimp only; decide +kernel))
          · exact .tail _ (mem_dropP mdue (by dsimp only; decide +kernel))
          · exact .tail _ (mem_dropP mtt (by dsimp only; decide +kernel))
          · exact .head _
        · rintro cl C D3 i v ys2 ex2 h' tk KD1 hi ⟨tk', rfl⟩ hj hys S
          obtain ⟨D2, dv, a1, a2, a3, tz, a4⟩ := hdk i hi
          obtain ⟨tsm, esm⟩ := ints_get hsv (i := i) (by omega)
          have ml := S.subs (l := l) fun p hp => .tail _ (.tail _ (List.mem_append_right _ (List.mem_append_right _ (.tail _ (.tail _ (.tail _ (List.mem_append_right _ (.tail _ (.tail _ (.tail _ (List.mem_append_right _ hp)))))))))))
          have hf : freeL ss ds mine M (i + 1) t = freeL ss ds mine M i t ++ if (mine.contains (i % 3) && decide ((((ds.getD i []).getD t 0 : Nat) : Int) = M)) = true then [ss.getD i 0 % 2] else [] := by
            unfold freeL
            rw [List.range_succ, List.filter_append, List.map_append]
            congr 1
            cases q : (mine.contains (i % 3) && decide ((((ds.getD i []).getD t 0 : Nat) : Int) = M))
            · rw [List.filter_cons_of_neg (by simp only [q]; exact Bool.false_ne_true)]; rfl
            · rw [List.filter_cons_of_pos (by simp only [q])]; rfl
          refine wpAny_tests_one ?_
          ((with_reducible refine wpAny_isTrue_BoolOp ?_); walk_at "d"; (with_reducible refine wpAny_allTrue_And_cons ?_); walk_at "d"; (repeat walk_at "rp"))
          refine in_list_ints (ListO.isList (S.get (ml _ hm))) hmv ?_
          rw [any_mod]
          repeat walk_at "rp"
          cases q : mine.contains (i % 3) with
          | false =>
            refine iteF rfl ?_
            repeat walk_at "rp"
            first | refine iteF rfl ⟨[], _, _, rfl, S, ?_⟩ | refine ⟨[], _, _, rfl, S, ?_⟩
            rw [hf, q]; simpa using hj
          | true =>
            refine iteT rfl ?_
            ((with_reducible refine wpAny_allTrue_And_cons ?_); walk_at "d"; (repeat walk_at "rp"))
            refine itemL S.led (ml _ hd0) (by omega) (by omega) (by rw [Int.toNat_natCast]; exact a1) ?_ rfl
            repeat walk_at "rp"
            refine itemL S.led (ml _ a2) (by omega) (by omega) (by rw [Int.toNat_natCast]; exact a4) ?_ rfl
            repeat walk_at "rp"
            by_cases qM : (((ds.getD i []).getD t 0 : Nat) : Int) = M
            · refine iteT (beq_iff_eq.mpr qM) ?_
              ((with_reducible refine wpAny_allTrue_And_nil ?_); walk_at "d")
              first | refine iteT rfl ?_ | skip
              repeat walk_at "rp"
              refine itemL S.led (ml _ hs) (by omega) (by omega) (by rw [Int.toNat_natCast]; exact esm) ?_ rfl
              repeat walk_at "rp"
              refine ⟨[], _, _, rfl, S, ?_⟩
              rw [hf, if_pos (by rw [q, decide_eq_true qM]; rfl)]
              exact IntsAre.append hj (.cons _ _ .nil)
            · refine iteF (beq_eq_false_iff_ne.mpr qM) ?_
              repeat walk_at "rp"
              first | refine iteF rfl ⟨[], _, _, rfl, S, ?_⟩ | refine ⟨[], _, _, rfl, S, ?_⟩
              rw [hf, if_neg (by rw [decide_eq_false qM, Bool.and_false]; exact Bool.false_ne_true)]
              simpa using hj
        · intro C D3 ys2 ex2 h' tk hj3 H'
          refine comp_fin_none (l₀ := []) S (RIterO.nc _ _ _ _) H' fun h' S => ?_
          refine in_list_ints (ListO.isList (S.get (.head _))) hj3 ?_
          exact ⟨rfl, (D3, ListO ys2) :: (ex2 ++ ((rr3, RangeO 0 6 1) :: (Z, ListO ([.int 0 t0] ++ ys)) :: (D, ListO ys) :: (ex ++ [(rr2, RangeO 0 6 1), (N, ListO [.int 0 t0])]))), _, _, rfl, S.re fun a => by simp only [cnt_cons, cnt_append, cnt_nil]; first | ac_rfl | omega⟩
      · rintro s' ⟨pre, h', tk, rfl, S⟩
        rw [← hfr]
        refine sta S (by walk_at "sto") fun h' tk S => ?_
        repeat walk_at "rp"
        refine methodCall_KW ?_ rfl
        repeat walk_at "rp"
        have ml := S.subs (l := l) fun p hp => List.mem_append_right _ (.tail _ (List.mem_append_right _ hp))
        refine getMethodE W S.led (ml _ hx) (ml _ hd) (fi_49 w) (ty_49 w) k.al ?_
        refine cwF (first := [.ref x]) rfl rfl ?_
        repeat walk_at "rp"
        refine itemL S.led (ml _ hn) (by omega) (by omega) (by rw [Int.toNat_natCast]; exact en) ?_ rfl
        repeat walk_at "rp"
        refine ⟨fnK W S.hp (lk_49 w), ?_⟩
        have ml' := Hp.subs S.hp (l := l) fun p hp => List.mem_append_right _ (ml p hp)
        refine allowance_spec (n := n + 2) W R S.hp (ml' _ hx) (ml' _ hd) k (ml' _ hb) (hrv.mono ml') (ml' _ hn) hnv (by omega) hrl (List.mem_of_getElem? hnm) fun h' tk new3 H' => ?_
        have S := S.app H'
        repeat walk_at "rp"
        refine isnot_bool ?_
        repeat walk_at "rp"
        refine iteF (by simp) ?_
        repeat walk_at "rp"
        refine ⟨_, (new3 ++ (pre ++ new)) ++ l, _, _, rfl, S.re fun a => ?_, fun p hp => (by cases hp), new3 ++ (pre ++ new), rfl, by walk_at "mem", by walk_at "mem", by walk_at "mem", by walk_at "mem", by walk_at "mem"⟩
        simp only [cnt_cons, cnt_append]; first | ac_rfl | omega
  · rintro u1 l1 h' tk ⟨new, rfl, us, um, un, ud, uj⟩ S
    have ml := S.subs (l := l) fun p hp => List.mem_append_right _ hp
    exact seg16 (s := { s with heap := h', toks := tk }) W R S (hT.mono ml) us (ml _ hs) hsv hsl um (ml _ hm) hmv hml uj (ml _ hx) (ml _ hd) k hdl fun h'' tk'' l' H' T' => h h'' tk'' l' H' T'
end
noncomputable abbrev Rc := List (List Nat) × List (List Nat × Bool) × Option Int
noncomputable def RecAt (l : Led) (nA x : Addr) (r : Rc) : Prop := ∃ dx a b kv dl av rv, (x, InstO dx) ∈ l ∧ (dx, DicO kv) ∈ l ∧ EntK kv a b dl ∧ (a, ListO av) ∈ l ∧ Strs r.1 av ∧ (b, ListO rv) ∈ l ∧ RulesAt l nA r.2.1 rv ∧ dlV r.2.2 dl
theorem RecAt.mono {l l' : Led} {nA x : Addr} {r : Rc} (q : RecAt l nA x r) (h : ∀ p ∈ l, p ∈ l') : RecAt l' nA x r :=
  let ⟨dx, a, b, kv, dl, av, rv, c1, c2, c3, c4, c5, c6, c7, c8⟩ := q
  ⟨dx, a, b, kv, dl, av, rv, h _ c1, h _ c2, c3, h _ c4, c5, h _ c6, c7.mono h, c8⟩
noncomputable def Recs (l : Led) (nA : Addr) (rc : List Rc) (rcv : List Value) : Prop := rcv.length = rc.length ∧ ∀ (i : Nat) (r : Rc), rc[i]? = some r → ∃ x, rcv[i]? = some (.ref x) ∧ RecAt l nA x r
theorem Recs.mono {l l' : Led} {nA : Addr} {rc : List Rc} {rcv : List Value} (q : Recs l nA rc rcv) (h : ∀ p ∈ l, p ∈ l') : Recs l' nA rc rcv :=
  ⟨q.1, fun i r e => let ⟨x, a, b⟩ := q.2 i r e; ⟨x, a, b.mono h⟩⟩
theorem RulesAt.append {l : Led} {nA : Addr} {r1 r2 : List (List Nat × Bool)} {v1 v2 : List Value} (h1 : RulesAt l nA r1 v1) (h2 : RulesAt l nA r2 v2) : RulesAt l nA (r1 ++ r2) (v1 ++ v2) := by
  refine ⟨by rw [List.length_append, List.length_append, h1.1, h2.1], fun i r e => ?_⟩
  by_cases hi : i < r1.length
  · rw [List.getElem?_append_left hi] at e
    rw [List.getElem?_append_left (by rw [h1.1]; exact hi)]
    exact h1.2 i r e
  · rw [List.getElem?_append_right (by omega)] at e
    rw [List.getElem?_append_right (by rw [h1.1]; omega), h1.1]
    exact h2.2 _ r e
noncomputable def joinR (rc : List Rc) (mine : List Nat) : List (List Nat × Bool) := mine.flatMap fun r => (rc.getD r ([], [], none)).2.1
noncomputable def joinD (rc : List Rc) (mine : List Nat) : Option Int := mine.foldl (fun o r => (rc.getD r ([], [], none)).2.2.orElse fun _ => o) none
theorem joinR_len {rc : List Rc} (h : ∀ r ∈ rc, r.2.1.length ≤ 2) : ∀ mine : List Nat, (joinR rc mine).length ≤ mine.length * 2
  | [] => Nat.zero_le _
  | m :: r => by
    have := joinR_len h r
    unfold joinR at this ⊢
    rw [List.flatMap_cons, List.length_append, List.length_cons]
    have : (rc.getD m ([], [], none)).2.1.length ≤ 2 := by
      rw [List.getD_eq_getElem?_getD]
      cases e : rc[m]? with
      | none => exact Nat.zero_le _
      | some q => exact h q (List.mem_of_getElem? e)
    omega
section
variable {prog : Program} {w : World} {A : Around} {E : Value → Shared → Prop} {s : Shared} {g : Heap} {L : Addr} {u : List (Str × Value)} {l : Led} {Q : Value → Shared → Prop}
theorem seg14 {n : Nat} (W : Wd w g) (R : Rm A (n + 12)) (S : St g (Le w L) (Lo w L) u l s.heap) {sA mA nA dA cA : Addr} {sv mv nv dvv rcv : List Value} {ss : List Int} {mine : List Nat} {nms ds : List (List Nat)} {rc : List Rc} (hT : TabsIn l)
    (us : (("sums", .ref sA) : Str × Value) ∈ u) (hs : (sA, ListO sv) ∈ l) (hsv : IntsAre sv ss) (hsl : ss.length = 10)
    (um : (("mine", .ref mA) : Str × Value) ∈ u) (hm : (mA, ListO mv) ∈ l) (hmv : Nats mv mine) (hml : mine.length ≤ 10 ∧ ∀ r ∈ mine, r < 3)
    (un : (("names", .ref nA) : Str × Value) ∈ u) (hn : (nA, ListO nv) ∈ l) (hnv : Strs nms nv) (hnl : nms.length = 2)
    (ud : (("due", .ref dA) : Str × Value) ∈ u) (hd0 : (dA, ListO dvv) ∈ l) (hdv : Dues l ds dvv) (hdl0 : ds.length = 6) (hdl1 : ∀ d ∈ ds, d.length = 2)
    (uc : (("records", .ref cA) : Str × Value) ∈ u) (hc : (cA, ListO rcv) ∈ l) (hrc : Recs l nA rc rcv) (hrl : rc.length = 3) (hr2 : ∀ r ∈ rc, r.2.1.length ≤ 2 ∧ r.1.length ≤ 100 ∧ ∀ q ∈ r.2.1, q.1.length = nms.length)
    (hjd : joinD rc mine = (waitsOf ss mine).getLast?)
    (hfree : ∀ (t : Nat) (nm : List Nat) (M : Int), nms[t]? = some nm → M ∈ (0 : Int) :: (farL ds mine 6 t).map Int.ofNat → (∀ y ∈ (0 : Int) :: (farL ds mine 6 t).map Int.ofNat, y ≤ M) → allowN (joinR rc mine) (nms.idxOf nm) = (M == 0 || (freeL ss ds mine M 6 t).any (· == 1)))
    (h : ∀ h' tk l', Hp g l' h' → TabsIn l' → Q (.bool true) { s with heap := h', toks := tk }) : wpAny (model prog w) A (execs (bd_146.1.drop 14) (Le w L)) (Pq Q) E s := by
  have KD := kd_146 w L
  dsimp only [bd_146, List.drop]
  repeat walk_at "rp"
  refine cwF rfl rfl ?_
  repeat walk_at "rp"
  refine comp_eval (by kernel_rfl) ?_ (fun _ => rfl)
  repeat walk_at "rp"
  refine iterL S hm fun I h' S => ?_
  refine compAt1 KD (by kernel_rfl) (Itr.list R.hh mA mv) S (fun p hp => by rcases List.mem_singleton.mp hp with rfl; exact hm) (by rw [hmv.len, sizeLine_eq]; omega) [("records", .ref cA)] (fun p hp => by rcases List.mem_singleton.mp hp with rfl; exact uc) (by kernel_rfl)
    (fun i ys ex => ys.length = i ∧ ∀ (j r : Nat), (mine.take i)[j]? = some r → ys[j]? = rcv[r]?) ⟨rfl, fun j r e => by simp at e⟩ ?_ ?_
  · rintro cl C D i v ys ex h' tk KD1 hi hv ⟨hj1, hj2⟩ hys S
    obtain ⟨r, tr, rfl, hr⟩ := hmv.get hv
    have hr3 := hml.2 r (List.mem_of_getElem? hr)
    have ml := S.subs (l := l) fun p hp => .tail _ (.tail _ (List.mem_append_right _ (List.mem_append_right _ hp)))
    obtain ⟨x, ex1, -⟩ := hrc.2 r rc[r] (List.getElem?_eq_getElem (by omega))
    refine wpAny_tests_nil ?_
    refine iteT rfl ?_
    repeat walk_at "rp"
    refine itemL S.led (ml _ hc) (by omega) (by omega) (by rw [Int.toNat_natCast]; exact ex1) ?_ rfl
    refine ⟨[], _, _, rfl, S, by rw [List.length_append, hj1]; rfl, fun j r' e => ?_⟩
    rw [take_snoc hr] at e
    have hml2 : (mine.take i).length = i := by rw [List.length_take]; have := (List.getElem?_eq_some_iff.mp hr).1; omega
    by_cases hji : j < i
    · rw [List.getElem?_append_left (by omega)] at e
      rw [List.getElem?_append_left (by omega)]
      exact hj2 j r' e
    · rw [List.getElem?_append_right (by omega)] at e
      have h0 : j - (mine.take i).length = 0 := by
        have := (List.getElem?_eq_some_iff.mp e).1
        simp at this; omega
      rw [h0] at e
      have : r' = r := by simpa using e.symm
      subst this
      rw [List.getElem?_append_right (by omega), ex1, show j - ys.length = 0 by omega]; rfl
  · intro C D ys ex h' tk hj2 H'
    refine comp_fin_none (l₀ := []) S (IterO.nc _ _) H' fun h' S => ?_
    obtain ⟨hy1, hy2⟩ := hj2
    rw [hmv.len, List.take_length] at hy2
    repeat walk_at "rp"
    refine callWith_K0 (K := KK w) (fun a o e => S.hp.base a o (W.X a o e)) (keep_52 w) ?_
    refine entry_new (n := n + 8) W R S.hp fun x0 dx0 a0 b0 kv0 h' tk hk4 hkv H' => ?_
    have S : St g (Le w L) (Lo w L) u ((x0, InstO dx0) :: (dx0, DicO kv0) :: (a0, ListO []) :: (b0, ListO []) :: ((D, ListO ys) :: (ex ++ l))) h' := S.app (n := [_, _, _, _]) H'
    repeat walk_at "rp"
    refine ⟨fnK W S.hp (lk_91 w), ?_⟩
    have ml := S.subs (l := l) fun p hp => .tail _ (.tail _ (.tail _ (.tail _ (.tail _ (List.mem_append_right _ hp)))))
    have ml' := Hp.subs S.hp (l := l) fun p hp => List.mem_append_right _ (ml p hp)
    have hR2 := joinR_len (rc := rc) fun r hr => (hr2 r hr).1
    refine reduce_spec (n := n + 6) W (R.less (by omega)) S.hp (f := 82) (sq := D) (i0 := x0) (vs := ys) (List.mem_append_right _ (.tail _ (.tail _ (.tail _ (.tail _ (.head _)))))) (by rw [hy1, hmv.len]; omega)
      ⟨_, List.mem_append_right _ (.head _), fun o e => by rw [e]; simp⟩ (fun h H => fnK W H (lk_82 w))
      (fun i v ex2 => ∃ x, v = .ref x ∧ RecAt (ex2 ++ ((x0, InstO dx0) :: (dx0, DicO kv0) :: (a0, ListO []) :: (b0, ListO []) :: l)) nA x ([], joinR rc (mine.take i), joinD rc (mine.take i)))
      ⟨x0, rfl, dx0, a0, b0, kv0, .none, [], [], .head _, .tail _ (.head _), hkv, .tail _ (.tail _ (.head _)), .nil, .tail _ (.tail _ (.tail _ (.head _))), ⟨rfl, fun i r e => by simp [joinR] at e⟩, rfl⟩ ?_ ?_
    · rintro A' Q' i v e l' ex2 s' RA he ⟨x1, rfl, hx1⟩ hl H' hQ'
      have hi : i < mine.length := by have := (List.getElem?_eq_some_iff.mp he).1; rw [hy1, hmv.len] at this; exact this
      have hmi : mine[i]? = some mine[i] := List.getElem?_eq_getElem hi
      have hr3 := hml.2 _ (List.getElem_mem hi)
      have hrg : rc[mine[i]]? = some (rc.getD mine[i] ([], [], none)) := by rw [List.getD_eq_getElem?_getD, List.getElem?_eq_getElem (by omega)]; rfl
      obtain ⟨x2, ex1, hx2⟩ := hrc.2 _ _ hrg
      have e2 := hy2 i _ hmi
      rw [he, ex1] at e2
      injection e2 with e2; subst e2
      have hrm := hr2 _ (List.mem_of_getElem? hrg)
      have hbase : ∀ p ∈ (x0, InstO dx0) :: (dx0, DicO kv0) :: (a0, ListO []) :: (b0, ListO []) :: l, p ∈ l' := fun p hp => hl p (List.mem_append_right _ (List.mem_append_right _ (by
        rcases List.mem_cons.mp hp with rfl | hp
        · exact .head _
        · rcases List.mem_cons.mp hp with rfl | hp
          · exact .tail _ (.head _)
          · rcases List.mem_cons.mp hp with rfl | hp
            · exact .tail _ (.tail _ (.head _))
            · rcases List.mem_cons.mp hp with rfl | hp
              · exact .tail _ (.tail _ (.tail _ (.head _)))
              · exact ml p hp)))
      have hall : ∀ p ∈ ex2 ++ ((x0, InstO dx0) :: (dx0, DicO kv0) :: (a0, ListO []) :: (b0, ListO []) :: l), p ∈ l' := fun p hp => (List.mem_append.mp hp).elim (fun q => hl p (List.mem_append_left _ q)) (hbase p)
      obtain ⟨d1, a1, b1, kv1, dl1, av1, r1, c1, c2, c3, c4, c5, c6, c7, c8⟩ := hx1
      have e0 : av1 = [] := List.length_eq_zero_iff.mp c5.1
      subst e0
      have hx2B := hx2.mono (l' := ex2 ++ ((x0, InstO dx0) :: (dx0, DicO kv0) :: (a0, ListO []) :: (b0, ListO []) :: l)) fun p hp => List.mem_append_right _ (.tail _ (.tail _ (.tail _ (.tail _ hp))))
      obtain ⟨d2, a2, b2, kv2, dl2, av2, r2, f1, f2, f3, f4, f5, f6, f7, f8⟩ := hx2B
      have hRi := hR2 (mine.take i)
      have hti : (mine.take i).length ≤ 10 := by rw [List.length_take]; omega
      refine merge_spec (n := n) W RA H' (hall _ c1) (hall _ c2) c3 (hall _ c4) (hall _ c6) c8 (hall _ f1) (hall _ f2) f3 (hall _ f4) (hall _ f6) f8 f5 ⟨by rw [f5.1]; exact hrm.2.1, by rw [c7.1]; show (joinR rc (mine.take i)).length ≤ 1000; omega, by rw [f7.1]; have := hrm.1; omega⟩ fun x dx a b kv h' tk new hkv H2 => ?_
      refine hQ' (.ref x) ((x, InstO dx) :: (dx, DicO kv) :: (a, ListO []) :: (b, ListO (r1 ++ r2)) :: new) h' tk ⟨x, rfl, dx, a, b, kv, _, [], r1 ++ r2, .head _, .tail _ (.head _), hkv, .tail _ (.tail _ (.head _)), .nil, .tail _ (.tail _ (.tail _ (.head _))), ?_, ?_⟩ H2
      · have e1 : joinR rc (mine.take (i + 1)) = joinR rc (mine.take i) ++ (rc.getD mine[i] ([], [], none)).2.1 := by
          unfold joinR
          rw [take_snoc hmi, List.flatMap_append, List.flatMap_cons, List.flatMap_nil, List.append_nil]
        show RulesAt _ nA (joinR rc (mine.take (i + 1))) _
        rw [e1]
        exact (c7.append f7).mono fun p hp => by rw [List.append_assoc]; exact List.mem_append_right _ hp
      · have e1 : joinD rc (mine.take (i + 1)) = (rc.getD mine[i] ([], [], none)).2.2.orElse fun _ => joinD rc (mine.take i) := by
          unfold joinD
          rw [take_snoc hmi, List.foldl_append]; rfl
        show dlV (joinD rc (mine.take (i + 1))) _
        rw [e1]
        exact c8.merge f8
    · rintro v ex2 h' tk ⟨x, rfl, hx⟩ H'
      rw [hy1, hmv.len, List.take_length] at hx
      have S := S.app H'
      refine sta S (by walk_at "sto") fun h' tk S => ?_
      have mb := S.subs (l := ex2 ++ ((x0, InstO dx0) :: (dx0, DicO kv0) :: (a0, ListO []) :: (b0, ListO []) :: l)) fun p hp => by
        rcases List.mem_append.mp hp with hp | hp
        · exact List.mem_append_left _ hp
        · refine List.mem_append_right _ ?_
          rcases List.mem_cons.mp hp with rfl | hp
          · exact .head _
          · rcases List.mem_cons.mp hp with rfl | hp
            · exact .tail _ (.head _)
            · rcases List.mem_cons.mp hp with rfl | hp
              · exact .tail _ (.tail _ (.head _))
              · rcases List.mem_cons.mp hp with rfl | hp
                · exact .tail _ (.tail _ (.tail _ (.head _)))
                · exact ml p hp
      have ml2 := S.subs (l := l) fun p hp => List.mem_append_right _ (ml p hp)
      obtain ⟨dx, a, b, kv, dl, av, rv, c1, c2, c3, c4, c5, c6, c7, c8⟩ := hx.mono mb
      have c8' : dlV (waitsOf ss mine).getLast? dl := by rw [← hjd]; exact c8
      refine seg15 (s := { s with heap := h', toks := tk }) (n := n + 4) W R S (hT.mono ml2) (by walk_at "mem") (ml2 _ hs) hsv hsl (by walk_at "mem") (ml2 _ hm) hmv hml (by walk_at "mem") (ml2 _ hn) hnv hnl (by walk_at "mem") (ml2 _ hd0) (hdv.mono ml2) hdl0 hdl1 (by walk_at "mem") c1 c2 c3 c8' c6 c7 ?_ hfree fun h'' tk'' l' H' T' => h h'' tk'' l' H' T'
      intro r hr
      obtain ⟨m, hm, hr⟩ := List.mem_flatMap.mp hr
      have hm3 := hml.2 m hm
      have hrg : rc[m]? = some (rc.getD m ([], [], none)) := by rw [List.getD_eq_getElem?_getD, List.getElem?_eq_getElem (by omega)]; rfl
      exact (hr2 _ (List.mem_of_getElem? hrg)).2.2 r hr
end
theorem any_nat {mine : List Nat} (k : Nat) : ((mine.map Int.ofNat).any (· == (k : Int))) = mine.contains k := by
  rw [List.any_map, List.contains_eq_any_beq]
  congr 1
  funext m
  show (Int.ofNat m == (k : Int)) = (k == m)
  by_cases h : m = k
  · subst h; simp
  · have h1 : ¬ (Int.ofNat m = (k : Int)) := fun e => h (by have e' : (m : Int) = (k : Int) := e; omega)
    rw [beq_eq_false_iff_ne.mpr h1, beq_eq_false_iff_ne.mpr (Ne.symm h)]
section
variable {prog : Program} {w : World} {A : Around} {E : Value → Shared → Prop} {s : Shared} {g : Heap} {L : Addr} {u : List (Str × Value)} {l : Led} {Q : Value → Shared → Prop}
theorem seg13 {n : Nat} (W : Wd w g) (R : Rm A (n + 12)) (S : St g (Le w L) (Lo w L) u l s.heap) {sA mA nA dA cA : Addr} {sv mv nv dvv rcv : List Value} {ss : List Int} {mine : List Nat} {nms ds : List (List Nat)} {rc : List Rc} {cv : Value} {ua : Option (List Nat)} (hT : TabsIn l)
    (us : (("sums", .ref sA) : Str × Value) ∈ u) (hs : (sA, ListO sv) ∈ l) (hsv : IntsAre sv ss) (hsl : ss.length = 10)
    (um : (("mine", .ref mA) : Str × Value) ∈ u) (hm : (mA, ListO mv) ∈ l) (hmv : Nats mv mine) (hml : mine.length ≤ 10 ∧ ∀ r ∈ mine, r < 3)
    (un : (("names", .ref nA) : Str × Value) ∈ u) (hn : (nA, ListO nv) ∈ l) (hnv : Strs nms nv) (hnl : nms.length = 2)
    (ud : (("due", .ref dA) : Str × Value) ∈ u) (hd0 : (dA, ListO dvv) ∈ l) (hdv : Dues l ds dvv) (hdl0 : ds.length = 6) (hdl1 : ∀ d ∈ ds, d.length = 2)
    (uc : (("records", .ref cA) : Str × Value) ∈ u) (hc : (cA, ListO rcv) ∈ l) (hrc : Recs l nA rc rcv) (hrl : rc.length = 3) (hr2 : ∀ r ∈ rc, r.2.1.length ≤ 2 ∧ r.1.length ≤ 100 ∧ ∀ q ∈ r.2.1, q.1.length = nms.length) (hag : ∀ r ∈ rc, ∀ p ∈ r.1, p.length ≤ 100)
    (uv : (("crawler", cv) : Str × Value) ∈ u) (hcv : match ua with | none => cv = .none | some y => ∃ t, cv = .str (Tx y) t ∧ y.length ≤ 100 ∧ ((spl 47 y).headD []).length ≤ 100)
    (hap : ∀ r, r < 3 → applN (rc.getD r ([], [], none)).1 ua = mine.contains r)
    (hjd : joinD rc mine = (waitsOf ss mine).getLast?)
    (hfree : ∀ (t : Nat) (nm : List Nat) (M : Int), nms[t]? = some nm → M ∈ (0 : Int) :: (farL ds mine 6 t).map Int.ofNat → (∀ y ∈ (0 : Int) :: (farL ds mine 6 t).map Int.ofNat, y ≤ M) → allowN (joinR rc mine) (nms.idxOf nm) = (M == 0 || (freeL ss ds mine M 6 t).any (· == 1)))
    (h : ∀ h' tk l', Hp g l' h' → TabsIn l' → Q (.bool true) { s with heap := h', toks := tk }) : wpAny (model prog w) A (execs (bd_146.1.drop 13) (Le w L)) (Pq Q) E s := by
  have KD := kd_146 w L
  dsimp only [bd_146, List.drop]
  walk_at "rp"
  refine wpAny_For ?_
  repeat walk_at "rp"
  rename_i rr _ _ S
  refine iterR (n := 3) S (by walk_at "mem") (by omega) (by decide) fun I h' S => ?_
  refine forLoop_ (Itr.upto R.hh 3) (by walk_at "sto") (fun i u1 l1 => ∃ new, l1 = new ++ l ∧ (("sums", .ref sA) : Str × Value) ∈ u1 ∧ (("mine", .ref mA) : Str × Value) ∈ u1 ∧ (("names", .ref nA) : Str × Value) ∈ u1 ∧ (("due", .ref dA) : Str × Value) ∈ u1 ∧ (("records", .ref cA) : Str × Value) ∈ u1 ∧ (("crawler", cv) : Str × Value) ∈ u1) S (fun p hp => by cases hp)
    ⟨[_], rfl, us, um, un, ud, uc, uv⟩ ?_ ?_
  · rintro r v u1 l1 h' tk hr ⟨tv, rfl⟩ ⟨new, rfl, us, um, un, ud, uc, uv⟩ - S
    have ml := S.subs (l := l) fun p hp => .tail _ (List.mem_append_right _ hp)
    have hrg : rc[r]? = some (rc.getD r ([], [], none)) := by rw [List.getD_eq_getElem?_getD, List.getElem?_eq_getElem (by omega)]; rfl
    obtain ⟨x, ex1, dx, a, b, kv, dl, av, rv, c1, c2, c3, c4, c5, c6, c7, c8⟩ := hrc.2 _ _ hrg
    repeat walk_at "rp"
    refine methodCall_KW ?_ rfl
    repeat walk_at "rp"
    refine itemL S.led (ml _ hc) (by omega) (by omega) (by rw [Int.toNat_natCast]; exact ex1) ?_ rfl
    refine getMethodE W S.led (ml _ c1) (ml _ c2) (fi_42 w) (ty_42 w) c3.ap ?_
    refine cwF (first := [.ref x]) rfl rfl ?_
    repeat walk_at "rp"
    refine ⟨fnK W S.hp (lk_42 w), ?_⟩
    have ml' := Hp.subs S.hp (l := l) fun p hp => List.mem_append_right _ (ml p hp)
    refine applies_spec (n := n + 9) W R S.hp (ml' _ c1) (ml' _ c2) c3 (ml' _ c4) c5 (hag _ (List.mem_of_getElem? hrg)) hcv fun h' tk new3 H' => ?_
    have S := S.app H'
    have ml3 := S.subs (l := l) fun p hp => List.mem_append_right _ (.tail _ (List.mem_append_right _ hp))
    repeat walk_at "rp"
    refine in_list_ints (ListO.isList (S.get (ml3 _ hm))) hmv ?_
    rw [any_nat, hap r hr]
    refine isnot_bool ?_
    repeat walk_at "rp"
    refine iteF (by simp) ?_
    repeat walk_at "rp"
    refine ⟨_, (new3 ++ new) ++ l, _, _, rfl, S.re fun a => ?_, fun p hp => (by cases hp), new3 ++ new, rfl, by walk_at "mem", by walk_at "mem", by walk_at "mem", by walk_at "mem", by walk_at "mem", by walk_at "mem"⟩
    simp only [cnt_cons, cnt_append]; first | ac_rfl | omega
  · rintro u1 l1 h' tk ⟨new, rfl, us, um, un, ud, uc, uv⟩ S
    have ml := S.subs (l := l) fun p hp => List.mem_append_right _ hp
    exact seg14 (s := { s with heap := h', toks := tk }) W R S (hT.mono ml) us (ml _ hs) hsv hsl um (ml _ hm) hmv hml un (ml _ hn) hnv hnl ud (ml _ hd0) (hdv.mono ml) hdl0 hdl1 uc (ml _ hc) (hrc.mono ml) hrl hr2 hjd hfree fun h'' tk'' l' H' T' => h h'' tk'' l' H' T'
end
noncomputable def aFig : List Nat := [102, 105, 103]
noncomputable def aBot : List Nat := [66, 79, 84]
noncomputable def aPlum : List Nat := [112, 108, 117, 109]
noncomputable def crawl (c : Nat) : Option (List Nat) := [some [70, 105, 103, 66, 111, 116, 47, 50, 46, 49], some [120, 32, 80, 76, 85, 77, 42], some [102, 105, 47, 103, 98, 111, 116], none].getD c none
noncomputable def heardN (c : Nat) : List (List Nat) := [[aFig, aBot], [aPlum], [], [[42]]].getD c []
noncomputable def mineOf (rc : List Rc) (c : Nat) : List Nat := (List.range 3).filter fun r => !((rc.getD r ([], [], none)).1.filter fun a => (heardN c).any (· == a)).isEmpty
/-- a comprehension within a comprehension, with one name from without -/
theorem compCk1 {g h : Heap} {env : Env} {own : List (Str × Addr)} {u : List (Str × Value)} {l : Led} {scope : Scope} {x y : Str} {v : Value} (S : St g env own u l h) (hy : (y, v) ∈ u) (hk : env.kindOf y ≠ some .local) (hs : (scope.kind == .function) = true) (hnd : (scope.names.map (·.1)).Nodup)
    (hf : (scope.names.all fun p => p.2 != .free || p.1 == y) = true) (hx : (scope.names.lookup x == some .local || scope.names.lookup x == some .cell) = true) : compCk scope env x = true := by
  obtain ⟨c, hc, -⟩ := S.cl y v hy hk
  unfold compCk
  rw [hs, hx, decide_eq_true hnd, Bool.true_and, Bool.true_and, Bool.and_true, List.all_eq_true]
  intro p hp
  have h1 := List.all_eq_true.mp hf p hp
  rcases Bool.or_eq_true_iff.mp h1 with h1 | h1
  · rw [h1]; rfl
  · have e := eq_of_beq h1
    rw [e, hc]
    have : (env.kindOf y != some .local) = true := by simpa using hk
    rw [this]; simp
theorem strs1 {x : List Nat} {t : Tok} : Strs [x] [.str (Tx x) t] := Strs.nil.snoc
theorem strs2 {x y : List Nat} {t t' : Tok} : Strs [x, y] [.str (Tx x) t, .str (Tx y) t'] := strs1.snoc
theorem heard_pick {l' : Led} {H0 H1 H2 H3 : Addr} {e : Addr × (Obj → Prop)} {t1 t2 t3 t4 : Tok} {c : Nat} (hc4 : c < 4) : ∃ Hc hv, [Value.ref H0, Value.ref H1, Value.ref H2, Value.ref H3][c]? = some (.ref Hc) ∧
    (Hc, ListO hv) ∈ e :: (H3, ListO [.str (Tx [42]) t4]) :: (H2, ListO []) :: (H1, ListO [.str (Tx [112, 108, 117, 109]) t3]) :: (H0, ListO [.str (Tx [102, 105, 103]) t1, .str (Tx [66, 79, 84]) t2]) :: l' ∧ Strs (heardN c) hv := by
  have : c = 0 ∨ c = 1 ∨ c = 2 ∨ c = 3 := lt4 (by assumption)
  rcases this with rfl | rfl | rfl | rfl
  · exact ⟨H0, _, rfl, .tail _ (.tail _ (.tail _ (.tail _ (.head _)))), strs2⟩
  · exact ⟨H1, _, rfl, .tail _ (.tail _ (.tail _ (.head _))), strs1⟩
  · exact ⟨H2, _, rfl, .tail _ (.tail _ (.head _)), .nil⟩
  · exact ⟨H3, _, rfl, .tail _ (.head _), strs1⟩
theorem kdNot {env : Env} {nm : List (Str × NameKind)} {y : Str} (K : Kd env nm) (h : nm.lookup y ≠ some .local) : env.kindOf y ≠ some .local := by rw [K.kind]; exact h
/-- the lists of the agents -/
noncomputable def Ags (l : Led) (ag : List (List (List Nat))) (agv : List Value) : Prop := agv.length = ag.length ∧ ∀ (i : Nat) (a : List (List Nat)), ag[i]? = some a → ∃ D av, agv[i]? = some (.ref D) ∧ (D, ListO av) ∈ l ∧ Strs a av
theorem Ags.mono {l l' : Led} {ag : List (List (List Nat))} {agv : List Value} (q : Ags l ag agv) (h : ∀ p ∈ l, p ∈ l') : Ags l' ag agv := ⟨q.1, fun i a e => let ⟨D, av, x, y, z⟩ := q.2 i a e; ⟨D, av, x, h _ y, z⟩⟩
theorem mineOf_ok (rc : List Rc) (c : Nat) : (mineOf rc c).length ≤ 10 ∧ ∀ r ∈ mineOf rc c, r < 3 := by
  refine ⟨?_, fun r hr => List.mem_range.mp (List.mem_filter.mp hr).1⟩
  have : (mineOf rc c).length ≤ 3 := by unfold mineOf; exact Nat.le_trans (List.length_filter_le _ _) (by simp)
  omega
theorem crawl_ok : ∀ c, c < 4 → ∀ y, crawl c = some y → y.length ≤ 100 ∧ ((spl 47 y).headD []).length ≤ 100 := by
  intro c hc y e
  have : c = 0 ∨ c = 1 ∨ c = 2 ∨ c = 3 := lt4 (by assumption)
  rcases this with rfl | rfl | rfl | rfl
  · cases e; exact ⟨by decide, by decide +kernel⟩
  · cases e; exact ⟨by decide, by decide +kernel⟩
  · cases e; exact ⟨by decide, by decide +kernel⟩
  · cases e
section
variable {prog : Program} {w : World} {A : Around} {E : Value → Shared → Prop} {s : Shared} {g : Heap} {L : Addr} {u : List (Str × Value)} {l : Led} {Q : Value → Shared → Prop}
theorem seg12 {n : Nat} (W : Wd w g) (R : Rm A (n + 12)) (S : St g (Le w L) (Lo w L) u l s.heap) {sA nA dA cA gA Hc : Addr} {sv nv dvv rcv agv hv : List Value} {ss : List Int} {nms ds : List (List Nat)} {rc : List Rc} {c : Nat} {cv : Value} (hT : TabsIn l)
    (us : (("sums", .ref sA) : Str × Value) ∈ u) (hs : (sA, ListO sv) ∈ l) (hsv : IntsAre sv ss) (hsl : ss.length = 10)
    (un : (("names", .ref nA) : Str × Value) ∈ u) (hn : (nA, ListO nv) ∈ l) (hnv : Strs nms nv) (hnl : nms.length = 2)
    (ud : (("due", .ref dA) : Str × Value) ∈ u) (hd0 : (dA, ListO dvv) ∈ l) (hdv : Dues l ds dvv) (hdl0 : ds.length = 6) (hdl1 : ∀ d ∈ ds, d.length = 2)
    (uc : (("records", .ref cA) : Str × Value) ∈ u) (hc : (cA, ListO rcv) ∈ l) (hrc : Recs l nA rc rcv) (hrl : rc.length = 3) (hr2 : ∀ r ∈ rc, r.2.1.length ≤ 2 ∧ r.1.length ≤ 100 ∧ ∀ q ∈ r.2.1, q.1.length = nms.length) (hag : ∀ r ∈ rc, ∀ p ∈ r.1, p.length ≤ 100)
    (ug : (("agents", .ref gA) : Str × Value) ∈ u) (hg : (gA, ListO agv) ∈ l) (hga : Ags l (rc.map (·.1)) agv)
    (uv : (("crawler", cv) : Str × Value) ∈ u) (hcv : match crawl c with | none => cv = .none | some y => ∃ t, cv = .str (Tx y) t ∧ y.length ≤ 100 ∧ ((spl 47 y).headD []).length ≤ 100)
    (uh : (("heard", .ref Hc) : Str × Value) ∈ u) (hh : (Hc, ListO hv) ∈ l) (hhv : Strs (heardN c) hv)
    (hap : ∀ r, r < 3 → applN (rc.getD r ([], [], none)).1 (crawl c) = (mineOf rc c).contains r)
    (hjd : joinD rc (mineOf rc c) = (waitsOf ss (mineOf rc c)).getLast?)
    (hfree : ∀ (t : Nat) (nm : List Nat) (M : Int), nms[t]? = some nm → M ∈ (0 : Int) :: (farL ds (mineOf rc c) 6 t).map Int.ofNat → (∀ y ∈ (0 : Int) :: (farL ds (mineOf rc c) 6 t).map Int.ofNat, y ≤ M) → allowN (joinR rc (mineOf rc c)) (nms.idxOf nm) = (M == 0 || (freeL ss ds (mineOf rc c) M 6 t).any (· == 1)))
    (h : ∀ h' tk l', Hp g l' h' → TabsIn l' → Q (.bool true) { s with heap := h', toks := tk }) : wpAny (model prog w) A (execs (bd_146.1.drop 12) (Le w L)) (Pq Q) E s := by
  have KD := kd_146 w L
  dsimp only [bd_146, List.drop]
  walk_at "rp"
  refine wpAny_Assign_Name ?_ (by kernel_rfl)
  refine comp_eval (by kernel_rfl) ?_ (fun _ => rfl)
  repeat walk_at "rp"
  rename_i rr _ _ S
  refine iterR (n := 3) S (by walk_at "mem") (by omega) (by decide) fun I h' S => ?_
  refine compAt1 KD (by kernel_rfl) (Itr.upto R.hh 3) S (fun p hp => by cases hp) (by decide) [("agents", .ref gA), ("heard", .ref Hc)] ?_ (by kernel_rfl)
    (fun i ys ex => Nats ys ((List.range i).filter fun r => !((rc.getD r ([], [], none)).1.filter fun a => (heardN c).any (· == a)).isEmpty)) .nil ?_ ?_
  · intro p hp
    rcases List.mem_cons.mp hp with rfl | hp
    · exact ug
    · rcases List.mem_singleton.mp hp with rfl; exact uh
  · rintro cl C D i v ys ex h' tk KD1 hi ⟨tv, rfl⟩ hj hys S
    have ml := S.subs (l := l) fun p hp => .tail _ (.tail _ (List.mem_append_right _ (List.mem_append_right _ (.tail _ hp))))
    have hrg : (rc.map (·.1))[i]? = some (rc.getD i ([], [], none)).1 := by rw [List.getElem?_map, List.getD_eq_getElem?_getD, List.getElem?_eq_getElem (by omega)]; rfl
    obtain ⟨Da, av, e1, mD, hav⟩ := hga.2 i _ hrg
    generalize hag2 : (rc.getD i ([], [], none)).1 = ag at *
    have hagl : ag.length ≤ 100 := by
      rw [← hag2, List.getD_eq_getElem?_getD, List.getElem?_eq_getElem (by omega)]
      exact (hr2 _ (List.getElem_mem _)).2.1
    have hf : (List.range (i + 1)).filter (fun r => !((rc.getD r ([], [], none)).1.filter fun a => (heardN c).any (· == a)).isEmpty) = (List.range i).filter (fun r => !((rc.getD r ([], [], none)).1.filter fun a => (heardN c).any (· == a)).isEmpty) ++ if (!(ag.filter fun a => (heardN c).any (· == a)).isEmpty) = true then [i] else [] := by
      rw [List.range_succ, List.filter_append]
      congr 1
      cases q : !(ag.filter fun a => (heardN c).any (· == a)).isEmpty
      · rw [List.filter_cons_of_neg (by simp only [hag2, q]; exact Bool.false_ne_true)]; rfl
      · rw [List.filter_cons_of_pos (by simp only [hag2, q])]; rfl
    refine wpAny_tests_one ?_
    repeat walk_at "rp"
    refine comp_eval (compCk1 S (y := "heard") (.tail _ (.tail _ (.head _))) (kdNot KD1 (by decide +kernel)) (by kernel_rfl) (by decide +kernel) (by kernel_rfl) (by kernel_rfl)) ?_ (fun _ => rfl)
    repeat walk_at "rp"
    refine itemL S.led (ml _ hg) (by omega) (by omega) (by rw [Int.toNat_natCast]; exact e1) ?_ rfl
    refine iterL S (ml _ mD) fun J h' S => ?_
    refine compAt1 KD1 (compCk1 S (y := "heard") (.tail _ (.tail _ (.head _))) (kdNot KD1 (by decide +kernel)) (by kernel_rfl) (by decide +kernel) (by kernel_rfl) (by kernel_rfl)) (Itr.list R.hh Da av) S (fun p hp => by rcases List.mem_singleton.mp hp with rfl; exact ml _ mD) (by rw [hav.1, sizeLine_eq]; omega) [("heard", .ref Hc)] (fun p hp => by rcases List.mem_singleton.mp hp with rfl; exact .tail _ (.tail _ (.head _))) (by kernel_rfl)
      (fun i2 ys2 ex2 => ys2.length = ((ag.take i2).filter fun a => (heardN c).any (· == a)).length) rfl ?_ ?_
    · rintro cl2 C2 D2 i2 v2 ys2 ex2 h' tk KD2 hi2 hv2 hj2 hys2 S
      have hi3 : i2 < ag.length := by rw [← hav.1]; exact hi2
      obtain ⟨q, hq⟩ : ∃ q, ag[i2]? = some q := ⟨_, List.getElem?_eq_getElem hi3⟩
      obtain ⟨tq, eq⟩ := hav.2 i2 q hq
      rw [hv2] at eq; injection eq with eq; subst eq
      have ml2 := S.subs (l := l) fun p hp => .tail _ (.tail _ (List.mem_append_right _ (List.mem_append_right _ (ml p hp))))
      refine wpAny_tests_one ?_
      repeat walk_at "rp"
      refine in_strsL S.led (ml2 _ hh) hhv ?_
      repeat walk_at "rp"
      cases qh : (heardN c).any (· == q) with
      | true =>
        refine iteT rfl ?_
        repeat walk_at "rp"
        refine ⟨[], _, _, rfl, S, ?_⟩
        rw [take_snoc hq, List.filter_append, List.length_append, List.length_append, hj2, List.filter_cons_of_pos (by simpa using qh)]; rfl
      | false =>
        refine iteF rfl ⟨[], _, _, rfl, S, ?_⟩
        rw [take_snoc hq, List.filter_append, List.length_append, hj2, List.filter_cons_of_neg (by simp only [qh]; exact Bool.false_ne_true)]; rfl
    · intro C2 D2 ys2 ex2 h' tk hj2 H'
      refine comp_fin_none (l₀ := []) S (IterO.nc _ _) H' fun h' S => ?_
      rw [hav.1, List.take_length] at hj2
      repeat walk_at "rp"
      refine newL S (Nat.le_of_ble_eq_true rfl) fun N h' S => ?_
      refine neNil (by have := R.units; omega) S (.tail _ (.head _)) (.head _) ?_
      repeat walk_at "rp"
      have hemp : (!ys2.isEmpty) = !(ag.filter fun a => (heardN c).any (· == a)).isEmpty := by
        congr 1
        rw [Bool.eq_iff_iff, List.isEmpty_iff, List.isEmpty_iff, ← List.length_eq_zero_iff, ← List.length_eq_zero_iff, hj2]
      rw [hemp]
      cases qq : !(ag.filter fun a => (heardN c).any (· == a)).isEmpty with
      | false =>
        refine iteF rfl ⟨(N, ListO []) :: (D2, ListO ys2) :: ex2, _, _, rfl, S, ?_⟩
        rw [hf, qq]; simpa using hj
      | true =>
        refine iteT rfl ?_
        repeat walk_at "rp"
        refine ⟨(N, ListO []) :: (D2, ListO ys2) :: ex2, _, _, rfl, S, ?_⟩
        rw [hf, qq]; exact hj.snoc
  · intro C D ys ex h' tk hj2 H'
    refine comp_fin_none (l₀ := []) S (RIterO.nc _ _ _ _) H' fun h' S => ?_
    refine sta S (by walk_at "sto") fun h' tk S => ?_
    have ml := S.subs (l := l) fun p hp => .tail _ (List.mem_append_right _ (.tail _ hp))
    exact seg13 (s := { s with heap := h', toks := tk }) W R S (hT.mono ml) (by walk_at "mem") (ml _ hs) hsv hsl (.head _) (.head _) hj2 (mineOf_ok rc c) (by walk_at "mem") (ml _ hn) hnv hnl (by walk_at "mem") (ml _ hd0) (hdv.mono ml) hdl0 hdl1 (by walk_at "mem") (ml _ hc) (hrc.mono ml) hrl hr2 hag (by walk_at "mem") hcv hap hjd hfree fun h'' tk'' l' H' T' => h h'' tk'' l' H' T'
end
section
variable {prog : Program} {w : World} {A : Around} {E : Value → Shared → Prop} {s : Shared} {g : Heap} {L : Addr} {u : List (Str × Value)} {l : Led} {Q : Value → Shared → Prop}
theorem seg10 {n : Nat} (W : Wd w g) (R : Rm A (n + 12)) (S : St g (Le w L) (Lo w L) u l s.heap) {sA nA dA cA gA : Addr} {sv nv dvv rcv agv : List Value} {ss : List Int} {nms ds : List (List Nat)} {rc : List Rc} {c : Nat} (hT : TabsIn l)
    (us : (("sums", .ref sA) : Str × Value) ∈ u) (hs : (sA, ListO sv) ∈ l) (hsv : IntsAre sv ss) (hsl : ss.length = 10) (hc9 : ss.getD 9 0 % 4 = (c : Int)) (hc4 : c < 4)
    (un : (("names", .ref nA) : Str × Value) ∈ u) (hn : (nA, ListO nv) ∈ l) (hnv : Strs nms nv) (hnl : nms.length = 2)
    (ud : (("due", .ref dA) : Str × Value) ∈ u) (hd0 : (dA, ListO dvv) ∈ l) (hdv : Dues l ds dvv) (hdl0 : ds.length = 6) (hdl1 : ∀ d ∈ ds, d.length = 2)
    (uc : (("records", .ref cA) : Str × Value) ∈ u) (hc : (cA, ListO rcv) ∈ l) (hrc : Recs l nA rc rcv) (hrl : rc.length = 3) (hr2 : ∀ r ∈ rc, r.2.1.length ≤ 2 ∧ r.1.length ≤ 100 ∧ ∀ q ∈ r.2.1, q.1.length = nms.length) (hag : ∀ r ∈ rc, ∀ p ∈ r.1, p.length ≤ 100)
    (ug : (("agents", .ref gA) : Str × Value) ∈ u) (hg : (gA, ListO agv) ∈ l) (hga : Ags l (rc.map (·.1)) agv)
    (hap : ∀ r, r < 3 → applN (rc.getD r ([], [], none)).1 (crawl c) = (mineOf rc c).contains r)
    (hjd : joinD rc (mineOf rc c) = (waitsOf ss (mineOf rc c)).getLast?)
    (hfree : ∀ (t : Nat) (nm : List Nat) (M : Int), nms[t]? = some nm → M ∈ (0 : Int) :: (farL ds (mineOf rc c) 6 t).map Int.ofNat → (∀ y ∈ (0 : Int) :: (farL ds (mineOf rc c) 6 t).map Int.ofNat, y ≤ M) → allowN (joinR rc (mineOf rc c)) (nms.idxOf nm) = (M == 0 || (freeL ss ds (mineOf rc c) M 6 t).any (· == 1)))
    (h : ∀ h' tk l', Hp g l' h' → TabsIn l' → Q (.bool true) { s with heap := h', toks := tk }) : wpAny (model prog w) A (execs (bd_146.1.drop 10) (Le w L)) (Pq Q) E s := by
  have KD := kd_146 w L
  obtain ⟨t9, e9⟩ := ints_get hsv (i := 9) (by omega)
  generalize ss.getD 9 0 = z9 at *
  dsimp only [bd_146, List.drop]
  ((repeat walk_at "rp"); (with_reducible refine lit_20 ?_); walk_at "d"; (repeat walk_at "rp"); (with_reducible refine lit_21 ?_); walk_at "d"; (repeat walk_at "rp"); (with_reducible refine lit_22 ?_); walk_at "d"; (repeat walk_at "rp"))
  have hcr : ∀ t1 t2 t3 : Tok, ∃ cv, [Value.str (Tx [70, 105, 103, 66, 111, 116, 47, 50, 46, 49]) t1, Value.str (Tx [120, 32, 80, 76, 85, 77, 42]) t2, Value.str (Tx [102, 105, 47, 103, 98, 111, 116]) t3, Value.none][(z9 % 4).toNat]? = some cv ∧
      (match crawl c with | none => cv = .none | some y => ∃ t, cv = .str (Tx y) t ∧ y.length ≤ 100 ∧ ((spl 47 y).headD []).length ≤ 100) := by
    intro t1 t2 t3
    rw [hc9]
    have hok := crawl_ok c hc4
    have : c = 0 ∨ c = 1 ∨ c = 2 ∨ c = 3 := lt4 (by assumption)
    rcases this with rfl | rfl | rfl | rfl
    · exact ⟨_, rfl, t1, rfl, hok _ rfl⟩
    · exact ⟨_, rfl, t2, rfl, hok _ rfl⟩
    · exact ⟨_, rfl, t3, rfl, hok _ rfl⟩
    · exact ⟨_, rfl, rfl⟩
  refine newL S (Nat.le_of_ble_eq_true rfl) fun N1 h' S => ?_
  repeat walk_at "rp"
  obtain ⟨cv, e1, hcv⟩ := hcr _ _ _
  refine itemL S.led (.head _) (by omega) (by omega) e1 ?_ rfl
  refine sta S (by walk_at "sto") fun h' tk S => ?_
  ((repeat walk_at "rp"); (with_reducible refine lit_17 ?_); walk_at "d"; (repeat walk_at "rp"); (with_reducible refine lit_18 ?_); walk_at "d"; (repeat walk_at "rp"))
  refine newL S (Nat.le_of_ble_eq_true rfl) fun H0 h' S => ?_
  ((repeat walk_at "rp"); (with_reducible refine lit_19 ?_); walk_at "d"; (repeat walk_at "rp"))
  refine newL S (Nat.le_of_ble_eq_true rfl) fun H1 h' S => ?_
  repeat walk_at "rp"
  refine newL S (Nat.le_of_ble_eq_true rfl) fun H2 h' S => ?_
  repeat walk_at "rp"
  refine newL S (Nat.le_of_ble_eq_true rfl) fun H3 h' S => ?_
  repeat walk_at "rp"
  refine newL S (Nat.le_of_ble_eq_true rfl) fun HH h' S => ?_
  repeat walk_at "rp"
  obtain ⟨Hc, hv, e2, mH, hhv⟩ := heard_pick hc4
  have mH := S.mem mH
  have e2' : [Value.ref H0, Value.ref H1, Value.ref H2, Value.ref H3][(z9 % 4).toNat]? = some (.ref Hc) := by rw [hc9]; exact e2
  refine itemL S.led (.head _) (by omega) (by omega) e2' ?_ rfl
  refine sta S (by walk_at "sto") fun h' tk S => ?_
  have ml := S.subs (l := l) fun p hp => .tail _ (.tail _ (.tail _ (.tail _ (.tail _ (.tail _ hp)))))
  exact seg12 (s := { s with heap := h', toks := tk }) W R S (hT.mono ml) (by walk_at "mem") (ml _ hs) hsv hsl (by walk_at "mem") (ml _ hn) hnv hnl (by walk_at "mem") (ml _ hd0) (hdv.mono ml) hdl0 hdl1 (by walk_at "mem") (ml _ hc) (hrc.mono ml) hrl hr2 hag (by walk_at "mem") (ml _ hg) (hga.mono ml) (by walk_at "mem") hcv (.head _) mH hhv hap hjd hfree fun h'' tk'' l' H' T' => h h'' tk'' l' H' T'
end
noncomputable def recOf (ag : List (List (List Nat))) (rs : List (List Nat × Bool)) (ss : List Int) (r : Nat) : Rc := (ag.getD r [], [rs.getD r ([], false), rs.getD (r + 3) ([], false)], if (ss.getD (6 + r) 0 / 16) % 2 = 1 then some (ss.getD (6 + r) 0 / 16 / 2) else none)
theorem Recs.snoc {l : Led} {nA x : Addr} {rc : List Rc} {rcv : List Value} {r : Rc} (q : Recs l nA rc rcv) (k : RecAt l nA x r) : Recs l nA (rc ++ [r]) (rcv ++ [.ref x]) := by
  refine ⟨by rw [List.length_append, List.length_append, q.1]; rfl, fun i r' e => ?_⟩
  by_cases hi : i < rc.length
  · rw [List.getElem?_append_left hi] at e
    rw [List.getElem?_append_left (by rw [q.1]; exact hi)]
    exact q.2 i r' e
  · rw [List.getElem?_append_right (by omega)] at e
    have h0 : i - rc.length = 0 := by have := (List.getElem?_eq_some_iff.mp e).1; simp at this; omega
    rw [h0] at e
    have : r' = r := by simpa using e.symm
    subst this
    exact ⟨x, by rw [List.getElem?_append_right (by have := q.1; omega), q.1, h0]; rfl, k⟩
theorem RulesAt.two {l : Led} {nA : Addr} {rs : List (List Nat × Bool)} {rv : List Value} (q : RulesAt l nA rs rv) {i j : Nat} (hi : i < rs.length) (hj : j < rs.length) : ∃ f1 f2, rv[i]? = some (.ref f1) ∧ rv[j]? = some (.ref f2) ∧ RulesAt l nA [rs.getD i ([], false), rs.getD j ([], false)] [.ref f1, .ref f2] := by
  have hx : ∀ k, k < rs.length → rs[k]? = some (rs.getD k ([], false)) := fun k hk => by rw [List.getD_eq_getElem?_getD, List.getElem?_eq_getElem hk]; rfl
  obtain ⟨f1, r1, v1, a1, b1, c1, d1⟩ := q.2 _ _ (hx i hi)
  obtain ⟨f2, r2, v2, a2, b2, c2, d2⟩ := q.2 _ _ (hx j hj)
  refine ⟨f1, f2, a1, a2, rfl, fun k r e => ?_⟩
  match k, e with
  | 0, e => cases e; exact ⟨f1, r1, v1, rfl, b1, c1, d1⟩
  | 1, e => cases e; exact ⟨f2, r2, v2, rfl, b2, c2, d2⟩
section
variable {prog : Program} {w : World} {A : Around} {E : Value → Shared → Prop} {s : Shared} {g : Heap} {L : Addr} {u : List (Str × Value)} {l : Led} {Q : Value → Shared → Prop}
theorem seg9 {n : Nat} (W : Wd w g) (R : Rm A (n + 12)) (S : St g (Le w L) (Lo w L) u l s.heap) {sA nA dA gA rA : Addr} {sv nv dvv rvv agv : List Value} {ss : List Int} {nms ds : List (List Nat)} {ag : List (List (List Nat))} {rs : List (List Nat × Bool)} {c : Nat} (hT : TabsIn l)
    (us : (("sums", .ref sA) : Str × Value) ∈ u) (hs : (sA, ListO sv) ∈ l) (hsv : IntsAre sv ss) (hsl : ss.length = 10) (hc9 : ss.getD 9 0 % 4 = (c : Int)) (hc4 : c < 4)
    (un : (("names", .ref nA) : Str × Value) ∈ u) (hn : (nA, ListO nv) ∈ l) (hnv : Strs nms nv) (hnl : nms.length = 2)
    (ud : (("due", .ref dA) : Str × Value) ∈ u) (hd0 : (dA, ListO dvv) ∈ l) (hdv : Dues l ds dvv) (hdl0 : ds.length = 6) (hdl1 : ∀ d ∈ ds, d.length = 2)
    (ur : (("rules", .ref rA) : Str × Value) ∈ u) (hr : (rA, ListO rvv) ∈ l) (hrv : RulesAt l nA rs rvv) (hrl : rs.length = 6) (hr2 : ∀ q ∈ rs, q.1.length = 2)
    (ug : (("agents", .ref gA) : Str × Value) ∈ u) (hg : (gA, ListO agv) ∈ l) (hga : Ags l ag agv) (hgl : ag.length = 3) (hag : ∀ a ∈ ag, a.length ≤ 100 ∧ ∀ p ∈ a, p.length ≤ 100)
    (hap : ∀ r, r < 3 → applN (ag.getD r []) (crawl c) = (mineOf ((List.range 3).map (recOf ag rs ss)) c).contains r)
    (hjd : joinD ((List.range 3).map (recOf ag rs ss)) (mineOf ((List.range 3).map (recOf ag rs ss)) c) = (waitsOf ss (mineOf ((List.range 3).map (recOf ag rs ss)) c)).getLast?)
    (hfree : ∀ (t : Nat) (nm : List Nat) (M : Int), nms[t]? = some nm → M ∈ (0 : Int) :: (farL ds (mineOf ((List.range 3).map (recOf ag rs ss)) c) 6 t).map Int.ofNat → (∀ y ∈ (0 : Int) :: (farL ds (mineOf ((List.range 3).map (recOf ag rs ss)) c) 6 t).map Int.ofNat, y ≤ M) → allowN (joinR ((List.range 3).map (recOf ag rs ss)) (mineOf ((List.range 3).map (recOf ag rs ss)) c)) (nms.idxOf nm) = (M == 0 || (freeL ss ds (mineOf ((List.range 3).map (recOf ag rs ss)) c) M 6 t).any (· == 1)))
    (h : ∀ h' tk l', Hp g l' h' → TabsIn l' → Q (.bool true) { s with heap := h', toks := tk }) : wpAny (model prog w) A (execs (bd_146.1.drop 9) (Le w L)) (Pq Q) E s := by
  have KD := kd_146 w L
  dsimp only [bd_146, List.drop]
  walk_at "rp"
  refine wpAny_Assign_Name ?_ (by kernel_rfl)
  refine comp_eval (by kernel_rfl) ?_ (fun _ => rfl)
  repeat walk_at "rp"
  rename_i rr _ _ S
  refine iterR (n := 3) S (by walk_at "mem") (by omega) (by decide) fun I h' S => ?_
  refine compAt1 KD (by kernel_rfl) (Itr.upto R.hh 3) S (fun p hp => by cases hp) (by decide) [("agents", .ref gA), ("rules", .ref rA), ("sums", .ref sA)] ?_ (by kernel_rfl)
    (fun i ys ex => Recs (ex ++ l) nA ((List.range i).map (recOf ag rs ss)) ys) ⟨rfl, fun i r e => by simp at e⟩ ?_ ?_
  · intro p hp
    rcases List.mem_cons.mp hp with rfl | hp
    · exact ug
    rcases List.mem_cons.mp hp with rfl | hp
    · exact ur
    · rcases List.mem_singleton.mp hp with rfl; exact us
  · rintro cl C D i v ys ex h' tk KD1 hi ⟨tv, rfl⟩ hj hys S
    have ml := S.subs (l := l) fun p hp => .tail _ (.tail _ (List.mem_append_right _ (List.mem_append_right _ (.tail _ hp))))
    have hrg : ag[i]? = some (ag.getD i []) := by rw [List.getD_eq_getElem?_getD, List.getElem?_eq_getElem (by omega)]; rfl
    obtain ⟨Da, av, e1, mD, hav⟩ := hga.2 i _ hrg
    obtain ⟨f1, f2, e2, e3, hru⟩ := hrv.two (i := i) (j := i + 3) (by omega) (by omega)
    obtain ⟨t6, e6⟩ := ints_get hsv (i := 6 + i) (by omega)
    refine wpAny_tests_nil ?_
    refine iteT rfl ?_
    repeat walk_at "rp"
    refine cwF rfl rfl ?_
    repeat walk_at "rp"
    refine itemL S.led (ml _ hg) (by omega) (by omega) (by rw [Int.toNat_natCast]; exact e1) ?_ rfl
    repeat walk_at "rp"
    refine itemL S.led (ml _ hr) (by omega) (by omega) (by rw [Int.toNat_natCast]; exact e2) ?_ rfl
    repeat walk_at "rp"
    refine itemL S.led (ml _ hr) (by omega) (by omega) (by rw [show ((i : Int) + 3).toNat = i + 3 by omega]; exact e3) ?_ rfl
    repeat walk_at "rp"
    refine newL S (Nat.le_of_ble_eq_true rfl) fun N h' S => ?_
    repeat walk_at "rp"
    refine itemL S.led (.tail _ (ml _ hs)) (by omega) (by omega) (by rw [show (6 + (i : Int)).toNat = 6 + i by omega]; exact e6) ?_ rfl
    repeat walk_at "rp"
    refine ⟨fnK W S.hp (lk_141 w), ?_⟩
    have ml' := Hp.subs S.hp (l := l) fun p hp => List.mem_append_right _ (.tail _ (ml p hp))
    refine record_spec (n := n + 5) W (R.less (by omega)) S.hp (ml' _ mD) (List.mem_append_right _ (.head _)) (by rw [hav.1]; exact ⟨(hag _ (List.mem_of_getElem? hrg)).1, Nat.le_of_ble_eq_true rfl⟩) fun x dx a b kv dl h' tk new hkv hdl H' => ?_
    have S := S.app (n := (x, InstO dx) :: (dx, DicO kv) :: (a, ListO av) :: (b, ListO [.ref f1, .ref f2]) :: new) H'
    refine ⟨((x, InstO dx) :: (dx, DicO kv) :: (a, ListO av) :: (b, ListO [.ref f1, .ref f2]) :: new) ++ [(N, ListO [.ref f1, .ref f2])], _, _, rfl, by rw [List.append_assoc]; exact S, ?_⟩
    rw [List.range_succ, List.map_append]
    refine (hj.mono fun p hp => ?_).snoc ⟨dx, a, b, kv, dl, av, _, .head _, .tail _ (.head _), hkv, .tail _ (.tail _ (.head _)), hav, .tail _ (.tail _ (.tail _ (.head _))), hru.mono fun p hp => ?_, hdl⟩
    · rcases List.mem_append.mp hp with hp | hp
      · exact List.mem_append_left _ (List.mem_append_right _ hp)
      · exact List.mem_append_right _ hp
    · exact List.mem_append_right _ hp
  · intro C D ys ex h' tk hj2 H'
    refine comp_fin_none (l₀ := []) S (RIterO.nc _ _ _ _) H' fun h' S => ?_
    refine sta S (by walk_at "sto") fun h' tk S => ?_
    have ml := S.subs (l := l) fun p hp => .tail _ (List.mem_append_right _ (.tail _ hp))
    have hJ := hj2.mono (l' := _) (S.subs fun p hp => by
      rcases List.mem_append.mp hp with hp | hp
      · exact .tail _ (List.mem_append_left _ hp)
      · exact .tail _ (List.mem_append_right _ (.tail _ hp)))
    have hag1 : ∀ i, i < 3 → ag.getD i [] ∈ ag := fun i hi => by rw [List.getD_eq_getElem?_getD, List.getElem?_eq_getElem (by omega)]; exact List.getElem_mem _
    have hrs1 : ∀ i, i < 6 → rs.getD i ([], false) ∈ rs := fun i hi => by rw [List.getD_eq_getElem?_getD, List.getElem?_eq_getElem (by omega)]; exact List.getElem_mem _
    have hrcl : ((List.range 3).map (recOf ag rs ss)).length = 3 := by rw [List.length_map, List.length_range]
    have hrcg : ∀ r, r < 3 → ((List.range 3).map (recOf ag rs ss)).getD r ([], [], none) = recOf ag rs ss r := fun r hr => by rw [List.getD_eq_getElem?_getD, List.getElem?_map, List.getElem?_range hr]; rfl
    have hrc1 : ((List.range 3).map (recOf ag rs ss)).map (·.1) = ag := by
      rw [List.map_map]
      refine List.ext_getElem? fun i => ?_
      rw [List.getElem?_map]
      by_cases hi : i < 3
      · rw [List.getElem?_range hi]
        show some (ag.getD i []) = _
        rw [List.getD_eq_getElem?_getD, List.getElem?_eq_getElem (by omega)]; rfl
      · rw [List.getElem?_eq_none (by rw [List.length_range]; omega), List.getElem?_eq_none (by omega)]; rfl
    refine seg10 (s := { s with heap := h', toks := tk }) (c := c) (rc := (List.range 3).map (recOf ag rs ss)) W R S (hT.mono ml) (by walk_at "mem") (ml _ hs) hsv hsl hc9 hc4 (by walk_at "mem") (ml _ hn) hnv hnl (by walk_at "mem") (ml _ hd0) (hdv.mono ml) hdl0 hdl1 (.head _) (.head _) hJ hrcl ?_ ?_ (by walk_at "mem") (ml _ hg) (by rw [hrc1]; exact hga.mono ml) (fun r hr => by rw [hrcg r hr]; exact hap r hr) hjd hfree fun h'' tk'' l' H' T' => h h'' tk'' l' H' T'
    · intro r hr
      obtain ⟨i, hi, rfl⟩ := List.mem_map.mp hr
      have hi := List.mem_range.mp hi
      refine ⟨Nat.le_refl 2, (hag _ (hag1 i hi)).1, fun q hq => ?_⟩
      rw [hnl]
      rcases List.mem_cons.mp hq with rfl | hq
      · exact hr2 _ (hrs1 i (by omega))
      · rcases List.mem_singleton.mp hq with rfl; exact hr2 _ (hrs1 (i + 3) (by omega))
    · intro r hr p hp
      obtain ⟨i, hi, rfl⟩ := List.mem_map.mp hr
      exact (hag _ (hag1 i (List.mem_range.mp hi))).2 p hp
end
noncomputable def agN : List (List Nat) := [[102, 105, 103], [66, 79, 84], [42], [112, 108, 117, 109]]
noncomputable def agOf (x : Int) (n : Nat) : List (List Nat) := ((List.range n).filter fun k => x / 2 ^ k % 2 == 1).map fun k => agN.getD k []
theorem agOf_succ (x : Int) (n : Nat) : agOf x (n + 1) = agOf x n ++ if x / 2 ^ n % 2 == 1 then [agN.getD n []] else [] := by
  unfold agOf
  rw [List.range_succ, List.filter_append, List.map_append]
  congr 1
  cases q : (x / 2 ^ n % 2 == 1)
  · rw [List.filter_cons_of_neg (by rw [q]; exact Bool.false_ne_true)]; rfl
  · rw [List.filter_cons_of_pos (by rw [q])]; rfl
theorem agN_at : ∀ i, i < 4 → ∀ t1 t2 t3 t4 : Tok, ∃ t, [Value.str (Tx [102, 105, 103]) t1, Value.str (Tx [66, 79, 84]) t2, Value.str (Tx [42]) t3, Value.str (Tx [112, 108, 117, 109]) t4][i]? = some (.str (Tx (agN.getD i [])) t) := by
  intro i hi t1 t2 t3 t4
  have : i = 0 ∨ i = 1 ∨ i = 2 ∨ i = 3 := lt4 (by assumption)
  rcases this with rfl | rfl | rfl | rfl
  · exact ⟨t1, rfl⟩
  · exact ⟨t2, rfl⟩
  · exact ⟨t3, rfl⟩
  · exact ⟨t4, rfl⟩
theorem Ags.snoc {l : Led} {D : Addr} {ag : List (List (List Nat))} {agv av : List Value} {a : List (List Nat)} (q : Ags l ag agv) (h : (D, ListO av) ∈ l) (k : Strs a av) : Ags l (ag ++ [a]) (agv ++ [.ref D]) := by
  refine ⟨by rw [List.length_append, List.length_append, q.1]; rfl, fun i r' e => ?_⟩
  by_cases hi : i < ag.length
  · rw [List.getElem?_append_left hi] at e
    rw [List.getElem?_append_left (by rw [q.1]; exact hi)]
    exact q.2 i r' e
  · rw [List.getElem?_append_right (by omega)] at e
    have h0 : i - ag.length = 0 := by have := (List.getElem?_eq_some_iff.mp e).1; simp at this; omega
    rw [h0] at e
    have : r' = a := by simpa using e.symm
    subst this
    exact ⟨D, av, by rw [List.getElem?_append_right (by have := q.1; omega), q.1, h0]; rfl, h, k⟩
section
variable {prog : Program} {w : World} {A : Around} {E : Value → Shared → Prop} {s : Shared} {g : Heap} {L : Addr} {u : List (Str × Value)} {l : Led} {Q : Value → Shared → Prop}
theorem seg8 {n : Nat} (W : Wd w g) (R : Rm A (n + 12)) (S : St g (Le w L) (Lo w L) u l s.heap) {sA nA dA rA : Addr} {sv nv dvv rvv : List Value} {ss : List Int} {nms ds : List (List Nat)} {rs : List (List Nat × Bool)} {c : Nat} (hT : TabsIn l)
    (us : (("sums", .ref sA) : Str × Value) ∈ u) (hs : (sA, ListO sv) ∈ l) (hsv : IntsAre sv ss) (hsl : ss.length = 10) (hc9 : ss.getD 9 0 % 4 = (c : Int)) (hc4 : c < 4)
    (un : (("names", .ref nA) : Str × Value) ∈ u) (hn : (nA, ListO nv) ∈ l) (hnv : Strs nms nv) (hnl : nms.length = 2)
    (ud : (("due", .ref dA) : Str × Value) ∈ u) (hd0 : (dA, ListO dvv) ∈ l) (hdv : Dues l ds dvv) (hdl0 : ds.length = 6) (hdl1 : ∀ d ∈ ds, d.length = 2)
    (ur : (("rules", .ref rA) : Str × Value) ∈ u) (hr : (rA, ListO rvv) ∈ l) (hrv : RulesAt l nA rs rvv) (hrl : rs.length = 6) (hr2 : ∀ q ∈ rs, q.1.length = 2)
    (hm : ∀ ag, ag = ((List.range 3).map fun r => agOf (ss.getD (6 + r) 0) 4) → (∀ r, r < 3 → applN (ag.getD r []) (crawl c) = (mineOf ((List.range 3).map (recOf ag rs ss)) c).contains r) ∧
      (joinD ((List.range 3).map (recOf ag rs ss)) (mineOf ((List.range 3).map (recOf ag rs ss)) c) = (waitsOf ss (mineOf ((List.range 3).map (recOf ag rs ss)) c)).getLast?) ∧
      (∀ (t : Nat) (nm : List Nat) (M : Int), nms[t]? = some nm → M ∈ (0 : Int) :: (farL ds (mineOf ((List.range 3).map (recOf ag rs ss)) c) 6 t).map Int.ofNat → (∀ y ∈ (0 : Int) :: (farL ds (mineOf ((List.range 3).map (recOf ag rs ss)) c) 6 t).map Int.ofNat, y ≤ M) → allowN (joinR ((List.range 3).map (recOf ag rs ss)) (mineOf ((List.range 3).map (recOf ag rs ss)) c)) (nms.idxOf nm) = (M == 0 || (freeL ss ds (mineOf ((List.range 3).map (recOf ag rs ss)) c) M 6 t).any (· == 1))))
    (h : ∀ h' tk l', Hp g l' h' → TabsIn l' → Q (.bool true) { s with heap := h', toks := tk }) : wpAny (model prog w) A (execs (bd_146.1.drop 8) (Le w L)) (Pq Q) E s := by
  have KD := kd_146 w L
  dsimp only [bd_146, List.drop]
  walk_at "rp"
  refine wpAny_Assign_Name ?_ (by kernel_rfl)
  refine comp_eval (by kernel_rfl) ?_ (fun _ => rfl)
  repeat walk_at "rp"
  have hxl := hsv.length
  have hx1 : (cutV (some 6) (some 9) sv).length = 3 := by simp only [cutV, List.length_drop, List.length_take, Option.getD]; omega
  have hx2 : ∀ i, i < 3 → ∃ t, (cutV (some 6) (some 9) sv)[i]? = some (.int (ss.getD (6 + i) 0) t) := by
    intro i hi
    obtain ⟨t, e⟩ := ints_get hsv (i := 6 + i) (by omega)
    exact ⟨t, by rw [← e]; simp only [cutV, Option.getD]; rw [List.getElem?_drop, List.getElem?_take_of_lt (by omega)]⟩
  generalize hxs : cutV (some 6) (some 9) sv = xs at *
  refine sliceLt (.lit 6 _ _ rfl) (.lit 9 _ _ rfl) S hs (by rw [sizeLine_eq]; omega) fun B h' S => ?_
  rw [hxs] at S
  refine iterL S (.head _) fun I h' S => ?_
  refine compAt1 KD (by kernel_rfl) (Itr.list R.hh B xs) S (fun p hp => by rcases List.mem_singleton.mp hp with rfl; exact .head _) (by rw [hx1, sizeLine_eq]; omega) [] (fun p hp => by cases hp) (by kernel_rfl)
    (fun i ys ex => Ags (ex ++ ((B, ListO xs) :: l)) ((List.range i).map fun r => agOf (ss.getD (6 + r) 0) 4) ys) ⟨rfl, fun i a e => by simp at e⟩ ?_ ?_
  · rintro cl C D i v ys ex h' tk KD1 hi hv hj hys S
    obtain ⟨tz, ez⟩ := hx2 i (by omega)
    rw [hv] at ez; injection ez with ez; subst ez
    generalize hz : ss.getD (6 + i) 0 = z at *
    refine wpAny_tests_nil ?_
    refine iteT rfl ?_
    repeat walk_at "rp"
    refine comp_eval (compCk1 S (y := "x") (.head _) (kdNot KD1 (by decide +kernel)) (by kernel_rfl) (by decide +kernel) (by kernel_rfl) (by kernel_rfl)) ?_ (fun _ => rfl)
    repeat walk_at "rp"
    rename_i rr2 _ _ S
    refine iterR (n := 4) S (by walk_at "mem") (by omega) (by decide) fun J h' S => ?_
    refine compAt1 KD1 (compCk1 S (y := "x") (.head _) (kdNot KD1 (by decide +kernel)) (by kernel_rfl) (by decide +kernel) (by kernel_rfl) (by kernel_rfl)) (Itr.upto R.hh 4) S (fun p hp => by cases hp) (by decide) [("x", .int z tz)] (fun p hp => by rcases List.mem_singleton.mp hp with rfl; exact .head _) (by kernel_rfl)
      (fun i2 ys2 ex2 => Strs (agOf z i2) ys2) .nil ?_ ?_
    · rintro cl2 C2 D2 i2 v2 ys2 ex2 h' tk KD2 hi2 ⟨tv2, rfl⟩ hj2 hys2 S
      refine wpAny_tests_one ?_
      repeat walk_at "rp"
      refine powI (by omega) (by decide) fun _ _ => ?_
      have hp0 : (0 : Int) < 2 ^ i2 := Int.pow_pos (by decide)
      have hp1 : (2 : Int) ^ i2 < 1000000 := by
        have : i2 = 0 ∨ i2 = 1 ∨ i2 = 2 ∨ i2 = 3 := lt4 (by assumption)
        rcases this with rfl | rfl | rfl | rfl <;> decide
      refine divI hp0 hp1 fun _ _ => ?_
      repeat walk_at "rp"
      rw [agOf_succ]
      cases q : (z / 2 ^ i2 % 2 == 1) with
      | false => exact iteF rfl ⟨[], _, _, rfl, S, by rw [if_neg Bool.false_ne_true, List.append_nil]; exact hj2⟩
      | true =>
        refine iteT rfl ?_
        ((repeat walk_at "rp"); (with_reducible refine lit_17 ?_); walk_at "d"; (repeat walk_at "rp"); (with_reducible refine lit_18 ?_); walk_at "d"; (repeat walk_at "rp"); (with_reducible refine lit_19 ?_); walk_at "d"; (repeat walk_at "rp"))
        refine newL S (Nat.le_of_ble_eq_true rfl) fun N h' S => ?_
        repeat walk_at "rp"
        obtain ⟨ta, ea⟩ := agN_at i2 hi2 _ _ _ _
        refine itemL S.led (.head _) (by omega) (by omega) (by rw [Int.toNat_natCast]; exact ea) ?_ rfl
        refine ⟨[_], _, _, rfl, S, ?_⟩
        rw [if_pos rfl]
        exact hj2.snoc
    · intro C2 D2 ys2 ex2 h' tk hj2 H'
      refine comp_fin_none (l₀ := []) S (RIterO.nc _ _ _ _) H' fun h' S => ?_
      refine ⟨(D2, ListO ys2) :: (ex2 ++ [(rr2, RangeO 0 4 1)]), _, _, rfl, S.re fun a => ?_, ?_⟩
      · simp only [List.cons_append, List.append_assoc, cnt_cons, cnt_append, List.nil_append]
      · rw [List.range_succ, List.map_append]
        refine (hj.mono fun p hp => ?_).snoc (.head _) (by show Strs (agOf (ss.getD (6 + i) 0) 4) ys2; rw [hz]; exact hj2)
        rcases List.mem_append.mp hp with hp | hp
        · exact .tail _ (List.mem_append_left _ (List.mem_append_right _ hp))
        · exact .tail _ (List.mem_append_right _ hp)
  · intro C D ys ex h' tk hj2 H'
    refine comp_fin_none (l₀ := []) S (IterO.nc _ _) H' fun h' S => ?_
    refine sta S (by walk_at "sto") fun h' tk S => ?_
    rw [hx1] at hj2
    have ml := S.subs (l := l) fun p hp => .tail _ (List.mem_append_right _ (.tail _ hp))
    have hJ := hj2.mono (l' := _) (S.subs fun p hp => .tail _ hp)
    obtain ⟨m1, m2, m3⟩ := hm _ rfl
    refine seg9 (s := { s with heap := h', toks := tk }) (c := c) W R S (hT.mono ml) (by walk_at "mem") (ml _ hs) hsv hsl hc9 hc4 (by walk_at "mem") (ml _ hn) hnv hnl (by walk_at "mem") (ml _ hd0) (hdv.mono ml) hdl0 hdl1 (by walk_at "mem") (ml _ hr) (hrv.mono ml) hrl hr2 (.head _) (.head _) hJ (by rw [List.length_map, List.length_range]) ?_ m1 m2 m3 fun h'' tk'' l' H' T' => h h'' tk'' l' H' T'
    intro a ha
    obtain ⟨i, hi, rfl⟩ := List.mem_map.mp ha
    refine ⟨?_, fun p hp => ?_⟩
    · unfold agOf; rw [List.length_map]; exact Nat.le_trans (List.length_filter_le _ _) (by rw [List.length_range]; decide)
    · obtain ⟨k, hk, rfl⟩ := List.mem_map.mp hp
      have hk := List.mem_range.mp (List.mem_filter.mp hk).1
      have : k = 0 ∨ k = 1 ∨ k = 2 ∨ k = 3 := lt4 (by assumption)
      rcases this with rfl | rfl | rfl | rfl <;> decide
end
section
variable {prog : Program} {w : World} {A : Around} {E : Value → Shared → Prop} {s : Shared} {g : Heap} {l : Led} {Q : Value → Shared → Prop}
theorem rule_specS {n : Nat} (W : Wd w g) (T : Tb g) (R : Rm A (n + 3)) (o : Option (Addr × Addr)) (H : Hp g (HL o ++ l) s.heap) {rA nA : Addr} {vd : Bool}
    (h : ∀ f c12 new h' tk, (∀ c, o = some c → c12 = c) → Rul (new ++ HL (some c12)) f rA nA vd → Hp g (new ++ (HL (some c12) ++ l)) h' → Q (.ref f) { s with heap := h', toks := tk }) : wpAny (model prog w) A (call (.ref 134) [.ref rA, .ref nA, .bool vd] []) Q E s := by
  obtain ⟨⟨mg, hmg, -, hb⟩, -, C⟩ := T
  refine call_top (args := ⟨[.ref rA, .ref nA, .bool vd], []⟩) (binds := [("reaches", .ref rA), ("names", .ref nA), ("verdict", .bool vd)]) W R H (lk_134 w) (cd_134 w) (bh_134 w) (by kernel_rfl) (by kernel_rfl) (by kernel_rfl) fun L h₁ tk S R1 => ?_
  dsimp only [bd_134]
  have KD := kd_134 w L
  have fin : ∀ (f1 c1 f2 c2 d : Addr) (h' : Heap) (tk : Nat) (u : List (Str × Value)), (∀ c, o = some c → (c1, c2) = c) → (("reaches", .ref rA) : Str × Value) ∈ u → (("names", .ref nA) : Str × Value) ∈ u →
      St g (fenv (fdOf w 134) L 134) (fown (fdOf w 134) L) u ((d, DicO [("allowance", .bool vd), ("applies_to", .ref f2)]) :: (f1, LamO (some d) qLam la1.1.1 la1.1.2.1 la1.1.2.2.1 [] c1) :: (f2, LamO none qLam la2.1.1 la2.1.2.1 la2.1.2.2.1 [("reaches", L + 1), ("names", L + 2)] c2) :: (HL (some (c1, c2)) ++ l)) h' → Q (.ref f1) { s with heap := h', toks := tk } := by
    intro f1 c1 f2 c2 d h' tk u hoc hu1 hu2 S
    refine h f1 (c1, c2) (frL (fenv (fdOf w 134) L 134) (fown (fdOf w 134) L) u ++ [_, _, _]) h' tk hoc ?_ (by rw [List.append_assoc]; exact S.hp)
    rw [own_134]
    refine ⟨d, c1, f2, c2, L + 1, L + 2, ?_, ?_, ?_, ?_, ⟨CellU "reaches" u, ?_, fun o ⟨w, d, q⟩ => d.trans (by rw [q _ hu1])⟩, ⟨CellU "names" u, ?_, fun o ⟨w, d, q⟩ => d.trans (by rw [q _ hu2])⟩⟩
    · exact List.mem_append_left _ (List.mem_append_right _ (.tail _ (.head _)))
    · exact List.mem_append_left _ (List.mem_append_right _ (.head _))
    · exact List.mem_append_left _ (List.mem_append_right _ (.tail _ (.tail _ (.head _))))
    · exact List.mem_append_right _ (.tail _ (.tail _ (.head _)))
    · exact List.mem_append_left _ (List.mem_append_left _ (.tail _ (.tail _ (.head _))))
    · exact List.mem_append_left _ (List.mem_append_left _ (.tail _ (.head _)))
  walk_at "rp"
  refine asgn rfl ?_
  refine kla_eval rfl ?_
  rw [qual_lam]
  show wpAny _ _ (makeFunction "<lambda>" qLam la1.1.1 (.expr la1.1.2.1) la1.1.2.2.1 (fenv (fdOf w 134) L 134) [] [] [] la1.1.2.2.2 la1.1.2.2.2.line) _ _ _
  cases o with
  | none =>
    have S : St g _ _ _ ((129, TabO #[]) :: l) _ := S
    refine mkLam (ps := #[]) S hmg hb KD.gl (code_134 w L) C trivial rfl (clos_la1 w L) fun f1 c1 h' tk S => ?_
    refine sta S (by walk_at "sto") fun h' tk S => ?_
    walk_at "rp"
    refine plainObj_wpAny_Assign_Attribute ?_ rfl
    refine kla_eval rfl ?_
    rw [qual_lam]
    show wpAny _ _ (makeFunction "<lambda>" qLam la2.1.1 (.expr la2.1.2.1) la2.1.2.2.1 (fenv (fdOf w 134) L 134) [] [] [] la2.1.2.2.2 la2.1.2.2.2.line) _ _ _
    have S := St.front (pre := [_, _]) S
    refine mkLam S hmg hb KD.gl (code_134 w L) C trivial rfl (clos_la2 w L) fun f2 c2 h' tk S => ?_
    repeat walk_at "rp"
    have S := St.front (pre := [_, _, _]) S
    refine setFn0S nolk_applies S fun d h' tk S => ?_
    repeat walk_at "rp"
    refine plainObj_wpAny_Assign_Attribute ?_ rfl
    repeat walk_at "rp"
    refine setFn1S nolk_allowance (by simp) S fun h' tk S => ?_
    repeat walk_at "rp"
    refine fin f1 c1 f2 c2 d h' _ _ (fun c q => by cases q) (by walk_at "mem") (by walk_at "mem") (S.re fun a => ?_)
    simp only [HL, cnt_cons, cnt_append, cnt_nil, List.cons_append, List.nil_append, List.append_eq] <;> omega
  | some cc =>
    obtain ⟨c1, c2⟩ := cc
    have S : St g _ _ _ ((129, TabO _) :: (c1, CodeO qLam) :: (c2, CodeO qLam) :: l) _ := S
    refine mkLamHit (c' := c1) S hmg hb KD.gl (code_134 w L) C trivial rfl (clos_la1 w L) fun f1 h' tk S => ?_
    refine sta S (by walk_at "sto") fun h' tk S => ?_
    walk_at "rp"
    refine plainObj_wpAny_Assign_Attribute ?_ rfl
    refine kla_eval rfl ?_
    rw [qual_lam]
    show wpAny _ _ (makeFunction "<lambda>" qLam la2.1.1 (.expr la2.1.2.1) la2.1.2.2.1 (fenv (fdOf w 134) L 134) [] [] [] la2.1.2.2.2 la2.1.2.2.2.line) _ _ _
    have S := St.front (pre := [_]) S
    refine mkLamHit (c' := c2) S hmg hb KD.gl (code_134 w L) C trivial rfl (clos_la2 w L) fun f2 h' tk S => ?_
    repeat walk_at "rp"
    have S := St.front (pre := [_, _]) S
    refine setFn0S nolk_applies S fun d h' tk S => ?_
    repeat walk_at "rp"
    refine plainObj_wpAny_Assign_Attribute ?_ rfl
    repeat walk_at "rp"
    refine setFn1S nolk_allowance (by simp) S fun h' tk S => ?_
    repeat walk_at "rp"
    refine fin f1 c1 f2 c2 d h' _ _ (fun c q => Option.some.inj q) (by walk_at "mem") (by walk_at "mem") (S.re fun a => ?_)
    simp only [HL, cnt_cons, cnt_append, cnt_nil, List.cons_append, List.nil_append, List.append_eq] <;> omega
end
theorem Dues.snoc {l : Led} {D : Addr} {ds : List (List Nat)} {dvv dv : List Value} {d : List Nat} (q : Dues l ds dvv) (h : (D, ListO dv) ∈ l) (k : Nats dv d) : Dues l (ds ++ [d]) (dvv ++ [.ref D]) := by
  refine ⟨by rw [List.length_append, List.length_append, q.1]; rfl, fun i r' e => ?_⟩
  by_cases hi : i < ds.length
  · rw [List.getElem?_append_left hi] at e
    rw [List.getElem?_append_left (by rw [q.1]; exact hi)]
    exact q.2 i r' e
  · rw [List.getElem?_append_right (by omega)] at e
    have h0 : i - ds.length = 0 := by have := (List.getElem?_eq_some_iff.mp e).1; simp at this; omega
    rw [h0] at e
    have : r' = d := by simpa using e.symm
    subst this
    exact ⟨D, dv, by rw [List.getElem?_append_right (by have := q.1; omega), q.1, h0]; rfl, h, k⟩
theorem RulesAt.snoc {l : Led} {nA f rA : Addr} {rs : List (List Nat × Bool)} {rv rvv : List Value} {r : List Nat × Bool} (q : RulesAt l nA rs rv) (a : Rul l f rA nA r.2) (h : (rA, ListO rvv) ∈ l) (k : Nats rvv r.1) : RulesAt l nA (rs ++ [r]) (rv ++ [.ref f]) := by
  refine ⟨by rw [List.length_append, List.length_append, q.1]; rfl, fun i r' e => ?_⟩
  by_cases hi : i < rs.length
  · rw [List.getElem?_append_left hi] at e
    rw [List.getElem?_append_left (by rw [q.1]; exact hi)]
    exact q.2 i r' e
  · rw [List.getElem?_append_right (by omega)] at e
    have h0 : i - rs.length = 0 := by have := (List.getElem?_eq_some_iff.mp e).1; simp at this; omega
    rw [h0] at e
    have : r' = r := by simpa using e.symm
    subst this
    exact ⟨f, rA, rvv, by rw [List.getElem?_append_right (by have := q.1; omega), q.1, h0]; rfl, a, h, k⟩
noncomputable def dueK (pas nms : List (List Nat)) (ss : List Int) (k : Nat) : List Nat := nms.map (dueOf (pas.getD k []) (ss.getD k 0 / 2 % 2 == 1))
noncomputable def rulK (pas nms : List (List Nat)) (ss : List Int) (k : Nat) : List Nat × Bool := (dueK pas nms ss k, ss.getD k 0 % 2 == 1)
noncomputable def HLk : Option (Addr × Addr) → Led
  | none => []
  | some c => HL (some c)
theorem HLk_sub (o : Option (Addr × Addr)) : ∀ p ∈ HLk o, p ∈ HL o := by
  cases o with
  | none => intro p hp; cases hp
  | some c => exact fun p hp => hp
theorem tabs_HR (o : Option (Addr × Addr)) : ∃ ps, ((112, TabO ps) : Addr × (Obj → Prop)) ∈ HR o := by
  cases o with
  | none => exact ⟨_, .head _⟩
  | some c => exact ⟨_, .head _⟩
theorem tabs_HL (o : Option (Addr × Addr)) : ∃ ps, ((129, TabO ps) : Addr × (Obj → Prop)) ∈ HL o := by
  cases o with
  | none => exact ⟨_, .head _⟩
  | some c => exact ⟨_, .head _⟩
noncomputable abbrev S5 (l : Led) (pas nms : List (List Nat)) (ss : List Int) (rA dA nA sA pA : Addr) (i : Nat) (u1 : List (Str × Value)) (l1 : Led) : Prop := ∃ oR oL dvv rvv new, l1 = HR oR ++ (HL oL ++ ((rA, ListO rvv) :: (dA, ListO dvv) :: (new ++ l))) ∧
    Dues (new ++ l) ((List.range i).map (dueK pas nms ss)) dvv ∧ RulesAt (HLk oL ++ (new ++ l)) nA ((List.range i).map (rulK pas nms ss)) rvv ∧
    (("sums", .ref sA) : Str × Value) ∈ u1 ∧ (("names", .ref nA) : Str × Value) ∈ u1 ∧ (("paths", .ref pA) : Str × Value) ∈ u1 ∧ (("due", .ref dA) : Str × Value) ∈ u1 ∧ (("rules", .ref rA) : Str × Value) ∈ u1
section
variable {prog : Program} {w : World} {A : Around} {E : Value → Shared → Prop} {s : Shared} {g : Heap} {L : Addr} {u : List (Str × Value)} {l : Led} {Q : Value → Shared → Prop}
theorem seg5 {n : Nat} (W : Wd w g) (T : Tb g) (R : Rm A (n + 24)) (S : St g (Le w L) (Lo w L) u (HR none ++ (HL none ++ l)) s.heap) {sA nA pA : Addr} {sv nv pv : List Value} {ss : List Int} {nms pas : List (List Nat)} {c : Nat}
    (us : (("sums", .ref sA) : Str × Value) ∈ u) (hs : (sA, ListO sv) ∈ l) (hsv : IntsAre sv ss) (hsl : ss.length = 10) (hc9 : ss.getD 9 0 % 4 = (c : Int)) (hc4 : c < 4)
    (un : (("names", .ref nA) : Str × Value) ∈ u) (hn : (nA, ListO nv) ∈ l) (hnv : Strs nms nv) (hnl : nms.length = 2) (hnz : ∀ x ∈ nms, x.length ≤ 1000)
    (up : (("paths", .ref pA) : Str × Value) ∈ u) (hp : (pA, ListO pv) ∈ l) (hpv : Strs pas pv) (hpl : pas.length = 6) (hpz : ∀ x ∈ pas, (∀ c ∈ x, c < 128) ∧ x.length ≤ 20 ∧ 42 ∈ x)
    (hm : ∀ ag ds rs, ag = ((List.range 3).map fun r => agOf (ss.getD (6 + r) 0) 4) → ds = (List.range 6).map (dueK pas nms ss) → rs = (List.range 6).map (rulK pas nms ss) → (∀ r, r < 3 → applN (ag.getD r []) (crawl c) = (mineOf ((List.range 3).map (recOf ag rs ss)) c).contains r) ∧
      (joinD ((List.range 3).map (recOf ag rs ss)) (mineOf ((List.range 3).map (recOf ag rs ss)) c) = (waitsOf ss (mineOf ((List.range 3).map (recOf ag rs ss)) c)).getLast?) ∧
      (∀ (t : Nat) (nm : List Nat) (M : Int), nms[t]? = some nm → M ∈ (0 : Int) :: (farL ds (mineOf ((List.range 3).map (recOf ag rs ss)) c) 6 t).map Int.ofNat → (∀ y ∈ (0 : Int) :: (farL ds (mineOf ((List.range 3).map (recOf ag rs ss)) c) 6 t).map Int.ofNat, y ≤ M) → allowN (joinR ((List.range 3).map (recOf ag rs ss)) (mineOf ((List.range 3).map (recOf ag rs ss)) c)) (nms.idxOf nm) = (M == 0 || (freeL ss ds (mineOf ((List.range 3).map (recOf ag rs ss)) c) M 6 t).any (· == 1))))
    (h : ∀ h' tk l', Hp g l' h' → TabsIn l' → Q (.bool true) { s with heap := h', toks := tk }) : wpAny (model prog w) A (execs (bd_146.1.drop 5) (Le w L)) (Pq Q) E s := by
  have KD := kd_146 w L
  dsimp only [bd_146, List.drop]
  repeat walk_at "rp"
  refine newL S (Nat.le_of_ble_eq_true rfl) fun dA h' S => ?_
  refine sta S (by walk_at "sto") fun h' tk S => ?_
  repeat walk_at "rp"
  refine newL S (Nat.le_of_ble_eq_true rfl) fun rA h' S => ?_
  refine sta S (by walk_at "sto") fun h' tk S => ?_
  repeat walk_at "rp"
  refine wpAny_For ?_
  repeat walk_at "rp"
  rename_i rr _ _ S
  refine iterR (n := 6) S (by walk_at "mem") (by omega) (by decide) fun I h' S => ?_
  refine forLoop_ (Itr.upto R.hh 6) (by walk_at "sto") (S5 l pas nms ss rA dA nA sA pA) (l₀ := HR none ++ (HL none ++ ((rA, ListO []) :: (dA, ListO []) :: ([(rr, RangeO 0 6 1)] ++ l)))) (S.re fun a => ?_) (fun p hp => by cases hp) ?_ ?_ ?_
  · simp only [cnt_cons, cnt_append, cnt_nil, List.cons_append, List.nil_append]; first | ac_rfl | omega
  · exact ⟨none, none, [], [], _, rfl, ⟨rfl, fun i a e => by simp at e⟩, ⟨rfl, fun i a e => by simp at e⟩, by walk_at "mem", by walk_at "mem", by walk_at "mem", by walk_at "mem", by walk_at "mem"⟩
  · rintro k v u1 l1 h' tk hk ⟨tv, rfl⟩ ⟨oR, oL, dvv, rvv, new, rfl, hdv, hrv, us, un, up, ud, ur⟩ - S
    have hpk : pas[k]? = some (pas.getD k []) := by rw [List.getD_eq_getElem?_getD, List.getElem?_eq_getElem (by omega)]; rfl
    obtain ⟨tp, ep⟩ := hpv.2 _ _ hpk
    obtain ⟨hz1, hz2, hz3⟩ := hpz _ (List.mem_of_getElem? hpk)
    obtain ⟨t6, e6⟩ := ints_get hsv (i := k) (by omega)
    have hdk : dueK pas nms ss k = nms.map (dueOf (pas.getD k []) (ss.getD k 0 / 2 % 2 == 1)) := rfl
    have hrk : rulK pas nms ss k = (dueK pas nms ss k, ss.getD k 0 % 2 == 1) := rfl
    generalize pas.getD k [] = pa at *
    generalize ss.getD k 0 = z at *
    have ml := S.subs (l := l) fun p hp => .tail _ (List.mem_append_right _ (List.mem_append_right _ (.tail _ (.tail _ (List.mem_append_right _ hp)))))
    walk_at "rp"
    refine asgn rfl ?_
    repeat walk_at "rp"
    refine cwF rfl rfl ?_
    repeat walk_at "rp"
    refine itemL S.led (ml _ hp) (by omega) (by omega) (by rw [Int.toNat_natCast]; exact ep) ?_ rfl
    repeat walk_at "rp"
    refine itemL S.led (ml _ hs) (by omega) (by omega) (by rw [Int.toNat_natCast]; exact e6) ?_ rfl
    repeat walk_at "rp"
    refine ⟨fnK W S.hp (lk_122 w), ?_⟩
    have S := S.re (l' := HR oR ++ ((I, RIterO 0 1 6 (k + 1)) :: (HL oL ++ ((rA, ListO rvv) :: (dA, ListO dvv) :: (new ++ l))))) fun a => by simp only [cnt_cons, cnt_append]; first | ac_rfl | omega
    refine told_due_spec (n := n + 4) W T (R.less (by omega)) oR (Hp.swapA S.hp) hz1 hz2 hz3 (by walk_at "mem") hnv hnz (by omega) fun D1 dv1 oR2 new1 h' tk hn1 H' => ?_
    have S : St g _ _ _ (((D1, ListO dv1) :: new1) ++ (HR oR2 ++ ((I, RIterO 0 1 6 (k + 1)) :: (HL oL ++ ((rA, ListO rvv) :: (dA, ListO dvv) :: (new ++ l)))))) h' := S.of' (H'.le fun a => by simp only [cnt_cons, cnt_append, List.cons_append]; first | ac_rfl | omega) fun p hp => by
      rcases List.mem_append.mp hp with hp | hp
      · exact .inr (HR_nc _ p hp)
      · exact .inl (List.mem_append_right _ (List.mem_append_right _ hp))
    refine sta S (by walk_at "sto") fun h' tk S => ?_
    repeat walk_at "rp"
    refine exprS (by kernel_rfl) rfl ?_
    refine mcL F.slot_list_append F.type_list_append rfl rfl rfl rfl rfl ?_
    repeat walk_at "rp"
    refine ⟨dA, dvv, rfl, S.get (by walk_at "mem"), ?_⟩
    repeat walk_at "rp"
    refine cwF rfl rfl ?_
    repeat walk_at "rp"
    have ml2 := S.subs (l := l) fun p hp => List.mem_append_right _ (List.mem_append_right _ (.tail _ (List.mem_append_right _ (.tail _ (.tail _ (List.mem_append_right _ hp))))))
    refine itemL S.led (ml2 _ hp) (by omega) (by omega) (by rw [Int.toNat_natCast]; exact ep) ?_ rfl
    repeat walk_at "rp"
    refine itemL S.led (ml2 _ hs) (by omega) (by omega) (by rw [Int.toNat_natCast]; exact e6) ?_ rfl
    repeat walk_at "rp"
    refine ⟨fnK W S.hp (lk_127 w), ?_⟩
    refine due_spec (n := n + 21) W R S.hp (List.mem_append_right _ (ml2 _ hn)) hnv hnz (by omega) fun D2 dv2 new2 h' tk hn2 H' => ?_
    have S := S.app (n := (D2, ListO dv2) :: new2) H'
    have hdl : dvv.length = k := by rw [hdv.1, List.length_map, List.length_range]
    have hrl : rvv.length = k := by rw [hrv.1, List.length_map, List.length_range]
    repeat walk_at "rp"
    refine appendM S (by walk_at "mem") (by rw [sizeLine_eq]; omega) fun l' h' tk S hcnt => ?_
    have S := S.re (l' := ((D2, ListO dv2) :: (D1, ListO dv1) :: (new2 ++ new1)) ++ (HR oR2 ++ ((I, RIterO 0 1 6 (k + 1)) :: (HL oL ++ ((rA, ListO rvv) :: (dA, ListO (dvv ++ [.ref D2])) :: (new ++ l)))))) fun a => by
      have e := hcnt a
      simp only [cnt_cons, cnt_append, List.cons_append] at e ⊢; first | ac_rfl | omega
    repeat walk_at "rp"
    refine itemL S.led (by walk_at "mem") (v := .ref D2) (by omega) (by omega) (by rw [Int.toNat_natCast, List.getElem?_append_right (by omega), hdl, Nat.sub_self]; rfl) ?_ rfl
    refine neI (by have := R.un; show A.units + 64 < 9900; omega) S (by walk_at "mem") (by walk_at "mem") hn1 hn2 ?_
    repeat walk_at "rp"
    refine iteF (by simp) ?_
    repeat walk_at "rp"
    refine exprS (by kernel_rfl) rfl ?_
    refine mcL F.slot_list_append F.type_list_append rfl rfl rfl rfl rfl ?_
    repeat walk_at "rp"
    refine ⟨rA, rvv, rfl, S.get (by walk_at "mem"), ?_⟩
    repeat walk_at "rp"
    refine cwF rfl rfl ?_
    repeat walk_at "rp"
    have ml3 := S.subs (l := l) fun p hp => List.mem_append_right _ (List.mem_append_right _ (.tail _ (List.mem_append_right _ (.tail _ (.tail _ (List.mem_append_right _ hp))))))
    refine itemL S.led (ml3 _ hs) (by omega) (by omega) (by rw [Int.toNat_natCast]; exact e6) ?_ rfl
    repeat walk_at "rp"
    refine ⟨fnK W S.hp (lk_134 w), ?_⟩
    have S := S.re (l' := HL oL ++ (((D2, ListO dv2) :: (D1, ListO dv1) :: (new2 ++ new1)) ++ (HR oR2 ++ ((I, RIterO 0 1 6 (k + 1)) :: (rA, ListO rvv) :: (dA, ListO (dvv ++ [.ref D2])) :: (new ++ l))))) fun a => by simp only [cnt_cons, cnt_append, List.cons_append]; first | ac_rfl | omega
    refine rule_specS (n := n + 21) W T R oL (Hp.swapA S.hp) fun f c12 new3 h' tk hoc hR H' => ?_
    have S : St g _ _ _ (new3 ++ (HL (some c12) ++ (((D2, ListO dv2) :: (D1, ListO dv1) :: (new2 ++ new1)) ++ (HR oR2 ++ ((I, RIterO 0 1 6 (k + 1)) :: (rA, ListO rvv) :: (dA, ListO (dvv ++ [.ref D2])) :: (new ++ l)))))) h' := S.of' (H'.le fun a => by simp only [cnt_cons, cnt_append, List.cons_append]; first | ac_rfl | omega) fun p hp => by
      rcases List.mem_append.mp hp with hp | hp
      · exact .inr (HL_nc _ p hp)
      · exact .inl (List.mem_append_right _ (List.mem_append_right _ hp))
    repeat walk_at "rp"
    refine appendM S (by walk_at "mem") (by rw [sizeLine_eq]; omega) fun l' h' tk S hcnt => ?_
    repeat walk_at "rp"
    refine ⟨_, HR oR2 ++ (HL (some c12) ++ ((rA, ListO (rvv ++ [.ref f])) :: (dA, ListO (dvv ++ [.ref D2])) :: ((new3 ++ ((D2, ListO dv2) :: (D1, ListO dv1) :: (new2 ++ (new1 ++ new)))) ++ l))), _, _, rfl, S.re fun a => ?_, fun p hp => (by cases hp), oR2, some c12, _, _, _, rfl, ?_, ?_, by walk_at "mem", by walk_at "mem", by walk_at "mem", by walk_at "mem", by walk_at "mem"⟩
    · have e := hcnt a
      simp only [cnt_cons, cnt_append, List.cons_append] at e ⊢; first | ac_rfl | omega
    · rw [List.range_succ, List.map_append]
      refine (hdv.mono fun p hp => ?_).snoc (D := D2) (dv := dv2) (List.mem_append_left _ (List.mem_append_right _ (.head _))) (by rw [hdk]; exact hn2)
      rcases List.mem_append.mp hp with hp | hp
      · exact List.mem_append_left _ (List.mem_append_right _ (.tail _ (.tail _ (List.mem_append_right _ (List.mem_append_right _ hp)))))
      · exact List.mem_append_right _ hp
    · rw [List.range_succ, List.map_append]
      have hR' := hR.mono (l' := HLk (some c12) ++ ((new3 ++ ((D2, ListO dv2) :: (D1, ListO dv1) :: (new2 ++ (new1 ++ new)))) ++ l)) fun p hp => by
        rcases List.mem_append.mp hp with hp | hp
        · exact List.mem_append_right _ (List.mem_append_left _ (List.mem_append_left _ hp))
        · exact List.mem_append_left _ hp
      refine (hrv.mono fun p hp => ?_).snoc (r := rulK pas nms ss k) (f := f) (rA := D1) (rvv := dv1) (by rw [hrk]; exact hR') (List.mem_append_right _ (List.mem_append_left _ (List.mem_append_right _ (.tail _ (.head _))))) (by rw [hrk, hdk]; exact hn1)
      · rcases List.mem_append.mp hp with hp | hp
        · refine List.mem_append_left _ ?_
          cases oL with
          | none => cases hp
          | some cc => rw [hoc cc rfl]; exact hp
        · refine List.mem_append_right _ ?_
          rcases List.mem_append.mp hp with hp | hp
          · exact List.mem_append_left _ (List.mem_append_right _ (.tail _ (.tail _ (List.mem_append_right _ (List.mem_append_right _ hp)))))
          · exact List.mem_append_right _ hp
  · rintro u1 l1 h' tk ⟨oR, oL, dvv, rvv, new, rfl, hdv, hrv, us, un, up, ud, ur⟩ S
    have ml := S.subs (l := l) fun p hp => List.mem_append_right _ (List.mem_append_right _ (.tail _ (.tail _ (List.mem_append_right _ hp))))
    obtain ⟨ps1, hT1⟩ := tabs_HR oR
    obtain ⟨ps2, hT2⟩ := tabs_HL oL
    refine seg8 (s := { s with heap := h', toks := tk }) (n := n + 12) (c := c) W R S ⟨⟨ps1, S.mem (List.mem_append_left _ hT1)⟩, ⟨ps2, S.mem (List.mem_append_right _ (List.mem_append_left _ hT2))⟩⟩ us (ml _ hs) hsv hsl hc9 hc4 un (ml _ hn) hnv hnl ud (S.mem (List.mem_append_right _ (List.mem_append_right _ (.tail _ (.head _))))) (hdv.mono (S.subs fun p hp => List.mem_append_right _ (List.mem_append_right _ (.tail _ (.tail _ hp))))) (by rw [List.length_map, List.length_range]) ?_ ur (S.mem (List.mem_append_right _ (List.mem_append_right _ (.head _)))) (hrv.mono (S.subs fun p hp => List.mem_append_right _ ?_)) (by rw [List.length_map, List.length_range]) ?_ (fun ag e => hm ag _ _ e rfl rfl) fun h'' tk'' l' H' T' => h h'' tk'' l' H' T'
    · intro d hd
      obtain ⟨i, hi, rfl⟩ := List.mem_map.mp hd
      unfold dueK; rw [List.length_map]; exact hnl
    · rcases List.mem_append.mp hp with hp | hp
      · exact List.mem_append_left _ (HLk_sub _ p hp)
      · exact List.mem_append_right _ (.tail _ (.tail _ hp))
    · intro q hq
      obtain ⟨i, hi, rfl⟩ := List.mem_map.mp hq
      show (dueK pas nms ss i).length = 2
      unfold dueK; rw [List.length_map]; exact hnl
end
noncomputable def sgL : List (List Nat) := [[65, 46, 43, 42], [98, 40, 41, 42], [92, 63, 124, 42], [91, 93, 94, 42]]
noncomputable def sgOf (k : Nat) : List Nat := sgL.getD k []
theorem sgOf_ok : ∀ k, k < 4 → (sgOf k).length = 4 ∧ sg_ (sgOf k) 2 ≠ 42 ∧ (∀ c ∈ sgOf k, c < 128) := by
  intro k hk
  have : k = 0 ∨ k = 1 ∨ k = 2 ∨ k = 3 := lt4 (by assumption)
  rcases this with rfl | rfl | rfl | rfl
  · exact ⟨rfl, by decide, by decide⟩
  · exact ⟨rfl, by decide, by decide⟩
  · exact ⟨rfl, by decide, by decide⟩
  · exact ⟨rfl, by decide, by decide⟩
theorem sg_at : ∀ i, i < 4 → ∀ t1 t2 t3 t4 : Tok, ∃ t, [Value.str (Tx [65, 46, 43, 42]) t1, Value.str (Tx [98, 40, 41, 42]) t2, Value.str (Tx [92, 63, 124, 42]) t3, Value.str (Tx [91, 93, 94, 42]) t4][i]? = some (.str (Tx (sgOf i)) t) := by
  intro i hi t1 t2 t3 t4
  have : i = 0 ∨ i = 1 ∨ i = 2 ∨ i = 3 := lt4 (by assumption)
  rcases this with rfl | rfl | rfl | rfl
  · exact ⟨t1, rfl⟩
  · exact ⟨t2, rfl⟩
  · exact ⟨t3, rfl⟩
  · exact ⟨t4, rfl⟩
noncomputable def pasOf (ss : List Int) : List (List Nat) := (List.range 6).map fun i => pathOf (sgOf (ss.getD 9 0 / 4 % 4).toNat) (ss.getD i 0 / 4)
noncomputable def nmsOf (ss : List Int) : List (List Nat) := [nameOf (pasOf ss) (sgOf (ss.getD 9 0 / 4 % 4).toNat) (ss.getD 9 0 / 16), nameOf (pasOf ss) (sgOf (ss.getD 9 0 / 4 % 4).toNat) (ss.getD 9 0 / 1152)]
theorem pick_lt {sg : List Nat} (h : ∀ c ∈ sg, c < 128) (m : Int) (k : Nat) : pick sg m k < 128 := by
  unfold pick
  rw [List.getD_eq_getElem?_getD]
  cases e : sg[(m / 4 ^ k % 4).toNat]? with
  | none => exact Nat.lt_of_sub_ne_zero (by decide)
  | some c => exact h c (List.mem_of_getElem? e)
theorem pasOf_ok (ss : List Int) : (pasOf ss).length = 6 ∧ ∀ x ∈ pasOf ss, (∀ c ∈ x, c < 128) ∧ x.length ≤ 10 ∧ 42 ∈ x := by
  refine ⟨by unfold pasOf; rw [List.length_map, List.length_range], fun x hx => ?_⟩
  obtain ⟨i, -, rfl⟩ := List.mem_map.mp hx
  have hk : (ss.getD 9 0 / 4 % 4).toNat < 4 := by omega
  have h3 := (sgOf_ok _ hk).2.2
  generalize sgOf (ss.getD 9 0 / 4 % 4).toNat = sg at *
  refine ⟨fun c hc => ?_, Nat.le_of_ble_eq_true rfl, by unfold pathOf; simp⟩
  unfold pathOf at hc
  simp only [List.mem_cons, List.not_mem_nil, or_false] at hc
  rcases hc with rfl | rfl | rfl | rfl | rfl | rfl
  · decide
  · exact pick_lt h3 _ _
  · exact pick_lt h3 _ _
  · decide
  · exact pick_lt h3 _ _
  · exact pick_lt h3 _ _
theorem nameOf_len {ps : List (List Nat)} (hp : ∀ x ∈ ps, x.length ≤ 10) {sg : List Nat} (m : Int) : (nameOf ps sg m).length ≤ 1000 := by
  unfold nameOf
  rw [List.length_append]
  have h1 : (ps.getD (m % 6).toNat []).length ≤ 10 := by
    rw [List.getD_eq_getElem?_getD]
    cases e : ps[(m % 6).toNat]? with
    | none => exact Nat.zero_le _
    | some c => exact hp c (List.mem_of_getElem? e)
  have h2 : (filler sg (m / 6 % 4)).length ≤ 2 := by
    have : m / 6 % 4 = 0 ∨ m / 6 % 4 = 1 ∨ m / 6 % 4 = 2 ∨ m / 6 % 4 = 3 := mod4 _
    rcases this with e | e | e | e <;> rw [e] <;> exact Nat.le_of_ble_eq_true rfl
  have h3 : (tailOf sg (m / 24 % 3)).length ≤ 1 := by
    have : m / 24 % 3 = 0 ∨ m / 24 % 3 = 1 ∨ m / 24 % 3 = 2 := mod3 _
    rcases this with e | e | e <;> rw [e] <;> exact Nat.le_of_ble_eq_true rfl
  have hfz := fill_len (filler sg (m / 6 % 4)) (ps.getD (m % 6).toNat [])
  have hfz' := Nat.mul_le_mul h1 h2
  omega
section
variable {prog : Program} {w : World} {A : Around} {E : Value → Shared → Prop} {s : Shared} {g : Heap} {L : Addr} {u : List (Str × Value)} {l : Led} {Q : Value → Shared → Prop}
theorem seg2 {n : Nat} (W : Wd w g) (T : Tb g) (R : Rm A (n + 24)) (S : St g (Le w L) (Lo w L) u (HR none ++ (HL none ++ l)) s.heap) {sA : Addr} {sv : List Value} {ss : List Int} {c : Nat} (htk : 1 ≤ s.toks)
    (us : (("sums", .ref sA) : Str × Value) ∈ u) (hs : (sA, ListO sv) ∈ l) (hsv : IntsAre sv ss) (hsl : ss.length = 10) (hc9 : ss.getD 9 0 % 4 = (c : Int)) (hc4 : c < 4)
    (hm : ∀ ag ds rs pas nms, pas = pasOf ss → nms = nmsOf ss → ag = ((List.range 3).map fun r => agOf (ss.getD (6 + r) 0) 4) → ds = (List.range 6).map (dueK pas nms ss) → rs = (List.range 6).map (rulK pas nms ss) → (∀ r, r < 3 → applN (ag.getD r []) (crawl c) = (mineOf ((List.range 3).map (recOf ag rs ss)) c).contains r) ∧
      (joinD ((List.range 3).map (recOf ag rs ss)) (mineOf ((List.range 3).map (recOf ag rs ss)) c) = (waitsOf ss (mineOf ((List.range 3).map (recOf ag rs ss)) c)).getLast?) ∧
      (∀ (t : Nat) (nm : List Nat) (M : Int), nms[t]? = some nm → M ∈ (0 : Int) :: (farL ds (mineOf ((List.range 3).map (recOf ag rs ss)) c) 6 t).map Int.ofNat → (∀ y ∈ (0 : Int) :: (farL ds (mineOf ((List.range 3).map (recOf ag rs ss)) c) 6 t).map Int.ofNat, y ≤ M) → allowN (joinR ((List.range 3).map (recOf ag rs ss)) (mineOf ((List.range 3).map (recOf ag rs ss)) c)) (nms.idxOf nm) = (M == 0 || (freeL ss ds (mineOf ((List.range 3).map (recOf ag rs ss)) c) M 6 t).any (· == 1))))
    (h : ∀ h' tk l', Hp g l' h' → TabsIn l' → Q (.bool true) { s with heap := h', toks := tk }) : wpAny (model prog w) A (execs (bd_146.1.drop 2) (Le w L)) (Pq Q) E s := by
  have KD := kd_146 w L
  dsimp only [bd_146, List.drop]
  obtain ⟨t9, e9⟩ := ints_get hsv (i := 9) (by omega)
  have ml := S.subs (l := l) fun p hp => List.mem_append_right _ (List.mem_append_right _ hp)
  walk_at "rp"
  refine wpAny_with_toks htk ?_
  ((repeat walk_at "rp"); (with_reducible refine lit_3 ?_); walk_at "d"; (repeat walk_at "rp"); (with_reducible refine lit_4 ?_); walk_at "d"; (repeat walk_at "rp"); (with_reducible refine lit_5 ?_); walk_at "d"; (repeat walk_at "rp"); (with_reducible refine lit_6 ?_); walk_at "d"; (repeat walk_at "rp"))
  refine newL S (Nat.le_of_ble_eq_true rfl) fun N1 h' S => ?_
  repeat walk_at "rp"
  obtain ⟨tg, eg⟩ := sg_at (ss.getD 9 0 / 4 % 4).toNat (by omega) _ _ _ _
  refine itemL S.led (.head _) (by omega) (by omega) eg ?_ rfl
  refine sta S (by walk_at "sto") fun h' tk S htk => ?_
  try dsimp only at htk ⊢
  have hgk := sgOf_ok (ss.getD 9 0 / 4 % 4).toNat (by omega)
  have hpo := pasOf_ok ss
  have hpd : pasOf ss = (List.range 6).map fun i => pathOf (sgOf (ss.getD 9 0 / 4 % 4).toNat) (ss.getD i 0 / 4) := rfl
  have hnd : nmsOf ss = [nameOf (pasOf ss) (sgOf (ss.getD 9 0 / 4 % 4).toNat) (ss.getD 9 0 / 16), nameOf (pasOf ss) (sgOf (ss.getD 9 0 / 4 % 4).toNat) (ss.getD 9 0 / 1152)] := rfl
  generalize hpas : pasOf ss = pas at *
  generalize hnms : nmsOf ss = nms at *
  generalize sgOf (ss.getD 9 0 / 4 % 4).toNat = sg at *
  walk_at "rp"
  refine wpAny_with_toks htk ?_
  refine comp_assign (by kernel_rfl) (by kernel_rfl) ?_ (fun _ => rfl) rfl
  repeat walk_at "rp"
  have hxl := hsv.length
  have hx1 : (cutV none (some 6) sv).length = 6 := by simp only [cutV, List.length_drop, List.length_take, Option.getD]; omega
  have hx2 : ∀ i, i < 6 → ∃ t, (cutV none (some 6) sv)[i]? = some (.int (ss.getD i 0) t) := by
    intro i hi
    obtain ⟨t, e⟩ := ints_get hsv (i := i) (by omega)
    exact ⟨t, by rw [← e]; simp only [cutV, Option.getD]; rw [List.getElem?_drop, List.getElem?_take_of_lt (by omega), Nat.zero_add]⟩
  generalize hxs : cutV none (some 6) sv = xs at *
  refine sliceLt .none (.lit 6 _ _ rfl) S (.tail _ (ml _ hs)) (by rw [sizeLine_eq]; omega) fun B h' S => ?_
  rw [hxs] at S
  refine iterL S (.head _) fun I h' S => ?_
  refine compAt1 KD (by kernel_rfl) (Itr.list R.hh B xs) S (fun p hp => by rcases List.mem_singleton.mp hp with rfl; exact .head _) (by rw [hx1, sizeLine_eq]; omega) [("signs", .str (Tx sg) tg)] (fun p hp => by rcases List.mem_singleton.mp hp with rfl; exact .head _) (by kernel_rfl)
    (fun i ys ex => Strs ((List.range i).map fun i => pathOf sg (ss.getD i 0 / 4)) ys) .nil ?_ ?_
  · rintro cl C D i v ys ex h' tk KD1 hi hv hj hys S
    obtain ⟨tz, ez⟩ := hx2 i (by omega)
    rw [hv] at ez; injection ez with ez; subst ez
    refine wpAny_tests_nil ?_
    refine iteT rfl ?_
    repeat walk_at "rp"
    refine cwF rfl rfl ?_
    repeat walk_at "rp"
    refine ⟨fnK W S.hp (lk_96 w), ?_⟩
    refine path_spec (n := n + 21) W R S.hp hgk.1 fun tp new h' tk H' => ?_
    have S := S.app H'
    refine ⟨new, _, _, rfl, S, ?_⟩
    rw [List.range_succ, List.map_append]
    exact hj.snoc
  · intro C D pv ex h' tk hj2 H'
    refine comp_fin_assign (y := "paths") S (IterO.nc _ _) (by walk_at "sto") H' fun h' tk S htk => ?_
    rw [hx1] at hj2
    try dsimp only at htk ⊢
    have ml := S.subs (l := l) fun p hp => .tail _ (List.mem_append_right _ (.tail _ (.tail _ (List.mem_append_right _ (List.mem_append_right _ hp)))))
    repeat walk_at "rp"
    refine cwF rfl rfl ?_
    refine wpAny_with_toks htk ?_
    repeat walk_at "rp"
    intro htk
    try dsimp only at htk
    refine ⟨fnK W S.hp (lk_103 w), ?_⟩
    have hj3 : Strs pas pv := by rw [hpd]; exact hj2
    refine wpAny_with_toks htk ?_
    refine name_spec (n := n + 21) W R S.hp htk hgk.1 hgk.2.1 (List.mem_append_right _ (.head _)) hj3 hpo.1 (fun x hx => (hpo.2 x hx).2.1) fun u1 new1 h' tk H' htk => ?_
    try dsimp only at htk
    have S := S.app H'
    repeat walk_at "rp"
    refine cwF rfl rfl ?_
    refine wpAny_with_toks htk ?_
    repeat walk_at "rp"
    intro htk
    try dsimp only at htk
    refine ⟨fnK W S.hp (lk_103 w), ?_⟩
    refine name_spec (n := n + 21) W R S.hp htk hgk.1 hgk.2.1 (List.mem_append_right _ (List.mem_append_right _ (.head _))) hj3 hpo.1 (fun x hx => (hpo.2 x hx).2.1) fun u2 new2 h' tk H' => ?_
    have S := S.app H'
    repeat walk_at "rp"
    refine newL S (Nat.le_of_ble_eq_true rfl) fun nA h' S => ?_
    refine sta S (by walk_at "sto") fun h' tk S => ?_
    have S := S.re (l' := HR none ++ (HL none ++ ((nA, ListO [.str (Tx (nameOf pas sg (ss.getD 9 0 / 16))) u1, .str (Tx (nameOf pas sg (ss.getD 9 0 / 1152))) u2]) :: (new2 ++ (new1 ++ ((D, ListO pv) :: (ex ++ (((B, ListO xs) :: (N1, ListO [.str (Tx [65, 46, 43, 42]) s.toks, .str (Tx [98, 40, 41, 42]) (s.toks + 1), .str (Tx [92, 63, 124, 42]) (s.toks + 1 + 1), .str (Tx [91, 93, 94, 42]) (s.toks + 1 + 1 + 1)]) :: l)))))))))  fun a => by simp only [cnt_cons, cnt_append]; first | ac_rfl | omega
    refine seg5 (s := { s with heap := h', toks := tk }) (n := n) (c := c) (nms := nms) (pas := pas) W T R S (by walk_at "mem") (by walk_at "mem") hsv hsl hc9 hc4 (by walk_at "mem") (.head _) (by rw [hnd]; exact strs2) (by rw [hnd]; rfl) ?_ (by walk_at "mem") (.tail _ (List.mem_append_right _ (List.mem_append_right _ (.head _)))) hj3 hpo.1 (fun x hx => ⟨(hpo.2 x hx).1, by have := (hpo.2 x hx).2.1; omega, (hpo.2 x hx).2.2⟩) (fun ag ds rs e1 e2 e3 => hm ag ds rs pas nms rfl rfl e1 e2 e3) fun h'' tk'' l' H' T' => h h'' tk'' l' H' T'
    intro x hx
    rw [hnd] at hx
    rcases List.mem_cons.mp hx with rfl | hx
    · exact nameOf_len (fun x hx => (hpo.2 x hx).2.1) _
    · rcases List.mem_singleton.mp hx with rfl; exact nameOf_len (fun x hx => (hpo.2 x hx).2.1) _
end
noncomputable def PLaw : Prop := ∀ (ss : List Int) (c : Nat), ss.length = 10 → ss.getD 9 0 % 4 = (c : Int) → c < 4 → ∀ ag ds rs pas nms, pas = pasOf ss → nms = nmsOf ss → ag = ((List.range 3).map fun r => agOf (ss.getD (6 + r) 0) 4) → ds = (List.range 6).map (dueK pas nms ss) → rs = (List.range 6).map (rulK pas nms ss) → (∀ r, r < 3 → applN (ag.getD r []) (crawl c) = (mineOf ((List.range 3).map (recOf ag rs ss)) c).contains r) ∧
      (joinD ((List.range 3).map (recOf ag rs ss)) (mineOf ((List.range 3).map (recOf ag rs ss)) c) = (waitsOf ss (mineOf ((List.range 3).map (recOf ag rs ss)) c)).getLast?) ∧
      (∀ (t : Nat) (nm : List Nat) (M : Int), nms[t]? = some nm → M ∈ (0 : Int) :: (farL ds (mineOf ((List.range 3).map (recOf ag rs ss)) c) 6 t).map Int.ofNat → (∀ y ∈ (0 : Int) :: (farL ds (mineOf ((List.range 3).map (recOf ag rs ss)) c) 6 t).map Int.ofNat, y ≤ M) → allowN (joinR ((List.range 3).map (recOf ag rs ss)) (mineOf ((List.range 3).map (recOf ag rs ss)) c)) (nms.idxOf nm) = (M == 0 || (freeL ss ds (mineOf ((List.range 3).map (recOf ag rs ss)) c) M 6 t).any (· == 1)))
theorem own_at : ∀ i, i < 10 → ∀ t0 t1 t2 t3 t4 t5 t6 t7 t8 t9 : Tok, ∃ z t, [Value.int 144 t0, Value.int 813 t1, Value.int 483 t2, Value.int 542 t3, Value.int 836 t4, Value.int 253 t5, Value.int 245 t6, Value.int 120 t7, Value.int 26 t8, Value.int 18144 t9][i]? = some (.int z t) := by
  intro i hi t0 t1 t2 t3 t4 t5 t6 t7 t8 t9
  match i, hi with
  | 0, _ => exact ⟨_, _, rfl⟩
  | 1, _ => exact ⟨_, _, rfl⟩
  | 2, _ => exact ⟨_, _, rfl⟩
  | 3, _ => exact ⟨_, _, rfl⟩
  | 4, _ => exact ⟨_, _, rfl⟩
  | 5, _ => exact ⟨_, _, rfl⟩
  | 6, _ => exact ⟨_, _, rfl⟩
  | 7, _ => exact ⟨_, _, rfl⟩
  | 8, _ => exact ⟨_, _, rfl⟩
  | 9, _ => exact ⟨_, _, rfl⟩
  | k + 10, h => exact absurd h (Nat.not_lt_of_le (Nat.le_add_left 10 k))
/-- the law's body run: sealed, as its first list is dear to unfold -/
structure Run (prog : Program) (w : World) (A : Around) (env : Env) (Q : Value → Shared → Prop) (s : Shared) : Prop where
  run : wpAny (model prog w) A (execs bd_146.1 env) (Pq Q) (fun _ _ => False) s
section
variable {prog : Program} {w : World} {A : Around} {E : Value → Shared → Prop} {s : Shared} {g : Heap} {L : Addr} {u : List (Str × Value)} {l : Led} {Q : Value → Shared → Prop}
theorem sliceK {env : Env} {own : List (Str × Addr)} {A : Around} {E : Value → Shared → Prop} {hp : Heap} {gs dr tk0 os} {value step : PySem.Expr} {lower upper : Option PySem.Expr} {p : Pos} {a : Addr} {xs : List Value} {vl vu vk : Value} {lo hi st : Option Int} (pl : IsPart vl lo) (pu : IsPart vu hi) (pk : IsPart vk st) (h0 : st ≠ some 0) (S : St g env own u l hp) (hm : g.IsList a xs.toArray) (hz : xs.length ≤ sizeLine)
    (h : ∀ b h', St g env own u ((b, ListO (slicePick xs.toArray lo hi st).toList) :: l) h' → Q (.ref b) ⟨h', gs, dr, tk0, os⟩) :
    wpAny (model prog w) A (subscriptTail value (.Slice lower upper (some step) p) (.ref a) (.ref hp.objs.size)) Q E ⟨hp.push { cls := .type "slice", data := .fields #[vl, vu, vk] }, gs, dr, tk0, os⟩ := by
  have S1 : St g env own u l (hp.push { cls := .type "slice", data := .fields #[vl, vu, vk] }) := S.keeps fun _ _ e => Heap.get?_push_of_some _ e
  have hL : (hp.push { cls := .type "slice", data := .fields #[vl, vu, vk] }).IsList a xs.toArray := let ⟨o, ho, q⟩ := hm; ⟨o, S1.hp.base _ _ ho, q⟩
  refine PyProof.Rows.tail_any (s := ⟨hp.push { cls := .type "slice", data := .fields #[vl, vu, vk] }, gs, dr, tk0, os⟩) hL.typeIs slot_list_getitem.lookup
    (wpAny_getItem_list_slice (lo := lo) (hi := hi) (st := st) hL (Heap.IsSliceOf.new _ _ _ _) pl pu pk h0 ?_ (by rw [List.size_toArray]; exact hz)) (ops := [.ref a, .ref hp.objs.size]) rfl
  exact h _ _ (S1.push (P := ListO (slicePick xs.toArray lo hi st).toList) _ ⟨0, rfl⟩)
theorem seg0 {n : Nat} (W : Wd w g) (T : Tb g) (R : Rm A (n + 24)) (S : St g (Le w L) (Lo w L) u (HR none ++ (HL none ++ l)) s.heap) {cA : Addr} {cv : List Value} {cn : List Int}
    (uc : (("script", .ref cA) : Str × Value) ∈ u) (hc : g.IsList cA cv.toArray) (hcv : IntsAre cv cn) (hcl : cn.length ≤ 100) (hM : PLaw)
    (h : ∀ h' tk l', Hp g l' h' → TabsIn l' → Q (.bool true) { s with heap := h', toks := tk }) : Run prog w A (Le w L) Q s := by
  have KD := kd_146 w L
  constructor
  dsimp only [bd_146]
  repeat walk_at "rp"
  refine newL S (Nat.le_of_ble_eq_true rfl) fun oA h' S => ?_
  refine wpAny_with_toks (n := 1) (by dsimp only; omega) ?_
  refine sta S (by walk_at "sto") fun h' tk S htk => ?_
  try dsimp only at htk ⊢
  walk_at "rp"
  refine wpAny_with_toks htk ?_
  refine wpAny_Assign_Name ?_ (by kernel_rfl)
  refine comp_eval (by kernel_rfl) ?_ (fun _ => rfl)
  repeat walk_at "rp"
  rename_i rr _ _ S
  refine iterR (n := 10) S (by walk_at "mem") (by omega) (by decide) fun I h' S => ?_
  refine compAt1 KD (by kernel_rfl) (Itr.upto R.hh 10) S (fun p hp => by cases hp) (by decide) [("own", .ref oA), ("script", .ref cA)] ?_ (by kernel_rfl)
    (fun i ys ex => ∃ ns : List Int, IntsAre ys ns ∧ ns.length = i) ⟨[], .nil, rfl⟩ ?_ ?_
  · intro p hp
    rcases List.mem_cons.mp hp with rfl | hp
    · walk_at "mem"
    · rcases List.mem_singleton.mp hp with rfl; walk_at "mem"
  · rintro cl C D i v ys ex h' tk KD1 hi ⟨tv, rfl⟩ ⟨ns, hns, hnl⟩ hys S
    refine wpAny_tests_nil ?_
    refine iteT rfl ?_
    repeat walk_at "rp"
    obtain ⟨z, tz, eo⟩ := own_at i hi _ _ _ _ _ _ _ _ _ _
    refine itemL S.led (by walk_at "mem") (by omega) (by omega) (by rw [Int.toNat_natCast]; exact eo) ?_ rfl
    repeat walk_at "rp"
    refine sliceK (.int _ _) .none (.int _ _) (by simp) S hc (by rw [hcv.length, sizeLine_eq]; omega) fun B h' S => ?_
    repeat walk_at "rp"
    refine sumL R.hh S (.head _) (hcv.pick _ _ _) fun h' t tk S => ?_
    repeat walk_at "rp"
    exact ⟨[_], _, _, rfl, S, _, hns.append (.cons _ _ .nil), by rw [List.length_append, hnl]; rfl⟩
  · intro C D ys ex h' tk ⟨ns, hns, hnl⟩ H'
    refine comp_fin_none (l₀ := []) S (RIterO.nc _ _ _ _) H' fun h' S => ?_
    refine sta S (by walk_at "sto") fun h' tk S htk => ?_
    try dsimp only at htk ⊢
    have S := S.re (l' := HR none ++ (HL none ++ ((D, ListO ys) :: (ex ++ ((rr, RangeO 0 10 1) :: (oA, _) :: l))))) fun a => by
      simp only [cnt_cons, cnt_append]
      have key : ∀ (a b c d e f g : Nat), e + (f + (a + (b + (c + (d + g))))) = a + (b + (c + (d + (e + (f + g))))) := by intros; omega
      exact key _ _ _ _ _ _ _
    have e9 : 0 ≤ ns.getD 9 0 % 4 ∧ ns.getD 9 0 % 4 < 4 := ⟨by omega, by omega⟩
    have hce : ns.getD 9 0 % 4 = ((ns.getD 9 0 % 4).toNat : Int) := by omega
    have hc4 : (ns.getD 9 0 % 4).toNat < 4 := by omega
    have hM1 := hM ns _ hnl hce hc4
    show wpAny (model prog w) A (execs (bd_146.1.drop 2) (Le w L)) (Pq Q) (fun _ _ => False) _
    with_reducible refine' seg2 (s := { s with heap := h', toks := tk }) (n := n) (c := (ns.getD 9 0 % 4).toNat) W T R S htk List.mem_cons_self List.mem_cons_self hns hnl hce hc4 hM1 ?_
    exact fun h'' tk'' l' H' T' => h h'' tk'' l' H' T'
end
theorem agB_ok : ∀ (b0 b1 b2 b3 : Bool) (c : Fin 4), applN (((([] ++ if b0 = true then [agN.getD 0 []] else []) ++ if b1 = true then [agN.getD 1 []] else []) ++ if b2 = true then [agN.getD 2 []] else []) ++ if b3 = true then [agN.getD 3 []] else []) (crawl c.val) =
    !((((([] ++ if b0 = true then [agN.getD 0 []] else []) ++ if b1 = true then [agN.getD 1 []] else []) ++ if b2 = true then [agN.getD 2 []] else []) ++ if b3 = true then [agN.getD 3 []] else []).filter fun a => (heardN c.val).any (· == a)).isEmpty := by decide +kernel
theorem agOf_ok (z : Int) (c : Nat) (hc : c < 4) : applN (agOf z 4) (crawl c) = !((agOf z 4).filter fun a => (heardN c).any (· == a)).isEmpty := by
  rw [agOf_succ, agOf_succ, agOf_succ, agOf_succ]
  exact agB_ok _ _ _ _ ⟨c, hc⟩
theorem rc_get (ag : List (List (List Nat))) (rs : List (List Nat × Bool)) (ss : List Int) (r : Nat) (hr : r < 3) : ((List.range 3).map (recOf ag rs ss)).getD r ([], [], none) = recOf ag rs ss r := by
  rw [List.getD_eq_getElem?_getD, List.getElem?_map, List.getElem?_range hr]; rfl
theorem mine_has (rc : List Rc) (c r : Nat) (hr : r < 3) : (mineOf rc c).contains r = !((rc.getD r ([], [], none)).1.filter fun a => (heardN c).any (· == a)).isEmpty := by
  rw [Bool.eq_iff_iff, List.contains_iff_mem]
  unfold mineOf
  rw [List.mem_filter, List.mem_range]
  exact ⟨fun h => h.2, fun h => ⟨hr, h⟩⟩
theorem last_fold {p : Nat → Bool} {f : Nat → Int} : ∀ (l : List Nat) (o : Option Int), l.foldl (fun o r => (if p r = true then some (f r) else none).orElse fun _ => o) o = (((l.filter p).map f).getLast?).orElse fun _ => o
  | [], o => rfl
  | a :: l, o => by
    rw [List.foldl_cons, last_fold l]
    cases q : p a with
    | false => rw [List.filter_cons_of_neg (by rw [q]; exact Bool.false_ne_true)]; simp
    | true =>
      rw [List.filter_cons_of_pos q, List.map_cons, if_pos rfl]
      cases e : ((l.filter p).map f).getLast? with
      | none =>
        rw [List.getLast?_eq_none_iff] at e
        rw [e]; rfl
      | some x =>
        rw [List.getLast?_cons, e]; rfl
theorem jd_ok (ag : List (List (List Nat))) (rs : List (List Nat × Bool)) (ss : List Int) : ∀ mine : List Nat, (∀ r ∈ mine, r < 3) → joinD ((List.range 3).map (recOf ag rs ss)) mine = (waitsOf ss mine).getLast? := by
  intro mine hm
  have h := last_fold (p := fun r => decide (ss.getD (6 + r) 0 / 16 % 2 = 1)) (f := fun r => ss.getD (6 + r) 0 / 32) mine none
  unfold waitsOf joinD
  refine Eq.trans ?_ (h.trans (by cases ((mine.filter _).map _).getLast? <;> rfl))
  have key : ∀ (l : List Nat), (∀ r ∈ l, r < 3) → ∀ o : Option Int, l.foldl (fun o r => (((List.range 3).map (recOf ag rs ss)).getD r ([], [], none)).2.2.orElse fun _ => o) o = l.foldl (fun o r => (if decide (ss.getD (6 + r) 0 / 16 % 2 = 1) = true then some (ss.getD (6 + r) 0 / 32) else none).orElse fun _ => o) o := by
    intro l
    induction l with
    | nil => intro _ o; rfl
    | cons a l ih =>
      intro hl o
      rw [List.foldl_cons, List.foldl_cons, ih fun r hr => hl r (.tail _ hr), rc_get ag rs ss a (hl a (.head _))]
      congr 1
      have e : ss.getD (6 + a) 0 / 16 / 2 = ss.getD (6 + a) 0 / 32 := by omega
      show (if ss.getD (6 + a) 0 / 16 % 2 = 1 then some (ss.getD (6 + a) 0 / 16 / 2) else none).orElse _ = _
      rw [e]
      by_cases q : ss.getD (6 + a) 0 / 16 % 2 = 1 <;> simp [q]
  exact key mine hm none
/-- what allowance's fold has seen -/
noncomputable def Seen (j : Nat) (l : List (List Nat × Bool)) (st : Int × Bool) : Prop := ((∀ r ∈ l, r.1.getD j 0 = 0) ∧ st = (-1, true)) ∨
  ∃ m : Nat, 0 < m ∧ st.1 = (m : Int) ∧ (∃ r ∈ l, r.1.getD j 0 = m) ∧ (∀ r ∈ l, r.1.getD j 0 ≤ m) ∧ st.2 = l.any fun r => r.1.getD j 0 == m && r.2
theorem anySnoc (j m : Nat) (l : List (List Nat × Bool)) (r : List Nat × Bool) : ((l ++ [r]).any fun x => x.1.getD j 0 == m && x.2) = ((l.any fun x => x.1.getD j 0 == m && x.2) || (r.1.getD j 0 == m && r.2)) := by
  simp only [List.any_append, List.any_cons, List.any_nil, Bool.or_false]
theorem Seen.step {j : Nat} {l : List (List Nat × Bool)} {st : Int × Bool} (h : Seen j l st) (r : List Nat × Bool) : Seen j (l ++ [r]) (stepA j st r) := by
  have mem : ∀ x, x ∈ l ++ [r] ↔ x ∈ l ∨ x = r := fun x => by rw [List.mem_append, List.mem_singleton]
  unfold stepA
  by_cases h0 : r.1.getD j 0 = 0
  · rw [if_pos h0]
    rcases h with ⟨h1, h2⟩ | ⟨m, h1, h2, ⟨x, h3, h4⟩, h5, h6⟩
    · exact .inl ⟨fun x hx => ((mem x).mp hx).elim (h1 x) fun e => e ▸ h0, h2⟩
    · refine .inr ⟨m, h1, h2, ⟨x, (mem x).mpr (.inl h3), h4⟩, fun x hx => ((mem x).mp hx).elim (h5 x) fun e => by rw [e, h0]; exact Nat.zero_le _, ?_⟩
      have : (r.1.getD j 0 == m) = false := by rw [h0, beq_eq_false_iff_ne]; omega
      rw [anySnoc, this, Bool.false_and, Bool.or_false]; exact h6
  · rw [if_neg h0]
    rcases h with ⟨h1, h2⟩ | ⟨m, h1, h2, ⟨x, h3, h4⟩, h5, h6⟩
    · subst h2
      rw [if_pos (by show (-1 : Int) < _; omega)]
      refine .inr ⟨r.1.getD j 0, by omega, rfl, ⟨r, (mem r).mpr (.inr rfl), rfl⟩, fun x hx => ((mem x).mp hx).elim (fun e => by rw [h1 x e]; exact Nat.zero_le _) fun e => e ▸ Nat.le_refl _, ?_⟩
      have e : (l.any fun x => x.1.getD j 0 == r.1.getD j 0 && x.2) = false := by
        rw [List.any_eq_false]
        intro x hx
        have : (x.1.getD j 0 == r.1.getD j 0) = false := by rw [h1 x hx, beq_eq_false_iff_ne]; omega
        rw [this, Bool.false_and]; exact Bool.false_ne_true
      rw [anySnoc, e, Bool.false_or, beq_self_eq_true, Bool.true_and]
    · by_cases hlt : st.1 < (r.1.getD j 0 : Nat)
      · rw [if_pos hlt]
        refine .inr ⟨r.1.getD j 0, by omega, rfl, ⟨r, (mem r).mpr (.inr rfl), rfl⟩, fun x hx => ((mem x).mp hx).elim (fun e => by have := h5 x e; omega) fun e => e ▸ Nat.le_refl _, ?_⟩
        have e : (l.any fun x => x.1.getD j 0 == r.1.getD j 0 && x.2) = false := by
          rw [List.any_eq_false]
          intro x hx
          have : (x.1.getD j 0 == r.1.getD j 0) = false := by rw [beq_eq_false_iff_ne]; have := h5 x hx; omega
          rw [this, Bool.false_and]; exact Bool.false_ne_true
        rw [anySnoc, e, Bool.false_or, beq_self_eq_true, Bool.true_and]
      · rw [if_neg hlt]
        by_cases hq : ((r.1.getD j 0 : Nat) : Int) = st.1 ∧ st.2 = false
        · rw [if_pos hq]
          have hm : r.1.getD j 0 = m := by omega
          refine .inr ⟨m, h1, h2, ⟨r, (mem r).mpr (.inr rfl), hm⟩, fun x hx => ((mem x).mp hx).elim (h5 x) fun e => by rw [e]; omega, ?_⟩
          rw [anySnoc, ← h6, hq.2, Bool.false_or, hm, beq_self_eq_true, Bool.true_and]
        · rw [if_neg hq]
          refine .inr ⟨m, h1, h2, ⟨x, (mem x).mpr (.inl h3), h4⟩, fun x hx => ((mem x).mp hx).elim (h5 x) fun e => by rw [e]; omega, ?_⟩
          rw [anySnoc, ← h6]
          cases qs : st.2 with
          | true => rw [Bool.true_or]
          | false =>
            have : (r.1.getD j 0 == m) = false := by
              rw [beq_eq_false_iff_ne]; intro e; exact hq ⟨by rw [h2, e], qs⟩
            rw [this]; rfl
theorem Seen.fold {j : Nat} : ∀ (l pre : List (List Nat × Bool)) {st : Int × Bool}, Seen j pre st → Seen j (pre ++ l) (l.foldl (stepA j) st)
  | [], pre, st, h => by rw [List.append_nil]; exact h
  | r :: l, pre, st, h => by
    rw [List.foldl_cons, show pre ++ r :: l = (pre ++ [r]) ++ l by simp]
    exact Seen.fold l _ (h.step r)
theorem dueK_len (pas nms : List (List Nat)) (ss : List Int) (k : Nat) : (dueK pas nms ss k).length = nms.length := by unfold dueK; rw [List.length_map]
theorem dueK_at (pas nms : List (List Nat)) (ss : List Int) (k t : Nat) (nm : List Nat) (h : nms[t]? = some nm) : (dueK pas nms ss k).getD t 0 = dueOf (pas.getD k []) (ss.getD k 0 / 2 % 2 == 1) nm := by
  unfold dueK
  rw [List.getD_eq_getElem?_getD, List.getElem?_map, h]; rfl
theorem idx_at {nms : List (List Nat)} {nm : List Nat} (h : nm ∈ nms) : nms[nms.idxOf nm]? = some nm := by
  have hl := List.idxOf_lt_length_iff.mpr h
  rw [List.getElem?_eq_getElem hl, List.getElem_idxOf hl]
theorem ds_get {α : Type} (f : Nat → α) (d : α) (k : Nat) (hk : k < 6) : ((List.range 6).map f).getD k d = f k := by
  rw [List.getD_eq_getElem?_getD, List.getElem?_map, List.getElem?_range hk]; rfl
theorem joinR_mem {ag : List (List (List Nat))} {rs : List (List Nat × Bool)} {ss : List Int} {mine : List Nat} (hm : ∀ r ∈ mine, r < 3) (x : List Nat × Bool) : x ∈ joinR ((List.range 3).map (recOf ag rs ss)) mine ↔ ∃ k, k < 6 ∧ k % 3 ∈ mine ∧ x = rs.getD k ([], false) := by
  unfold joinR
  rw [List.mem_flatMap]
  constructor
  · rintro ⟨r, hr, hx⟩
    have h3 := hm r hr
    rw [rc_get ag rs ss r h3] at hx
    have hx : x ∈ [rs.getD r ([], false), rs.getD (r + 3) ([], false)] := hx
    rcases List.mem_cons.mp hx with rfl | hx
    · exact ⟨r, by omega, by rw [Nat.mod_eq_of_lt h3]; exact hr, rfl⟩
    · rcases List.mem_singleton.mp hx with rfl
      exact ⟨r + 3, by omega, by rw [Nat.add_mod_right, Nat.mod_eq_of_lt h3]; exact hr, rfl⟩
  · rintro ⟨k, hk, hr, rfl⟩
    refine ⟨k % 3, hr, ?_⟩
    rw [rc_get ag rs ss _ (hm _ hr)]
    show _ ∈ [rs.getD (k % 3) ([], false), rs.getD (k % 3 + 3) ([], false)]
    have : k = k % 3 ∨ k = k % 3 + 3 := by omega
    rcases this with e | e
    · rw [← e]; exact .head _
    · rw [← e]; exact .tail _ (.head _)
theorem allow_seen (l : List (List Nat × Bool)) (j : Nat) : Seen j l (l.foldl (stepA j) (-1, true)) := Seen.fold l [] (.inl ⟨fun r h => (by cases h), rfl⟩)
theorem free_ok {pas nms : List (List Nat)} {ss : List Int} {ag : List (List (List Nat))} {mine : List Nat} (hm : ∀ r ∈ mine, r < 3) (t : Nat) (nm : List Nat) (M : Int) (ht : nms[t]? = some nm)
    (hM : M ∈ (0 : Int) :: (farL ((List.range 6).map (dueK pas nms ss)) mine 6 t).map Int.ofNat) (hMx : ∀ y ∈ (0 : Int) :: (farL ((List.range 6).map (dueK pas nms ss)) mine 6 t).map Int.ofNat, y ≤ M) :
    allowN (joinR ((List.range 3).map (recOf ag ((List.range 6).map (rulK pas nms ss)) ss)) mine) (nms.idxOf nm) = (M == 0 || (freeL ss ((List.range 6).map (dueK pas nms ss)) mine M 6 t).any (· == 1)) := by
  have hi := idx_at (List.mem_of_getElem? ht)
  have hv : ∀ k, (dueK pas nms ss k).getD (nms.idxOf nm) 0 = (dueK pas nms ss k).getD t 0 := fun k => by rw [dueK_at _ _ _ _ _ _ hi, dueK_at _ _ _ _ _ _ ht]
  have hr : ∀ k, k < 6 → ((List.range 6).map (rulK pas nms ss)).getD k ([], false) = (dueK pas nms ss k, ss.getD k 0 % 2 == 1) := fun k hk => ds_get _ _ k hk
  have hf : ∀ x : Nat, x ∈ farL ((List.range 6).map (dueK pas nms ss)) mine 6 t ↔ ∃ k, k < 6 ∧ k % 3 ∈ mine ∧ x = (dueK pas nms ss k).getD t 0 := by
    intro x
    unfold farL
    rw [List.mem_map]
    constructor
    · rintro ⟨k, hk, rfl⟩
      obtain ⟨h1, h2⟩ := List.mem_filter.mp hk
      have h1 := List.mem_range.mp h1
      exact ⟨k, h1, List.contains_iff_mem.mp h2, by rw [ds_get _ _ k h1]⟩
    · rintro ⟨k, h1, h2, rfl⟩
      exact ⟨k, List.mem_filter.mpr ⟨List.mem_range.mpr h1, List.contains_iff_mem.mpr h2⟩, by rw [ds_get _ _ k h1]⟩
  have hj := joinR_mem (ag := ag) (rs := (List.range 6).map (rulK pas nms ss)) (ss := ss) hm
  generalize hJ : joinR ((List.range 3).map (recOf ag ((List.range 6).map (rulK pas nms ss)) ss)) mine = J at *
  have hle : ∀ k, k < 6 → k % 3 ∈ mine → (((dueK pas nms ss k).getD t 0 : Nat) : Int) ≤ M := fun k h1 h2 => hMx _ (.tail _ (List.mem_map.mpr ⟨_, (hf _).mpr ⟨k, h1, h2, rfl⟩, rfl⟩))
  unfold allowN
  rcases allow_seen J (nms.idxOf nm) with ⟨h1, h2⟩ | ⟨m, h1, h2, ⟨x, h3, h4⟩, h5, h6⟩
  · rw [h2]
    have : M = 0 := by
      rcases List.mem_cons.mp hM with e | e
      · exact e
      · obtain ⟨y, hy, rfl⟩ := List.mem_map.mp e
        obtain ⟨k, k1, k2, rfl⟩ := (hf y).mp hy
        have := h1 _ ((hj _).mpr ⟨k, k1, k2, (hr k k1).symm⟩)
        rw [hv] at this
        rw [this]; rfl
    rw [this]; rfl
  · rw [h6]
    obtain ⟨k0, a1, a2, rfl⟩ := (hj x).mp h3
    rw [hr k0 a1, hv] at h4
    have hMm : M = (m : Int) := by
      have l1 := hle k0 a1 a2
      rw [h4] at l1
      rcases List.mem_cons.mp hM with e | e
      · omega
      · obtain ⟨y, hy, rfl⟩ := List.mem_map.mp e
        obtain ⟨k, k1, k2, rfl⟩ := (hf y).mp hy
        have := h5 _ ((hj _).mpr ⟨k, k1, k2, (hr k k1).symm⟩)
        rw [hv] at this
        exact Int.le_antisymm (Int.ofNat_le.mpr this) l1
    have h0 : (M == 0) = false := by rw [beq_eq_false_iff_ne]; omega
    rw [h0, Bool.false_or, Bool.eq_iff_iff, List.any_eq_true, List.any_eq_true]
    constructor
    · rintro ⟨y, hy, hq⟩
      obtain ⟨k, k1, k2, rfl⟩ := (hj y).mp hy
      rw [hr k k1, hv, Bool.and_eq_true] at hq
      refine ⟨ss.getD k 0 % 2, List.mem_map.mpr ⟨k, List.mem_filter.mpr ⟨List.mem_range.mpr k1, ?_⟩, rfl⟩, hq.2⟩
      rw [Bool.and_eq_true, ds_get _ _ k k1]
      exact ⟨List.contains_iff_mem.mpr k2, decide_eq_true (by rw [hMm, eq_of_beq hq.1])⟩
    · rintro ⟨y, hy, hq⟩
      obtain ⟨k, hk, rfl⟩ := List.mem_map.mp hy
      obtain ⟨k1, k2⟩ := List.mem_filter.mp hk
      have k1 := List.mem_range.mp k1
      rw [Bool.and_eq_true, ds_get _ _ k k1] at k2
      refine ⟨_, (hj _).mpr ⟨k, k1, List.contains_iff_mem.mp k2.1, rfl⟩, ?_⟩
      rw [hr k k1, hv, Bool.and_eq_true]
      refine ⟨?_, hq⟩
      have := of_decide_eq_true k2.2
      rw [hMm] at this
      rw [beq_iff_eq]; exact Int.ofNat.inj this
theorem agR (f : Nat → List (List Nat)) (r : Nat) (hr : r < 3) : ((List.range 3).map f).getD r [] = f r := by
  rw [List.getD_eq_getElem?_getD, List.getElem?_map, List.getElem?_range hr]; rfl
theorem recOf_1 (ag : List (List (List Nat))) (rs : List (List Nat × Bool)) (ss : List Int) (r : Nat) : (recOf ag rs ss r).1 = ag.getD r [] := rfl
theorem plaw : PLaw := by
  rintro ss c hl hc9 hc4 ag ds rs pas nms h1 h2 rfl rfl rfl
  have hm := (mineOf_ok ((List.range 3).map (recOf ((List.range 3).map fun r => agOf (ss.getD (6 + r) 0) 4) ((List.range 6).map (rulK pas nms ss)) ss)) c).2
  refine ⟨fun r hr => ?_, jd_ok _ _ _ _ hm, fun t nm M ht hM hMx => free_ok hm t nm M ht hM hMx⟩
  rw [mine_has _ c r hr, rc_get _ _ _ r hr]
  rw [recOf_1, agR _ r hr]
  exact agOf_ok _ c hc4
section
variable {prog : Program} {w : World} {A : Around} {s : Shared} {g : Heap} {l F : Led}
theorem code_146 {n : Nat} {Rr : Result → Shared → Prop} {cA : Addr} (W : Wd w g) (R : Rm A (n + 1)) (H : Hp g F s.heap)
    (h : ∀ L h₁ tk, St g (Le w L) (Lo w L) [("script", .ref cA)] F h₁ → Rm (A.deeper (Le w L)) n →
      Run prog w (A.deeper (Le w L)) (Le w L) (fun v s' => Rr (.ok (.ret v)) s') { s with heap := h₁, toks := tk }) :
    codeAny (model prog w) A (.call (.ref 146) ⟨[.ref cA], []⟩) Rr s := by
  refine code_top (args := ⟨[.ref cA], []⟩) (binds := [("script", .ref cA)]) (n := n) W R H (lk_146 w) (cd_146 w) (bh_146 w) (by kernel_rfl) (by kernel_rfl) (by kernel_rfl) fun L h₁ tk S R1 => ?_
  have h3 := h L h₁ tk S R1
  cases h3 with
  | mk r => assumption
theorem law_code {n : Nat} {Rr : Result → Shared → Prop} (W : Wd w g) (T : Tb g) (R : Rm A (n + 25)) (H : Hp g (HR none ++ (HL none ++ l)) s.heap) {cA : Addr} {cv : List Value} {cn : List Int} (hc : g.IsList cA cv.toArray) (hcv : IntsAre cv cn) (hcl : cn.length ≤ 100)
    (h : ∀ h' tk l', Hp g l' h' → TabsIn l' → Rr (.ok (.ret (.bool true))) { s with heap := h', toks := tk }) : codeAny (model prog w) A (.call (.ref 146) ⟨[.ref cA], []⟩) Rr s :=
  code_146 (n := n + 24) W R H fun _ h₁ tk S R1 => seg0 (s := { s with heap := h₁, toks := tk }) (n := n) W T R1 S (.head _) hc hcv hcl plaw fun h' tk' l' H' T' => h h' tk' l' H' T'
end
end RP
namespace RP
theorem wd_of {w : World} {h : Heap} {mean : ExcName → Option Value} {mg mb : Str → Option Value} {p : Program} {loose : List Str} (hT : TabsAt [(133, 129), (116, 112)] h) (X : (KK w).In h) (T : Top p loose mean mg mb h) : Wd w (ghostOf h [(133, 129), (116, 112)]) :=
  ⟨ghost_K hT X (by kernel_rfl), ⟨mg, ghost_ns hT T.g⟩, ⟨mb, ghost_ns hT T.b, T.builtins⟩, let ⟨mc, a, r⟩ := T.nolimit; ⟨mc, ghost_ns hT a, r⟩⟩
theorem tb_of {h : Heap} {mean : ExcName → Option Value} {mg mb : Str → Option Value} {p : Program} {loose : List Str} (hT : TabsAt [(133, 129), (116, 112)] h) (T : Top p loose mean mg mb h) : Tb (ghostOf h [(133, 129), (116, 112)]) := by
  have C := ghost_code hT
  obtain ⟨bm, ob, a1, a2, a3, a4, a5, a6⟩ := T.bmain
  have hg := ghost_get hT a3 (fun q => by rw [q] at a4; cases a4)
  have hm : bm ≠ mainGlobals := fun e => by
    obtain ⟨o, es, ep, b1, b2, -⟩ := T.g
    rw [e] at a3; rw [a3] at b1; cases b1; rw [a6] at b2; cases b2
  have hn : ∀ P, h.get? P = some (tabObj #[]) → bm ≠ P := fun P hP e => by
    rw [e] at a3; rw [a3] at hP; cases hP; cases a4
  have t1 := (hT (133, 129) (.head _)).2
  have t2 := (hT (116, 112) (.tail _ (.head _))).2
  exact ⟨⟨mg, ghost_ns hT T.g, ⟨bm, ob, a1, a2, hm, hn _ t2, hg, a4, a5, a6⟩, ⟨bm, ob, a1, a2, hm, hn _ t1, hg, a4, a5, a6⟩⟩, C.2.1, C.1⟩
theorem hp_of {h : Heap} (hT : TabsAt [(133, 129), (116, 112)] h) : Hp (ghostOf h [(133, 129), (116, 112)]) (HR none ++ (HL none ++ [])) h where
  base := fun b o e => of_hideAll _ e
  has := fun p hp => by
    rcases List.mem_cons.mp hp with rfl | hp
    · exact ⟨_, (hT (116, 112) (.tail _ (.head _))).2, rfl⟩
    · rcases List.mem_singleton.mp hp with rfl
      exact ⟨_, (hT (133, 129) (.head _)).2, rfl⟩
  nd := by decide
  off := fun p hp => by
    rcases List.mem_cons.mp hp with rfl | hp
    · exact hideAll_none _ (.tail _ (.head _))
    · rcases List.mem_singleton.mp hp with rfl
      exact hideAll_none _ (.head _)
theorem caller_rm : Rm callerA (0 + 25) := ⟨rfl, by decide, by decide⟩
theorem grown_of {g h : Heap} {l : Led} (H : Hp g l h) (T : TabsIn l) : GrownAll [(133, 129), (116, 112)] h := by
  obtain ⟨⟨p1, m1⟩, p2, m2⟩ := T
  obtain ⟨o1, e1, q1⟩ := H.has _ m1
  obtain ⟨o2, e2, q2⟩ := H.has _ m2
  exact ⟨⟨p2, by rw [e2]; exact congrArg some q2⟩, ⟨p1, by rw [e1]; exact congrArg some q1⟩, trivial⟩
theorem len_of {n : Nat} (h : ¬ ((63 : Int) < (n : Int))) : n ≤ 100 := by omega
theorem ref_eq {a b : Addr} (h : some (Value.ref a) = some (Value.ref b)) : a = b := by cases h; rfl
theorem call_as {M : Model} {A : Around} {a b : Addr} {as : Args} {R : Result → Shared → Prop} {s : Shared} (h : a = b) (k : codeAny M A (.call (.ref b) as) R s) : codeAny M A (.call (.ref a) as) R s := h ▸ k
theorem gl_146 (w : World) : nsIn (KK w) mainGlobals "law" = some (some (.ref 146)) := by kernel_rfl
end RP
set_option maxRecDepth 100000 in
set_option maxHeartbeats 8000000 in
theorem PySem.Challenge.cw_ij0197_01_holds : PySem.Challenge.rw_ij0197_01.Holds := by
  w_on
  refine holds_law RP.law_said fun said => ?_
  refine holds_open (q := RP.vwK) (loose := RP.lsK) (Xt := RP.xtK) (XP := XL RP.vwK []) (Yf := Hook.obs RP.hkK) (Ya := Hook.val RP.hkK) (YP := Hook.says RP.hkK) (N := 4214) RP.left (Hook.of RP.hkK) (Hook.keeps RP.hkK) (fun s e => xl_of s (Bool.and_eq_true_iff.mp e).1) XL.keeps (by rfl) (by rfl) (by rfl) (fun s e => recFacts_of (Bool.and_eq_true_iff.mp e).2) (by rfl) (by first | assumption | decide +kernel) (by decide +kernel) ⟨rfl, rfl, rfl, rfl, rfl, by decide +kernel⟩ ?hw ?hc
  case hw => w_witness2
  intro w s₀ s₁ mg mb G Y fa o pm cd doc dV kV ho hd hcd hD hmg hg args vals as hpre hlay hrd hwl hlo
  have KX : (RP.heapK w.params).In s₁.heap := Y.1
  have hT8 : ∀ P ∈ ([129, 112] : List Addr), s₁.heap.get? P = some (tabObj #[]) := Y.2
  have X := (Ground.X G).1
  have V := (Ground.X G).2
  refine Ground.open G ?_
  intro T B D TE TW
  try (refine guard_noD D (by decide +kernel) ?_; clear D)
  have hmg' := hmg
  have hT9 : TabsAt [(133, 129), (116, 112)] s₁.heap := List.forall_mem_cons.mpr ⟨⟨codeHd_of_K (c := 133) (P := 129) KX (by kernel_rfl), hT8 129 (.head _)⟩, List.forall_mem_cons.mpr ⟨⟨codeHd_of_K (c := 116) (P := 112) KX (by kernel_rfl), hT8 112 (.tail _ (.head _))⟩, fun _ h => nomatch h⟩⟩
  clear hmg
  wrow_args hpre hlay hrd hwl hlo
  all_goals (
    first | refine callC_kw (enter_call ?_) | refine enter_call ?_
    w_top on
    kn_posts
    rename_i ws hs1 hl0 hLay hr1 hl2 a4 a3 lA lv a0 hL ra w1 r0 hI hrA hc1 hc0
    have e := mg_of KX T.g (RP.gl_146 w)
    refine RP.call_as (RP.ref_eq (hmg'.symm.trans e)) ?_
    have hlen : ws.length ≤ 100 := RP.len_of hc1
    refine RP.law_code (n := 0) (RP.wd_of hT9 KX T) (RP.tb_of hT9 T) RP.caller_rm (RP.hp_of hT9) (ghost_list hT9 hL) hI hlen fun h' tk l' H' T' => ⟨⟨.inl ⟨.bool true, .bool true, [], rfl, fun _ => ?_, .bool _, ?_, fun _ => ⟨List.nodup_nil, fun a h => (by cases h)⟩⟩, H'.base, rfl, hg⟩, RP.grown_of H' T'⟩
    · rfl
    · wrow_post)
