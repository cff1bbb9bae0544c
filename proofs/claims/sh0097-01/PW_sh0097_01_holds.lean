import PyProof.Rows.All
import Wide.All
import OpenK.AllK
import Wide.FinOn
import PySem.Challenge.RW_sh0097_01
section
open PySem PySem.W PyProof.Rows
set_option Elab.async false
set_option maxRecDepth 100000
set_option maxHeartbeats 8000000
namespace Mine
namespace hd
noncomputable abbrev pw : Program := PySem.Challenge.pw_sh0097_01
noncomputable def stC (i : Nat) : Stmt := (pw.main.body.drop i).headD (Stmt.Pass (Pos.mk 0 0 0 0))
noncomputable def paS (i : Nat) : Arguments := match stC i with | .FunctionDef _ a _ _ _ _ _ _ _ _ => a | _ => Arguments.mk [] [] none [] [] none []
noncomputable def bdS (i : Nat) : List Stmt := match stC i with | .FunctionDef _ _ b _ _ _ _ _ _ _ => b | _ => []
noncomputable def scS (i : Nat) : Scope := match stC i with | .FunctionDef _ _ _ _ _ _ s _ _ _ => s | _ => pw.main.scope
noncomputable def view_39 : Program := { pw with main := { pw.main with body := [stC 0, stC 1, stC 3, stC 4, stC 5, stC 6, stC 7, stC 8, stC 9, stC 10, stC 11, stC 13, stC 15, stC 16, stC 17, stC 20, stC 22, stC 23, stC 24, stC 25, stC 26] } }
noncomputable def env_41 : Env := { scope := pw.main.scope, locals := mainNs, globals := mainNs, cells := [], code := Value.ref 13, frame := some 14 }
noncomputable def heap_39 : Params → Frag := fun P => (((nat_lit 2), Obj.mk Value.none none (Data.dict (@List.toArray DictEntry [DictEntry.mk (PyData.keyHash P (Str.ofString "type.__subclasses__.RuntimeWarning.0")) (Value.str (Str.ofString "type.__subclasses__.RuntimeWarning.0") 456) (Value.int (@OfNat.ofNat Int (nat_lit 155) (@instOfNat (nat_lit 155))) 0), DictEntry.mk (PyData.keyHash P (Str.ofString "type.__subclasses__.RuntimeWarning.n")) (Value.str (Str.ofString "type.__subclasses__.RuntimeWarning.n") 457) (Value.int (@OfNat.ofNat Int (nat_lit 1) (@instOfNat (nat_lit 1))) 0)]) 2) (@List.toArray (Option Value) [])) :: ((nat_lit 3), Obj.mk (Value.type "dict") none (Data.dict (@List.toArray DictEntry [DictEntry.mk (PyData.keyHash P (Str.ofString "__name__")) (Value.str (Str.ofString "__name__") 165) (Value.str (Str.ofString "law_sh0097_01") 460), DictEntry.mk (PyData.keyHash P (Str.ofString "__doc__")) (Value.str (Str.ofString "__doc__") 166) Value.none, DictEntry.mk (PyData.keyHash P (Str.ofString "__package__")) (Value.str (Str.ofString "__package__") 167) Value.none, DictEntry.mk (PyData.keyHash P (Str.ofString "__loader__")) (Value.str (Str.ofString "__loader__") 168) (Value.builtin "__main__.__loader__#opaque"), DictEntry.mk (PyData.keyHash P (Str.ofString "__spec__")) (Value.str (Str.ofString "__spec__") 169) Value.none, DictEntry.mk (PyData.keyHash P (Str.ofString "__annotations__")) (Value.str (Str.ofString "__annotations__") 170) (Value.ref 6), DictEntry.mk (PyData.keyHash P (Str.ofString "__builtins__")) (Value.str (Str.ofString "__builtins__") 171) (Value.ref 4), DictEntry.mk (PyData.keyHash P (Str.ofString "__file__")) (Value.str (Str.ofString "__file__") 173) (Value.str (Str.ofString "/claim/cut.py") 172), DictEntry.mk (PyData.keyHash P (Str.ofString "__cached__")) (Value.str (Str.ofString "__cached__") 174) Value.none, DictEntry.mk (PyData.keyHash P (Str.ofString "_wall")) (Value.str (Str.ofString "_wall") 193) (Value.ref 21), DictEntry.mk (PyData.keyHash P (Str.ofString "pathsep")) (Value.str (Str.ofString "pathsep") 195) (Value.str (Str.ofString ":") 194), DictEntry.mk (PyData.keyHash P (Str.ofString "_kind")) (Value.str (Str.ofString "_kind") 206) (Value.ref 28), DictEntry.mk (PyData.keyHash P (Str.ofString "_fspath")) (Value.str (Str.ofString "_fspath") 215) (Value.ref 35), DictEntry.mk (PyData.keyHash P (Str.ofString "_check_arg_types")) (Value.str (Str.ofString "_check_arg_types") 225) (Value.ref 42), DictEntry.mk (PyData.keyHash P (Str.ofString "isabs")) (Value.str (Str.ofString "isabs") 232) (Value.ref 49), DictEntry.mk (PyData.keyHash P (Str.ofString "join")) (Value.str (Str.ofString "join") 243) (Value.ref 56), DictEntry.mk (PyData.keyHash P (Str.ofString "_c_path")) (Value.str (Str.ofString "_c_path") 256) (Value.ref 63), DictEntry.mk (PyData.keyHash P (Str.ofString "_splitroot")) (Value.str (Str.ofString "_splitroot") 265) (Value.ref 70), DictEntry.mk (PyData.keyHash P (Str.ofString "_normpath")) (Value.str (Str.ofString "_normpath") 280) (Value.ref 77), DictEntry.mk (PyData.keyHash P (Str.ofString "normpath")) (Value.str (Str.ofString "normpath") 288) (Value.ref 84), DictEntry.mk (PyData.keyHash P (Str.ofString "warn")) (Value.str (Str.ofString "warn") 298) (Value.ref 91), DictEntry.mk (PyData.keyHash P (Str.ofString "_parse_python_tzpath")) (Value.str (Str.ofString "_parse_python_tzpath") 311) (Value.ref 98), DictEntry.mk (PyData.keyHash P (Str.ofString "_get_invalid_paths_message")) (Value.str (Str.ofString "_get_invalid_paths_message") 321) (Value.ref 105), DictEntry.mk (PyData.keyHash P (Str.ofString "_validate_tzfile_path")) (Value.str (Str.ofString "_validate_tzfile_path") 439) (Value.ref 145), DictEntry.mk (PyData.keyHash P (Str.ofString "InvalidTZPathWarning")) (Value.str (Str.ofString "InvalidTZPathWarning") 459) (Value.ref 155), DictEntry.mk (PyData.keyHash P (Str.ofString "_law_pieces")) (Value.str (Str.ofString "_law_pieces") 472) (Value.ref 165), DictEntry.mk (PyData.keyHash P (Str.ofString "_law_rooted")) (Value.str (Str.ofString "_law_rooted") 479) (Value.ref 172), DictEntry.mk (PyData.keyHash P (Str.ofString "_law_due")) (Value.str (Str.ofString "_law_due") 491) (Value.ref 179), DictEntry.mk (PyData.keyHash P (Str.ofString "_law_done")) (Value.str (Str.ofString "_law_done") 500) (Value.ref 186), DictEntry.mk (PyData.keyHash P (Str.ofString "law")) (Value.str (Str.ofString "law") 506) (Value.ref 191)]) 32) (@List.toArray (Option Value) [])) :: ((nat_lit 15), Obj.mk (Value.type "tuple") none (Data.seq (@List.toArray Value []) 0) (@List.toArray (Option Value) [])) :: ((nat_lit 17), Obj.mk (Value.type "tuple") none (Data.seq (@List.toArray Value [Value.str (Str.ofString "k") 190]) 0) (@List.toArray (Option Value) [])) :: ((nat_lit 18), Obj.mk (Value.type "tuple") none (Data.seq (@List.toArray Value []) 0) (@List.toArray (Option Value) [])) :: ((nat_lit 20), Obj.mk (Value.type "code") none (Data.fields (@List.toArray Value [Value.str (Str.ofString "_wall") 187, Value.str (Str.ofString "_wall") 188, Value.str (Str.ofString "/claim/cut.py") 189, Value.int (@OfNat.ofNat Int (nat_lit 1) (@instOfNat (nat_lit 1))) 0, Value.int (@OfNat.ofNat Int (nat_lit 1) (@instOfNat (nat_lit 1))) 0, Value.int (@OfNat.ofNat Int (nat_lit 0) (@instOfNat (nat_lit 0))) 0, Value.int (@OfNat.ofNat Int (nat_lit 0) (@instOfNat (nat_lit 0))) 0, Value.int (@OfNat.ofNat Int (nat_lit 3) (@instOfNat (nat_lit 3))) 0, Value.ref 15, Value.bool Bool.true, Value.int (@OfNat.ofNat Int (nat_lit 181) (@instOfNat (nat_lit 181))) 0, Value.ref 16, Value.none, Value.ref 17, Value.ref 18, Value.ref 19, Value.int (@OfNat.ofNat Int (nat_lit 191) (@instOfNat (nat_lit 191))) 0, Value.int (@OfNat.ofNat Int (nat_lit 1) (@instOfNat (nat_lit 1))) 0, Value.str (Str.ofString "/claim/cut.py") 192])) (@List.toArray (Option Value) [])) :: ((nat_lit 21), Obj.mk (Value.type "function") none (Data.func (FuncData.mk (Str.ofString "_wall") (Str.ofString "_wall") (paS 0) (FuncBody.stmts (bdS 0)) (scS 0) 3 [] Value.none Value.none Value.none (Value.str (Str.ofString "__main__") 164) none (Value.ref 20) Value.none 0)) (@List.toArray (Option Value) [])) :: ((nat_lit 22), Obj.mk (Value.type "tuple") none (Data.seq (@List.toArray Value []) 0) (@List.toArray (Option Value) [])) :: ((nat_lit 24), Obj.mk (Value.type "tuple") none (Data.seq (@List.toArray Value [Value.str (Str.ofString "name") 201, Value.str (Str.ofString "x") 202, Value.str (Str.ofString "t") 203]) 0) (@List.toArray (Option Value) [])) :: ((nat_lit 25), Obj.mk (Value.type "tuple") none (Data.seq (@List.toArray Value []) 0) (@List.toArray (Option Value) [])) :: ((nat_lit 27), Obj.mk (Value.type "code") none (Data.fields (@List.toArray Value [Value.str (Str.ofString "_kind") 198, Value.str (Str.ofString "_kind") 199, Value.str (Str.ofString "/claim/cut.py") 200, Value.int (@OfNat.ofNat Int (nat_lit 6) (@instOfNat (nat_lit 6))) 0, Value.int (@OfNat.ofNat Int (nat_lit 2) (@instOfNat (nat_lit 2))) 0, Value.int (@OfNat.ofNat Int (nat_lit 0) (@instOfNat (nat_lit 0))) 0, Value.int (@OfNat.ofNat Int (nat_lit 0) (@instOfNat (nat_lit 0))) 0, Value.int (@OfNat.ofNat Int (nat_lit 3) (@instOfNat (nat_lit 3))) 0, Value.ref 22, Value.bool Bool.true, Value.int (@OfNat.ofNat Int (nat_lit 181) (@instOfNat (nat_lit 181))) 0, Value.ref 23, Value.none, Value.ref 24, Value.ref 25, Value.ref 26, Value.int (@OfNat.ofNat Int (nat_lit 204) (@instOfNat (nat_lit 204))) 0, Value.int (@OfNat.ofNat Int (nat_lit 6) (@instOfNat (nat_lit 6))) 0, Value.str (Str.ofString "/claim/cut.py") 205])) (@List.toArray (Option Value) [])) :: ((nat_lit 28), Obj.mk (Value.type "function") none (Data.func (FuncData.mk (Str.ofString "_kind") (Str.ofString "_kind") (paS 3) (FuncBody.stmts (bdS 3)) (scS 3) 3 [] Value.none Value.none Value.none (Value.str (Str.ofString "os.path") 196) none (Value.ref 27) Value.none 0)) (@List.toArray (Option Value) [])) :: ((nat_lit 29), Obj.mk (Value.type "tuple") none (Data.seq (@List.toArray Value []) 0) (@List.toArray (Option Value) [])) :: ((nat_lit 31), Obj.mk (Value.type "tuple") none (Data.seq (@List.toArray Value [Value.str (Str.ofString "name") 210, Value.str (Str.ofString "x") 211, Value.str (Str.ofString "k") 212]) 0) (@List.toArray (Option Value) [])) :: ((nat_lit 32), Obj.mk (Value.type "tuple") none (Data.seq (@List.toArray Value []) 0) (@List.toArray (Option Value) [])) :: ((nat_lit 34), Obj.mk (Value.type "code") none (Data.fields (@List.toArray Value [Value.str (Str.ofString "_fspath") 207, Value.str (Str.ofString "_fspath") 208, Value.str (Str.ofString "/claim/cut.py") 209, Value.int (@OfNat.ofNat Int (nat_lit 27) (@instOfNat (nat_lit 27))) 0, Value.int (@OfNat.ofNat Int (nat_lit 2) (@instOfNat (nat_lit 2))) 0, Value.int (@OfNat.ofNat Int (nat_lit 0) (@instOfNat (nat_lit 0))) 0, Value.int (@OfNat.ofNat Int (nat_lit 0) (@instOfNat (nat_lit 0))) 0, Value.int (@OfNat.ofNat Int (nat_lit 3) (@instOfNat (nat_lit 3))) 0, Value.ref 29, Value.bool Bool.true, Value.int (@OfNat.ofNat Int (nat_lit 181) (@instOfNat (nat_lit 181))) 0, Value.ref 30, Value.none, Value.ref 31, Value.ref 32, Value.ref 33, Value.int (@OfNat.ofNat Int (nat_lit 213) (@instOfNat (nat_lit 213))) 0, Value.int (@OfNat.ofNat Int (nat_lit 27) (@instOfNat (nat_lit 27))) 0, Value.str (Str.ofString "/claim/cut.py") 214])) (@List.toArray (Option Value) [])) :: ((nat_lit 35), Obj.mk (Value.type "function") none (Data.func (FuncData.mk (Str.ofString "_fspath") (Str.ofString "_fspath") (paS 4) (FuncBody.stmts (bdS 4)) (scS 4) 3 [] Value.none Value.none Value.none (Value.str (Str.ofString "os.path") 196) none (Value.ref 34) Value.none 0)) (@List.toArray (Option Value) [])) :: ((nat_lit 36), Obj.mk (Value.type "tuple") none (Data.seq (@List.toArray Value []) 0) (@List.toArray (Option Value) [])) :: ((nat_lit 38), Obj.mk (Value.type "tuple") none (Data.seq (@List.toArray Value [Value.str (Str.ofString "funcname") 219, Value.str (Str.ofString "args") 220, Value.str (Str.ofString "s") 221, Value.str (Str.ofString "k") 222]) 0) (@List.toArray (Option Value) [])) :: ((nat_lit 39), Obj.mk (Value.type "tuple") none (Data.seq (@List.toArray Value []) 0) (@List.toArray (Option Value) [])) :: ((nat_lit 41), Obj.mk (Value.type "code") none (Data.fields (@List.toArray Value [Value.str (Str.ofString "_check_arg_types") 216, Value.str (Str.ofString "_check_arg_types") 217, Value.str (Str.ofString "/claim/cut.py") 218, Value.int (@OfNat.ofNat Int (nat_lit 32) (@instOfNat (nat_lit 32))) 0, Value.int (@OfNat.ofNat Int (nat_lit 1) (@instOfNat (nat_lit 1))) 0, Value.int (@OfNat.ofNat Int (nat_lit 0) (@instOfNat (nat_lit 0))) 0, Value.int (@OfNat.ofNat Int (nat_lit 0) (@instOfNat (nat_lit 0))) 0, Value.int (@OfNat.ofNat Int (nat_lit 7) (@instOfNat (nat_lit 7))) 0, Value.ref 36, Value.bool Bool.true, Value.int (@OfNat.ofNat Int (nat_lit 181) (@instOfNat (nat_lit 181))) 0, Value.ref 37, Value.none, Value.ref 38, Value.ref 39, Value.ref 40, Value.int (@OfNat.ofNat Int (nat_lit 223) (@instOfNat (nat_lit 223))) 0, Value.int (@OfNat.ofNat Int (nat_lit 32) (@instOfNat (nat_lit 32))) 0, Value.str (Str.ofString "/claim/cut.py") 224])) (@List.toArray (Option Value) [])) :: ((nat_lit 42), Obj.mk (Value.type "function") none (Data.func (FuncData.mk (Str.ofString "_check_arg_types") (Str.ofString "_check_arg_types") (paS 5) (FuncBody.stmts (bdS 5)) (scS 5) 3 [] Value.none Value.none Value.none (Value.str (Str.ofString "os.path") 196) none (Value.ref 41) Value.none 0)) (@List.toArray (Option Value) [])) :: ((nat_lit 43), Obj.mk (Value.type "tuple") none (Data.seq (@List.toArray Value []) 0) (@List.toArray (Option Value) [])) :: ((nat_lit 45), Obj.mk (Value.type "tuple") none (Data.seq (@List.toArray Value [Value.str (Str.ofString "s") 229]) 0) (@List.toArray (Option Value) [])) :: ((nat_lit 46), Obj.mk (Value.type "tuple") none (Data.seq (@List.toArray Value []) 0) (@List.toArray (Option Value) [])) :: ((nat_lit 48), Obj.mk (Value.type "code") none (Data.fields (@List.toArray Value [Value.str (Str.ofString "isabs") 226, Value.str (Str.ofString "isabs") 227, Value.str (Str.ofString "/claim/cut.py") 228, Value.int (@OfNat.ofNat Int (nat_lit 37) (@instOfNat (nat_lit 37))) 0, Value.int (@OfNat.ofNat Int (nat_lit 1) (@instOfNat (nat_lit 1))) 0, Value.int (@OfNat.ofNat Int (nat_lit 0) (@instOfNat (nat_lit 0))) 0, Value.int (@OfNat.ofNat Int (nat_lit 0) (@instOfNat (nat_lit 0))) 0, Value.int (@OfNat.ofNat Int (nat_lit 3) (@instOfNat (nat_lit 3))) 0, Value.ref 43, Value.bool Bool.true, Value.int (@OfNat.ofNat Int (nat_lit 181) (@instOfNat (nat_lit 181))) 0, Value.ref 44, Value.none, Value.ref 45, Value.ref 46, Value.ref 47, Value.int (@OfNat.ofNat Int (nat_lit 230) (@instOfNat (nat_lit 230))) 0, Value.int (@OfNat.ofNat Int (nat_lit 37) (@instOfNat (nat_lit 37))) 0, Value.str (Str.ofString "/claim/cut.py") 231])) (@List.toArray (Option Value) [])) :: ((nat_lit 49), Obj.mk (Value.type "function") none (Data.func (FuncData.mk (Str.ofString "isabs") (Str.ofString "isabs") (paS 6) (FuncBody.stmts (bdS 6)) (scS 6) 3 [] Value.none Value.none Value.none (Value.str (Str.ofString "os.path") 196) none (Value.ref 48) Value.none 0)) (@List.toArray (Option Value) [])) :: ((nat_lit 50), Obj.mk (Value.type "tuple") none (Data.seq (@List.toArray Value []) 0) (@List.toArray (Option Value) [])) :: ((nat_lit 52), Obj.mk (Value.type "tuple") none (Data.seq (@List.toArray Value [Value.str (Str.ofString "a") 236, Value.str (Str.ofString "p") 237, Value.str (Str.ofString "b") 238, Value.str (Str.ofString "sep") 239, Value.str (Str.ofString "path") 240]) 0) (@List.toArray (Option Value) [])) :: ((nat_lit 53), Obj.mk (Value.type "tuple") none (Data.seq (@List.toArray Value []) 0) (@List.toArray (Option Value) [])) :: ((nat_lit 55), Obj.mk (Value.type "code") none (Data.fields (@List.toArray Value [Value.str (Str.ofString "join") 233, Value.str (Str.ofString "join") 234, Value.str (Str.ofString "/claim/cut.py") 235, Value.int (@OfNat.ofNat Int (nat_lit 40) (@instOfNat (nat_lit 40))) 0, Value.int (@OfNat.ofNat Int (nat_lit 1) (@instOfNat (nat_lit 1))) 0, Value.int (@OfNat.ofNat Int (nat_lit 0) (@instOfNat (nat_lit 0))) 0, Value.int (@OfNat.ofNat Int (nat_lit 0) (@instOfNat (nat_lit 0))) 0, Value.int (@OfNat.ofNat Int (nat_lit 7) (@instOfNat (nat_lit 7))) 0, Value.ref 50, Value.bool Bool.true, Value.int (@OfNat.ofNat Int (nat_lit 181) (@instOfNat (nat_lit 181))) 0, Value.ref 51, Value.none, Value.ref 52, Value.ref 53, Value.ref 54, Value.int (@OfNat.ofNat Int (nat_lit 241) (@instOfNat (nat_lit 241))) 0, Value.int (@OfNat.ofNat Int (nat_lit 40) (@instOfNat (nat_lit 40))) 0, Value.str (Str.ofString "/claim/cut.py") 242])) (@List.toArray (Option Value) [])) :: ((nat_lit 56), Obj.mk (Value.type "function") none (Data.func (FuncData.mk (Str.ofString "join") (Str.ofString "join") (paS 7) (FuncBody.stmts (bdS 7)) (scS 7) 3 [] Value.none Value.none Value.none (Value.str (Str.ofString "os.path") 196) none (Value.ref 55) Value.none 0)) (@List.toArray (Option Value) [])) :: ((nat_lit 57), Obj.mk (Value.type "tuple") none (Data.seq (@List.toArray Value []) 0) (@List.toArray (Option Value) [])) :: ((nat_lit 59), Obj.mk (Value.type "tuple") none (Data.seq (@List.toArray Value [Value.str (Str.ofString "name") 247, Value.str (Str.ofString "cname") 248, Value.str (Str.ofString "argname") 249, Value.str (Str.ofString "args") 250, Value.str (Str.ofString "kwargs") 251, Value.str (Str.ofString "x") 252, Value.str (Str.ofString "k") 253]) 0) (@List.toArray (Option Value) [])) :: ((nat_lit 60), Obj.mk (Value.type "tuple") none (Data.seq (@List.toArray Value []) 0) (@List.toArray (Option Value) [])) :: ((nat_lit 62), Obj.mk (Value.type "code") none (Data.fields (@List.toArray Value [Value.str (Str.ofString "_c_path") 244, Value.str (Str.ofString "_c_path") 245, Value.str (Str.ofString "/claim/cut.py") 246, Value.int (@OfNat.ofNat Int (nat_lit 60) (@instOfNat (nat_lit 60))) 0, Value.int (@OfNat.ofNat Int (nat_lit 5) (@instOfNat (nat_lit 5))) 0, Value.int (@OfNat.ofNat Int (nat_lit 0) (@instOfNat (nat_lit 0))) 0, Value.int (@OfNat.ofNat Int (nat_lit 0) (@instOfNat (nat_lit 0))) 0, Value.int (@OfNat.ofNat Int (nat_lit 3) (@instOfNat (nat_lit 3))) 0, Value.ref 57, Value.bool Bool.true, Value.int (@OfNat.ofNat Int (nat_lit 181) (@instOfNat (nat_lit 181))) 0, Value.ref 58, Value.none, Value.ref 59, Value.ref 60, Value.ref 61, Value.int (@OfNat.ofNat Int (nat_lit 254) (@instOfNat (nat_lit 254))) 0, Value.int (@OfNat.ofNat Int (nat_lit 60) (@instOfNat (nat_lit 60))) 0, Value.str (Str.ofString "/claim/cut.py") 255])) (@List.toArray (Option Value) [])) :: ((nat_lit 63), Obj.mk (Value.type "function") none (Data.func (FuncData.mk (Str.ofString "_c_path") (Str.ofString "_c_path") (paS 8) (FuncBody.stmts (bdS 8)) (scS 8) 3 [] Value.none Value.none Value.none (Value.str (Str.ofString "os.path") 196) none (Value.ref 62) Value.none 0)) (@List.toArray (Option Value) [])) :: ((nat_lit 64), Obj.mk (Value.type "tuple") none (Data.seq (@List.toArray Value []) 0) (@List.toArray (Option Value) [])) :: ((nat_lit 66), Obj.mk (Value.type "tuple") none (Data.seq (@List.toArray Value [Value.str (Str.ofString "p") 260, Value.str (Str.ofString "sep") 261, Value.str (Str.ofString "empty") 262]) 0) (@List.toArray (Option Value) [])) :: ((nat_lit 67), Obj.mk (Value.type "tuple") none (Data.seq (@List.toArray Value []) 0) (@List.toArray (Option Value) [])) :: ((nat_lit 69), Obj.mk (Value.type "code") none (Data.fields (@List.toArray Value [Value.str (Str.ofString "_splitroot") 257, Value.str (Str.ofString "_splitroot") 258, Value.str (Str.ofString "/claim/cut.py") 259, Value.int (@OfNat.ofNat Int (nat_lit 71) (@instOfNat (nat_lit 71))) 0, Value.int (@OfNat.ofNat Int (nat_lit 1) (@instOfNat (nat_lit 1))) 0, Value.int (@OfNat.ofNat Int (nat_lit 0) (@instOfNat (nat_lit 0))) 0, Value.int (@OfNat.ofNat Int (nat_lit 0) (@instOfNat (nat_lit 0))) 0, Value.int (@OfNat.ofNat Int (nat_lit 3) (@instOfNat (nat_lit 3))) 0, Value.ref 64, Value.bool Bool.true, Value.int (@OfNat.ofNat Int (nat_lit 181) (@instOfNat (nat_lit 181))) 0, Value.ref 65, Value.none, Value.ref 66, Value.ref 67, Value.ref 68, Value.int (@OfNat.ofNat Int (nat_lit 263) (@instOfNat (nat_lit 263))) 0, Value.int (@OfNat.ofNat Int (nat_lit 71) (@instOfNat (nat_lit 71))) 0, Value.str (Str.ofString "/claim/cut.py") 264])) (@List.toArray (Option Value) [])) :: ((nat_lit 70), Obj.mk (Value.type "function") none (Data.func (FuncData.mk (Str.ofString "_splitroot") (Str.ofString "_splitroot") (paS 9) (FuncBody.stmts (bdS 9)) (scS 9) 3 [] Value.none Value.none Value.none (Value.str (Str.ofString "os.path") 196) none (Value.ref 69) Value.none 0)) (@List.toArray (Option Value) [])) :: ((nat_lit 71), Obj.mk (Value.type "tuple") none (Data.seq (@List.toArray Value []) 0) (@List.toArray (Option Value) [])) :: ((nat_lit 73), Obj.mk (Value.type "tuple") none (Data.seq (@List.toArray Value [Value.str (Str.ofString "path") 269, Value.str (Str.ofString "sep") 270, Value.str (Str.ofString "dot") 271, Value.str (Str.ofString "dotdot") 272, Value.str (Str.ofString "_") 273, Value.str (Str.ofString "initial_slashes") 274, Value.str (Str.ofString "comps") 275, Value.str (Str.ofString "new_comps") 276, Value.str (Str.ofString "comp") 277]) 0) (@List.toArray (Option Value) [])) :: ((nat_lit 74), Obj.mk (Value.type "tuple") none (Data.seq (@List.toArray Value []) 0) (@List.toArray (Option Value) [])) :: ((nat_lit 76), Obj.mk (Value.type "code") none (Data.fields (@List.toArray Value [Value.str (Str.ofString "_normpath") 266, Value.str (Str.ofString "_normpath") 267, Value.str (Str.ofString "/claim/cut.py") 268, Value.int (@OfNat.ofNat Int (nat_lit 80) (@instOfNat (nat_lit 80))) 0, Value.int (@OfNat.ofNat Int (nat_lit 1) (@instOfNat (nat_lit 1))) 0, Value.int (@OfNat.ofNat Int (nat_lit 0) (@instOfNat (nat_lit 0))) 0, Value.int (@OfNat.ofNat Int (nat_lit 0) (@instOfNat (nat_lit 0))) 0, Value.int (@OfNat.ofNat Int (nat_lit 3) (@instOfNat (nat_lit 3))) 0, Value.ref 71, Value.bool Bool.true, Value.int (@OfNat.ofNat Int (nat_lit 181) (@instOfNat (nat_lit 181))) 0, Value.ref 72, Value.none, Value.ref 73, Value.ref 74, Value.ref 75, Value.int (@OfNat.ofNat Int (nat_lit 278) (@instOfNat (nat_lit 278))) 0, Value.int (@OfNat.ofNat Int (nat_lit 80) (@instOfNat (nat_lit 80))) 0, Value.str (Str.ofString "/claim/cut.py") 279])) (@List.toArray (Option Value) [])) :: ((nat_lit 77), Obj.mk (Value.type "function") none (Data.func (FuncData.mk (Str.ofString "_normpath") (Str.ofString "_normpath") (paS 10) (FuncBody.stmts (bdS 10)) (scS 10) 3 [] Value.none Value.none Value.none (Value.str (Str.ofString "os.path") 196) none (Value.ref 76) Value.none 0)) (@List.toArray (Option Value) [])) :: ((nat_lit 78), Obj.mk (Value.type "tuple") none (Data.seq (@List.toArray Value []) 0) (@List.toArray (Option Value) [])) :: ((nat_lit 80), Obj.mk (Value.type "tuple") none (Data.seq (@List.toArray Value [Value.str (Str.ofString "args") 284, Value.str (Str.ofString "kwargs") 285]) 0) (@List.toArray (Option Value) [])) :: ((nat_lit 81), Obj.mk (Value.type "tuple") none (Data.seq (@List.toArray Value []) 0) (@List.toArray (Option Value) [])) :: ((nat_lit 83), Obj.mk (Value.type "code") none (Data.fields (@List.toArray Value [Value.str (Str.ofString "normpath") 281, Value.str (Str.ofString "normpath") 282, Value.str (Str.ofString "/claim/cut.py") 283, Value.int (@OfNat.ofNat Int (nat_lit 99) (@instOfNat (nat_lit 99))) 0, Value.int (@OfNat.ofNat Int (nat_lit 0) (@instOfNat (nat_lit 0))) 0, Value.int (@OfNat.ofNat Int (nat_lit 0) (@instOfNat (nat_lit 0))) 0, Value.int (@OfNat.ofNat Int (nat_lit 0) (@instOfNat (nat_lit 0))) 0, Value.int (@OfNat.ofNat Int (nat_lit 15) (@instOfNat (nat_lit 15))) 0, Value.ref 78, Value.bool Bool.true, Value.int (@OfNat.ofNat Int (nat_lit 181) (@instOfNat (nat_lit 181))) 0, Value.ref 79, Value.none, Value.ref 80, Value.ref 81, Value.ref 82, Value.int (@OfNat.ofNat Int (nat_lit 286) (@instOfNat (nat_lit 286))) 0, Value.int (@OfNat.ofNat Int (nat_lit 99) (@instOfNat (nat_lit 99))) 0, Value.str (Str.ofString "/claim/cut.py") 287])) (@List.toArray (Option Value) [])) :: ((nat_lit 84), Obj.mk (Value.type "function") none (Data.func (FuncData.mk (Str.ofString "normpath") (Str.ofString "normpath") (paS 11) (FuncBody.stmts (bdS 11)) (scS 11) 3 [] Value.none Value.none Value.none (Value.str (Str.ofString "os.path") 196) none (Value.ref 83) Value.none 0)) (@List.toArray (Option Value) [])) :: ((nat_lit 85), Obj.mk (Value.type "tuple") none (Data.seq (@List.toArray Value []) 0) (@List.toArray (Option Value) [])) :: ((nat_lit 87), Obj.mk (Value.type "tuple") none (Data.seq (@List.toArray Value [Value.str (Str.ofString "args") 294, Value.str (Str.ofString "kwargs") 295]) 0) (@List.toArray (Option Value) [])) :: ((nat_lit 88), Obj.mk (Value.type "tuple") none (Data.seq (@List.toArray Value []) 0) (@List.toArray (Option Value) [])) :: ((nat_lit 90), Obj.mk (Value.type "code") none (Data.fields (@List.toArray Value [Value.str (Str.ofString "warn") 291, Value.str (Str.ofString "warn") 292, Value.str (Str.ofString "/claim/cut.py") 293, Value.int (@OfNat.ofNat Int (nat_lit 102) (@instOfNat (nat_lit 102))) 0, Value.int (@OfNat.ofNat Int (nat_lit 0) (@instOfNat (nat_lit 0))) 0, Value.int (@OfNat.ofNat Int (nat_lit 0) (@instOfNat (nat_lit 0))) 0, Value.int (@OfNat.ofNat Int (nat_lit 0) (@instOfNat (nat_lit 0))) 0, Value.int (@OfNat.ofNat Int (nat_lit 15) (@instOfNat (nat_lit 15))) 0, Value.ref 85, Value.bool Bool.true, Value.int (@OfNat.ofNat Int (nat_lit 181) (@instOfNat (nat_lit 181))) 0, Value.ref 86, Value.none, Value.ref 87, Value.ref 88, Value.ref 89, Value.int (@OfNat.ofNat Int (nat_lit 296) (@instOfNat (nat_lit 296))) 0, Value.int (@OfNat.ofNat Int (nat_lit 102) (@instOfNat (nat_lit 102))) 0, Value.str (Str.ofString "/claim/cut.py") 297])) (@List.toArray (Option Value) [])) :: ((nat_lit 91), Obj.mk (Value.type "function") none (Data.func (FuncData.mk (Str.ofString "warn") (Str.ofString "warn") (paS 13) (FuncBody.stmts (bdS 13)) (scS 13) 3 [] Value.none Value.none Value.none (Value.str (Str.ofString "warnings") 289) none (Value.ref 90) Value.none 0)) (@List.toArray (Option Value) [])) :: ((nat_lit 92), Obj.mk (Value.type "tuple") none (Data.seq (@List.toArray Value []) 0) (@List.toArray (Option Value) [])) :: ((nat_lit 94), Obj.mk (Value.type "tuple") none (Data.seq (@List.toArray Value [Value.str (Str.ofString "env_var") 304, Value.str (Str.ofString "stacklevel") 305, Value.str (Str.ofString "raw_tzpath") 306, Value.str (Str.ofString "new_tzpath") 307, Value.str (Str.ofString "msg") 308]) 0) (@List.toArray (Option Value) [])) :: ((nat_lit 95), Obj.mk (Value.type "tuple") none (Data.seq (@List.toArray Value []) 0) (@List.toArray (Option Value) [])) :: ((nat_lit 97), Obj.mk (Value.type "code") none (Data.fields (@List.toArray Value [Value.str (Str.ofString "_parse_python_tzpath") 301, Value.str (Str.ofString "_parse_python_tzpath") 302, Value.str (Str.ofString "/claim/cut.py") 303, Value.int (@OfNat.ofNat Int (nat_lit 105) (@instOfNat (nat_lit 105))) 0, Value.int (@OfNat.ofNat Int (nat_lit 2) (@instOfNat (nat_lit 2))) 0, Value.int (@OfNat.ofNat Int (nat_lit 0) (@instOfNat (nat_lit 0))) 0, Value.int (@OfNat.ofNat Int (nat_lit 0) (@instOfNat (nat_lit 0))) 0, Value.int (@OfNat.ofNat Int (nat_lit 3) (@instOfNat (nat_lit 3))) 0, Value.ref 92, Value.bool Bool.true, Value.int (@OfNat.ofNat Int (nat_lit 181) (@instOfNat (nat_lit 181))) 0, Value.ref 93, Value.none, Value.ref 94, Value.ref 95, Value.ref 96, Value.int (@OfNat.ofNat Int (nat_lit 309) (@instOfNat (nat_lit 309))) 0, Value.int (@OfNat.ofNat Int (nat_lit 105) (@instOfNat (nat_lit 105))) 0, Value.str (Str.ofString "/claim/cut.py") 310])) (@List.toArray (Option Value) [])) :: ((nat_lit 98), Obj.mk (Value.type "function") none (Data.func (FuncData.mk (Str.ofString "_parse_python_tzpath") (Str.ofString "_parse_python_tzpath") (paS 15) (FuncBody.stmts (bdS 15)) (scS 15) 3 [] Value.none Value.none Value.none (Value.str (Str.ofString "cpy313.zoneinfo._tzpath") 299) none (Value.ref 97) Value.none 0)) (@List.toArray (Option Value) [])) :: ((nat_lit 99), Obj.mk (Value.type "tuple") none (Data.seq (@List.toArray Value []) 0) (@List.toArray (Option Value) [])) :: ((nat_lit 101), Obj.mk (Value.type "tuple") none (Data.seq (@List.toArray Value [Value.str (Str.ofString "tzpaths") 315, Value.str (Str.ofString "invalid_paths") 316, Value.str (Str.ofString "prefix") 317, Value.str (Str.ofString "indented_str") 318]) 0) (@List.toArray (Option Value) [])) :: ((nat_lit 102), Obj.mk (Value.type "tuple") none (Data.seq (@List.toArray Value []) 0) (@List.toArray (Option Value) [])) :: ((nat_lit 104), Obj.mk (Value.type "code") none (Data.fields (@List.toArray Value [Value.str (Str.ofString "_get_invalid_paths_message") 312, Value.str (Str.ofString "_get_invalid_paths_message") 313, Value.str (Str.ofString "/claim/cut.py") 314, Value.int (@OfNat.ofNat Int (nat_lit 115) (@instOfNat (nat_lit 115))) 0, Value.int (@OfNat.ofNat Int (nat_lit 1) (@instOfNat (nat_lit 1))) 0, Value.int (@OfNat.ofNat Int (nat_lit 0) (@instOfNat (nat_lit 0))) 0, Value.int (@OfNat.ofNat Int (nat_lit 0) (@instOfNat (nat_lit 0))) 0, Value.int (@OfNat.ofNat Int (nat_lit 3) (@instOfNat (nat_lit 3))) 0, Value.ref 99, Value.bool Bool.true, Value.int (@OfNat.ofNat Int (nat_lit 181) (@instOfNat (nat_lit 181))) 0, Value.ref 100, Value.none, Value.ref 101, Value.ref 102, Value.ref 103, Value.int (@OfNat.ofNat Int (nat_lit 319) (@instOfNat (nat_lit 319))) 0, Value.int (@OfNat.ofNat Int (nat_lit 115) (@instOfNat (nat_lit 115))) 0, Value.str (Str.ofString "/claim/cut.py") 320])) (@List.toArray (Option Value) [])) :: ((nat_lit 105), Obj.mk (Value.type "function") none (Data.func (FuncData.mk (Str.ofString "_get_invalid_paths_message") (Str.ofString "_get_invalid_paths_message") (paS 16) (FuncBody.stmts (bdS 16)) (scS 16) 3 [] Value.none Value.none Value.none (Value.str (Str.ofString "cpy313.zoneinfo._tzpath") 299) none (Value.ref 104) Value.none 0)) (@List.toArray (Option Value) [])) :: ((nat_lit 138), Obj.mk (Value.type "tuple") none (Data.seq (@List.toArray Value [Value.str (Str.ofString "_/") 428]) 0) (@List.toArray (Option Value) [])) :: ((nat_lit 139), Obj.mk (Value.type "tuple") none (Data.seq (@List.toArray Value []) 0) (@List.toArray (Option Value) [])) :: ((nat_lit 141), Obj.mk (Value.type "tuple") none (Data.seq (@List.toArray Value [Value.str (Str.ofString "path") 433, Value.str (Str.ofString "_base") 434, Value.str (Str.ofString "new_path") 435, Value.str (Str.ofString "resolved") 436]) 0) (@List.toArray (Option Value) [])) :: ((nat_lit 142), Obj.mk (Value.type "tuple") none (Data.seq (@List.toArray Value []) 0) (@List.toArray (Option Value) [])) :: ((nat_lit 144), Obj.mk (Value.type "code") none (Data.fields (@List.toArray Value [Value.str (Str.ofString "_validate_tzfile_path") 430, Value.str (Str.ofString "_validate_tzfile_path") 431, Value.str (Str.ofString "/claim/cut.py") 432, Value.int (@OfNat.ofNat Int (nat_lit 121) (@instOfNat (nat_lit 121))) 0, Value.int (@OfNat.ofNat Int (nat_lit 2) (@instOfNat (nat_lit 2))) 0, Value.int (@OfNat.ofNat Int (nat_lit 0) (@instOfNat (nat_lit 0))) 0, Value.int (@OfNat.ofNat Int (nat_lit 0) (@instOfNat (nat_lit 0))) 0, Value.int (@OfNat.ofNat Int (nat_lit 3) (@instOfNat (nat_lit 3))) 0, Value.ref 139, Value.bool Bool.true, Value.int (@OfNat.ofNat Int (nat_lit 181) (@instOfNat (nat_lit 181))) 0, Value.ref 140, Value.none, Value.ref 141, Value.ref 142, Value.ref 143, Value.int (@OfNat.ofNat Int (nat_lit 437) (@instOfNat (nat_lit 437))) 0, Value.int (@OfNat.ofNat Int (nat_lit 121) (@instOfNat (nat_lit 121))) 0, Value.str (Str.ofString "/claim/cut.py") 438])) (@List.toArray (Option Value) [])) :: ((nat_lit 145), Obj.mk (Value.type "function") none (Data.func (FuncData.mk (Str.ofString "_validate_tzfile_path") (Str.ofString "_validate_tzfile_path") (paS 18) (FuncBody.stmts (bdS 18)) (scS 18) 3 [] (Value.ref 138) Value.none Value.none (Value.str (Str.ofString "cpy313.zoneinfo._tzpath") 299) none (Value.ref 144) Value.none 0)) (@List.toArray (Option Value) [])) :: ((nat_lit 146), Obj.mk (Value.type "tuple") none (Data.seq (@List.toArray Value [Value.type "RuntimeWarning"]) 0) (@List.toArray (Option Value) [])) :: ((nat_lit 153), Obj.mk (Value.type "tuple") none (Data.seq (@List.toArray Value []) 0) (@List.toArray (Option Value) [])) :: ((nat_lit 154), Obj.mk (Value.type "dict") none (Data.dict (@List.toArray DictEntry [DictEntry.mk (PyData.keyHash P (Str.ofString "__module__")) (Value.str (Str.ofString "__module__") 447) (Value.str (Str.ofString "cpy313.zoneinfo._tzpath") 299), DictEntry.mk (PyData.keyHash P (Str.ofString "__firstlineno__")) (Value.str (Str.ofString "__firstlineno__") 451) (Value.int (@OfNat.ofNat Int (nat_lit 131) (@instOfNat (nat_lit 131))) 450), DictEntry.mk (PyData.keyHash P (Str.ofString "__static_attributes__")) (Value.str (Str.ofString "__static_attributes__") 452) (Value.ref 153), DictEntry.mk (PyData.keyHash P (Str.ofString "__weakref__")) (Value.str (Str.ofString "__weakref__") 454) (Value.ref 156), DictEntry.mk (PyData.keyHash P (Str.ofString "__doc__")) (Value.str (Str.ofString "__doc__") 455) Value.none]) 3) (@List.toArray (Option Value) [])) :: ((nat_lit 155), Obj.mk (Value.type "type") none (Data.cls (ClassData.mk (Str.ofString "InvalidTZPathWarning") [Value.type "RuntimeWarning"] [Value.ref 155, Value.type "RuntimeWarning", Value.type "Warning", Value.type "Exception", Value.type "BaseException", Value.type "object"] 154 (Str.ofString "InvalidTZPathWarning") Bool.true [] [] Bool.false none Bool.false)) (@List.toArray (Option Value) [(some (Value.ref 146)), none, (some (Value.str (Str.ofString "InvalidTZPathWarning") 440)), (some (Value.str (Str.ofString "InvalidTZPathWarning") 448)), (some (Value.builtin "RuntimeWarning.__new__")), (some (Value.bool Bool.true))])) :: ((nat_lit 156), Obj.mk (Value.type "getset_descriptor") none (Data.fields (@List.toArray Value [Value.str (Str.ofString "__weakref__") 453, Value.ref 155, Value.builtin "ExceptionGroup.__weakref__", Value.none])) (@List.toArray (Option Value) [])) :: ((nat_lit 159), Obj.mk (Value.type "tuple") none (Data.seq (@List.toArray Value []) 0) (@List.toArray (Option Value) [])) :: ((nat_lit 161), Obj.mk (Value.type "tuple") none (Data.seq (@List.toArray Value [Value.str (Str.ofString "number") 465, Value.str (Str.ofString "words") 466, Value.str (Str.ofString "many") 467, Value.str (Str.ofString "bits") 468, Value.str (Str.ofString "_turn") 469]) 0) (@List.toArray (Option Value) [])) :: ((nat_lit 162), Obj.mk (Value.type "tuple") none (Data.seq (@List.toArray Value []) 0) (@List.toArray (Option Value) [])) :: ((nat_lit 164), Obj.mk (Value.type "code") none (Data.fields (@List.toArray Value [Value.str (Str.ofString "_law_pieces") 462, Value.str (Str.ofString "_law_pieces") 463, Value.str (Str.ofString "/claim/cut.py") 464, Value.int (@OfNat.ofNat Int (nat_lit 134) (@instOfNat (nat_lit 134))) 0, Value.int (@OfNat.ofNat Int (nat_lit 1) (@instOfNat (nat_lit 1))) 0, Value.int (@OfNat.ofNat Int (nat_lit 0) (@instOfNat (nat_lit 0))) 0, Value.int (@OfNat.ofNat Int (nat_lit 0) (@instOfNat (nat_lit 0))) 0, Value.int (@OfNat.ofNat Int (nat_lit 3) (@instOfNat (nat_lit 3))) 0, Value.ref 159, Value.bool Bool.true, Value.int (@OfNat.ofNat Int (nat_lit 181) (@instOfNat (nat_lit 181))) 0, Value.ref 160, Value.none, Value.ref 161, Value.ref 162, Value.ref 163, Value.int (@OfNat.ofNat Int (nat_lit 470) (@instOfNat (nat_lit 470))) 0, Value.int (@OfNat.ofNat Int (nat_lit 134) (@instOfNat (nat_lit 134))) 0, Value.str (Str.ofString "/claim/cut.py") 471])) (@List.toArray (Option Value) [])) :: ((nat_lit 165), Obj.mk (Value.type "function") none (Data.func (FuncData.mk (Str.ofString "_law_pieces") (Str.ofString "_law_pieces") (paS 22) (FuncBody.stmts (bdS 22)) (scS 22) 3 [] Value.none Value.none Value.none (Value.str (Str.ofString "law_sh0097_01") 460) none (Value.ref 164) Value.none 0)) (@List.toArray (Option Value) [])) :: ((nat_lit 166), Obj.mk (Value.type "tuple") none (Data.seq (@List.toArray Value []) 0) (@List.toArray (Option Value) [])) :: ((nat_lit 168), Obj.mk (Value.type "tuple") none (Data.seq (@List.toArray Value [Value.str (Str.ofString "bits") 476]) 0) (@List.toArray (Option Value) [])) :: ((nat_lit 169), Obj.mk (Value.type "tuple") none (Data.seq (@List.toArray Value []) 0) (@List.toArray (Option Value) [])) :: ((nat_lit 171), Obj.mk (Value.type "code") none (Data.fields (@List.toArray Value [Value.str (Str.ofString "_law_rooted") 473, Value.str (Str.ofString "_law_rooted") 474, Value.str (Str.ofString "/claim/cut.py") 475, Value.int (@OfNat.ofNat Int (nat_lit 144) (@instOfNat (nat_lit 144))) 0, Value.int (@OfNat.ofNat Int (nat_lit 1) (@instOfNat (nat_lit 1))) 0, Value.int (@OfNat.ofNat Int (nat_lit 0) (@instOfNat (nat_lit 0))) 0, Value.int (@OfNat.ofNat Int (nat_lit 0) (@instOfNat (nat_lit 0))) 0, Value.int (@OfNat.ofNat Int (nat_lit 3) (@instOfNat (nat_lit 3))) 0, Value.ref 166, Value.bool Bool.true, Value.int (@OfNat.ofNat Int (nat_lit 181) (@instOfNat (nat_lit 181))) 0, Value.ref 167, Value.none, Value.ref 168, Value.ref 169, Value.ref 170, Value.int (@OfNat.ofNat Int (nat_lit 477) (@instOfNat (nat_lit 477))) 0, Value.int (@OfNat.ofNat Int (nat_lit 144) (@instOfNat (nat_lit 144))) 0, Value.str (Str.ofString "/claim/cut.py") 478])) (@List.toArray (Option Value) [])) :: ((nat_lit 172), Obj.mk (Value.type "function") none (Data.func (FuncData.mk (Str.ofString "_law_rooted") (Str.ofString "_law_rooted") (paS 23) (FuncBody.stmts (bdS 23)) (scS 23) 3 [] Value.none Value.none Value.none (Value.str (Str.ofString "law_sh0097_01") 460) none (Value.ref 171) Value.none 0)) (@List.toArray (Option Value) [])) :: ((nat_lit 173), Obj.mk (Value.type "tuple") none (Data.seq (@List.toArray Value []) 0) (@List.toArray (Option Value) [])) :: ((nat_lit 175), Obj.mk (Value.type "tuple") none (Data.seq (@List.toArray Value [Value.str (Str.ofString "bits") 483, Value.str (Str.ofString "root") 484, Value.str (Str.ofString "text") 485, Value.str (Str.ofString "ups") 486, Value.str (Str.ofString "below") 487, Value.str (Str.ofString "reached") 488]) 0) (@List.toArray (Option Value) [])) :: ((nat_lit 176), Obj.mk (Value.type "tuple") none (Data.seq (@List.toArray Value []) 0) (@List.toArray (Option Value) [])) :: ((nat_lit 178), Obj.mk (Value.type "code") none (Data.fields (@List.toArray Value [Value.str (Str.ofString "_law_due") 480, Value.str (Str.ofString "_law_due") 481, Value.str (Str.ofString "/claim/cut.py") 482, Value.int (@OfNat.ofNat Int (nat_lit 146) (@instOfNat (nat_lit 146))) 0, Value.int (@OfNat.ofNat Int (nat_lit 2) (@instOfNat (nat_lit 2))) 0, Value.int (@OfNat.ofNat Int (nat_lit 0) (@instOfNat (nat_lit 0))) 0, Value.int (@OfNat.ofNat Int (nat_lit 0) (@instOfNat (nat_lit 0))) 0, Value.int (@OfNat.ofNat Int (nat_lit 3) (@instOfNat (nat_lit 3))) 0, Value.ref 173, Value.bool Bool.true, Value.int (@OfNat.ofNat Int (nat_lit 181) (@instOfNat (nat_lit 181))) 0, Value.ref 174, Value.none, Value.ref 175, Value.ref 176, Value.ref 177, Value.int (@OfNat.ofNat Int (nat_lit 489) (@instOfNat (nat_lit 489))) 0, Value.int (@OfNat.ofNat Int (nat_lit 146) (@instOfNat (nat_lit 146))) 0, Value.str (Str.ofString "/claim/cut.py") 490])) (@List.toArray (Option Value) [])) :: ((nat_lit 179), Obj.mk (Value.type "function") none (Data.func (FuncData.mk (Str.ofString "_law_due") (Str.ofString "_law_due") (paS 24) (FuncBody.stmts (bdS 24)) (scS 24) 3 [] Value.none Value.none Value.none (Value.str (Str.ofString "law_sh0097_01") 460) none (Value.ref 178) Value.none 0)) (@List.toArray (Option Value) [])) :: ((nat_lit 180), Obj.mk (Value.type "tuple") none (Data.seq (@List.toArray Value []) 0) (@List.toArray (Option Value) [])) :: ((nat_lit 182), Obj.mk (Value.type "tuple") none (Data.seq (@List.toArray Value [Value.str (Str.ofString "text") 495, Value.str (Str.ofString "folder") 496, Value.str (Str.ofString "refusal") 497]) 0) (@List.toArray (Option Value) [])) :: ((nat_lit 183), Obj.mk (Value.type "tuple") none (Data.seq (@List.toArray Value []) 0) (@List.toArray (Option Value) [])) :: ((nat_lit 185), Obj.mk (Value.type "code") none (Data.fields (@List.toArray Value [Value.str (Str.ofString "_law_done") 492, Value.str (Str.ofString "_law_done") 493, Value.str (Str.ofString "/claim/cut.py") 494, Value.int (@OfNat.ofNat Int (nat_lit 163) (@instOfNat (nat_lit 163))) 0, Value.int (@OfNat.ofNat Int (nat_lit 2) (@instOfNat (nat_lit 2))) 0, Value.int (@OfNat.ofNat Int (nat_lit 0) (@instOfNat (nat_lit 0))) 0, Value.int (@OfNat.ofNat Int (nat_lit 0) (@instOfNat (nat_lit 0))) 0, Value.int (@OfNat.ofNat Int (nat_lit 3) (@instOfNat (nat_lit 3))) 0, Value.ref 180, Value.bool Bool.true, Value.int (@OfNat.ofNat Int (nat_lit 181) (@instOfNat (nat_lit 181))) 0, Value.ref 181, Value.none, Value.ref 182, Value.ref 183, Value.ref 184, Value.int (@OfNat.ofNat Int (nat_lit 498) (@instOfNat (nat_lit 498))) 0, Value.int (@OfNat.ofNat Int (nat_lit 163) (@instOfNat (nat_lit 163))) 0, Value.str (Str.ofString "/claim/cut.py") 499])) (@List.toArray (Option Value) [])) :: ((nat_lit 186), Obj.mk (Value.type "function") none (Data.func (FuncData.mk (Str.ofString "_law_done") (Str.ofString "_law_done") (paS 25) (FuncBody.stmts (bdS 25)) (scS 25) 3 [] Value.none Value.none Value.none (Value.str (Str.ofString "law_sh0097_01") 460) none (Value.ref 185) Value.none 0)) (@List.toArray (Option Value) [])) :: ((nat_lit 187), Obj.mk (Value.type "tuple") none (Data.seq (@List.toArray Value []) 0) (@List.toArray (Option Value) [])) :: ((nat_lit 190), Obj.mk (Value.type "code") none (Data.fields (@List.toArray Value [Value.str (Str.ofString "law") 501, Value.str (Str.ofString "law") 502, Value.str (Str.ofString "/claim/cut.py") 503, Value.int (@OfNat.ofNat Int (nat_lit 170) (@instOfNat (nat_lit 170))) 0, Value.int (@OfNat.ofNat Int (nat_lit 1) (@instOfNat (nat_lit 1))) 0, Value.int (@OfNat.ofNat Int (nat_lit 0) (@instOfNat (nat_lit 0))) 0, Value.int (@OfNat.ofNat Int (nat_lit 0) (@instOfNat (nat_lit 0))) 0, Value.int (@OfNat.ofNat Int (nat_lit 3) (@instOfNat (nat_lit 3))) 0, Value.ref 187, Value.bool Bool.true, Value.int (@OfNat.ofNat Int (nat_lit 181) (@instOfNat (nat_lit 181))) 0, Value.ref 188, Value.none, Value.none, Value.none, Value.ref 189, Value.int (@OfNat.ofNat Int (nat_lit 504) (@instOfNat (nat_lit 504))) 0, Value.int (@OfNat.ofNat Int (nat_lit 170) (@instOfNat (nat_lit 170))) 0, Value.str (Str.ofString "/claim/cut.py") 505])) (@List.toArray (Option Value) [])) :: ((nat_lit 191), Obj.mk (Value.type "function") none (Data.func (FuncData.mk (Str.ofString "law") (Str.ofString "law") (paS 26) (FuncBody.stmts (bdS 26)) (scS 26) 3 [] Value.none Value.none Value.none (Value.str (Str.ofString "law_sh0097_01") 460) none (Value.ref 190) Value.none 0)) (@List.toArray (Option Value) [])) :: [])
noncomputable def kGet (P : Params) (a : Nat) : Obj := match (heap_39 P).lookup a with | some o => o | none => boot_o_0 P
noncomputable def o_44 : Params → Obj := fun P => Obj.mk Value.none none (Data.fields (@List.toArray Value [])) (@List.toArray (Option Value) [])
noncomputable def o_45 : Params → Obj := fun P => Obj.mk (Value.type "code") none (Data.fields (@List.toArray Value [Value.str (Str.ofString "<module>") 182, Value.str (Str.ofString "<module>") 183, Value.str (Str.ofString "/claim/cut.py") 184, Value.int (@OfNat.ofNat Int (nat_lit 1) (@instOfNat (nat_lit 1))) 0, Value.int (@OfNat.ofNat Int (nat_lit 0) (@instOfNat (nat_lit 0))) 0, Value.int (@OfNat.ofNat Int (nat_lit 0) (@instOfNat (nat_lit 0))) 0, Value.int (@OfNat.ofNat Int (nat_lit 0) (@instOfNat (nat_lit 0))) 0, Value.int (@OfNat.ofNat Int (nat_lit 0) (@instOfNat (nat_lit 0))) 0, Value.ref 11, Value.bool Bool.false, Value.int (@OfNat.ofNat Int (nat_lit 181) (@instOfNat (nat_lit 181))) 0, Value.ref 12, Value.none, Value.none, Value.none, Value.none, Value.int (@OfNat.ofNat Int (nat_lit 185) (@instOfNat (nat_lit 185))) 0, Value.int (@OfNat.ofNat Int (nat_lit 1) (@instOfNat (nat_lit 1))) 0, Value.str (Str.ofString "/claim/cut.py") 186])) (@List.toArray (Option Value) [])
noncomputable def o_46 : Params → Obj := fun P => Obj.mk (Value.type "frame") none Data.plain (@List.toArray (Option Value) [(some (Value.ref 13)), (some (Value.ref 3)), (some (Value.ref 3)), none, (some (Value.str (Str.ofString "__main__") 164)), none, (some (Value.ref 0))])
noncomputable def o_49 : Params → Obj := fun P => Obj.mk (Value.type "dict") none (Data.dict (@List.toArray DictEntry [DictEntry.mk (PyData.keyHash P (Str.ofString "__name__")) (Value.str (Str.ofString "__name__") 165) (Value.str (Str.ofString "cpy313.zoneinfo._tzpath") 299), DictEntry.mk (PyData.keyHash P (Str.ofString "__doc__")) (Value.str (Str.ofString "__doc__") 166) Value.none, DictEntry.mk (PyData.keyHash P (Str.ofString "__package__")) (Value.str (Str.ofString "__package__") 167) Value.none, DictEntry.mk (PyData.keyHash P (Str.ofString "__loader__")) (Value.str (Str.ofString "__loader__") 168) (Value.builtin "__main__.__loader__#opaque"), DictEntry.mk (PyData.keyHash P (Str.ofString "__spec__")) (Value.str (Str.ofString "__spec__") 169) Value.none, DictEntry.mk (PyData.keyHash P (Str.ofString "__annotations__")) (Value.str (Str.ofString "__annotations__") 170) (Value.ref 6), DictEntry.mk (PyData.keyHash P (Str.ofString "__builtins__")) (Value.str (Str.ofString "__builtins__") 171) (Value.ref 4), DictEntry.mk (PyData.keyHash P (Str.ofString "__file__")) (Value.str (Str.ofString "__file__") 173) (Value.str (Str.ofString "/claim/cut.py") 172), DictEntry.mk (PyData.keyHash P (Str.ofString "__cached__")) (Value.str (Str.ofString "__cached__") 174) Value.none, DictEntry.mk (PyData.keyHash P (Str.ofString "_wall")) (Value.str (Str.ofString "_wall") 193) (Value.ref 21), DictEntry.mk (PyData.keyHash P (Str.ofString "pathsep")) (Value.str (Str.ofString "pathsep") 195) (Value.str (Str.ofString ":") 194), DictEntry.mk (PyData.keyHash P (Str.ofString "_kind")) (Value.str (Str.ofString "_kind") 206) (Value.ref 28), DictEntry.mk (PyData.keyHash P (Str.ofString "_fspath")) (Value.str (Str.ofString "_fspath") 215) (Value.ref 35), DictEntry.mk (PyData.keyHash P (Str.ofString "_check_arg_types")) (Value.str (Str.ofString "_check_arg_types") 225) (Value.ref 42), DictEntry.mk (PyData.keyHash P (Str.ofString "isabs")) (Value.str (Str.ofString "isabs") 232) (Value.ref 49), DictEntry.mk (PyData.keyHash P (Str.ofString "join")) (Value.str (Str.ofString "join") 243) (Value.ref 56), DictEntry.mk (PyData.keyHash P (Str.ofString "_c_path")) (Value.str (Str.ofString "_c_path") 256) (Value.ref 63), DictEntry.mk (PyData.keyHash P (Str.ofString "_splitroot")) (Value.str (Str.ofString "_splitroot") 265) (Value.ref 70), DictEntry.mk (PyData.keyHash P (Str.ofString "_normpath")) (Value.str (Str.ofString "_normpath") 280) (Value.ref 77), DictEntry.mk (PyData.keyHash P (Str.ofString "normpath")) (Value.str (Str.ofString "normpath") 288) (Value.ref 84), DictEntry.mk (PyData.keyHash P (Str.ofString "warn")) (Value.str (Str.ofString "warn") 298) (Value.ref 91)]) 21) (@List.toArray (Option Value) [])
noncomputable def o_50 : Params → Obj := fun P => Obj.mk Value.none none (Data.fields (@List.toArray Value [Value.int (@OfNat.ofNat Int (nat_lit 1) (@instOfNat (nat_lit 1))) 0, Value.int (@OfNat.ofNat Int (nat_lit 0) (@instOfNat (nat_lit 0))) 0, Value.ref 20, Value.int (@OfNat.ofNat Int (nat_lit 6) (@instOfNat (nat_lit 6))) 0, Value.int (@OfNat.ofNat Int (nat_lit 0) (@instOfNat (nat_lit 0))) 0, Value.ref 27, Value.int (@OfNat.ofNat Int (nat_lit 27) (@instOfNat (nat_lit 27))) 0, Value.int (@OfNat.ofNat Int (nat_lit 0) (@instOfNat (nat_lit 0))) 0, Value.ref 34, Value.int (@OfNat.ofNat Int (nat_lit 32) (@instOfNat (nat_lit 32))) 0, Value.int (@OfNat.ofNat Int (nat_lit 0) (@instOfNat (nat_lit 0))) 0, Value.ref 41, Value.int (@OfNat.ofNat Int (nat_lit 37) (@instOfNat (nat_lit 37))) 0, Value.int (@OfNat.ofNat Int (nat_lit 0) (@instOfNat (nat_lit 0))) 0, Value.ref 48, Value.int (@OfNat.ofNat Int (nat_lit 40) (@instOfNat (nat_lit 40))) 0, Value.int (@OfNat.ofNat Int (nat_lit 0) (@instOfNat (nat_lit 0))) 0, Value.ref 55, Value.int (@OfNat.ofNat Int (nat_lit 60) (@instOfNat (nat_lit 60))) 0, Value.int (@OfNat.ofNat Int (nat_lit 0) (@instOfNat (nat_lit 0))) 0, Value.ref 62, Value.int (@OfNat.ofNat Int (nat_lit 71) (@instOfNat (nat_lit 71))) 0, Value.int (@OfNat.ofNat Int (nat_lit 0) (@instOfNat (nat_lit 0))) 0, Value.ref 69, Value.int (@OfNat.ofNat Int (nat_lit 80) (@instOfNat (nat_lit 80))) 0, Value.int (@OfNat.ofNat Int (nat_lit 0) (@instOfNat (nat_lit 0))) 0, Value.ref 76, Value.int (@OfNat.ofNat Int (nat_lit 99) (@instOfNat (nat_lit 99))) 0, Value.int (@OfNat.ofNat Int (nat_lit 0) (@instOfNat (nat_lit 0))) 0, Value.ref 83, Value.int (@OfNat.ofNat Int (nat_lit 102) (@instOfNat (nat_lit 102))) 0, Value.int (@OfNat.ofNat Int (nat_lit 0) (@instOfNat (nat_lit 0))) 0, Value.ref 90])) (@List.toArray (Option Value) [])
noncomputable def o_52 : Params → Obj := fun P => Obj.mk Value.none none (Data.fields (@List.toArray Value [])) (@List.toArray (Option Value) [])
noncomputable def o_55 : Params → Obj := fun P => Obj.mk Value.none none (Data.func (FuncData.mk (Str.ofString "_wall") (Str.ofString "_wall") (paS 0) (FuncBody.stmts (bdS 0)) (scS 0) 0 [] Value.none Value.none Value.none Value.none none Value.none Value.none 0)) (@List.toArray (Option Value) [])
noncomputable def o_59 : Params → Obj := fun P => Obj.mk Value.none none (Data.fields (@List.toArray Value [])) (@List.toArray (Option Value) [])
noncomputable def o_62 : Params → Obj := fun P => Obj.mk Value.none none (Data.func (FuncData.mk (Str.ofString "_kind") (Str.ofString "_kind") (paS 3) (FuncBody.stmts (bdS 3)) (scS 3) 0 [] Value.none Value.none Value.none Value.none none Value.none Value.none 0)) (@List.toArray (Option Value) [])
noncomputable def o_66 : Params → Obj := fun P => Obj.mk Value.none none (Data.fields (@List.toArray Value [])) (@List.toArray (Option Value) [])
noncomputable def o_69 : Params → Obj := fun P => Obj.mk Value.none none (Data.func (FuncData.mk (Str.ofString "_fspath") (Str.ofString "_fspath") (paS 4) (FuncBody.stmts (bdS 4)) (scS 4) 0 [] Value.none Value.none Value.none Value.none none Value.none Value.none 0)) (@List.toArray (Option Value) [])
noncomputable def o_73 : Params → Obj := fun P => Obj.mk Value.none none (Data.fields (@List.toArray Value [])) (@List.toArray (Option Value) [])
noncomputable def o_76 : Params → Obj := fun P => Obj.mk Value.none none (Data.func (FuncData.mk (Str.ofString "_check_arg_types") (Str.ofString "_check_arg_types") (paS 5) (FuncBody.stmts (bdS 5)) (scS 5) 0 [] Value.none Value.none Value.none Value.none none Value.none Value.none 0)) (@List.toArray (Option Value) [])
noncomputable def o_80 : Params → Obj := fun P => Obj.mk Value.none none (Data.fields (@List.toArray Value [])) (@List.toArray (Option Value) [])
noncomputable def o_83 : Params → Obj := fun P => Obj.mk Value.none none (Data.func (FuncData.mk (Str.ofString "isabs") (Str.ofString "isabs") (paS 6) (FuncBody.stmts (bdS 6)) (scS 6) 0 [] Value.none Value.none Value.none Value.none none Value.none Value.none 0)) (@List.toArray (Option Value) [])
noncomputable def o_87 : Params → Obj := fun P => Obj.mk Value.none none (Data.fields (@List.toArray Value [])) (@List.toArray (Option Value) [])
noncomputable def o_90 : Params → Obj := fun P => Obj.mk Value.none none (Data.func (FuncData.mk (Str.ofString "join") (Str.ofString "join") (paS 7) (FuncBody.stmts (bdS 7)) (scS 7) 0 [] Value.none Value.none Value.none Value.none none Value.none Value.none 0)) (@List.toArray (Option Value) [])
noncomputable def o_94 : Params → Obj := fun P => Obj.mk Value.none none (Data.fields (@List.toArray Value [])) (@List.toArray (Option Value) [])
noncomputable def o_97 : Params → Obj := fun P => Obj.mk Value.none none (Data.func (FuncData.mk (Str.ofString "_c_path") (Str.ofString "_c_path") (paS 8) (FuncBody.stmts (bdS 8)) (scS 8) 0 [] Value.none Value.none Value.none Value.none none Value.none Value.none 0)) (@List.toArray (Option Value) [])
noncomputable def o_101 : Params → Obj := fun P => Obj.mk Value.none none (Data.fields (@List.toArray Value [])) (@List.toArray (Option Value) [])
noncomputable def o_104 : Params → Obj := fun P => Obj.mk Value.none none (Data.func (FuncData.mk (Str.ofString "_splitroot") (Str.ofString "_splitroot") (paS 9) (FuncBody.stmts (bdS 9)) (scS 9) 0 [] Value.none Value.none Value.none Value.none none Value.none Value.none 0)) (@List.toArray (Option Value) [])
noncomputable def o_108 : Params → Obj := fun P => Obj.mk Value.none none (Data.fields (@List.toArray Value [])) (@List.toArray (Option Value) [])
noncomputable def o_111 : Params → Obj := fun P => Obj.mk Value.none none (Data.func (FuncData.mk (Str.ofString "_normpath") (Str.ofString "_normpath") (paS 10) (FuncBody.stmts (bdS 10)) (scS 10) 0 [] Value.none Value.none Value.none Value.none none Value.none Value.none 0)) (@List.toArray (Option Value) [])
noncomputable def o_115 : Params → Obj := fun P => Obj.mk Value.none none (Data.fields (@List.toArray Value [])) (@List.toArray (Option Value) [])
noncomputable def o_118 : Params → Obj := fun P => Obj.mk Value.none none (Data.func (FuncData.mk (Str.ofString "normpath") (Str.ofString "normpath") (paS 11) (FuncBody.stmts (bdS 11)) (scS 11) 0 [] Value.none Value.none Value.none Value.none none Value.none Value.none 0)) (@List.toArray (Option Value) [])
noncomputable def o_122 : Params → Obj := fun P => Obj.mk Value.none none (Data.fields (@List.toArray Value [])) (@List.toArray (Option Value) [])
noncomputable def o_125 : Params → Obj := fun P => Obj.mk Value.none none (Data.func (FuncData.mk (Str.ofString "warn") (Str.ofString "warn") (paS 13) (FuncBody.stmts (bdS 13)) (scS 13) 0 [] Value.none Value.none Value.none Value.none none Value.none Value.none 0)) (@List.toArray (Option Value) [])
noncomputable def o_128 : Params → Obj := fun P => Obj.mk (Value.type "dict") none (Data.dict (@List.toArray DictEntry [DictEntry.mk (PyData.keyHash P (Str.ofString "__name__")) (Value.str (Str.ofString "__name__") 165) (Value.str (Str.ofString "cpy313.zoneinfo._tzpath") 299), DictEntry.mk (PyData.keyHash P (Str.ofString "__doc__")) (Value.str (Str.ofString "__doc__") 166) Value.none, DictEntry.mk (PyData.keyHash P (Str.ofString "__package__")) (Value.str (Str.ofString "__package__") 167) Value.none, DictEntry.mk (PyData.keyHash P (Str.ofString "__loader__")) (Value.str (Str.ofString "__loader__") 168) (Value.builtin "__main__.__loader__#opaque"), DictEntry.mk (PyData.keyHash P (Str.ofString "__spec__")) (Value.str (Str.ofString "__spec__") 169) Value.none, DictEntry.mk (PyData.keyHash P (Str.ofString "__annotations__")) (Value.str (Str.ofString "__annotations__") 170) (Value.ref 6), DictEntry.mk (PyData.keyHash P (Str.ofString "__builtins__")) (Value.str (Str.ofString "__builtins__") 171) (Value.ref 4), DictEntry.mk (PyData.keyHash P (Str.ofString "__file__")) (Value.str (Str.ofString "__file__") 173) (Value.str (Str.ofString "/claim/cut.py") 172), DictEntry.mk (PyData.keyHash P (Str.ofString "__cached__")) (Value.str (Str.ofString "__cached__") 174) Value.none, DictEntry.mk (PyData.keyHash P (Str.ofString "_wall")) (Value.str (Str.ofString "_wall") 193) (Value.ref 21), DictEntry.mk (PyData.keyHash P (Str.ofString "pathsep")) (Value.str (Str.ofString "pathsep") 195) (Value.str (Str.ofString ":") 194), DictEntry.mk (PyData.keyHash P (Str.ofString "_kind")) (Value.str (Str.ofString "_kind") 206) (Value.ref 28), DictEntry.mk (PyData.keyHash P (Str.ofString "_fspath")) (Value.str (Str.ofString "_fspath") 215) (Value.ref 35), DictEntry.mk (PyData.keyHash P (Str.ofString "_check_arg_types")) (Value.str (Str.ofString "_check_arg_types") 225) (Value.ref 42), DictEntry.mk (PyData.keyHash P (Str.ofString "isabs")) (Value.str (Str.ofString "isabs") 232) (Value.ref 49), DictEntry.mk (PyData.keyHash P (Str.ofString "join")) (Value.str (Str.ofString "join") 243) (Value.ref 56), DictEntry.mk (PyData.keyHash P (Str.ofString "_c_path")) (Value.str (Str.ofString "_c_path") 256) (Value.ref 63), DictEntry.mk (PyData.keyHash P (Str.ofString "_splitroot")) (Value.str (Str.ofString "_splitroot") 265) (Value.ref 70), DictEntry.mk (PyData.keyHash P (Str.ofString "_normpath")) (Value.str (Str.ofString "_normpath") 280) (Value.ref 77), DictEntry.mk (PyData.keyHash P (Str.ofString "normpath")) (Value.str (Str.ofString "normpath") 288) (Value.ref 84), DictEntry.mk (PyData.keyHash P (Str.ofString "warn")) (Value.str (Str.ofString "warn") 298) (Value.ref 91), DictEntry.mk (PyData.keyHash P (Str.ofString "_parse_python_tzpath")) (Value.str (Str.ofString "_parse_python_tzpath") 311) (Value.ref 98), DictEntry.mk (PyData.keyHash P (Str.ofString "_get_invalid_paths_message")) (Value.str (Str.ofString "_get_invalid_paths_message") 321) (Value.ref 105)]) 23) (@List.toArray (Option Value) [])
noncomputable def o_129 : Params → Obj := fun P => Obj.mk Value.none none (Data.fields (@List.toArray Value [Value.int (@OfNat.ofNat Int (nat_lit 1) (@instOfNat (nat_lit 1))) 0, Value.int (@OfNat.ofNat Int (nat_lit 0) (@instOfNat (nat_lit 0))) 0, Value.ref 20, Value.int (@OfNat.ofNat Int (nat_lit 6) (@instOfNat (nat_lit 6))) 0, Value.int (@OfNat.ofNat Int (nat_lit 0) (@instOfNat (nat_lit 0))) 0, Value.ref 27, Value.int (@OfNat.ofNat Int (nat_lit 27) (@instOfNat (nat_lit 27))) 0, Value.int (@OfNat.ofNat Int (nat_lit 0) (@instOfNat (nat_lit 0))) 0, Value.ref 34, Value.int (@OfNat.ofNat Int (nat_lit 32) (@instOfNat (nat_lit 32))) 0, Value.int (@OfNat.ofNat Int (nat_lit 0) (@instOfNat (nat_lit 0))) 0, Value.ref 41, Value.int (@OfNat.ofNat Int (nat_lit 37) (@instOfNat (nat_lit 37))) 0, Value.int (@OfNat.ofNat Int (nat_lit 0) (@instOfNat (nat_lit 0))) 0, Value.ref 48, Value.int (@OfNat.ofNat Int (nat_lit 40) (@instOfNat (nat_lit 40))) 0, Value.int (@OfNat.ofNat Int (nat_lit 0) (@instOfNat (nat_lit 0))) 0, Value.ref 55, Value.int (@OfNat.ofNat Int (nat_lit 60) (@instOfNat (nat_lit 60))) 0, Value.int (@OfNat.ofNat Int (nat_lit 0) (@instOfNat (nat_lit 0))) 0, Value.ref 62, Value.int (@OfNat.ofNat Int (nat_lit 71) (@instOfNat (nat_lit 71))) 0, Value.int (@OfNat.ofNat Int (nat_lit 0) (@instOfNat (nat_lit 0))) 0, Value.ref 69, Value.int (@OfNat.ofNat Int (nat_lit 80) (@instOfNat (nat_lit 80))) 0, Value.int (@OfNat.ofNat Int (nat_lit 0) (@instOfNat (nat_lit 0))) 0, Value.ref 76, Value.int (@OfNat.ofNat Int (nat_lit 99) (@instOfNat (nat_lit 99))) 0, Value.int (@OfNat.ofNat Int (nat_lit 0) (@instOfNat (nat_lit 0))) 0, Value.ref 83, Value.int (@OfNat.ofNat Int (nat_lit 102) (@instOfNat (nat_lit 102))) 0, Value.int (@OfNat.ofNat Int (nat_lit 0) (@instOfNat (nat_lit 0))) 0, Value.ref 90, Value.int (@OfNat.ofNat Int (nat_lit 105) (@instOfNat (nat_lit 105))) 0, Value.int (@OfNat.ofNat Int (nat_lit 0) (@instOfNat (nat_lit 0))) 0, Value.ref 97, Value.int (@OfNat.ofNat Int (nat_lit 115) (@instOfNat (nat_lit 115))) 0, Value.int (@OfNat.ofNat Int (nat_lit 0) (@instOfNat (nat_lit 0))) 0, Value.ref 104])) (@List.toArray (Option Value) [])
noncomputable def o_131 : Params → Obj := fun P => Obj.mk Value.none none (Data.fields (@List.toArray Value [])) (@List.toArray (Option Value) [])
noncomputable def o_134 : Params → Obj := fun P => Obj.mk Value.none none (Data.func (FuncData.mk (Str.ofString "_parse_python_tzpath") (Str.ofString "_parse_python_tzpath") (paS 15) (FuncBody.stmts (bdS 15)) (scS 15) 0 [] Value.none Value.none Value.none Value.none none Value.none Value.none 0)) (@List.toArray (Option Value) [])
noncomputable def o_138 : Params → Obj := fun P => Obj.mk Value.none none (Data.fields (@List.toArray Value [])) (@List.toArray (Option Value) [])
noncomputable def o_141 : Params → Obj := fun P => Obj.mk Value.none none (Data.func (FuncData.mk (Str.ofString "_get_invalid_paths_message") (Str.ofString "_get_invalid_paths_message") (paS 16) (FuncBody.stmts (bdS 16)) (scS 16) 0 [] Value.none Value.none Value.none Value.none none Value.none Value.none 0)) (@List.toArray (Option Value) [])
noncomputable def o_144 : Params → Obj := fun P => Obj.mk (Value.type "dict") none (Data.dict (@List.toArray DictEntry [DictEntry.mk (PyData.keyHash P (Str.ofString "__name__")) (Value.str (Str.ofString "__name__") 165) (Value.str (Str.ofString "cpy313.zoneinfo._tzpath") 299), DictEntry.mk (PyData.keyHash P (Str.ofString "__doc__")) (Value.str (Str.ofString "__doc__") 166) Value.none, DictEntry.mk (PyData.keyHash P (Str.ofString "__package__")) (Value.str (Str.ofString "__package__") 167) Value.none, DictEntry.mk (PyData.keyHash P (Str.ofString "__loader__")) (Value.str (Str.ofString "__loader__") 168) (Value.builtin "__main__.__loader__#opaque"), DictEntry.mk (PyData.keyHash P (Str.ofString "__spec__")) (Value.str (Str.ofString "__spec__") 169) Value.none, DictEntry.mk (PyData.keyHash P (Str.ofString "__annotations__")) (Value.str (Str.ofString "__annotations__") 170) (Value.ref 6), DictEntry.mk (PyData.keyHash P (Str.ofString "__builtins__")) (Value.str (Str.ofString "__builtins__") 171) (Value.ref 4), DictEntry.mk (PyData.keyHash P (Str.ofString "__file__")) (Value.str (Str.ofString "__file__") 173) (Value.str (Str.ofString "/claim/cut.py") 172), DictEntry.mk (PyData.keyHash P (Str.ofString "__cached__")) (Value.str (Str.ofString "__cached__") 174) Value.none, DictEntry.mk (PyData.keyHash P (Str.ofString "_wall")) (Value.str (Str.ofString "_wall") 193) (Value.ref 21), DictEntry.mk (PyData.keyHash P (Str.ofString "pathsep")) (Value.str (Str.ofString "pathsep") 195) (Value.str (Str.ofString ":") 194), DictEntry.mk (PyData.keyHash P (Str.ofString "_kind")) (Value.str (Str.ofString "_kind") 206) (Value.ref 28), DictEntry.mk (PyData.keyHash P (Str.ofString "_fspath")) (Value.str (Str.ofString "_fspath") 215) (Value.ref 35), DictEntry.mk (PyData.keyHash P (Str.ofString "_check_arg_types")) (Value.str (Str.ofString "_check_arg_types") 225) (Value.ref 42), DictEntry.mk (PyData.keyHash P (Str.ofString "isabs")) (Value.str (Str.ofString "isabs") 232) (Value.ref 49), DictEntry.mk (PyData.keyHash P (Str.ofString "join")) (Value.str (Str.ofString "join") 243) (Value.ref 56), DictEntry.mk (PyData.keyHash P (Str.ofString "_c_path")) (Value.str (Str.ofString "_c_path") 256) (Value.ref 63), DictEntry.mk (PyData.keyHash P (Str.ofString "_splitroot")) (Value.str (Str.ofString "_splitroot") 265) (Value.ref 70), DictEntry.mk (PyData.keyHash P (Str.ofString "_normpath")) (Value.str (Str.ofString "_normpath") 280) (Value.ref 77), DictEntry.mk (PyData.keyHash P (Str.ofString "normpath")) (Value.str (Str.ofString "normpath") 288) (Value.ref 84), DictEntry.mk (PyData.keyHash P (Str.ofString "warn")) (Value.str (Str.ofString "warn") 298) (Value.ref 91), DictEntry.mk (PyData.keyHash P (Str.ofString "_parse_python_tzpath")) (Value.str (Str.ofString "_parse_python_tzpath") 311) (Value.ref 98), DictEntry.mk (PyData.keyHash P (Str.ofString "_get_invalid_paths_message")) (Value.str (Str.ofString "_get_invalid_paths_message") 321) (Value.ref 105), DictEntry.mk (PyData.keyHash P (Str.ofString "_TEST_PATH")) (Value.str (Str.ofString "_TEST_PATH") 429) (Value.str (Str.ofString "_/") 428)]) 24) (@List.toArray (Option Value) [])
noncomputable def o_145 : Params → Obj := fun P => Obj.mk (Value.type "tuple") none (Data.seq (@List.toArray Value [Value.str (Str.ofString "_") 323]) 0) (@List.toArray (Option Value) [])
noncomputable def o_146 : Params → Obj := fun P => Obj.mk (Value.type "frame") none (Data.dict (@List.toArray DictEntry [DictEntry.mk (PyData.keyHash P (Str.ofString "a")) (Value.str (Str.ofString "a") 324) (Value.str (Str.ofString "_") 322), DictEntry.mk (PyData.keyHash P (Str.ofString "p")) (Value.str (Str.ofString "p") 325) (Value.ref 106), DictEntry.mk (PyData.keyHash P (Str.ofString "b")) (Value.str (Str.ofString "b") 331) (Value.str (Str.ofString "_") 323), DictEntry.mk (PyData.keyHash P (Str.ofString "sep")) (Value.str (Str.ofString "sep") 349) (Value.str (Str.ofString "/") 348), DictEntry.mk (PyData.keyHash P (Str.ofString "path")) (Value.str (Str.ofString "path") 350) (Value.str (Str.ofString "_/_") 366)]) 5) (@List.toArray (Option Value) [])
noncomputable def o_147 : Params → Obj := fun P => Obj.mk (Value.type "frame") none (Data.dict (@List.toArray DictEntry [DictEntry.mk (PyData.keyHash P (Str.ofString "name")) (Value.str (Str.ofString "name") 327) (Value.str (Str.ofString "join") 326), DictEntry.mk (PyData.keyHash P (Str.ofString "x")) (Value.str (Str.ofString "x") 328) (Value.str (Str.ofString "_") 322), DictEntry.mk (PyData.keyHash P (Str.ofString "t")) (Value.str (Str.ofString "t") 329) (Value.type "str")]) 3) (@List.toArray (Option Value) [])
noncomputable def o_148 : Params → Obj := fun P => Obj.mk (Value.type "tuple_iterator") none (Data.fields (@List.toArray Value [Value.none, Value.int (@OfNat.ofNat Int (nat_lit 1) (@instOfNat (nat_lit 1))) 0])) (@List.toArray (Option Value) [])
noncomputable def o_149 : Params → Obj := fun P => Obj.mk (Value.type "frame") none (Data.dict (@List.toArray DictEntry [DictEntry.mk (PyData.keyHash P (Str.ofString "name")) (Value.str (Str.ofString "name") 333) (Value.str (Str.ofString "join") 332), DictEntry.mk (PyData.keyHash P (Str.ofString "x")) (Value.str (Str.ofString "x") 334) (Value.str (Str.ofString "_") 323), DictEntry.mk (PyData.keyHash P (Str.ofString "t")) (Value.str (Str.ofString "t") 335) (Value.type "str")]) 3) (@List.toArray (Option Value) [])
noncomputable def o_151 : Params → Obj := fun P => Obj.mk (Value.type "StopIteration") none (Data.fields (@List.toArray Value [Value.ref 111, Value.none, Value.none, Value.none, Value.bool Bool.false, Value.none])) (@List.toArray (Option Value) [])
noncomputable def o_152 : Params → Obj := fun P => Obj.mk (Value.type "frame") none (Data.dict (@List.toArray DictEntry [DictEntry.mk (PyData.keyHash P (Str.ofString "name")) (Value.str (Str.ofString "name") 338) (Value.str (Str.ofString "join") 337), DictEntry.mk (PyData.keyHash P (Str.ofString "x")) (Value.str (Str.ofString "x") 339) (Value.str (Str.ofString "_") 322), DictEntry.mk (PyData.keyHash P (Str.ofString "k")) (Value.str (Str.ofString "k") 344) (Value.str (Str.ofString "") 343)]) 3) (@List.toArray (Option Value) [])
noncomputable def o_153 : Params → Obj := fun P => Obj.mk (Value.type "frame") none (Data.dict (@List.toArray DictEntry [DictEntry.mk (PyData.keyHash P (Str.ofString "name")) (Value.str (Str.ofString "name") 340) (Value.str (Str.ofString "join") 337), DictEntry.mk (PyData.keyHash P (Str.ofString "x")) (Value.str (Str.ofString "x") 341) (Value.str (Str.ofString "_") 322), DictEntry.mk (PyData.keyHash P (Str.ofString "t")) (Value.str (Str.ofString "t") 342) (Value.type "str")]) 3) (@List.toArray (Option Value) [])
noncomputable def o_154 : Params → Obj := fun P => Obj.mk (Value.type "tuple_iterator") none (Data.fields (@List.toArray Value [Value.none, Value.int (@OfNat.ofNat Int (nat_lit 1) (@instOfNat (nat_lit 1))) 0])) (@List.toArray (Option Value) [])
noncomputable def o_155 : Params → Obj := fun P => Obj.mk (Value.type "frame") none (Data.dict (@List.toArray DictEntry [DictEntry.mk (PyData.keyHash P (Str.ofString "name")) (Value.str (Str.ofString "name") 353) (Value.str (Str.ofString "join") 352), DictEntry.mk (PyData.keyHash P (Str.ofString "x")) (Value.str (Str.ofString "x") 354) (Value.str (Str.ofString "_") 323), DictEntry.mk (PyData.keyHash P (Str.ofString "k")) (Value.str (Str.ofString "k") 359) (Value.str (Str.ofString "") 358)]) 3) (@List.toArray (Option Value) [])
noncomputable def o_156 : Params → Obj := fun P => Obj.mk (Value.type "frame") none (Data.dict (@List.toArray DictEntry [DictEntry.mk (PyData.keyHash P (Str.ofString "name")) (Value.str (Str.ofString "name") 355) (Value.str (Str.ofString "join") 352), DictEntry.mk (PyData.keyHash P (Str.ofString "x")) (Value.str (Str.ofString "x") 356) (Value.str (Str.ofString "_") 323), DictEntry.mk (PyData.keyHash P (Str.ofString "t")) (Value.str (Str.ofString "t") 357) (Value.type "str")]) 3) (@List.toArray (Option Value) [])
noncomputable def o_158 : Params → Obj := fun P => Obj.mk (Value.type "StopIteration") none (Data.fields (@List.toArray Value [Value.ref 118, Value.none, Value.none, Value.none, Value.bool Bool.false, Value.none])) (@List.toArray (Option Value) [])
noncomputable def o_159 : Params → Obj := fun P => Obj.mk (Value.type "tuple") none (Data.seq (@List.toArray Value [Value.str (Str.ofString "_/_") 366]) 0) (@List.toArray (Option Value) [])
noncomputable def o_160 : Params → Obj := fun P => Obj.mk (Value.type "dict") none (Data.dict (@List.toArray DictEntry []) 0) (@List.toArray (Option Value) [])
noncomputable def o_161 : Params → Obj := fun P => Obj.mk (Value.type "frame") none (Data.dict (@List.toArray DictEntry [DictEntry.mk (PyData.keyHash P (Str.ofString "args")) (Value.str (Str.ofString "args") 368) (Value.ref 120), DictEntry.mk (PyData.keyHash P (Str.ofString "kwargs")) (Value.str (Str.ofString "kwargs") 369) (Value.ref 121)]) 2) (@List.toArray (Option Value) [])
noncomputable def o_162 : Params → Obj := fun P => Obj.mk (Value.type "frame") none (Data.dict (@List.toArray DictEntry [DictEntry.mk (PyData.keyHash P (Str.ofString "name")) (Value.str (Str.ofString "name") 373) (Value.str (Str.ofString "normpath") 370), DictEntry.mk (PyData.keyHash P (Str.ofString "cname")) (Value.str (Str.ofString "cname") 374) (Value.str (Str.ofString "_path_normpath") 371), DictEntry.mk (PyData.keyHash P (Str.ofString "argname")) (Value.str (Str.ofString "argname") 375) (Value.str (Str.ofString "path") 372), DictEntry.mk (PyData.keyHash P (Str.ofString "args")) (Value.str (Str.ofString "args") 376) (Value.ref 120), DictEntry.mk (PyData.keyHash P (Str.ofString "kwargs")) (Value.str (Str.ofString "kwargs") 377) (Value.ref 121), DictEntry.mk (PyData.keyHash P (Str.ofString "x")) (Value.str (Str.ofString "x") 384) (Value.str (Str.ofString "_/_") 366), DictEntry.mk (PyData.keyHash P (Str.ofString "k")) (Value.str (Str.ofString "k") 389) (Value.str (Str.ofString "") 388)]) 7) (@List.toArray (Option Value) [])
noncomputable def o_163 : Params → Obj := fun P => Obj.mk (Value.type "frame") none (Data.dict (@List.toArray DictEntry [DictEntry.mk (PyData.keyHash P (Str.ofString "name")) (Value.str (Str.ofString "name") 385) (Value.str (Str.ofString "normpath") 370), DictEntry.mk (PyData.keyHash P (Str.ofString "x")) (Value.str (Str.ofString "x") 386) (Value.str (Str.ofString "_/_") 366), DictEntry.mk (PyData.keyHash P (Str.ofString "t")) (Value.str (Str.ofString "t") 387) (Value.type "str")]) 3) (@List.toArray (Option Value) [])
noncomputable def o_164 : Params → Obj := fun P => Obj.mk (Value.type "frame") none (Data.dict (@List.toArray DictEntry [DictEntry.mk (PyData.keyHash P (Str.ofString "path")) (Value.str (Str.ofString "path") 392) (Value.str (Str.ofString "_/_") 422), DictEntry.mk (PyData.keyHash P (Str.ofString "sep")) (Value.str (Str.ofString "sep") 394) (Value.str (Str.ofString "/") 393), DictEntry.mk (PyData.keyHash P (Str.ofString "dot")) (Value.str (Str.ofString "dot") 396) (Value.str (Str.ofString ".") 395), DictEntry.mk (PyData.keyHash P (Str.ofString "dotdot")) (Value.str (Str.ofString "dotdot") 398) (Value.str (Str.ofString "..") 397), DictEntry.mk (PyData.keyHash P (Str.ofString "_")) (Value.str (Str.ofString "_") 408) (Value.str (Str.ofString "") 404), DictEntry.mk (PyData.keyHash P (Str.ofString "initial_slashes")) (Value.str (Str.ofString "initial_slashes") 409) (Value.str (Str.ofString "") 404), DictEntry.mk (PyData.keyHash P (Str.ofString "comps")) (Value.str (Str.ofString "comps") 413) (Value.ref 133), DictEntry.mk (PyData.keyHash P (Str.ofString "new_comps")) (Value.str (Str.ofString "new_comps") 414) (Value.ref 133), DictEntry.mk (PyData.keyHash P (Str.ofString "comp")) (Value.str (Str.ofString "comp") 415) (Value.str (Str.ofString "_") 412)]) 9) (@List.toArray (Option Value) [])
noncomputable def o_165 : Params → Obj := fun P => Obj.mk (Value.type "frame") none (Data.dict (@List.toArray DictEntry [DictEntry.mk (PyData.keyHash P (Str.ofString "p")) (Value.str (Str.ofString "p") 401) (Value.str (Str.ofString "_/_") 366), DictEntry.mk (PyData.keyHash P (Str.ofString "sep")) (Value.str (Str.ofString "sep") 403) (Value.str (Str.ofString "/") 402), DictEntry.mk (PyData.keyHash P (Str.ofString "empty")) (Value.str (Str.ofString "empty") 405) (Value.str (Str.ofString "") 404)]) 3) (@List.toArray (Option Value) [])
noncomputable def o_166 : Params → Obj := fun P => Obj.mk (Value.type "slice") none (Data.fields (@List.toArray Value [Value.none, Value.int (@OfNat.ofNat Int (nat_lit 1) (@instOfNat (nat_lit 1))) 406, Value.none])) (@List.toArray (Option Value) [])
noncomputable def o_167 : Params → Obj := fun P => Obj.mk (Value.type "tuple") none (Data.seq (@List.toArray Value [Value.str (Str.ofString "") 404, Value.str (Str.ofString "") 404, Value.str (Str.ofString "_/_") 366]) 0) (@List.toArray (Option Value) [])
noncomputable def o_168 : Params → Obj := fun P => Obj.mk (Value.type "tuple_iterator") none (Data.fields (@List.toArray Value [Value.none, Value.int (@OfNat.ofNat Int (nat_lit 3) (@instOfNat (nat_lit 3))) 0])) (@List.toArray (Option Value) [])
noncomputable def o_170 : Params → Obj := fun P => Obj.mk (Value.type "StopIteration") none (Data.fields (@List.toArray Value [Value.ref 130, Value.none, Value.none, Value.none, Value.bool Bool.false, Value.none])) (@List.toArray (Option Value) [])
noncomputable def o_171 : Params → Obj := fun P => Obj.mk (Value.type "list") none (Data.seq (@List.toArray Value [Value.str (Str.ofString "_") 411, Value.str (Str.ofString "_") 412]) 0) (@List.toArray (Option Value) [])
noncomputable def o_172 : Params → Obj := fun P => Obj.mk (Value.type "list") none (Data.seq (@List.toArray Value [Value.str (Str.ofString "_") 411, Value.str (Str.ofString "_") 412]) 2) (@List.toArray (Option Value) [])
noncomputable def o_173 : Params → Obj := fun P => Obj.mk (Value.type "list_iterator") none (Data.fields (@List.toArray Value [Value.none, Value.int (@OfNat.ofNat Int (nat_lit 2) (@instOfNat (nat_lit 2))) 0])) (@List.toArray (Option Value) [])
noncomputable def o_175 : Params → Obj := fun P => Obj.mk (Value.type "StopIteration") none (Data.fields (@List.toArray Value [Value.ref 135, Value.none, Value.none, Value.none, Value.bool Bool.false, Value.none])) (@List.toArray (Option Value) [])
noncomputable def o_176 : Params → Obj := fun P => Obj.mk (Value.type "slice") none (Data.fields (@List.toArray Value [Value.none, Value.int (@Neg.neg Int Int.instNegInt (@OfNat.ofNat Int (nat_lit 1) (@instOfNat (nat_lit 1)))) 427, Value.none])) (@List.toArray (Option Value) [])
noncomputable def o_217 : Params → Obj := fun P => Obj.mk Value.none none (Data.fields (@List.toArray Value [Value.int (@OfNat.ofNat Int (nat_lit 1) (@instOfNat (nat_lit 1))) 0, Value.int (@OfNat.ofNat Int (nat_lit 0) (@instOfNat (nat_lit 0))) 0, Value.ref 20, Value.int (@OfNat.ofNat Int (nat_lit 6) (@instOfNat (nat_lit 6))) 0, Value.int (@OfNat.ofNat Int (nat_lit 0) (@instOfNat (nat_lit 0))) 0, Value.ref 27, Value.int (@OfNat.ofNat Int (nat_lit 27) (@instOfNat (nat_lit 27))) 0, Value.int (@OfNat.ofNat Int (nat_lit 0) (@instOfNat (nat_lit 0))) 0, Value.ref 34, Value.int (@OfNat.ofNat Int (nat_lit 32) (@instOfNat (nat_lit 32))) 0, Value.int (@OfNat.ofNat Int (nat_lit 0) (@instOfNat (nat_lit 0))) 0, Value.ref 41, Value.int (@OfNat.ofNat Int (nat_lit 37) (@instOfNat (nat_lit 37))) 0, Value.int (@OfNat.ofNat Int (nat_lit 0) (@instOfNat (nat_lit 0))) 0, Value.ref 48, Value.int (@OfNat.ofNat Int (nat_lit 40) (@instOfNat (nat_lit 40))) 0, Value.int (@OfNat.ofNat Int (nat_lit 0) (@instOfNat (nat_lit 0))) 0, Value.ref 55, Value.int (@OfNat.ofNat Int (nat_lit 60) (@instOfNat (nat_lit 60))) 0, Value.int (@OfNat.ofNat Int (nat_lit 0) (@instOfNat (nat_lit 0))) 0, Value.ref 62, Value.int (@OfNat.ofNat Int (nat_lit 71) (@instOfNat (nat_lit 71))) 0, Value.int (@OfNat.ofNat Int (nat_lit 0) (@instOfNat (nat_lit 0))) 0, Value.ref 69, Value.int (@OfNat.ofNat Int (nat_lit 80) (@instOfNat (nat_lit 80))) 0, Value.int (@OfNat.ofNat Int (nat_lit 0) (@instOfNat (nat_lit 0))) 0, Value.ref 76, Value.int (@OfNat.ofNat Int (nat_lit 99) (@instOfNat (nat_lit 99))) 0, Value.int (@OfNat.ofNat Int (nat_lit 0) (@instOfNat (nat_lit 0))) 0, Value.ref 83, Value.int (@OfNat.ofNat Int (nat_lit 102) (@instOfNat (nat_lit 102))) 0, Value.int (@OfNat.ofNat Int (nat_lit 0) (@instOfNat (nat_lit 0))) 0, Value.ref 90, Value.int (@OfNat.ofNat Int (nat_lit 105) (@instOfNat (nat_lit 105))) 0, Value.int (@OfNat.ofNat Int (nat_lit 0) (@instOfNat (nat_lit 0))) 0, Value.ref 97, Value.int (@OfNat.ofNat Int (nat_lit 115) (@instOfNat (nat_lit 115))) 0, Value.int (@OfNat.ofNat Int (nat_lit 0) (@instOfNat (nat_lit 0))) 0, Value.ref 104, Value.int (@OfNat.ofNat Int (nat_lit 121) (@instOfNat (nat_lit 121))) 0, Value.int (@OfNat.ofNat Int (nat_lit 0) (@instOfNat (nat_lit 0))) 0, Value.ref 144, Value.int (@OfNat.ofNat Int (nat_lit 131) (@instOfNat (nat_lit 131))) 0, Value.int (@OfNat.ofNat Int (nat_lit 0) (@instOfNat (nat_lit 0))) 0, Value.ref 151, Value.int (@OfNat.ofNat Int (nat_lit 134) (@instOfNat (nat_lit 134))) 0, Value.int (@OfNat.ofNat Int (nat_lit 0) (@instOfNat (nat_lit 0))) 0, Value.ref 164, Value.int (@OfNat.ofNat Int (nat_lit 144) (@instOfNat (nat_lit 144))) 0, Value.int (@OfNat.ofNat Int (nat_lit 0) (@instOfNat (nat_lit 0))) 0, Value.ref 171, Value.int (@OfNat.ofNat Int (nat_lit 146) (@instOfNat (nat_lit 146))) 0, Value.int (@OfNat.ofNat Int (nat_lit 0) (@instOfNat (nat_lit 0))) 0, Value.ref 178, Value.int (@OfNat.ofNat Int (nat_lit 163) (@instOfNat (nat_lit 163))) 0, Value.int (@OfNat.ofNat Int (nat_lit 0) (@instOfNat (nat_lit 0))) 0, Value.ref 185, Value.int (@OfNat.ofNat Int (nat_lit 170) (@instOfNat (nat_lit 170))) 0, Value.int (@OfNat.ofNat Int (nat_lit 0) (@instOfNat (nat_lit 0))) 0, Value.ref 190])) (@List.toArray (Option Value) [])
noncomputable def o_220 : Params → Obj := fun P => Obj.mk Value.none none (Data.fields (@List.toArray Value [])) (@List.toArray (Option Value) [])
noncomputable def o_223 : Params → Obj := fun P => Obj.mk Value.none none (Data.func (FuncData.mk (Str.ofString "_validate_tzfile_path") (Str.ofString "_validate_tzfile_path") (paS 18) (FuncBody.stmts (bdS 18)) (scS 18) 0 [] Value.none Value.none Value.none Value.none none Value.none Value.none 0)) (@List.toArray (Option Value) [])
noncomputable def o_227 : Params → Obj := fun P => Obj.mk (Value.type "builtin_function_or_method") none (Data.fields (@List.toArray Value [Value.builtin "type.__prepare__", Value.type "type"])) (@List.toArray (Option Value) [])
noncomputable def o_228 : Params → Obj := fun P => Obj.mk (Value.type "dict") none (Data.dict (@List.toArray DictEntry [DictEntry.mk (PyData.keyHash P (Str.ofString "__module__")) (Value.str (Str.ofString "__module__") 447) (Value.str (Str.ofString "cpy313.zoneinfo._tzpath") 299), DictEntry.mk (PyData.keyHash P (Str.ofString "__qualname__")) (Value.str (Str.ofString "__qualname__") 449) (Value.str (Str.ofString "InvalidTZPathWarning") 448), DictEntry.mk (PyData.keyHash P (Str.ofString "__firstlineno__")) (Value.str (Str.ofString "__firstlineno__") 451) (Value.int (@OfNat.ofNat Int (nat_lit 131) (@instOfNat (nat_lit 131))) 450), DictEntry.mk (PyData.keyHash P (Str.ofString "__static_attributes__")) (Value.str (Str.ofString "__static_attributes__") 452) (Value.ref 153)]) 4) (@List.toArray (Option Value) [])
noncomputable def o_230 : Params → Obj := fun P => Obj.mk Value.none none (Data.fields (@List.toArray Value [])) (@List.toArray (Option Value) [])
noncomputable def o_231 : Params → Obj := fun P => Obj.mk (Value.type "code") none (Data.fields (@List.toArray Value [Value.str (Str.ofString "InvalidTZPathWarning") 442, Value.str (Str.ofString "InvalidTZPathWarning") 443, Value.str (Str.ofString "/claim/cut.py") 444, Value.int (@OfNat.ofNat Int (nat_lit 131) (@instOfNat (nat_lit 131))) 0, Value.int (@OfNat.ofNat Int (nat_lit 0) (@instOfNat (nat_lit 0))) 0, Value.int (@OfNat.ofNat Int (nat_lit 0) (@instOfNat (nat_lit 0))) 0, Value.int (@OfNat.ofNat Int (nat_lit 0) (@instOfNat (nat_lit 0))) 0, Value.int (@OfNat.ofNat Int (nat_lit 0) (@instOfNat (nat_lit 0))) 0, Value.ref 149, Value.bool Bool.false, Value.int (@OfNat.ofNat Int (nat_lit 181) (@instOfNat (nat_lit 181))) 0, Value.ref 150, Value.none, Value.none, Value.none, Value.none, Value.int (@OfNat.ofNat Int (nat_lit 445) (@instOfNat (nat_lit 445))) 0, Value.int (@OfNat.ofNat Int (nat_lit 131) (@instOfNat (nat_lit 131))) 0, Value.str (Str.ofString "/claim/cut.py") 446])) (@List.toArray (Option Value) [])
noncomputable def o_232 : Params → Obj := fun P => Obj.mk (Value.type "frame") none Data.plain (@List.toArray (Option Value) [(some (Value.ref 151)), (some (Value.ref 3)), (some (Value.ref 148)), none, (some (Value.str (Str.ofString "cpy313.zoneinfo._tzpath") 299)), none, (some (Value.ref 0))])
noncomputable def o_237 : Params → Obj := fun P => Obj.mk (Value.type "super") none (Data.fields (@List.toArray Value [Value.ref 155, Value.ref 155, Value.ref 155])) (@List.toArray (Option Value) [])
noncomputable def o_238 : Params → Obj := fun P => Obj.mk (Value.type "builtin_function_or_method") none (Data.fields (@List.toArray Value [Value.builtin "object.__init_subclass__", Value.ref 155])) (@List.toArray (Option Value) [])
noncomputable def o_240 : Params → Obj := fun P => Obj.mk Value.none none (Data.fields (@List.toArray Value [])) (@List.toArray (Option Value) [])
noncomputable def o_243 : Params → Obj := fun P => Obj.mk Value.none none (Data.func (FuncData.mk (Str.ofString "_law_pieces") (Str.ofString "_law_pieces") (paS 22) (FuncBody.stmts (bdS 22)) (scS 22) 0 [] Value.none Value.none Value.none Value.none none Value.none Value.none 0)) (@List.toArray (Option Value) [])
noncomputable def o_247 : Params → Obj := fun P => Obj.mk Value.none none (Data.fields (@List.toArray Value [])) (@List.toArray (Option Value) [])
noncomputable def o_250 : Params → Obj := fun P => Obj.mk Value.none none (Data.func (FuncData.mk (Str.ofString "_law_rooted") (Str.ofString "_law_rooted") (paS 23) (FuncBody.stmts (bdS 23)) (scS 23) 0 [] Value.none Value.none Value.none Value.none none Value.none Value.none 0)) (@List.toArray (Option Value) [])
noncomputable def o_254 : Params → Obj := fun P => Obj.mk Value.none none (Data.fields (@List.toArray Value [])) (@List.toArray (Option Value) [])
noncomputable def o_257 : Params → Obj := fun P => Obj.mk Value.none none (Data.func (FuncData.mk (Str.ofString "_law_due") (Str.ofString "_law_due") (paS 24) (FuncBody.stmts (bdS 24)) (scS 24) 0 [] Value.none Value.none Value.none Value.none none Value.none Value.none 0)) (@List.toArray (Option Value) [])
noncomputable def o_261 : Params → Obj := fun P => Obj.mk Value.none none (Data.fields (@List.toArray Value [])) (@List.toArray (Option Value) [])
noncomputable def o_264 : Params → Obj := fun P => Obj.mk Value.none none (Data.func (FuncData.mk (Str.ofString "_law_done") (Str.ofString "_law_done") (paS 25) (FuncBody.stmts (bdS 25)) (scS 25) 0 [] Value.none Value.none Value.none Value.none none Value.none Value.none 0)) (@List.toArray (Option Value) [])
noncomputable def o_268 : Params → Obj := fun P => Obj.mk Value.none none (Data.fields (@List.toArray Value [])) (@List.toArray (Option Value) [])
noncomputable def o_269 : Params → Obj := fun P => Obj.mk Value.none none (Data.func (FuncData.mk (Str.ofString "law") (Str.ofString "law") (paS 26) (FuncBody.stmts (bdS 26)) (scS 26) 0 [] Value.none Value.none Value.none Value.none none Value.none Value.none 0)) (@List.toArray (Option Value) [])
noncomputable def heap_46 : Params → Heap := fun P => Heap.mk (Array.mk [boot_o_0 P, boot_o_1 P, boot_o_2 P, boot_o_3 P, boot_o_4 P, boot_o_5 P, boot_o_6 P, boot_o_7 P, boot_o_8 P, boot_o_9 P, boot_o_10 P, kGet P (nat_lit 187), o_44 P, o_45 P, o_46 P]) (Life.mk [] [] [] 0 [] [] Bool.false (@List.toArray Nat []) [] 0 Bool.false Bool.false Bool.false (@OfNat.ofNat Int (nat_lit 0) (@instOfNat (nat_lit 0))) [@OfNat.ofNat Int (nat_lit 2000) (@instOfNat (nat_lit 2000)), @OfNat.ofNat Int (nat_lit 10) (@instOfNat (nat_lit 10)), @OfNat.ofNat Int (nat_lit 10) (@instOfNat (nat_lit 10))] Bool.false 0 Bool.true [] [] 0 Bool.false)
noncomputable def tree_47 : Params → BT := fun P => BT.node (boot_o_0 P) (BT.node (boot_o_1 P) (BT.node (boot_o_3 P) (BT.node (boot_o_7 P) BT.nil BT.nil) (BT.node (kGet P (nat_lit 187)) BT.nil BT.nil)) (BT.node (boot_o_5 P) (BT.node (boot_o_9 P) BT.nil BT.nil) (BT.node (o_45 P) BT.nil BT.nil))) (BT.node (boot_o_2 P) (BT.node (boot_o_4 P) (BT.node (boot_o_8 P) BT.nil BT.nil) (BT.node (o_44 P) BT.nil BT.nil)) (BT.node (boot_o_6 P) (BT.node (boot_o_10 P) BT.nil BT.nil) (BT.node (o_46 P) BT.nil BT.nil)))
noncomputable def tree_127 : Params → BT := fun P => BT.node (boot_o_0 P) (BT.node (boot_o_1 P) (BT.node (o_49 P) (BT.node (boot_o_7 P) (BT.node (kGet P (nat_lit 187)) (BT.node (kGet P (nat_lit 31)) (BT.node (kGet P (nat_lit 63)) BT.nil BT.nil) BT.nil) (BT.node (o_83 P) (BT.node (o_115 P) BT.nil BT.nil) BT.nil)) (BT.node (o_59 P) (BT.node (kGet P (nat_lit 187)) (BT.node (kGet P (nat_lit 187)) BT.nil BT.nil) BT.nil) (BT.node (kGet P (nat_lit 55)) (BT.node (kGet P (nat_lit 87)) BT.nil BT.nil) BT.nil))) (BT.node (kGet P (nat_lit 187)) (BT.node (o_55 P) (BT.node (kGet P (nat_lit 35)) (BT.node (kGet P (nat_lit 187)) BT.nil BT.nil) BT.nil) (BT.node (o_87 P) (BT.node (kGet P (nat_lit 83)) BT.nil BT.nil) BT.nil)) (BT.node (kGet P (nat_lit 27)) (BT.node (kGet P (nat_lit 187)) (BT.node (o_111 P) BT.nil BT.nil) BT.nil) (BT.node (kGet P (nat_lit 59)) (BT.node (kGet P (nat_lit 91)) BT.nil BT.nil) BT.nil)))) (BT.node (boot_o_5 P) (BT.node (boot_o_9 P) (BT.node (kGet P (nat_lit 17)) (BT.node (o_69 P) (BT.node (o_101 P) BT.nil BT.nil) BT.nil) (BT.node (kGet P (nat_lit 49)) (BT.node (kGet P (nat_lit 187)) BT.nil BT.nil) BT.nil)) (BT.node (kGet P (nat_lit 187)) (BT.node (kGet P (nat_lit 41)) (BT.node (kGet P (nat_lit 73)) BT.nil BT.nil) BT.nil) (BT.node (kGet P (nat_lit 187)) (BT.node (o_125 P) BT.nil BT.nil) BT.nil))) (BT.node (o_45 P) (BT.node (kGet P (nat_lit 21)) (BT.node (o_73 P) (BT.node (kGet P (nat_lit 69)) BT.nil BT.nil) BT.nil) (BT.node (kGet P (nat_lit 187)) (BT.node (kGet P (nat_lit 187)) BT.nil BT.nil) BT.nil)) (BT.node (kGet P (nat_lit 187)) (BT.node (kGet P (nat_lit 45)) (BT.node (kGet P (nat_lit 77)) BT.nil BT.nil) BT.nil) (BT.node (o_97 P) BT.nil BT.nil))))) (BT.node (boot_o_2 P) (BT.node (boot_o_4 P) (BT.node (boot_o_8 P) (BT.node (o_52 P) (BT.node (kGet P (nat_lit 187)) (BT.node (kGet P (nat_lit 187)) BT.nil BT.nil) BT.nil) (BT.node (kGet P (nat_lit 48)) (BT.node (kGet P (nat_lit 80)) BT.nil BT.nil) BT.nil)) (BT.node (kGet P (nat_lit 24)) (BT.node (o_76 P) (BT.node (o_108 P) BT.nil BT.nil) BT.nil) (BT.node (kGet P (nat_lit 56)) (BT.node (kGet P (nat_lit 187)) BT.nil BT.nil) BT.nil))) (BT.node (o_50 P) (BT.node (kGet P (nat_lit 20)) (BT.node (kGet P (nat_lit 187)) (BT.node (o_104 P) BT.nil BT.nil) BT.nil) (BT.node (kGet P (nat_lit 52)) (BT.node (kGet P (nat_lit 84)) BT.nil BT.nil) BT.nil)) (BT.node (kGet P (nat_lit 28)) (BT.node (o_80 P) (BT.node (kGet P (nat_lit 76)) BT.nil BT.nil) BT.nil) (BT.node (kGet P (nat_lit 187)) BT.nil BT.nil)))) (BT.node (boot_o_6 P) (BT.node (boot_o_10 P) (BT.node (kGet P (nat_lit 187)) (BT.node (kGet P (nat_lit 34)) (BT.node (kGet P (nat_lit 66)) BT.nil BT.nil) BT.nil) (BT.node (kGet P (nat_lit 187)) (BT.node (o_118 P) BT.nil BT.nil) BT.nil)) (BT.node (o_62 P) (BT.node (kGet P (nat_lit 42)) (BT.node (kGet P (nat_lit 187)) BT.nil BT.nil) BT.nil) (BT.node (o_94 P) (BT.node (kGet P (nat_lit 90)) BT.nil BT.nil) BT.nil))) (BT.node (o_46 P) (BT.node (kGet P (nat_lit 187)) (BT.node (kGet P (nat_lit 38)) (BT.node (kGet P (nat_lit 70)) BT.nil BT.nil) BT.nil) (BT.node (o_90 P) (BT.node (o_122 P) BT.nil BT.nil) BT.nil)) (BT.node (o_66 P) (BT.node (kGet P (nat_lit 187)) (BT.node (kGet P (nat_lit 187)) BT.nil BT.nil) BT.nil) (BT.node (kGet P (nat_lit 62)) BT.nil BT.nil)))))
noncomputable def tree_143 : Params → BT := fun P => BT.node (boot_o_0 P) (BT.node (boot_o_1 P) (BT.node (o_128 P) (BT.node (boot_o_7 P) (BT.node (kGet P (nat_lit 187)) (BT.node (kGet P (nat_lit 31)) (BT.node (kGet P (nat_lit 63)) BT.nil BT.nil) (BT.node (kGet P (nat_lit 187)) BT.nil BT.nil)) (BT.node (o_83 P) (BT.node (o_115 P) BT.nil BT.nil) BT.nil)) (BT.node (o_59 P) (BT.node (kGet P (nat_lit 187)) (BT.node (kGet P (nat_lit 187)) BT.nil BT.nil) (BT.node (o_141 P) BT.nil BT.nil)) (BT.node (kGet P (nat_lit 55)) (BT.node (kGet P (nat_lit 87)) BT.nil BT.nil) BT.nil))) (BT.node (kGet P (nat_lit 187)) (BT.node (o_55 P) (BT.node (kGet P (nat_lit 35)) (BT.node (kGet P (nat_lit 187)) BT.nil BT.nil) (BT.node (kGet P (nat_lit 187)) BT.nil BT.nil)) (BT.node (o_87 P) (BT.node (kGet P (nat_lit 83)) BT.nil BT.nil) BT.nil)) (BT.node (kGet P (nat_lit 27)) (BT.node (kGet P (nat_lit 187)) (BT.node (o_111 P) BT.nil BT.nil) BT.nil) (BT.node (kGet P (nat_lit 59)) (BT.node (kGet P (nat_lit 91)) BT.nil BT.nil) BT.nil)))) (BT.node (boot_o_5 P) (BT.node (boot_o_9 P) (BT.node (kGet P (nat_lit 17)) (BT.node (o_69 P) (BT.node (o_101 P) BT.nil BT.nil) (BT.node (kGet P (nat_lit 97)) BT.nil BT.nil)) (BT.node (kGet P (nat_lit 49)) (BT.node (kGet P (nat_lit 187)) BT.nil BT.nil) BT.nil)) (BT.node (kGet P (nat_lit 187)) (BT.node (kGet P (nat_lit 41)) (BT.node (kGet P (nat_lit 73)) BT.nil BT.nil) (BT.node (kGet P (nat_lit 105)) BT.nil BT.nil)) (BT.node (kGet P (nat_lit 187)) (BT.node (o_125 P) BT.nil BT.nil) BT.nil))) (BT.node (o_45 P) (BT.node (kGet P (nat_lit 21)) (BT.node (o_73 P) (BT.node (kGet P (nat_lit 69)) BT.nil BT.nil) (BT.node (kGet P (nat_lit 101)) BT.nil BT.nil)) (BT.node (kGet P (nat_lit 187)) (BT.node (kGet P (nat_lit 187)) BT.nil BT.nil) BT.nil)) (BT.node (kGet P (nat_lit 187)) (BT.node (kGet P (nat_lit 45)) (BT.node (kGet P (nat_lit 77)) BT.nil BT.nil) BT.nil) (BT.node (o_97 P) (BT.node (o_131 P) BT.nil BT.nil) BT.nil))))) (BT.node (boot_o_2 P) (BT.node (boot_o_4 P) (BT.node (boot_o_8 P) (BT.node (o_52 P) (BT.node (kGet P (nat_lit 187)) (BT.node (kGet P (nat_lit 187)) BT.nil BT.nil) (BT.node (o_134 P) BT.nil BT.nil)) (BT.node (kGet P (nat_lit 48)) (BT.node (kGet P (nat_lit 80)) BT.nil BT.nil) BT.nil)) (BT.node (kGet P (nat_lit 24)) (BT.node (o_76 P) (BT.node (o_108 P) BT.nil BT.nil) (BT.node (kGet P (nat_lit 104)) BT.nil BT.nil)) (BT.node (kGet P (nat_lit 56)) (BT.node (kGet P (nat_lit 187)) BT.nil BT.nil) BT.nil))) (BT.node (o_129 P) (BT.node (kGet P (nat_lit 20)) (BT.node (kGet P (nat_lit 187)) (BT.node (o_104 P) BT.nil BT.nil) (BT.node (o_138 P) BT.nil BT.nil)) (BT.node (kGet P (nat_lit 52)) (BT.node (kGet P (nat_lit 84)) BT.nil BT.nil) BT.nil)) (BT.node (kGet P (nat_lit 28)) (BT.node (o_80 P) (BT.node (kGet P (nat_lit 76)) BT.nil BT.nil) BT.nil) (BT.node (kGet P (nat_lit 187)) (BT.node (kGet P (nat_lit 187)) BT.nil BT.nil) BT.nil)))) (BT.node (boot_o_6 P) (BT.node (boot_o_10 P) (BT.node (kGet P (nat_lit 187)) (BT.node (kGet P (nat_lit 34)) (BT.node (kGet P (nat_lit 66)) BT.nil BT.nil) (BT.node (kGet P (nat_lit 98)) BT.nil BT.nil)) (BT.node (kGet P (nat_lit 187)) (BT.node (o_118 P) BT.nil BT.nil) BT.nil)) (BT.node (o_62 P) (BT.node (kGet P (nat_lit 42)) (BT.node (kGet P (nat_lit 187)) BT.nil BT.nil) BT.nil) (BT.node (o_94 P) (BT.node (kGet P (nat_lit 90)) BT.nil BT.nil) BT.nil))) (BT.node (o_46 P) (BT.node (kGet P (nat_lit 187)) (BT.node (kGet P (nat_lit 38)) (BT.node (kGet P (nat_lit 70)) BT.nil BT.nil) (BT.node (kGet P (nat_lit 187)) BT.nil BT.nil)) (BT.node (o_90 P) (BT.node (o_122 P) BT.nil BT.nil) BT.nil)) (BT.node (o_66 P) (BT.node (kGet P (nat_lit 187)) (BT.node (kGet P (nat_lit 187)) BT.nil BT.nil) BT.nil) (BT.node (kGet P (nat_lit 62)) (BT.node (kGet P (nat_lit 94)) BT.nil BT.nil) BT.nil)))))
noncomputable def tree_176 : Params → BT := fun P => BT.node (boot_o_0 P) (BT.node (boot_o_1 P) (BT.node (o_144 P) (BT.node (boot_o_7 P) (BT.node (kGet P (nat_lit 187)) (BT.node (kGet P (nat_lit 31)) (BT.node (kGet P (nat_lit 63)) (BT.node (o_166 P) BT.nil BT.nil) BT.nil) (BT.node (kGet P (nat_lit 187)) BT.nil BT.nil)) (BT.node (o_83 P) (BT.node (o_115 P) BT.nil BT.nil) (BT.node (kGet P (nat_lit 187)) BT.nil BT.nil))) (BT.node (o_59 P) (BT.node (kGet P (nat_lit 187)) (BT.node (kGet P (nat_lit 187)) (BT.node (kGet P (nat_lit 187)) BT.nil BT.nil) BT.nil) (BT.node (o_141 P) BT.nil BT.nil)) (BT.node (kGet P (nat_lit 55)) (BT.node (kGet P (nat_lit 87)) BT.nil BT.nil) (BT.node (o_158 P) BT.nil BT.nil)))) (BT.node (kGet P (nat_lit 187)) (BT.node (o_55 P) (BT.node (kGet P (nat_lit 35)) (BT.node (kGet P (nat_lit 187)) (BT.node (o_170 P) BT.nil BT.nil) BT.nil) (BT.node (kGet P (nat_lit 187)) BT.nil BT.nil)) (BT.node (o_87 P) (BT.node (kGet P (nat_lit 83)) BT.nil BT.nil) (BT.node (o_154 P) BT.nil BT.nil))) (BT.node (kGet P (nat_lit 27)) (BT.node (kGet P (nat_lit 187)) (BT.node (o_111 P) BT.nil BT.nil) (BT.node (o_146 P) BT.nil BT.nil)) (BT.node (kGet P (nat_lit 59)) (BT.node (kGet P (nat_lit 91)) BT.nil BT.nil) (BT.node (o_162 P) BT.nil BT.nil))))) (BT.node (boot_o_5 P) (BT.node (boot_o_9 P) (BT.node (kGet P (nat_lit 17)) (BT.node (o_69 P) (BT.node (o_101 P) (BT.node (o_168 P) BT.nil BT.nil) BT.nil) (BT.node (kGet P (nat_lit 97)) BT.nil BT.nil)) (BT.node (kGet P (nat_lit 49)) (BT.node (kGet P (nat_lit 187)) BT.nil BT.nil) (BT.node (o_152 P) BT.nil BT.nil))) (BT.node (kGet P (nat_lit 187)) (BT.node (kGet P (nat_lit 41)) (BT.node (kGet P (nat_lit 73)) (BT.node (o_176 P) BT.nil BT.nil) BT.nil) (BT.node (kGet P (nat_lit 105)) BT.nil BT.nil)) (BT.node (kGet P (nat_lit 187)) (BT.node (o_125 P) BT.nil BT.nil) (BT.node (o_160 P) BT.nil BT.nil)))) (BT.node (o_45 P) (BT.node (kGet P (nat_lit 21)) (BT.node (o_73 P) (BT.node (kGet P (nat_lit 69)) (BT.node (o_172 P) BT.nil BT.nil) BT.nil) (BT.node (kGet P (nat_lit 101)) BT.nil BT.nil)) (BT.node (kGet P (nat_lit 187)) (BT.node (kGet P (nat_lit 187)) BT.nil BT.nil) (BT.node (o_156 P) BT.nil BT.nil))) (BT.node (kGet P (nat_lit 187)) (BT.node (kGet P (nat_lit 45)) (BT.node (kGet P (nat_lit 77)) BT.nil BT.nil) (BT.node (o_148 P) BT.nil BT.nil)) (BT.node (o_97 P) (BT.node (o_131 P) BT.nil BT.nil) (BT.node (o_164 P) BT.nil BT.nil)))))) (BT.node (boot_o_2 P) (BT.node (boot_o_4 P) (BT.node (boot_o_8 P) (BT.node (o_52 P) (BT.node (kGet P (nat_lit 187)) (BT.node (kGet P (nat_lit 187)) (BT.node (o_167 P) BT.nil BT.nil) BT.nil) (BT.node (o_134 P) BT.nil BT.nil)) (BT.node (kGet P (nat_lit 48)) (BT.node (kGet P (nat_lit 80)) BT.nil BT.nil) (BT.node (o_151 P) BT.nil BT.nil))) (BT.node (kGet P (nat_lit 24)) (BT.node (o_76 P) (BT.node (o_108 P) (BT.node (o_175 P) BT.nil BT.nil) BT.nil) (BT.node (kGet P (nat_lit 104)) BT.nil BT.nil)) (BT.node (kGet P (nat_lit 56)) (BT.node (kGet P (nat_lit 187)) BT.nil BT.nil) (BT.node (o_159 P) BT.nil BT.nil)))) (BT.node (o_129 P) (BT.node (kGet P (nat_lit 20)) (BT.node (kGet P (nat_lit 187)) (BT.node (o_104 P) (BT.node (o_171 P) BT.nil BT.nil) BT.nil) (BT.node (o_138 P) BT.nil BT.nil)) (BT.node (kGet P (nat_lit 52)) (BT.node (kGet P (nat_lit 84)) BT.nil BT.nil) (BT.node (o_155 P) BT.nil BT.nil))) (BT.node (kGet P (nat_lit 28)) (BT.node (o_80 P) (BT.node (kGet P (nat_lit 76)) BT.nil BT.nil) (BT.node (o_147 P) BT.nil BT.nil)) (BT.node (kGet P (nat_lit 187)) (BT.node (kGet P (nat_lit 187)) BT.nil BT.nil) (BT.node (o_163 P) BT.nil BT.nil))))) (BT.node (boot_o_6 P) (BT.node (boot_o_10 P) (BT.node (kGet P (nat_lit 187)) (BT.node (kGet P (nat_lit 34)) (BT.node (kGet P (nat_lit 66)) (BT.node (kGet P (nat_lit 187)) BT.nil BT.nil) BT.nil) (BT.node (kGet P (nat_lit 98)) BT.nil BT.nil)) (BT.node (kGet P (nat_lit 187)) (BT.node (o_118 P) BT.nil BT.nil) (BT.node (o_153 P) BT.nil BT.nil))) (BT.node (o_62 P) (BT.node (kGet P (nat_lit 42)) (BT.node (kGet P (nat_lit 187)) BT.nil BT.nil) (BT.node (o_145 P) BT.nil BT.nil)) (BT.node (o_94 P) (BT.node (kGet P (nat_lit 90)) BT.nil BT.nil) (BT.node (o_161 P) BT.nil BT.nil)))) (BT.node (o_46 P) (BT.node (kGet P (nat_lit 187)) (BT.node (kGet P (nat_lit 38)) (BT.node (kGet P (nat_lit 70)) (BT.node (o_173 P) BT.nil BT.nil) BT.nil) (BT.node (kGet P (nat_lit 187)) BT.nil BT.nil)) (BT.node (o_90 P) (BT.node (o_122 P) BT.nil BT.nil) (BT.node (kGet P (nat_lit 187)) BT.nil BT.nil))) (BT.node (o_66 P) (BT.node (kGet P (nat_lit 187)) (BT.node (kGet P (nat_lit 187)) BT.nil BT.nil) (BT.node (o_149 P) BT.nil BT.nil)) (BT.node (kGet P (nat_lit 62)) (BT.node (kGet P (nat_lit 94)) BT.nil BT.nil) (BT.node (o_165 P) BT.nil BT.nil))))))
noncomputable def tree_271 : Params → BT := fun P => BT.node (boot_o_0 P) (BT.node (boot_o_1 P) (BT.node (kGet P (nat_lit 3)) (BT.node (boot_o_7 P) (BT.node (kGet P (nat_lit 187)) (BT.node (kGet P (nat_lit 31)) (BT.node (kGet P (nat_lit 63)) (BT.node (o_166 P) BT.nil BT.nil) (BT.node (kGet P (nat_lit 191)) BT.nil BT.nil)) (BT.node (kGet P (nat_lit 187)) (BT.node (kGet P (nat_lit 187)) BT.nil BT.nil) BT.nil)) (BT.node (o_83 P) (BT.node (o_115 P) (BT.node (o_223 P) BT.nil BT.nil) BT.nil) (BT.node (kGet P (nat_lit 187)) (BT.node (kGet P (nat_lit 175)) BT.nil BT.nil) BT.nil))) (BT.node (o_59 P) (BT.node (kGet P (nat_lit 187)) (BT.node (kGet P (nat_lit 187)) (BT.node (kGet P (nat_lit 187)) BT.nil BT.nil) BT.nil) (BT.node (o_141 P) (BT.node (o_247 P) BT.nil BT.nil) BT.nil)) (BT.node (kGet P (nat_lit 55)) (BT.node (kGet P (nat_lit 87)) (BT.node (o_231 P) BT.nil BT.nil) BT.nil) (BT.node (o_158 P) (BT.node (kGet P (nat_lit 187)) BT.nil BT.nil) BT.nil)))) (BT.node (kGet P (nat_lit 187)) (BT.node (o_55 P) (BT.node (kGet P (nat_lit 35)) (BT.node (kGet P (nat_lit 187)) (BT.node (o_170 P) BT.nil BT.nil) BT.nil) (BT.node (kGet P (nat_lit 187)) (BT.node (o_243 P) BT.nil BT.nil) BT.nil)) (BT.node (o_87 P) (BT.node (kGet P (nat_lit 83)) (BT.node (o_227 P) BT.nil BT.nil) BT.nil) (BT.node (o_154 P) (BT.node (kGet P (nat_lit 179)) BT.nil BT.nil) BT.nil))) (BT.node (kGet P (nat_lit 27)) (BT.node (kGet P (nat_lit 187)) (BT.node (o_111 P) (BT.node (kGet P (nat_lit 187)) BT.nil BT.nil) BT.nil) (BT.node (o_146 P) (BT.node (kGet P (nat_lit 171)) BT.nil BT.nil) BT.nil)) (BT.node (kGet P (nat_lit 59)) (BT.node (kGet P (nat_lit 91)) (BT.node (kGet P (nat_lit 155)) BT.nil BT.nil) BT.nil) (BT.node (o_162 P) (BT.node (kGet P (nat_lit 187)) BT.nil BT.nil) BT.nil))))) (BT.node (boot_o_5 P) (BT.node (boot_o_9 P) (BT.node (kGet P (nat_lit 17)) (BT.node (o_69 P) (BT.node (o_101 P) (BT.node (o_168 P) BT.nil BT.nil) BT.nil) (BT.node (kGet P (nat_lit 97)) (BT.node (kGet P (nat_lit 161)) BT.nil BT.nil) BT.nil)) (BT.node (kGet P (nat_lit 49)) (BT.node (kGet P (nat_lit 187)) (BT.node (kGet P (nat_lit 145)) BT.nil BT.nil) BT.nil) (BT.node (o_152 P) (BT.node (o_257 P) BT.nil BT.nil) BT.nil))) (BT.node (kGet P (nat_lit 187)) (BT.node (kGet P (nat_lit 41)) (BT.node (kGet P (nat_lit 73)) (BT.node (o_176 P) BT.nil BT.nil) BT.nil) (BT.node (kGet P (nat_lit 105)) (BT.node (kGet P (nat_lit 187)) BT.nil BT.nil) BT.nil)) (BT.node (kGet P (nat_lit 187)) (BT.node (o_125 P) (BT.node (kGet P (nat_lit 187)) BT.nil BT.nil) BT.nil) (BT.node (o_160 P) (BT.node (kGet P (nat_lit 185)) BT.nil BT.nil) BT.nil)))) (BT.node (o_45 P) (BT.node (kGet P (nat_lit 21)) (BT.node (o_73 P) (BT.node (kGet P (nat_lit 69)) (BT.node (o_172 P) BT.nil BT.nil) BT.nil) (BT.node (kGet P (nat_lit 101)) (BT.node (kGet P (nat_lit 165)) BT.nil BT.nil) BT.nil)) (BT.node (kGet P (nat_lit 187)) (BT.node (kGet P (nat_lit 187)) (BT.node (kGet P (nat_lit 187)) BT.nil BT.nil) BT.nil) (BT.node (o_156 P) (BT.node (o_261 P) BT.nil BT.nil) BT.nil))) (BT.node (kGet P (nat_lit 187)) (BT.node (kGet P (nat_lit 45)) (BT.node (kGet P (nat_lit 77)) (BT.node (kGet P (nat_lit 141)) BT.nil BT.nil) BT.nil) (BT.node (o_148 P) (BT.node (kGet P (nat_lit 187)) BT.nil BT.nil) BT.nil)) (BT.node (o_97 P) (BT.node (o_131 P) (BT.node (o_237 P) BT.nil BT.nil) BT.nil) (BT.node (o_164 P) (BT.node (o_269 P) BT.nil BT.nil) BT.nil)))))) (BT.node (kGet P (nat_lit 2)) (BT.node (boot_o_4 P) (BT.node (boot_o_8 P) (BT.node (o_52 P) (BT.node (kGet P (nat_lit 187)) (BT.node (kGet P (nat_lit 187)) (BT.node (o_167 P) BT.nil BT.nil) BT.nil) (BT.node (o_134 P) (BT.node (o_240 P) BT.nil BT.nil) BT.nil)) (BT.node (kGet P (nat_lit 48)) (BT.node (kGet P (nat_lit 80)) (BT.node (kGet P (nat_lit 144)) BT.nil BT.nil) BT.nil) (BT.node (o_151 P) (BT.node (kGet P (nat_lit 187)) BT.nil BT.nil) BT.nil))) (BT.node (kGet P (nat_lit 24)) (BT.node (o_76 P) (BT.node (o_108 P) (BT.node (o_175 P) BT.nil BT.nil) BT.nil) (BT.node (kGet P (nat_lit 104)) (BT.node (kGet P (nat_lit 168)) BT.nil BT.nil) BT.nil)) (BT.node (kGet P (nat_lit 56)) (BT.node (kGet P (nat_lit 187)) (BT.node (o_232 P) BT.nil BT.nil) BT.nil) (BT.node (o_159 P) (BT.node (o_264 P) BT.nil BT.nil) BT.nil)))) (BT.node (o_217 P) (BT.node (kGet P (nat_lit 20)) (BT.node (kGet P (nat_lit 187)) (BT.node (o_104 P) (BT.node (o_171 P) BT.nil BT.nil) BT.nil) (BT.node (o_138 P) (BT.node (kGet P (nat_lit 164)) BT.nil BT.nil) BT.nil)) (BT.node (kGet P (nat_lit 52)) (BT.node (kGet P (nat_lit 84)) (BT.node (o_228 P) BT.nil BT.nil) BT.nil) (BT.node (o_155 P) (BT.node (kGet P (nat_lit 187)) BT.nil BT.nil) BT.nil))) (BT.node (kGet P (nat_lit 28)) (BT.node (o_80 P) (BT.node (kGet P (nat_lit 76)) (BT.node (o_220 P) BT.nil BT.nil) BT.nil) (BT.node (o_147 P) (BT.node (kGet P (nat_lit 172)) BT.nil BT.nil) BT.nil)) (BT.node (kGet P (nat_lit 187)) (BT.node (kGet P (nat_lit 187)) (BT.node (kGet P (nat_lit 156)) BT.nil BT.nil) BT.nil) (BT.node (o_163 P) (BT.node (o_268 P) BT.nil BT.nil) BT.nil))))) (BT.node (boot_o_6 P) (BT.node (boot_o_10 P) (BT.node (kGet P (nat_lit 187)) (BT.node (kGet P (nat_lit 34)) (BT.node (kGet P (nat_lit 66)) (BT.node (kGet P (nat_lit 187)) BT.nil BT.nil) BT.nil) (BT.node (kGet P (nat_lit 98)) (BT.node (kGet P (nat_lit 187)) BT.nil BT.nil) BT.nil)) (BT.node (kGet P (nat_lit 187)) (BT.node (o_118 P) (BT.node (kGet P (nat_lit 146)) BT.nil BT.nil) BT.nil) (BT.node (o_153 P) (BT.node (kGet P (nat_lit 178)) BT.nil BT.nil) BT.nil))) (BT.node (o_62 P) (BT.node (kGet P (nat_lit 42)) (BT.node (kGet P (nat_lit 187)) (BT.node (kGet P (nat_lit 138)) BT.nil BT.nil) BT.nil) (BT.node (o_145 P) (BT.node (o_250 P) BT.nil BT.nil) BT.nil)) (BT.node (o_94 P) (BT.node (kGet P (nat_lit 90)) (BT.node (kGet P (nat_lit 154)) BT.nil BT.nil) BT.nil) (BT.node (o_161 P) (BT.node (kGet P (nat_lit 186)) BT.nil BT.nil) BT.nil)))) (BT.node (o_46 P) (BT.node (kGet P (nat_lit 187)) (BT.node (kGet P (nat_lit 38)) (BT.node (kGet P (nat_lit 70)) (BT.node (o_173 P) BT.nil BT.nil) BT.nil) (BT.node (kGet P (nat_lit 187)) (BT.node (kGet P (nat_lit 187)) BT.nil BT.nil) BT.nil)) (BT.node (o_90 P) (BT.node (o_122 P) (BT.node (o_230 P) BT.nil BT.nil) BT.nil) (BT.node (kGet P (nat_lit 187)) (BT.node (kGet P (nat_lit 182)) BT.nil BT.nil) BT.nil))) (BT.node (o_66 P) (BT.node (kGet P (nat_lit 187)) (BT.node (kGet P (nat_lit 187)) (BT.node (kGet P (nat_lit 187)) BT.nil BT.nil) BT.nil) (BT.node (o_149 P) (BT.node (o_254 P) BT.nil BT.nil) BT.nil)) (BT.node (kGet P (nat_lit 62)) (BT.node (kGet P (nat_lit 94)) (BT.node (o_238 P) BT.nil BT.nil) BT.nil) (BT.node (o_165 P) (BT.node (kGet P (nat_lit 190)) BT.nil BT.nil) BT.nil))))))
noncomputable def heap_272 : Params → Heap := fun P => Heap.mk (Array.mk ((boot_o_0 P) :: (boot_o_1 P) :: (kGet P (nat_lit 2)) :: (kGet P (nat_lit 3)) :: (boot_o_4 P) :: (boot_o_5 P) :: (boot_o_6 P) :: (boot_o_7 P) :: (boot_o_8 P) :: (boot_o_9 P) :: (boot_o_10 P) :: (kGet P (nat_lit 187)) :: (o_217 P) :: (o_45 P) :: (o_46 P) :: (kGet P (nat_lit 187)) :: (o_52 P) :: (kGet P (nat_lit 17)) :: (kGet P (nat_lit 187)) :: (o_55 P) :: (kGet P (nat_lit 20)) :: (kGet P (nat_lit 21)) :: (kGet P (nat_lit 187)) :: (o_59 P) :: (kGet P (nat_lit 24)) :: (kGet P (nat_lit 187)) :: (o_62 P) :: (kGet P (nat_lit 27)) :: (kGet P (nat_lit 28)) :: (kGet P (nat_lit 187)) :: (o_66 P) :: (kGet P (nat_lit 31)) :: (kGet P (nat_lit 187)) :: (o_69 P) :: (kGet P (nat_lit 34)) :: (kGet P (nat_lit 35)) :: (kGet P (nat_lit 187)) :: (o_73 P) :: (kGet P (nat_lit 38)) :: (kGet P (nat_lit 187)) :: (o_76 P) :: (kGet P (nat_lit 41)) :: (kGet P (nat_lit 42)) :: (kGet P (nat_lit 187)) :: (o_80 P) :: (kGet P (nat_lit 45)) :: (kGet P (nat_lit 187)) :: (o_83 P) :: (kGet P (nat_lit 48)) :: (kGet P (nat_lit 49)) :: (kGet P (nat_lit 187)) :: (o_87 P) :: (kGet P (nat_lit 52)) :: (kGet P (nat_lit 187)) :: (o_90 P) :: (kGet P (nat_lit 55)) :: (kGet P (nat_lit 56)) :: (kGet P (nat_lit 187)) :: (o_94 P) :: (kGet P (nat_lit 59)) :: (kGet P (nat_lit 187)) :: (o_97 P) :: (kGet P (nat_lit 62)) :: (kGet P (nat_lit 63)) :: (kGet P (nat_lit 187)) :: (o_101 P) :: (kGet P (nat_lit 66)) :: (kGet P (nat_lit 187)) :: (o_104 P) :: (kGet P (nat_lit 69)) :: (kGet P (nat_lit 70)) :: (kGet P (nat_lit 187)) :: (o_108 P) :: (kGet P (nat_lit 73)) :: (kGet P (nat_lit 187)) :: (o_111 P) :: (kGet P (nat_lit 76)) :: (kGet P (nat_lit 77)) :: (kGet P (nat_lit 187)) :: (o_115 P) :: (kGet P (nat_lit 80)) :: (kGet P (nat_lit 187)) :: (o_118 P) :: (kGet P (nat_lit 83)) :: (kGet P (nat_lit 84)) :: (kGet P (nat_lit 187)) :: (o_122 P) :: (kGet P (nat_lit 87)) :: (kGet P (nat_lit 187)) :: (o_125 P) :: (kGet P (nat_lit 90)) :: (kGet P (nat_lit 91)) :: (kGet P (nat_lit 187)) :: (o_131 P) :: (kGet P (nat_lit 94)) :: (kGet P (nat_lit 187)) :: (o_134 P) :: (kGet P (nat_lit 97)) :: (kGet P (nat_lit 98)) :: (kGet P (nat_lit 187)) :: (o_138 P) :: (kGet P (nat_lit 101)) :: (kGet P (nat_lit 187)) :: (o_141 P) :: (kGet P (nat_lit 104)) :: (kGet P (nat_lit 105)) :: (o_145 P) :: (o_146 P) :: (o_147 P) :: (o_148 P) :: (o_149 P) :: (kGet P (nat_lit 187)) :: (o_151 P) :: (o_152 P) :: (o_153 P) :: (o_154 P) :: (o_155 P) :: (o_156 P) :: (kGet P (nat_lit 187)) :: (o_158 P) :: (o_159 P) :: (o_160 P) :: (o_161 P) :: (o_162 P) :: (o_163 P) :: (o_164 P) :: (o_165 P) :: (o_166 P) :: (o_167 P) :: (o_168 P) :: (kGet P (nat_lit 187)) :: (o_170 P) :: (o_171 P) :: (o_172 P) :: (o_173 P) :: (kGet P (nat_lit 187)) :: (o_175 P) :: (o_176 P) :: (kGet P (nat_lit 138)) :: (kGet P (nat_lit 187)) :: (o_220 P) :: (kGet P (nat_lit 141)) :: (kGet P (nat_lit 187)) :: (o_223 P) :: (kGet P (nat_lit 144)) :: (kGet P (nat_lit 145)) :: (kGet P (nat_lit 146)) :: (o_227 P) :: (o_228 P) :: (kGet P (nat_lit 187)) :: (o_230 P) :: (o_231 P) :: (o_232 P) :: (kGet P (nat_lit 187)) :: (kGet P (nat_lit 154)) :: (kGet P (nat_lit 155)) :: (kGet P (nat_lit 156)) :: (o_237 P) :: (o_238 P) :: (kGet P (nat_lit 187)) :: (o_240 P) :: (kGet P (nat_lit 161)) :: (kGet P (nat_lit 187)) :: (o_243 P) :: (kGet P (nat_lit 164)) :: (kGet P (nat_lit 165)) :: (kGet P (nat_lit 187)) :: (o_247 P) :: (kGet P (nat_lit 168)) :: (kGet P (nat_lit 187)) :: (o_250 P) :: (kGet P (nat_lit 171)) :: (kGet P (nat_lit 172)) :: (kGet P (nat_lit 187)) :: (o_254 P) :: (kGet P (nat_lit 175)) :: (kGet P (nat_lit 187)) :: (o_257 P) :: (kGet P (nat_lit 178)) :: (kGet P (nat_lit 179)) :: (kGet P (nat_lit 187)) :: (o_261 P) :: (kGet P (nat_lit 182)) :: (kGet P (nat_lit 187)) :: (o_264 P) :: (kGet P (nat_lit 185)) :: (kGet P (nat_lit 186)) :: (kGet P (nat_lit 187)) :: (o_268 P) :: (o_269 P) :: (kGet P (nat_lit 190)) :: (kGet P (nat_lit 191)) :: [])) (Life.mk [] [] [] 0 [] [] Bool.false (@List.toArray Nat []) [] 0 Bool.false Bool.false Bool.false (@OfNat.ofNat Int (nat_lit 0) (@instOfNat (nat_lit 0))) [@OfNat.ofNat Int (nat_lit 2000) (@instOfNat (nat_lit 2000)), @OfNat.ofNat Int (nat_lit 10) (@instOfNat (nat_lit 10)), @OfNat.ofNat Int (nat_lit 10) (@instOfNat (nat_lit 10))] Bool.false 0 Bool.true [] [] 0 Bool.false)
noncomputable abbrev Bd : List Stmt := behindTheImports pw
noncomputable def s1 : List Stmt := Bd.take 15
noncomputable def s2 : List Stmt := (Bd.drop 15).take 2
noncomputable def s3 : List Stmt := (Bd.drop 17).take 1
noncomputable def s4 : List Stmt := Bd.drop 18
noncomputable abbrev cE : Code := Code.body Bd env_41
abbrev p0 : Pos := { line := 0, col := 0, endLine := 0, endCol := 0 }
abbrev p2 : Pos := { line := 104, col := 0, endLine := 104, endCol := 8 }
abbrev p3 : Pos := { line := 115, col := 0, endLine := 119, endCol := 92 }
abbrev p4 : Pos := { line := 120, col := 0, endLine := 120, endCol := 10 }
abbrev p1 : Pos := { line := 170, col := 0, endLine := 187, endCol := 65 }
abbrev a6 : Option Value := some (Value.ref 6)
noncomputable abbrev ts (t : Params → BT) (n k : Nat) (w : World) (os : OsState) : SharedT := { tree := t w.params, n := n, life := { }, gens := { toList := [] }, drawn := { }, toks := k, os := os }
noncomputable abbrev H1 : Params → Heap := heap_272
theorem r_bd : Bd = s1 ++ (s2 ++ (s3 ++ (s4 ++ []))) := by kernel_rfl
theorem r_e : opening pw = plainProg pw.main.scope.names := by kernel_rfl
theorem r_f : ∀ s : Shared, fenceModules? pw s = some s := by intro s; kernel_rfl
theorem r_size : ∀ w : World, ((boot_heap w.params).isNs mainGlobals && (#[] : Array GenState).size == 0, (boot_heap w.params).objs.size, (boot_heap w.params).nsMap mainGlobals "__annotations__") = (true, 11, a6) := by intro w; kernel_rfl
theorem r_pre : ∀ w : World, (fun os => topGo treeTable pw w 11 a6 12 ⟨boot_heap w.params, #[], boot_drawn, boot_toks, os⟩ (topStub pw)) =
    fun os => some (⟨heap_46 w.params, #[], {}, 187, os⟩, ⟨denote treeTable cE, cE, p0, [topFrame p0]⟩) := by intro w; kernel_rfl
theorem r_blk : ∀ w : World, (fun os => segRun treeTable pw w 11 a6 1 1 ⟨heap_46 w.params, #[], {}, 187, os⟩ (blockOf Bd env_41 cE p0 [topFrame p0])) =
    fun os => some (Flow.next, (ts tree_47 15 187 w os).abs, cE, p0) := by intro w; kernel_rfl
theorem r_1 : ∀ w : World, (fun os => segRunT treeTable pw w 11 a6 1 385 (ts tree_47 15 187 w os) (piecesOf s1 env_41 cE p0 [topFrame p0])) =
    fun os => some (Flow.next, ts tree_127 92 301 w os, cE, p2) := by
  intro w; rw [PySem.W.Fast.te10110043849684766642, PySem.W.Fast.te14364793385576792824]; kernel_rfl
theorem r_2 : ∀ w : World, (fun os => segRunT treeTable pw w 11 a6 1 66 (ts tree_127 92 301 w os) (piecesOf s2 env_41 cE p2 [topFrame p0])) =
    fun os => some (Flow.next, ts tree_143 106 322 w os, cE, p3) := by
  intro w; rw [PySem.W.Fast.te10110043849684766642, PySem.W.Fast.te14364793385576792824]; kernel_rfl
noncomputable abbrev P3 (w : World) : Prop := (fun os => segRunT treeTable pw w 11 a6 1 1224 (ts tree_143 106 322 w os) (piecesOf s3 env_41 cE p3 [topFrame p0])) =
    fun os => some (Flow.next, ts tree_176 138 430 w os, cE, p4)
theorem r_3f : ∀ w : World, P3 (w.withFollow "special-get-raises" false) := by
  intro w; unfold P3; rw [PySem.W.Fast.te10110043849684766642, PySem.W.Fast.te14364793385576792824]; kernel_rfl
theorem r_3t : ∀ w : World, P3 (w.withFollow "special-get-raises" true) := by
  intro w; unfold P3; rw [PySem.W.Fast.te10110043849684766642, PySem.W.Fast.te14364793385576792824]; kernel_rfl
theorem r_4 : ∀ w : World, (fun os => segRunT treeTable pw w 11 a6 1 400 (ts tree_176 138 430 w os) (piecesOf s4 env_41 cE p4 [topFrame p0])) =
    fun os => some (Flow.next, ts tree_271 192 507 w os, cE, p1) := by
  intro w; rw [PySem.W.Fast.te10110043849684766642, PySem.W.Fast.te14364793385576792824]; kernel_rfl
theorem r_fin : ∀ w : World, (fun os => topRun treeTable pw w 11 a6 2 (ts tree_271 192 507 w os).abs ⟨doneF .next, cE, p1, [topFrame p0]⟩) =
    fun os => some ⟨H1 w.params, #[], {}, 507, os⟩ := by intro w; kernel_rfl
theorem r_run (w : World) (os : OsState) : topRun treeTable pw w 11 a6 (12 + (1 + (385 + (66 + (1224 + (400 + 2)))))) ⟨boot_heap w.params, #[], boot_drawn, boot_toks, os⟩ (topStub pw) = some ⟨H1 w.params, #[], {}, 507, os⟩ := by
  refine go_top (congrFun (r_pre w) os) (piece_block (congrFun (r_blk w) os) ?_)
  rw [show (restOf Bd env_41 cE p0 [topFrame p0]) = restOf (s1 ++ (s2 ++ (s3 ++ (s4 ++ [])))) env_41 cE p0 [topFrame p0] from congrArg (fun l => restOf l env_41 cE p0 [topFrame p0]) r_bd]
  exact piece_app (segRun_of (congrFun (r_1 w) os)) (piece_app (segRun_of (congrFun (r_2 w) os)) (piece_app (segRun_of (congrFun (byRow2 "special-get-raises" r_3f r_3t w) os)) (piece_app (segRun_of (congrFun (r_4 w) os)) (piece_nil (congrFun (r_fin w) os)))))
noncomputable abbrev Vw0 : Program := view_39
abbrev asK : List Nat := [2, 3, 15, 17, 18, 20, 21, 22, 24, 25, 27, 28, 29, 31, 32, 34, 35, 36, 38, 39, 41, 42, 43, 45, 46, 48, 49, 50,
          52, 53, 55, 56, 57, 59, 60, 62, 63, 64, 66, 67, 69, 70, 71, 73, 74, 76, 77, 78, 80, 81, 83, 84, 85, 87, 88,
          90, 91, 92, 94, 95, 97, 98, 99, 101, 102, 104, 105, 138, 139, 141, 142, 144, 145, 146, 153, 154, 155, 156,
          159, 161, 162, 164, 165, 166, 168, 169, 171, 172, 173, 175, 176, 178, 179, 180, 182, 183, 185, 186, 187, 190,
          191]
theorem asK_eq : ∀ P, asK = (heap_39 P).map (·.1) := by intro P; kernel_rfl
noncomputable abbrev Hk : Hook := kHook heap_39 asK asK_eq
abbrev Ls : List Str := [Str.ofString "_validate_tzfile_path"]
noncomputable abbrev rw0 : OpenRow := PySem.Challenge.rw_sh0097_01.row
noncomputable abbrev Xt0 : Shared → Bool := fun s => xlAt Vw0 [] s && recOk (RowW.records rw0.toRowW) s
noncomputable abbrev sf (w : World) (os : OsState) : Shared := ⟨H1 w.params, #[], {}, 507, os⟩
theorem l_top : ∀ w : World, (fun os => (staticsOk (importedModules pw.main.body) (boot_heap w.params) (H1 w.params) && namesBound pw (H1 w.params) && gensDone (sf w os) && laidKept (boot_heap w.params) (H1 w.params))) = fun _ => true := by
  intro w; kernel_rfl
theorem l_1 : ∀ w : World, (fun os => seen ((recsOf Vw0).map (·.name)) (ownsOf Vw0) [] { sf w os with gens := #[] }) = fun _ => expectedOf Vw0 := by intro w; kernel_rfl
theorem l_2 : ∀ w : World, (fun os => (sf w os).heap.bltView) = fun _ => bltViewBooted := by intro w; kernel_rfl
theorem l_3 : ∀ w : World, (fun os => ((sf w os).heap.keysOk (looseW Vw0 Ls) ((recsOf Vw0).map (·.name)) ((litsOf Vw0).map (·.1)) ((clssOf Vw0 (looseW Vw0 Ls)).map (·.name)) && (sf w os).heap.accountedOkI (importedModules pw.main.body) && (sf w os).heap.isNs mainGlobals && (sf w os).heap.isNs builtinsNs && tablesOk Vw0 (sf w os).heap && Xt0 (sf w os) && (if true then (sf w os).gens.size == 0 else !leftWithCleanup (sf w os).gens))) = fun _ => true := by intro w; kernel_rfl
theorem l_4 : ∀ w : World, (fun os => tabsOk Vw0 (sf w os)) = fun _ => true := by intro w; kernel_rfl
theorem l_5 : ∀ w : World, (fun os => pinSeenD Vw0 (drecsOf Vw0) (sf w os)) = fun _ => pinGoodD (drecsOf Vw0) := by intro w; kernel_rfl
theorem l_6 : ∀ w : World, (fun os => plainSeenE Vw0 (looseW Vw0 Ls) (sf w os)) = fun _ => plainGoodE Vw0 (looseW Vw0 Ls) := by intro w; kernel_rfl
theorem l_7 : ∀ w : World, (fun os => plainSeenD Vw0 Ls (sf w os)) = fun _ => plainGoodD Vw0 Ls := by intro w; kernel_rfl
theorem l_8 : ∀ w : World, (fun os => wideSeen Vw0 (sf w os)) = fun _ => wideGood Vw0 := by intro w; kernel_rfl
theorem l_9 : ∀ w : World, (fun os => clsSeenW Vw0 Ls (sf w os)) = fun _ => clsGoodW Vw0 Ls := by intro w; kernel_rfl
theorem l_K : ∀ w : World, (fun os => Hk.obs (sf w os)) = fun _ => Hk.val w := by intro w; kernel_rfl
theorem looks0 (w : World) : (fun os => ((staticsOk (importedModules rw0.prog.main.body) (boot_heap w.params) (H1 w.params) && namesBound rw0.prog (H1 w.params) && gensDone (sf w os) && laidKept (boot_heap w.params) (H1 w.params)),
        openSeen Vw0 Ls (importedModules rw0.prog.main.body) Xt0 true (sf w os), Hk.obs (sf w os))) = fun _ => (true, openGood Vw0 Ls, Hk.val w) :=
  funext fun os => looks_pair (congrFun (l_top w) os) (looks_pair (looks_pair (congrFun (l_1 w) os) (looks_pair (congrFun (l_2 w) os) (looks_pair (congrFun (l_3 w) os) (looks_pair (congrFun (l_4 w) os) (looks_pair (congrFun (l_5 w) os) (looks_pair (congrFun (l_6 w) os) (looks_pair (congrFun (l_7 w) os) (looks_pair (congrFun (l_8 w) os) (congrFun (l_9 w) os)))))))))
    (congrFun (l_K w) os))
theorem left0 : LeftO rw0.prog Vw0 Ls Xt0 Hk.obs Hk.val 4268 :=
  LeftO.of_pieces (boot_open r_e (by decide) r_f) r_size r_run (by decide) looks0
theorem said0 : PySem.Challenge.rw_sh0097_01.wellSaid = true := by
  unfold OpenLaw.wellSaid OpenRow.wellSaid OpenRow.partSaid looksOpen
  repeat' with_reducible refine look_both ?_ ?_
  all_goals decide +kernel
theorem ok0 : (chainsOk Vw0 && opensWell rw0.prog && (frees rw0.toRowW && rw0.within.isEmpty)) = true := by kernel_rfl
theorem bare0 : rw0.prog.bare := ⟨rfl, rfl, rfl, rfl, rfl, by kernel_rfl⟩
theorem law_of {d : DefRec} {kwd : List (Str × Expr)} (hw : PySem.Challenge.rw_sh0097_01.row.toRowW.promised) (hdef : defOf view_39 PySem.Challenge.rw_sh0097_01.row.name = some (d, kwd)) (hp : PySem.Challenge.rw_sh0097_01.row.prog.theDef PySem.Challenge.rw_sh0097_01.row.name = some (d.params, d.body, d.scope)) (hk : kwWritten? d.params.kwonlyargs d.params.kw_defaults = some kwd)
    (call : WalkO view_39 [Str.ofString "_validate_tzfile_path"] (XL view_39 []) (kHook heap_39 asK asK_eq).says PySem.Challenge.rw_sh0097_01.row.toRowW d kwd fun f vs => PySem.call f vs) : PySem.Challenge.rw_sh0097_01.Holds :=
  holds_law said0 fun said => holds_open (r := rw0) (q := Vw0) (loose := Ls) (Xt := Xt0) (XP := XL Vw0 []) (Yf := Hk.obs) (Ya := Hk.val) (YP := Hk.says) (N := 4268) left0 Hk.of Hk.keeps
    (fun s e => xl_of s (Bool.and_eq_true_iff.mp e).1) XL.keeps hdef hp hk (fun s e => recFacts_of (Bool.and_eq_true_iff.mp e).2) (by rfl) said ok0 bare0 hw call
end hd
end Mine
end
section
open PySem PySem.W PyProof.Rows PySem.Calls
set_option Elab.async false
set_option maxRecDepth 100000
set_option maxHeartbeats 8000000
namespace Mine
noncomputable abbrev Pg : Program := PySem.Challenge.rw_sh0097_01.row.prog
noncomputable abbrev Vw : Program := hd.view_39
noncomputable abbrev Lo : List Str := looseW hd.view_39 [Str.ofString "_validate_tzfile_path"]
/-- the surroundings of a call, written out -/
abbrev Ar (dp un : Nat) (gd : Option (List Code)) (outer : List Env) : Around := { handled := none, depth := dp, frames := some outer, guards := gd, units := un }
section
variable {prog : Program} {w : World} {A : Around} {s : Shared} {K : Frag} {base : Heap} {mg mb : Str → Option Value} {p : Program} {loose : List Str} {mean : ExcName → Option Value} {outer : List Env} {R : Result → Shared → Prop} {name qual : Str} {params params₀ : Arguments} {body body₀ : List Stmt} {scope scope₀ : Scope} {dV kV doc pm cdv ct oc : Value} {an od : Option Addr} {osl : Array (Option Value)} {f : Addr} {args : Args}
/-- a plain def is entered: all that stood stays -/
theorem enterP {binds : List (Str × Value)} (X : K.In s.heap) (T : Top p loose mean mg mb s.heap)
    (ho : K.lookup f = some ⟨oc, od, .func (fnOf name qual params₀ body₀ scope₀ dV kV doc pm an cdv ct), osl⟩) (hl₁ : params₀ = params) (hl₂ : body₀ = body) (hl₃ : scope₀ = scope) (hcd : codeIn K cdv qual = true) (hroom : A.depth < recursionLimit)
    (hbind : BindsTo s (fnOf name qual params body scope dV kV doc pm an cdv ct) args binds) (hloc : ∀ y ∈ binds, scope.names.lookup y.1 = some .local)
    (h : ∀ L' h₁, Fr s.heap L' h₁ (fun y => binds.reverse.lookup y) → News s.heap L' h₁ [] →
      wpAny (model prog w) (A.deeper (envOf qual scope L' f cdv)) (execs body (envOf qual scope L' f cdv))
        (fun fl s' => R (.ok (.ret (match fl with | .ret v => v | _ => .none))) s')
        (fun e s' => wpAny (model prog w) (A.deeper (envOf qual scope L' f cdv)) (leaving (envOf qual scope L' f cdv) e) (fun _ s'' => R (.error e) s'') (fun e' s'' => R (.error e') s'') s')
        { s with heap := h₁, toks := s.toks + binds.length })
    (hco : scope.isCoroutine = false) (hgen : scope.isGenerator = false) (hk : scope.kind = .function)
    (hcell : ∀ x ∈ scope.names, x.2 ≠ .cell) : codeAny (model prog w) A (.call (.ref f) args) R s := by
  cases hl₁; cases hl₂; cases hl₃
  exact codeAny_call_def (fd := fnOf name qual params body scope dV kV doc pm an cdv ct) (body := body) (binds := binds) hroom (X _ _ ho) rfl T.nolimit (codeRec_of X hcd) rfl hbind hcell hloc
    (fun h₁ hns hk₁ => h s.heap.objs.size h₁ ⟨hns, hk₁, Nat.le_refl _⟩ News.nil) hco hgen hk
theorem frame_of {E : Value → Shared → Prop} {h₀ : Heap} {binds : List (Str × Value)} {news : List (Addr × Obj)} (hst : h₀.StaysIn s.heap) (hsz : h₀.objs.size ≤ s.heap.objs.size) (hn : ∀ q ∈ news, s.heap.get? q.1 = some q.2 ∧ h₀.get? q.1 = none) (hlim : s.heap.NoLimit)
    (hloc : ∀ y ∈ binds, scope.names.lookup y.1 = some .local)
    (h : ∀ L' h₁, Fr h₀ L' h₁ (fun y => binds.reverse.lookup y) → News h₀ L' h₁ news →
      wpAny (model prog w) (A.deeper (envOf qual scope L' f cdv)) (execs body (envOf qual scope L' f cdv))
        (fun fl s' => R (.ok (.ret (match fl with | .ret v => v | _ => .none))) s')
        (fun e s' => wpAny (model prog w) (A.deeper (envOf qual scope L' f cdv)) (leaving (envOf qual scope L' f cdv) e) (fun _ s'' => R (.error e) s'') (fun e' s'' => R (.error e') s'') s')
        { s with heap := h₁, toks := s.toks + binds.length })
    (hcell : ∀ x ∈ scope.names, x.2 ≠ .cell) (hk : scope.kind = .function) :
    wpAny (model prog w) A.in1 (newFunctionEnv scope mainGlobals [] binds (qual ++ ".<locals>.") (some f) cdv none builtinsNs) (fun env' s₂ => s₂.heap.NoLimit ∧ codeAny (model prog w) A (.func body env') R s₂) E s := by
  refine wpAny_newFunctionEnv hcell hloc (fun h₁ hns hsb => ⟨hlim.fresh _ hsb, codeAny_func ?_⟩) hk
  have hk₁ : ∀ b o, s.heap.get? b = some o → h₁.get? b = some o := fun b o e => hsb.extBut b o (Nat.ne_of_lt (Heap.lt_size e)) (Heap.get?_push_of_some _ e)
  exact h s.heap.objs.size h₁ ⟨hns, fun b o e => hk₁ b o (hst b o e), hsz⟩ fun q hq => ⟨hk₁ _ _ (hn q hq).1, Nat.ne_of_lt (Heap.lt_size (hn q hq).1), (hn q hq).2⟩
theorem peek1_wp {α : Type} {M : Model} {A : Around} {E : Value → Shared → Prop} {Q : α → Shared → Prop} {s : Shared} {o : Obj} {r : Addr → α} (X : K.In s.heap)
    (q : Q (r s.heap.objs.size) { s with heap := s.heap.push o }) :
    ∀ (t : Sem α) (g : Addr → Option α), peek1 K ⟨M.prog, M.w.params⟩ t = some (o, g) → (∀ D, g D = some (r D)) → wpAny M A t Q E s := by
  intro t
  induction t with
  | rule _ k ih => intro g e hg Γ p hΓ; exact ih () g e hg Γ p hΓ
  | point _ k ih => intro g e hg Γ p hΓ; exact ih () g e hg Γ p hΓ
  | ask k ih => intro g e hg Γ p hΓ; exact ih _ g e hg Γ p hΓ
  | load a _ k ih =>
    intro g e hg Γ p hΓ
    simp only [peek1] at e
    split at e
    · rename_i ob ho; exact ⟨ob, X _ _ ho, ih ob g e hg Γ p hΓ⟩
    · cases e
  | alloc ob k _ =>
    intro g e hg
    have e : some (ob, fun D => peek K ⟨M.prog, M.w.params⟩ (k D)) = some (o, g) := e
    obtain ⟨e1, e2⟩ := Prod.mk.inj (Option.some.inj e)
    subst e1
    subst e2
    have X' : K.In (s.heap.push ob) := X.keeps fun b x hb => Heap.get?_push_of_some _ hb
    show wpAny M A (alloc ob >>= k) Q E s
    refine wpAny_bind (wpAny_alloc ?_)
    exact (Looks.of_peek (M := M) (h := s.heap.push ob) X' (hg s.heap.objs.size)).here (s := { s with heap := s.heap.push ob }) q
  | _ => intro g e; cases e
theorem peekA_wp {α : Type} {M : Model} {A : Around} {E : Value → Shared → Prop} {Q : α → Shared → Prop} {s : Shared} {o : Obj} (X : K.In s.heap) :
    ∀ (t : Sem α) (g : Addr → Sem α), peekA K ⟨M.prog, M.w.params⟩ t = some (o, g) → wpAny M A (g s.heap.objs.size) Q E { s with heap := s.heap.push o } → wpAny M A t Q E s := by
  intro t
  induction t with
  | rule _ k ih => intro g e q Γ p hΓ; exact ih () g e q Γ p hΓ
  | point _ k ih => intro g e q Γ p hΓ; exact ih () g e q Γ p hΓ
  | ask k ih => intro g e q Γ p hΓ; exact ih _ g e q Γ p hΓ
  | load a _ k ih =>
    intro g e q Γ p hΓ
    simp only [peekA] at e
    split at e
    · rename_i ob ho; exact ⟨ob, X _ _ ho, ih ob g e q Γ p hΓ⟩
    · cases e
  | alloc ob k _ =>
    intro g e q
    have e : some (ob, k) = some (o, g) := e
    obtain ⟨e1, e2⟩ := Prod.mk.inj (Option.some.inj e)
    subst e1
    subst e2
    show wpAny M A (alloc ob >>= k) Q E s
    exact wpAny_bind (wpAny_alloc q)
  | _ => intro g e; cases e
theorem get_size_none {h : Heap} {k : Nat} (hk : h.objs.size ≤ k) : h.get? k = none := by
  cases q : h.get? k with
  | none => rfl
  | some o => exact absurd (Heap.lt_size q) (Nat.not_lt.mpr hk)
/-- a def with a star argument is entered -/
theorem enterR {vs : List Value} {g₁ : Addr → Option (List (Str × Value))} {binds : Addr → List (Str × Value)} (X : K.In s.heap) (T : Top p loose mean mg mb s.heap)
    (ho : K.lookup f = some ⟨oc, od, .func (fnOf name qual params₀ body₀ scope₀ dV kV doc pm an cdv ct), osl⟩) (hl₁ : params₀ = params) (hl₂ : body₀ = body) (hl₃ : scope₀ = scope) (hcd : codeIn K cdv qual = true) (hroom : A.depth < recursionLimit)
    (hp : peek1 K ⟨prog, w.params⟩ (bindArgs (fnOf name qual params body scope dV kV doc pm an cdv ct) args) = some (({ cls := .type "tuple", data := .seq vs.toArray } : Obj), g₁))
    (hg : ∀ D, g₁ D = some (binds D)) (hloc : ∀ D, ∀ y ∈ binds D, scope.names.lookup y.1 = some .local)
    (h : ∀ D L' h₁, Fr s.heap L' h₁ (fun y => (binds D).reverse.lookup y) → News s.heap L' h₁ [(D, ({ cls := .type "tuple", data := .seq vs.toArray } : Obj))] →
      wpAny (model prog w) (A.deeper (envOf qual scope L' f cdv)) (execs body (envOf qual scope L' f cdv))
        (fun fl s' => R (.ok (.ret (match fl with | .ret v => v | _ => .none))) s')
        (fun e s' => wpAny (model prog w) (A.deeper (envOf qual scope L' f cdv)) (leaving (envOf qual scope L' f cdv) e) (fun _ s'' => R (.error e) s'') (fun e' s'' => R (.error e') s'') s')
        { s with heap := h₁, toks := s.toks + (binds D).length })
    (hco : scope.isCoroutine = false) (hgen : scope.isGenerator = false) (hk : scope.kind = .function)
    (hcell : ∀ x ∈ scope.names, x.2 ≠ .cell) : codeAny (model prog w) A (.call (.ref f) args) R s := by
  cases hl₁; cases hl₂; cases hl₃
  refine codeAny_call_function (fd := fnOf name qual params body scope dV kV doc pm an cdv ct) (body := body) hroom (X _ _ ho) rfl hco hgen rfl (codeRec_of X hcd) ?_
  refine peek1_wp (o := ({ cls := .type "tuple", data := .seq vs.toArray } : Obj)) X (r := binds) ?_ _ g₁ hp hg
  refine frame_of (s := { s with heap := s.heap.push ({ cls := .type "tuple", data := .seq vs.toArray } : Obj) }) (h₀ := s.heap) (news := [(s.heap.objs.size, ({ cls := .type "tuple", data := .seq vs.toArray } : Obj))]) (fun b o e => Heap.get?_push_of_some _ e) (by show s.heap.objs.size ≤ (s.heap.objs.push _).size; simp) (fun q hq => ?_) (T.nolimit.keeps fun b o e => Heap.get?_push_of_some _ e) (hloc _) (fun L' h₁ F N => h _ L' h₁ F N) hcell hk
  rw [List.mem_singleton.mp hq]
  exact ⟨Heap.get?_push_size _ rfl, get_size_none (Nat.le_refl _)⟩
/-- a def with a star argument and a doubly starred one is entered, with no keyword -/
theorem enterB {vs : List Value} {nm nr : Str} {front : List (Str × Value)} {g₁ : Addr → Sem (List (Str × Value))} {g₂ : Addr → Addr → Sem (List (Str × Value))} (X : K.In s.heap) (T : Top p loose mean mg mb s.heap)
    (ho : K.lookup f = some ⟨oc, od, .func (fnOf name qual params₀ body₀ scope₀ dV kV doc pm an cdv ct), osl⟩) (hl₁ : params₀ = params) (hl₂ : body₀ = body) (hl₃ : scope₀ = scope) (hcd : codeIn K cdv qual = true) (hroom : A.depth < recursionLimit)
    (hp : peekA K ⟨prog, w.params⟩ (bindArgs (fnOf name qual params body scope dV kV doc pm an cdv ct) args) = some (({ cls := .type "tuple", data := .seq vs.toArray } : Obj), g₁))
    (hp₂ : ∀ D, peekA K ⟨prog, w.params⟩ (g₁ D) = some (dictOf [] 0, g₂ D))
    (hk₂ : ∀ C D, g₂ C D = pure (front ++ [(nr, Value.ref C)] ++ [(nm, Value.ref D)]))
    (hloc : ∀ C D, ∀ y ∈ front ++ [(nr, Value.ref C)] ++ [(nm, Value.ref D)], scope.names.lookup y.1 = some .local)
    (h : ∀ C D L' h₁ tk, (D == sysModules) = false → Fr s.heap L' h₁ (fun y => (front ++ [(nr, Value.ref C)] ++ [(nm, Value.ref D)]).reverse.lookup y) →
      News s.heap L' h₁ [(D, dictOf [] 0), (C, ({ cls := .type "tuple", data := .seq vs.toArray } : Obj))] →
      wpAny (model prog w) (A.deeper (envOf qual scope L' f cdv)) (execs body (envOf qual scope L' f cdv))
        (fun fl s' => R (.ok (.ret (match fl with | .ret v => v | _ => .none))) s')
        (fun e s' => wpAny (model prog w) (A.deeper (envOf qual scope L' f cdv)) (leaving (envOf qual scope L' f cdv) e) (fun _ s'' => R (.error e) s'') (fun e' s'' => R (.error e') s'') s')
        { s with heap := h₁, toks := tk })
    (hco : scope.isCoroutine = false) (hgen : scope.isGenerator = false) (hk : scope.kind = .function)
    (hcell : ∀ x ∈ scope.names, x.2 ≠ .cell) : codeAny (model prog w) A (.call (.ref f) args) R s := by
  cases hl₁; cases hl₂; cases hl₃
  refine codeAny_call_function (fd := fnOf name qual params body scope dV kV doc pm an cdv ct) (body := body) hroom (X _ _ ho) rfl hco hgen rfl (codeRec_of X hcd) ?_
  refine peekA_wp (o := ({ cls := .type "tuple", data := .seq vs.toArray } : Obj)) X _ g₁ hp ?_
  have X' : K.In (s.heap.push ({ cls := .type "tuple", data := .seq vs.toArray } : Obj)) := X.keeps fun b x hb => Heap.get?_push_of_some _ hb
  refine peekA_wp (s := { s with heap := s.heap.push ({ cls := .type "tuple", data := .seq vs.toArray } : Obj) }) (o := dictOf [] 0) X' _ (g₂ s.heap.objs.size) (hp₂ _) ?_
  rw [hk₂]
  refine wpAny_pure ?_
  have hs1 : (s.heap.push ({ cls := .type "tuple", data := .seq vs.toArray } : Obj)).objs.size = s.heap.objs.size + 1 := by show (s.heap.objs.push _).size = _; simp
  have hs2 : ((s.heap.push ({ cls := .type "tuple", data := .seq vs.toArray } : Obj)).push (dictOf [] 0)).objs.size = s.heap.objs.size + 2 := by
    show ((s.heap.push ({ cls := .type "tuple", data := .seq vs.toArray } : Obj)).objs.push _).size = _
    rw [Array.size_push, hs1]
  refine frame_of (s := { s with heap := (s.heap.push ({ cls := .type "tuple", data := .seq vs.toArray } : Obj)).push (dictOf [] 0) }) (h₀ := s.heap) (news := [((s.heap.push ({ cls := .type "tuple", data := .seq vs.toArray } : Obj)).objs.size, dictOf [] 0), (s.heap.objs.size, ({ cls := .type "tuple", data := .seq vs.toArray } : Obj))])
    (fun b o e => Heap.get?_push_of_some _ (Heap.get?_push_of_some _ e)) (by rw [hs2]; omega) (fun q hq => ?_) (T.nolimit.keeps fun b o e => Heap.get?_push_of_some _ (Heap.get?_push_of_some _ e)) (hloc _ _) (fun L' h₁ F N => h _ _ L' h₁ _ ?_ F N) hcell hk
  · rcases List.mem_cons.mp hq with rfl | hq
    · exact ⟨Heap.get?_push_size _ rfl, get_size_none (by rw [hs1]; omega)⟩
    · rw [List.mem_singleton.mp hq]
      exact ⟨Heap.get?_push_of_some _ (Heap.get?_push_size _ rfl), get_size_none (Nat.le_refl _)⟩
  · have h1 := modules_low T.nolimit
    have h2 : sysModules < s.heap.objs.size := h1
    exact beq_false_of_ne (Nat.ne_of_gt (Nat.lt_trans h2 (by rw [hs1]; exact Nat.lt_succ_self _)))
end
/-- a def's contract: it hands back a plain value; all that stood stays -/
def Gives (w : World) (mean : ExcName → Option Value) (mg mb : Str → Option Value) (k : Nat) (f : Addr) (vs : List Value) (H : Heap → Prop) (R : Tok → Value) : Prop :=
  ∀ (dp un : Nat) (gd : Option (List Code)) (outer : List Env) (base : Heap) (s : Shared) (Q E : Value → Shared → Prop),
    Below (Ar dp un gd outer) base outer s.heap → (hd.heap_39 w.params).In s.heap → Top Vw Lo mean mg mb s.heap →
    dp + k < recursionLimit → un + 16 * k < cLine → H s.heap →
    (∀ (t : Tok) (h' : Heap) (tk' : Nat), s.heap.StaysIn h' → Q (R t) { s with heap := h', toks := tk' }) →
      wpAny (model Pg w) (Ar dp un gd outer) (call (.ref f) vs) Q E s
theorem belowAt {A₀ A : Around} {base h₀ h : Heap} {outer : List Env} {L : Addr} {m : Str → Option Value} {env : Env} (hA : A.frames = some (env :: outer)) (hf : env.frame = some L) (hk : env.scope.kind = .function) (B : Below A₀ base outer h₀) (F : Fr h₀ L h m) :
    Below A base (env :: outer) h := ⟨hA, (pushX B F hf hk).stays, (pushX B F hf hk).frames⟩
theorem Gives.use {w : World} {mean : ExcName → Option Value} {mg mb : Str → Option Value} {k : Nat} {f : Addr} {vs : List Value} {H : Heap → Prop} {R : Tok → Value} (G : Gives w mean mg mb k f vs H R)
    {news : List (Addr × Obj)} {dp un : Nat} {gd : Option (List Code)} {env : Env} {outer : List Env} {A₀ : Around} {base h₀ : Heap} {L : Addr} {m : Str → Option Value} {s : Shared} {Q E : Value → Shared → Prop}
    (hf : env.frame = some L) (hk : env.scope.kind = .function)
    (B : Below A₀ base outer h₀) (F : Fr h₀ L s.heap m) (X : (hd.heap_39 w.params).In h₀) (N : News h₀ L s.heap news) (T : Top Vw Lo mean mg mb h₀)
    (hd : dp + k < recursionLimit) (hu : un + 16 * k < cLine) (hH : H s.heap)
    (ret : ∀ (t : Tok) (h' : Heap) (tk' : Nat), s.heap.StaysIn h' → Fr h₀ L h' m → News h₀ L h' news → Q (R t) { s with heap := h', toks := tk' }) :
    wpAny (model Pg w) (Ar dp un gd (env :: outer)) (call (.ref f) vs) Q E s :=
  G dp un gd (env :: outer) base s Q E (belowAt rfl hf hk B F) (X.keeps F.keep) (T.keeps F.keep) hd hu hH fun t h' tk' st => ret t h' tk' st (F.keeps st) (N.keeps st)
end Mine
end
section
open PySem PySem.W PyProof.Rows PySem.Calls
set_option Elab.async false
set_option maxRecDepth 100000
set_option maxHeartbeats 2000000
namespace Mine
section
variable {prog : Program} {w : World} {A : Around} {s : Shared} {K : Frag} {mg mb : Str → Option Value} {p : Program} {loose : List Str} {R : Result → Shared → Prop} {name qual : Str} {params params₀ : Arguments} {body body₀ : List Stmt} {scope scope₀ : Scope} {dV kV doc pm cdv ct oc : Value} {an od : Option Addr} {osl : Array (Option Value)} {f : Addr} {args : Args}
theorem enterA {binds : List (Str × Value)} (X : K.In s.heap) (T : TopRead p loose mg mb s.heap)
    (ho : K.lookup f = some ⟨oc, od, .func (fnOf name qual params₀ body₀ scope₀ dV kV doc pm an cdv ct), osl⟩) (hl₁ : params₀ = params) (hl₂ : body₀ = body) (hl₃ : scope₀ = scope) (hcd : codeIn K cdv qual = true) (hroom : A.depth < recursionLimit)
    (hbind : BindsTo s (fnOf name qual params body scope dV kV doc pm an cdv ct) args binds) (hloc : ∀ y ∈ binds, scope.names.lookup y.1 = some .local)
    (h : ∀ L' h₁, Fr s.heap L' h₁ (fun y => binds.reverse.lookup y) → News s.heap L' h₁ [] →
      wpAny (model prog w) (A.deeper (envOf qual scope L' f cdv)) (execs body (envOf qual scope L' f cdv))
        (fun fl s' => R (.ok (.ret (match fl with | .ret v => v | _ => .none))) s')
        (fun e s' => wpAny (model prog w) (A.deeper (envOf qual scope L' f cdv)) (leaving (envOf qual scope L' f cdv) e) (fun _ s'' => R (.error e) s'') (fun e' s'' => R (.error e') s'') s')
        { s with heap := h₁, toks := s.toks + binds.length })
    (hco : scope.isCoroutine = false) (hgen : scope.isGenerator = false) (hk : scope.kind = .function)
    (hcell : ∀ x ∈ scope.names, x.2 ≠ .cell) : codeAny (model prog w) A (.call (.ref f) args) R s := by
  cases hl₁; cases hl₂; cases hl₃
  exact codeAny_call_def (fd := fnOf name qual params body scope dV kV doc pm an cdv ct) (body := body) (binds := binds) hroom (X _ _ ho) rfl T.nolimit (codeRec_of X hcd) rfl hbind hcell hloc
    (fun h₁ hns hk₁ => h s.heap.objs.size h₁ ⟨hns, hk₁, Nat.le_refl _⟩ News.nil) hco hgen hk
end
/-- a def's contract wherever it is called: it hands back a plain value and raises nothing -/
def GivesA (w : World) (mg mb : Str → Option Value) (k : Nat) (f : Addr) (vs : List Value) (H : Heap → Prop) (R : Tok → Value) : Prop :=
  ∀ (A : Around) (s : Shared) (Q E : Value → Shared → Prop), A.handled = none → (hd.heap_39 w.params).In s.heap → TopRead Vw Lo mg mb s.heap →
    A.depth + k < recursionLimit → A.units + 16 * k < cLine → H s.heap →
    (∀ (t : Tok) (h' : Heap) (tk' : Nat), s.heap.StaysIn h' → Q (R t) { s with heap := h', toks := tk' }) → wpAny (model Pg w) A (call (.ref f) vs) Q E s
theorem GivesA.use {w : World} {mg mb : Str → Option Value} {k : Nat} {f : Addr} {vs : List Value} {H : Heap → Prop} {R : Tok → Value} (G : GivesA w mg mb k f vs H R)
    {news : List (Addr × Obj)} {A : Around} {h₀ : Heap} {L : Addr} {m : Str → Option Value} {s : Shared} {Q E : Value → Shared → Prop}
    (hh : A.handled = none) (F : Fr h₀ L s.heap m) (X : (hd.heap_39 w.params).In h₀) (N : News h₀ L s.heap news) (T : TopRead Vw Lo mg mb h₀)
    (hd : A.depth + k < recursionLimit) (hu : A.units + 16 * k < cLine) (hH : H s.heap)
    (ret : ∀ (t : Tok) (h' : Heap) (tk' : Nat), s.heap.StaysIn h' → Fr h₀ L h' m → News h₀ L h' news → Q (R t) { s with heap := h', toks := tk' }) :
    wpAny (model Pg w) A (call (.ref f) vs) Q E s :=
  G A s Q E hh (X.keeps F.keep) (T.keeps F.keep) hd hu hH fun t h' tk' st => ret t h' tk' st (F.keeps st) (N.keeps st)
end Mine
end
section
open PySem PySem.W PyProof.Rows PySem.Calls
set_option Elab.async false
set_option maxRecDepth 100000
set_option maxHeartbeats 8000000
namespace Mine
section
variable {prog : Program} {w : World} {A : Around} {E : Value → Shared → Prop} {s : Shared} {env : Env} {h₀ : Heap} {x : Str} {body : List Stmt} {Q : Flow → Shared → Prop}
/-- a loop by an invariant over a state of one's own: the frame's map and the made objects are functions of it -/
theorem loopCore {σ : Type} {I : Addr} {rest : List Addr} {n : Nat} {P : Nat → Value → Prop} {St : Nat → Heap → Prop} {m₀ : Str → Option Value}
    (W : Walks prog w A I (I :: rest) [I] n P St) (Led : σ → List (Addr × Obj)) (ps : σ → List (Str × Value)) (stored : List Str) (J : Nat → σ → Prop) (c₀ : σ)
    (hrest : ∀ b ∈ rest, (∃ o, h₀.get? b = some o) ∨ ∃ o, ∀ c, (b, o) ∈ Led c) (hI0 : h₀.get? I = none) (hIL : env.locals ≠ I) (hIlt : ∀ p ∈ Led c₀, p.1 < I)
    (hst : St 0 s.heap) (hSt : ∀ i h, St i h → ∃ o, h.get? I = some o)
    (F : Fr h₀ env.locals s.heap m₀) (N : News h₀ env.locals s.heap (Led c₀)) (hk : ∀ p ∈ ps c₀, m₀ p.1 = some p.2) (hj : J 0 c₀)
    (turn : ∀ i c v (u : Str → Option Value) h tk it, i < n → P i v → J i c → (∀ p ∈ Led c₀, p.1 < I) →
      Fr h₀ env.locals h (fun y => if y = x then some v else kstB (fun z => if stored.contains z then u z else m₀ z) (ps c) y) → News h₀ env.locals h (Led c ++ [(I, it)]) →
      wpAny (model prog w) A (execs body env) (InvPostN h₀ env.locals (KstS Led ps (fun _ => True) x stored m₀ (fun _ => J (i + 1)) []) [(I, it)] ((Led c₀).map (·.1)) { s with heap := h, toks := tk } Q) E { s with heap := h, toks := tk })
    (done : ∀ c (u : Str → Option Value) h tk, J n c → Fr h₀ env.locals h (fun y => if y = x then u y else kstB (fun z => if stored.contains z then u z else m₀ z) (ps c) y) → News h₀ env.locals h (Led c) → Q .next { s with heap := h, toks := tk }) :
    LoopAtV prog w A h₀ env x body Q E (.ref I) s := by
  have off : ∀ nx : List (Addr × Obj), nx.map (·.1) = (Led c₀).map (·.1) → ∀ p ∈ nx, p.1 ∉ [I] := fun nx e p hp q => by
    have h1 : p.1 ∈ (Led c₀).map (·.1) := e ▸ List.mem_map_of_mem hp
    obtain ⟨r, hr, e2⟩ := List.mem_map.mp h1
    have h2 := hIlt r hr
    rw [e2, List.mem_singleton.mp q] at h2
    exact Nat.lt_irrefl _ h2
  refine ⟨I, I :: rest, [I], n, P, St, m₀, Led c₀, fun i m nx => nx.map (·.1) = (Led c₀).map (·.1) ∧ KstS Led ps (fun _ => True) x stored m₀ (fun _ => J i) [] m nx, rfl, W, ?_, ?_, off _ rfl, hst, F, N, ⟨rfl, c₀, rfl, trivial, hk, fun _ _ _ _ => rfl, hj⟩, ?_, ?_⟩
  · intro hm
    rcases List.mem_cons.mp hm with e | hm
    · exact hIL e
    · rcases hrest _ hm with ⟨o, ho⟩ | ⟨o, ho⟩
      · exact absurd (Nat.lt_of_lt_of_le (Heap.lt_size ho) F.above) (Nat.lt_irrefl _)
      · exact (N _ (ho c₀)).2.1 rfl
  · intro b hb
    rw [List.mem_singleton.mp hb]
    exact hI0
  · rintro i v m₁ nx s₁ own ⟨h, tk, rfl⟩ hi hP ⟨hadr, c, rfl, _, h1, h2, hJ⟩ hoff hown hget hall hst₁ F₁ N₁
    obtain ⟨it, hit⟩ := hSt _ _ hst₁
    have hmem : (I, it) ∈ own := hall I (List.mem_cons_self ..) hI0 it hit
    have N₂ : News h₀ env.locals h (Led c ++ [(I, it)]) := fun p hp => by
      rcases List.mem_append.mp hp with q | q
      · exact N₁ p (List.mem_append_right _ q)
      · rw [List.mem_singleton.mp q]; exact N₁ _ (List.mem_append_left _ hmem)
    refine wpAny_mono (turn i c v m₁ h tk it hi hP hJ hIlt (kst_fr h1 h2 F₁) N₂) (fun f s₂ p => ?_) fun _ _ e => e
    have fin : InvEndN h₀ env.locals (KstS Led ps (fun _ => True) x stored m₀ (fun _ => J (i + 1)) []) [(I, it)] ((Led c₀).map (·.1)) { s with heap := h, toks := tk } s₂ →
        LoopStepU h₀ env.locals [I] own (fun m nx => nx.map (·.1) = (Led c₀).map (·.1) ∧ KstS Led ps (fun _ => True) x stored m₀ (fun _ => J (i + 1)) [] m nx) { s with heap := h, toks := tk } .next s₂ := by
      rintro ⟨h', tk', m', news', nx, e, F', N', hn, ho, ha, hS⟩
      refine ⟨rfl, h', tk', m', nx, e, F', fun p hp => ?_, off nx ha, ha, hS⟩
      rcases List.mem_append.mp hp with q | q
      · have hg : h.get? p.1 = some p.2 := hget p q
        rcases List.mem_cons.mp (hown p q) with e1 | e1
        · have e2 : p = (I, it) := Prod.ext e1 (Option.some.inj ((e1 ▸ hg).symm.trans hit))
          exact e2 ▸ N' _ (ho _ (List.mem_singleton.mpr rfl))
        · rcases hrest _ e1 with ⟨o, ho'⟩ | ⟨o, ho'⟩
          · have h3 := (N₁ p (List.mem_append_left _ q)).2.2
            rw [ho'] at h3; cases h3
          · have h3 : h.get? p.1 = some o := (N₁ _ (List.mem_append_right _ (ho' c))).1
            have e2 : p = (p.1, o) := Prod.ext rfl (Option.some.inj (hg.symm.trans h3))
            obtain ⟨c', rfl, _⟩ := hS
            exact e2 ▸ N' _ (hn _ (ho' c'))
      · exact N' p (hn p q)
    cases f with
    | ret v => exact .ret p
    | brk => exact .brk p
    | next => exact .next (fin p)
    | cont => exact .cont (fin p)
  · rintro h' tk m' nx F' N' _ ⟨_, c, rfl, _, h1, h2, hJ⟩
    exact done c m' h' tk hJ (kst_frOut h1 h2 F') N'
/-- over a list that the call has made -/
theorem loopV {σ : Type} {l : Addr} {vs : List Value} {o : Obj} {nn : Nat} {m₀ : Str → Option Value}
    (Led : σ → List (Addr × Obj)) (ps : σ → List (Str × Value)) (stored : List Str) (J : Nat → σ → Prop) (c₀ : σ)
    (hh : A.handled = none) (hc : o.cls = .type "list") (hd : o.data = .seq vs.toArray nn) (hl : ∀ c : σ, (l, o) ∈ Led c)
    (F : Fr h₀ env.locals s.heap m₀) (N : News h₀ env.locals s.heap (Led c₀)) (hk : ∀ p ∈ ps c₀, m₀ p.1 = some p.2) (hj : J 0 c₀)
    (turn : ∀ i c v (u : Str → Option Value) h tk I it, vs[i]? = some v → J i c → (∀ p ∈ Led c₀, p.1 < I) →
      Fr h₀ env.locals h (fun y => if y = x then some v else kstB (fun z => if stored.contains z then u z else m₀ z) (ps c) y) → News h₀ env.locals h (Led c ++ [(I, it)]) →
      wpAny (model prog w) A (execs body env) (InvPostN h₀ env.locals (KstS Led ps (fun _ => True) x stored m₀ (fun _ => J (i + 1)) []) [(I, it)] ((Led c₀).map (·.1)) { s with heap := h, toks := tk } Q) E { s with heap := h, toks := tk })
    (done : ∀ c (u : Str → Option Value) h tk, J vs.length c → Fr h₀ env.locals h (fun y => if y = x then u y else kstB (fun z => if stored.contains z then u z else m₀ z) (ps c) y) → News h₀ env.locals h (Led c) → Q .next { s with heap := h, toks := tk }) :
    wpAny (model prog w) A (pyIter (.ref l)) (fun it s₂ => LoopAtV prog w A h₀ env x body Q E it s₂) E s := by
  have hol : s.heap.get? l = some o := (N _ (hl c₀)).1
  have hls : s.heap.IsList l vs.toArray := ⟨o, hol, hc, nn, hd⟩
  refine wpAny_pyIter_list hls ?_
  have W := Walks.list (prog := prog) (w := w) hh s.heap.objs.size l (Nat.ne_of_lt (Heap.lt_size hol)) vs.toArray
  refine loopCore (s := { s with heap := s.heap.push _ }) W Led ps stored J c₀ (fun b hb => .inr ⟨o, fun c => (List.mem_singleton.mp hb) ▸ hl c⟩) (get_size_none (Nat.le_trans F.above (Nat.le_of_lt F.ns.lt))) (Nat.ne_of_lt F.ns.lt) (fun p hp => Heap.lt_size (N p hp).1)
    ⟨⟨_, Heap.get?_push_size _ rfl, rfl, rfl⟩, hls.at fun o e => Heap.get?_push_of_some _ e⟩ (fun i h st => by obtain ⟨it, hit, _⟩ := st.1; exact ⟨it, hit⟩) (F.push _) (fun p hp => ⟨Heap.get?_push_of_some _ (N p hp).1, (N p hp).2⟩) hk hj
    (fun i c v u h tk it _ hP hJ hlt F₁ N₁ => turn i c v u h tk _ it (by simpa using hP) hJ hlt F₁ N₁) (fun c u h tk hJ F₁ N₁ => done c u h tk (by simpa using hJ) F₁ N₁)
/-- over a list that stood before the frame -/
theorem loopB {σ : Type} {l : Addr} {vs : List Value} {m₀ : Str → Option Value}
    (Led : σ → List (Addr × Obj)) (ps : σ → List (Str × Value)) (stored : List Str) (J : Nat → σ → Prop) (c₀ : σ)
    (hh : A.handled = none) (hl : h₀.IsList l vs.toArray)
    (F : Fr h₀ env.locals s.heap m₀) (N : News h₀ env.locals s.heap (Led c₀)) (hk : ∀ p ∈ ps c₀, m₀ p.1 = some p.2) (hj : J 0 c₀)
    (turn : ∀ i c v (u : Str → Option Value) h tk I it, vs[i]? = some v → J i c → (∀ p ∈ Led c₀, p.1 < I) →
      Fr h₀ env.locals h (fun y => if y = x then some v else kstB (fun z => if stored.contains z then u z else m₀ z) (ps c) y) → News h₀ env.locals h (Led c ++ [(I, it)]) →
      wpAny (model prog w) A (execs body env) (InvPostN h₀ env.locals (KstS Led ps (fun _ => True) x stored m₀ (fun _ => J (i + 1)) []) [(I, it)] ((Led c₀).map (·.1)) { s with heap := h, toks := tk } Q) E { s with heap := h, toks := tk })
    (done : ∀ c (u : Str → Option Value) h tk, J vs.length c → Fr h₀ env.locals h (fun y => if y = x then u y else kstB (fun z => if stored.contains z then u z else m₀ z) (ps c) y) → News h₀ env.locals h (Led c) → Q .next { s with heap := h, toks := tk }) :
    wpAny (model prog w) A (pyIter (.ref l)) (fun it s₂ => LoopAtV prog w A h₀ env x body Q E it s₂) E s := by
  obtain ⟨o, ho, _⟩ := id hl
  have hls : s.heap.IsList l vs.toArray := hl.at fun o e => F.keep l o e
  have hol : s.heap.get? l = some o := F.keep l o ho
  refine wpAny_pyIter_list hls ?_
  have W := Walks.list (prog := prog) (w := w) hh s.heap.objs.size l (Nat.ne_of_lt (Heap.lt_size hol)) vs.toArray
  refine loopCore (s := { s with heap := s.heap.push _ }) W Led ps stored J c₀ (fun b hb => .inl ⟨o, (List.mem_singleton.mp hb) ▸ ho⟩) (get_size_none (Nat.le_trans F.above (Nat.le_of_lt F.ns.lt))) (Nat.ne_of_lt F.ns.lt) (fun p hp => Heap.lt_size (N p hp).1)
    ⟨⟨_, Heap.get?_push_size _ rfl, rfl, rfl⟩, hls.at fun o e => Heap.get?_push_of_some _ e⟩ (fun i h st => by obtain ⟨it, hit, _⟩ := st.1; exact ⟨it, hit⟩) (F.push _) (fun p hp => ⟨Heap.get?_push_of_some _ (N p hp).1, (N p hp).2⟩) hk hj
    (fun i c v u h tk it _ hP hJ hlt F₁ N₁ => turn i c v u h tk _ it (by simpa using hP) hJ hlt F₁ N₁) (fun c u h tk hJ F₁ N₁ => done c u h tk (by simpa using hJ) F₁ N₁)
end
end Mine
end
section
open PySem PySem.W PyProof.Rows PySem.Calls
set_option Elab.async false
set_option maxRecDepth 100000
set_option maxHeartbeats 8000000
namespace Mine
section
variable {prog : Program} {w : World} {A : Around} {E : Value → Shared → Prop} {s : Shared} {h₀ : Heap} {L D : Addr} {m : Str → Option Value} {news news' : List (Addr × Obj)} {n : Nat}
theorem truthy_at {its : Array Value} {b : Bool} {Q : Bool → Shared → Prop} (N : News h₀ L s.heap news) (hm : (D, listOf its n) ∈ news) (hb : (!its.isEmpty) = b) (hz : its.size ≤ 100000)
    (h : Q b { s with toks := s.toks + 1 + 1 }) : wpAny (model prog w) A (truthy (.ref D)) Q E s :=
  wpAny_truthy_list ⟨_, (N _ hm).1, rfl, n, rfl⟩ (by omega) (hb ▸ h)
theorem truthy_nil {Q : Bool → Shared → Prop} (N : News h₀ L s.heap news) (hm : (D, listOf ([] : List Value).toArray n) ∈ news)
    (h : Q false { s with toks := s.toks + 1 + 1 }) : wpAny (model prog w) A (truthy (.ref D)) Q E s := truthy_at N hm rfl (by simp) h
theorem truthy_snoc {us : List Value} {y : Value} {Q : Bool → Shared → Prop} (N : News h₀ L s.heap news) (hm : (D, listOf (us ++ [y]).toArray n) ∈ news) (hz : us.length ≤ 50000)
    (h : Q true { s with toks := s.toks + 1 + 1 }) : wpAny (model prog w) A (truthy (.ref D)) Q E s := truthy_at N hm (by simp) (by simp; omega) h
theorem neg1_at {value slice : PySem.Expr} {u : Tok} {us : List Value} {y : Value} {Q : Value → Shared → Prop} (N : News h₀ L s.heap news) (hm : (D, listOf (us ++ [y]).toArray n) ∈ news) (hz : us.length ≤ 50000) (h : Q y s)
    (hs : subscripted slice false (.ref D) (.int (-1) u) = operate [.ref D, .int (-1) u] (getItem (.ref D) (.int (-1) u)) := by with_unfolding_all rfl) :
    wpAny (model prog w) A (subscriptTail value slice (.ref D) (.int (-1) u)) Q E s := by
  have hl : s.heap.IsList D (us ++ [y]).toArray := ⟨_, (N _ hm).1, rfl, n, rfl⟩
  refine tail_any hl.typeIs slot_list_getitem.lookup (wpAny_getItem_list_neg hl (by decide) ?_ (by decide) ?_ h) hs
  · simp
    omega
  · have e : ((-1 : Int) + ((us ++ [y]).toArray.size : Int)).toNat = us.length := by simp; omega
    rw [e]
    simp
theorem pop_at {us : List Value} {y : Value} {Q : Value → Shared → Prop} (F : Fr h₀ L s.heap m) (N : News h₀ L s.heap news) (U : Upd D (listOf (us ++ [y]).toArray n) (listOf us.toArray (n + 1)) news news') (hz : us.length ≤ 50000)
    (h : ∀ h', Fr h₀ L h' m → News h₀ L h' news' → Q y { s with heap := h' }) : wpAny (model prog w) A (call (.builtin "list.pop") [.ref D]) Q E s :=
  kl_pop F N (p := us) (y := y) (by simpa using kpa_last y us) U (by rw [sizeLine_eq]; simp; omega) h
theorem push_at {us : List Value} {y : Value} {Q : Value → Shared → Prop} (F : Fr h₀ L s.heap m) (N : News h₀ L s.heap news) (U : Upd D (listOf us.toArray n) (listOf (us ++ [y]).toArray (n + 1)) news news') (hz : us.length ≤ 50000)
    (h : ∀ h', Fr h₀ L h' m → News h₀ L h' news' → Q .none { s with heap := h' }) : wpAny (model prog w) A (call (.builtin "list.append") [.ref D, y]) Q E s := by
  refine append_K (its := us.toArray) (n := n) F N ?_ h (by rw [sizeLine_eq]; simp; omega)
  simpa using U
end
theorem sv_snoc (a : List (Str × Tok)) (y : Str × Tok) : strValues (a ++ [y]) = strValues a ++ [.str y.1 y.2] := by simp [strValues]
theorem sv_len (a : List (Str × Tok)) : (strValues a).length = a.length := by simp [strValues]
theorem sv_nil : strValues [] = [] := rfl
theorem sv_are : ∀ l : List (Str × Tok), StrsAre (strValues l) (l.map (·.1))
  | [] => .nil
  | p :: l => .cons p.1 p.2 (sv_are l)
/-- lengths and number together -/
def wt (l : List (Str × Tok)) : Nat := ((l.map (·.1)).map (·.length)).sum + (l.map (·.1)).length
theorem wt_nil : wt [] = 0 := rfl
theorem wt_append (a b : List (Str × Tok)) : wt (a ++ b) = wt a + wt b := by simp [wt]; omega
theorem wt_cons (p : Str × Tok) (b : List (Str × Tok)) : wt (p :: b) = p.1.length + 1 + wt b := by simp [wt]; omega
theorem wt_snoc (a : List (Str × Tok)) (y : Str × Tok) : wt (a ++ [y]) = wt a + y.1.length + 1 := by rw [wt_append]; simp [wt]; omega
theorem wt_len (a : List (Str × Tok)) : a.length ≤ wt a := by simp [wt]
theorem wt_mem {a : List (Str × Tok)} {p : Str × Tok} (h : p ∈ a) : p.1.length + 1 ≤ wt a := by
  obtain ⟨u, v, rfl⟩ := List.append_of_mem h
  rw [wt_append, wt_cons]
  omega
theorem wt_split {l : List (Str × Tok)} {x y : Str} (e : l.map (·.1) = Txt.split x y) (hy : 1 ≤ y.length) : wt l ≤ x.length + 1 := weighs_of_split e hy
theorem join_len {sep : Str} {l : List (Str × Tok)} (hs : sep.length ≤ 4) : (Txt.join sep (l.map (·.1))).length ≤ 4 * (wt l + 1) :=
  len_join_le (n := wt l) (Nat.le_succ_of_le (Nat.le_refl (wt l))) hs
theorem join_ok {sep : Str} {l : List (Str × Tok)} (hs : sep.length ≤ 16) (hw : wt l ≤ 1000000) : JoinOk sep (l.map (·.1)) = true := joinOk_of_weight (Nat.le_trans hw (by decide)) hs
section
variable {prog : Program} {w : World} {A : Around} {E : Value → Shared → Prop} {s : Shared} {h₀ : Heap} {L D : Addr} {m : Str → Option Value} {news news' : List (Addr × Obj)} {n : Nat}
theorem join_at {sep : Str} {t : Tok} {l : List (Str × Tok)} {Q : Value → Shared → Prop} (N : News h₀ L s.heap news) (hm : (D, listOf (strValues l).toArray n) ∈ news) (hs : sep.length ≤ 4) (hw : wt l ≤ 1000000)
    (h : ∀ t' k, (Txt.join sep (l.map (·.1))).length ≤ 4 * (wt l + 1) → Q (.str (Txt.join sep (l.map (·.1))) t') { s with toks := k }) : wpAny (model prog w) A (call (.builtin "str.join") [.str sep t, .ref D]) Q E s :=
  SC.join ⟨_, (N _ hm).1, rfl, n, rfl⟩ rfl (join_ok (by omega) hw) fun t' k => h t' k (join_len hs)
end
/-- the walk is to stop here -/
def Halt (P : Prop) : Prop := P
theorem halt_of {P : Prop} (h : Halt P) : P := h
/-- how a turn ends -/
def EndJ {σ : Type} (h₀ : Heap) (L : Addr) (x : Str) (m₀ : Str → Option Value) (Led : σ → List (Addr × Obj)) (own : List (Addr × Obj)) (J : σ → Prop) (s₁ : Shared) (Q : Flow → Shared → Prop) (f : Flow) (s₂ : Shared) : Prop :=
  match f with
  | .ret v => Q (.ret v) s₂
  | .brk => Q .next s₂
  | _ => ∃ h' tk m' c, s₂ = { s₁ with heap := h', toks := tk } ∧ Fr h₀ L h' m' ∧ (∀ z, z ≠ x → m' z = m₀ z) ∧ News h₀ L h' (Led c ++ own) ∧ J c
theorem EndJ.next {σ : Type} {h₀ h' : Heap} {L : Addr} {x : Str} {m₀ m' : Str → Option Value} {Led : σ → List (Addr × Obj)} {own : List (Addr × Obj)} {J : σ → Prop} {s₁ : Shared} {Q : Flow → Shared → Prop} {tk : Nat} (c : σ) (F : Fr h₀ L h' m') (N : News h₀ L h' (Led c ++ own)) (hm : ∀ z, z ≠ x → m' z = m₀ z) (hJ : J c) :
    EndJ h₀ L x m₀ Led own J s₁ Q .next { s₁ with heap := h', toks := tk } := ⟨h', tk, m', c, rfl, F, hm, N, hJ⟩
theorem EndJ.cont {σ : Type} {h₀ h' : Heap} {L : Addr} {x : Str} {m₀ m' : Str → Option Value} {Led : σ → List (Addr × Obj)} {own : List (Addr × Obj)} {J : σ → Prop} {s₁ : Shared} {Q : Flow → Shared → Prop} {tk : Nat} (c : σ) (F : Fr h₀ L h' m') (N : News h₀ L h' (Led c ++ own)) (hm : ∀ z, z ≠ x → m' z = m₀ z) (hJ : J c) :
    EndJ h₀ L x m₀ Led own J s₁ Q .cont { s₁ with heap := h', toks := tk } := ⟨h', tk, m', c, rfl, F, hm, N, hJ⟩
theorem snoc_cases {α : Type} (l : List α) : l = [] ∨ ∃ us y, l = us ++ [y] := by
  rcases List.eq_nil_or_concat l with e | ⟨us, y, e⟩
  · exact .inl e
  · exact .inr ⟨us, y, by rw [e, List.concat_eq_append]⟩
section
variable {prog : Program} {w : World} {A : Around} {E : Value → Shared → Prop} {s : Shared} {env : Env} {h₀ : Heap} {x : Str} {body : List Stmt} {Q : Flow → Shared → Prop}
theorem EndJ.post {σ : Type} {Led : σ → List (Addr × Obj)} {own : List (Addr × Obj)} {J : σ → Prop} {m₀ : Str → Option Value} {c₀ : σ} {L : Addr} {s₁ : Shared} {f : Flow} {s₂ : Shared} (ha : ∀ c, (Led c).map (·.1) = (Led c₀).map (·.1))
    (h : EndJ h₀ L x m₀ Led own J s₁ Q f s₂) : InvPostN h₀ L (KstS Led (fun _ => []) (fun _ => True) x [] m₀ (fun _ => J) []) own ((Led c₀).map (·.1)) s₁ Q f s₂ := by
  have fin : (∃ h' tk m' c, s₂ = { s₁ with heap := h', toks := tk } ∧ Fr h₀ L h' m' ∧ (∀ z, z ≠ x → m' z = m₀ z) ∧ News h₀ L h' (Led c ++ own) ∧ J c) →
      InvEndN h₀ L (KstS Led (fun _ => []) (fun _ => True) x [] m₀ (fun _ => J) []) own ((Led c₀).map (·.1)) s₁ s₂ := by
    rintro ⟨h', tk, m', c, rfl, F, hm, N, hJ⟩
    exact kst_end c F N (fun p hp => List.mem_append_left _ hp) (fun p hp => List.mem_append_right _ hp) (ha c) trivial (fun _ hp => nomatch hp) (fun z hz _ _ => hm z hz) hJ
  cases f with
  | ret v => exact h
  | brk => exact h
  | next => exact fin h
  | cont => exact fin h
/-- a loop over a made list of texts; the state is of one's own -/
theorem loopT {σ : Type} {l : Addr} {ts : List (Str × Tok)} {nn : Nat} {m₀ : Str → Option Value} {L : Addr} (hL : env.locals = L)
    (Led : σ → List (Addr × Obj)) (J : List (Str × Tok) → σ → Prop) (c₀ : σ)
    (hh : A.handled = none) (hl : ∀ c : σ, (l, listOf (strValues ts).toArray nn) ∈ Led c) (ha : ∀ c, (Led c).map (·.1) = (Led c₀).map (·.1))
    (F : Fr h₀ L s.heap m₀) (N : News h₀ L s.heap (Led c₀)) (hj : J [] c₀)
    (turn : ∀ pre p c h tk I it, (∃ post, ts = pre ++ p :: post) → J pre c → (∀ q ∈ Led c₀, q.1 < I) →
      Fr h₀ L h (fun y => if y = x then some (.str p.1 p.2) else m₀ y) → News h₀ L h (Led c ++ [(I, it)]) →
      wpAny (model prog w) A (execs body env) (EndJ h₀ L x m₀ Led [(I, it)] (J (pre ++ [p])) { s with heap := h, toks := tk } Q) E { s with heap := h, toks := tk })
    (done : ∀ c (u : Str → Option Value) h tk, J ts c → Fr h₀ L h (fun y => if y = x then u y else m₀ y) → News h₀ L h (Led c) → Q .next { s with heap := h, toks := tk }) :
    wpAny (model prog w) A (pyIter (.ref l)) (fun it s₂ => LoopAtV prog w A h₀ env x body Q E it s₂) E s := by
  subst hL
  refine loopV Led (fun _ => []) [] (fun i => J (ts.take i)) c₀ hh (o := listOf (strValues ts).toArray nn) rfl rfl hl F N (fun _ hp => nomatch hp) (by simpa using hj) ?_ ?_
  · intro i c v u h tk I it hv hJ hlt F₁ N₁
    have hv' : (strValues ts)[i]? = some v := hv
    obtain ⟨p, hp, rfl⟩ : ∃ p, ts[i]? = some p ∧ v = .str p.1 p.2 := by
      unfold strValues at hv'
      rw [List.getElem?_map] at hv'
      obtain ⟨p, hp, e⟩ := Option.map_eq_some_iff.mp hv'
      exact ⟨p, hp, e.symm⟩
    have hs : ts.take (i + 1) = ts.take i ++ [p] := by simp [List.take_add_one, hp]
    have ht := List.take_append_drop (i + 1) ts
    rw [hs, List.append_assoc] at ht
    rw [hs]
    exact wpAny_mono (turn _ p c h tk I it ⟨_, ht.symm⟩ hJ hlt F₁ N₁) (fun f s₂ e => e.post ha) fun _ _ e => e
  · intro c u h tk hJ F₁ N₁
    rw [sv_len, List.take_length] at hJ
    exact done c u h tk hJ F₁ N₁
end
end Mine
end
section
open PySem PySem.W PyProof.Rows PySem.Calls PyProof.V PySem.Spec
set_option Elab.async false
set_option maxRecDepth 100000
set_option maxHeartbeats 2000000
namespace Mine
def wS (ss : List Str) : Nat := (ss.map (·.length)).sum + ss.length
theorem wS_len (a : List Str) : a.length ≤ wS a := by simp [wS]
theorem wS_append (a b : List Str) : wS (a ++ b) = wS a + wS b := by simp [wS]; omega
theorem wS_cons (p : Str) (b : List Str) : wS (p :: b) = p.length + 1 + wS b := by simp [wS]; omega
theorem wS_nil : wS [] = 0 := rfl
theorem wS_mem {a : List Str} {p : Str} (h : p ∈ a) : p.length + 1 ≤ wS a := by
  obtain ⟨u, v, rfl⟩ := List.append_of_mem h
  rw [wS_append, wS_cons]
  omega
theorem joinS_len {sep : Str} {ss : List Str} (hs : sep.length ≤ 4) : (Txt.join sep ss).length ≤ 4 * (wS ss + 1) :=
  len_join_le (n := wS ss) (Nat.le_succ_of_le (Nat.le_refl (wS ss))) hs
def OkS (ss : List Str) : Prop := ∀ x ∈ ss, PyData.strOk x = true
theorem OkS.nil : OkS [] := fun _ h => nomatch h
theorem okS1 {x : Str} (h : PyData.strOk x = true) : OkS [x] := fun y hy => by rw [List.mem_singleton.mp hy]; exact h
theorem OkS.append {a b : List Str} (h : OkS a) (k : OkS b) : OkS (a ++ b) := fun x hx => (List.mem_append.mp hx).elim (h x) (k x)
theorem OkS.take {a : List Str} (h : OkS a) (n : Nat) : OkS (a.take n) := fun x hx => h x (List.mem_of_mem_take hx)
theorem OkS.drop {a : List Str} (h : OkS a) (n : Nat) : OkS (a.drop n) := fun x hx => h x (List.mem_of_mem_drop hx)
theorem sm_layAll : ∀ ss : List Str, OkS ss → PyData.canLayAll0 (ss.map PyData.str) = true
  | [], _ => rfl
  | x :: r, h => by simp [PyData.canLayAll0, PyData.canLay0, h x (.head _), sm_layAll r fun y hy => h y (.tail _ hy)]
theorem sm_depthAll : ∀ ss : List Str, PyData.depthAll (ss.map PyData.str) = 0
  | [] => rfl
  | _ :: r => by simp [PyData.depthAll, PyData.depth, sm_depthAll r]
theorem sm_shaped {ss : List Str} (h : OkS ss) : SeqAt.shaped (.list (ss.map PyData.str)) = true := by
  simp [SeqAt.shaped, PyData.canLay0, PyData.depth, sm_layAll _ h, sm_depthAll]
theorem sm_shapedT {ss : List Str} (h : OkS ss) : SeqAt.shaped (.tuple (ss.map PyData.str)) = true := by
  simp [SeqAt.shaped, PyData.canLay0, PyData.depth, sm_layAll _ h, sm_depthAll]
theorem sm_sameAll : ∀ ns ms : List Str, PySem.Spec.sameAll (ns.map PyData.str) (ms.map PyData.str) = decide (ns = ms)
  | [], [] => by simp [PySem.Spec.sameAll]
  | [], _ :: _ => by simp [PySem.Spec.sameAll]
  | _ :: _, [] => by simp [PySem.Spec.sameAll]
  | a :: r, b :: t => by
    simp only [List.map_cons, PySem.Spec.sameAll, PySem.Spec.same, sm_sameAll r t]
    by_cases h : a = b <;> by_cases h' : r = t <;> simp [h, h']
theorem sm_same (ns ms : List Str) : PySem.Spec.same (.list (ns.map PyData.str)) (.list (ms.map PyData.str)) = decide (ns = ms) := by
  simp only [PySem.Spec.same]; exact sm_sameAll ns ms
theorem sm_sameT (ns ms : List Str) : PySem.Spec.same (.tuple (ns.map PyData.str)) (.tuple (ms.map PyData.str)) = decide (ns = ms) := by
  simp only [PySem.Spec.same]; exact sm_sameAll ns ms
section
variable {prog : Program} {w : World} {A : Around} {E : Value → Shared → Prop} {s : Shared} {D a b : Addr} {vs ws : List Value} {ss ts : List Str} {h₀ : Heap} {L : Addr} {m : Str → Option Value} {news : List (Addr × Obj)}
theorem joinS {sep : Str} {t : Tok} {Q : Value → Shared → Prop} (hl : s.heap.IsList D vs.toArray) (hi : StrsAre vs ss) (hs : sep.length ≤ 4) (hw : wS ss ≤ 100000)
    (h : ∀ t' k, (Txt.join sep ss).length ≤ 4 * (wS ss + 1) → Q (.str (Txt.join sep ss) t') { s with toks := k }) : wpAny (model prog w) A (call (.builtin "str.join") [.str sep t, .ref D]) Q E s := by
  obtain ⟨l, rfl, rfl⟩ := strsAre_values hi
  exact SC.join hl rfl (joinOk_of_weight (Nat.le_trans hw (by decide)) (by omega)) fun t' k => h t' k (joinS_len hs)
theorem lenS {Q : Value → Shared → Prop} (hl : s.heap.IsList D vs.toArray) (hi : StrsAre vs ss) (hz : ss.length ≤ 100000) (h : ∀ t k, Q (.int (ss.length : Int) t) { s with toks := k }) : wpAny (model prog w) A (call (.builtin "len") [.ref D]) Q E s := by
  have e2 : vs.toArray.size = ss.length := by rw [List.size_toArray]; exact hi.length
  exact len_list hl (by rw [e2]; omega) (by rw [e2]; exact h _ _)
theorem itemS {value slice : PySem.Expr} {u : Tok} {i : Int} {x : Str} {Q : Value → Shared → Prop} (hl : s.heap.IsList D vs.toArray) (hi : StrsAre vs ss) (h0 : 0 ≤ i) (hz : i < 100000) (hx : ss[i.toNat]? = some x) (h : ∀ t, Q (.str x t) s)
    (hs : subscripted slice false (.ref D) (.int i u) = operate [.ref D, .int i u] (getItem (.ref D) (.int i u)) := by with_unfolding_all rfl) :
    wpAny (model prog w) A (subscriptTail value slice (.ref D) (.int i u)) Q E s := by
  obtain ⟨t, ht⟩ := hi.at hx
  exact tail_any hl.typeIs slot_list_getitem.lookup (wpAny_getItem_list hl h0 (by omega) (by simpa using ht) (h t)) hs
theorem itemD {value slice : PySem.Expr} {u : Tok} {i : Int} {Q : Value → Shared → Prop} (hl : s.heap.IsList D vs.toArray) (hi : StrsAre vs ss) (h0 : 0 ≤ i) (hz : ss.length ≤ 100000) (hx : i < (ss.length : Int)) (h : ∀ t, Q (.str (ss.getD i.toNat Str.empty) t) s)
    (hs : subscripted slice false (.ref D) (.int i u) = operate [.ref D, .int i u] (getItem (.ref D) (.int i u)) := by with_unfolding_all rfl) :
    wpAny (model prog w) A (subscriptTail value slice (.ref D) (.int i u)) Q E s := by
  have hlt : i.toNat < ss.length := by omega
  have e : ss[i.toNat]? = some (ss.getD i.toNat Str.empty) := by
    rw [List.getD_eq_getElem?_getD, List.getElem?_eq_getElem hlt]
    rfl
  exact itemS hl hi h0 (by omega) e h hs
theorem eqS {Q : Value → Shared → Prop} (ha : s.heap.IsList a vs.toArray) (hb : s.heap.IsList b ws.toArray) (hi : StrsAre vs ss) (hj : StrsAre ws ts) (ho : OkS ss) (ho' : OkS ts) (hu : A.units + 64 < cLine) (h : Q (.bool (decide (ss = ts))) s) :
    wpAny (model prog w) A (compareOp .Eq (.ref a) (.ref b)) Q E s :=
  eq_dataH_same (reads_newData ha hi.carried) (reads_newData hb hj.carried) (sm_shaped ho) (sm_shaped ho') hu (SeqAt.noMix_of_shape (.list .str) rfl _ _ (list_map_has fun _ => rfl) (list_map_has fun _ => rfl)) (by rw [sm_same]; exact h)
theorem neS {Q : Value → Shared → Prop} (ha : s.heap.IsList a vs.toArray) (hb : s.heap.IsList b ws.toArray) (hi : StrsAre vs ss) (hj : StrsAre ws ts) (ho : OkS ss) (ho' : OkS ts) (hu : A.units + 64 < cLine) (h : Q (.bool (!decide (ss = ts))) s) :
    wpAny (model prog w) A (compareOp .NotEq (.ref a) (.ref b)) Q E s :=
  ne_dataH_same (reads_newData ha hi.carried) (reads_newData hb hj.carried) (sm_shaped ho) (sm_shaped ho') hu (SeqAt.noMix_of_shape (.list .str) rfl _ _ (list_map_has fun _ => rfl) (list_map_has fun _ => rfl)) (by rw [sm_same]; exact h)
theorem inS {k : Str} {t : Tok} {Q : Value → Shared → Prop} (hl : s.heap.IsList D vs.toArray) (hi : StrsAre vs ss) (h : Q (.bool (ss.any (· == k))) s) : wpAny (model prog w) A (compareOp .In (.str k t) (.ref D)) Q E s := in_list_strs hl hi h
theorem pick_to (vs : List Value) {y : Int} (h : 0 ≤ y) : slicePick vs.toArray none (some y) none = (vs.take y.toNat).toArray := by
  have e : sliceBounds none (some y) none vs.toArray.size = (((0 : Nat) : Int), ((min y.toNat vs.toArray.size : Nat) : Int), 1) := by
    simp only [sliceBounds, Option.getD_none, show (1 : Int) > 0 by decide, if_true, if_neg (show ¬ (y < 0) by omega)]
    congr 1
    congr 1
    omega
  rw [kmk_pick_nat _ e]
  show ((vs.drop 0).take (min y.toNat vs.toArray.size - 0)).toArray = _
  rw [List.drop_zero, Nat.sub_zero, List.size_toArray, kmk_take_min]
theorem pick_from (vs : List Value) {x : Int} (h : 0 ≤ x) : slicePick vs.toArray (some x) none none = (vs.drop x.toNat).toArray := by
  have e : sliceBounds (some x) none none vs.toArray.size = (((min x.toNat vs.toArray.size : Nat) : Int), ((vs.toArray.size : Nat) : Int), 1) := by
    simp only [sliceBounds, Option.getD_none, show (1 : Int) > 0 by decide, if_true, if_neg (show ¬ (x < 0) by omega)]
    congr 1
    omega
  rw [kmk_pick_nat _ e]
  show ((vs.drop (min x.toNat vs.toArray.size)).take (vs.toArray.size - min x.toNat vs.toArray.size)).toArray = _
  rw [List.size_toArray, kmk_drop_min, List.take_of_length_le (by rw [List.length_drop]; omega)]
theorem sliceTo {value slice : PySem.Expr} {y : Int} {u : Tok} {Q : Value → Shared → Prop} (F : Fr h₀ L s.heap m) (N : News h₀ L s.heap news) (hl : s.heap.IsList D vs.toArray) (hi : StrsAre vs ss) (h0 : 0 ≤ y) (hz : ss.length ≤ 100000)
    (h : ∀ D h', Fr h₀ L h' m → News h₀ L h' ((D, listOf (vs.take y.toNat).toArray 0) :: news) → (∀ p ∈ news, p.1 < D) → StrsAre (vs.take y.toNat) (ss.take y.toNat) → Q (.ref D) { s with heap := h' })
    (hs : subscripted slice false (.ref D) (.ref s.heap.objs.size) = operate [.ref s.heap.objs.size, .ref D] (getItem (.ref D) (.ref s.heap.objs.size))) (ht : ∀ r, letTemporaryGo value (.ref D) r = pure ()) :
    wpAny (model prog w) A (subscriptTail value slice (.ref D) (.ref s.heap.objs.size)) Q E { s with heap := s.heap.push { cls := .type "slice", data := .fields #[.none, .int y u, .none] } } :=
  kmk_slice F N hl .none (.int _ _) (fun D h' F' N' l1 => h D h' F' (by rw [pick_to vs h0] at N'; exact N') l1 (hi.take' _)) hs ht (by rw [List.size_toArray, hi.length, sizeLine_eq]; omega)
theorem sliceFrom {value slice : PySem.Expr} {x : Int} {u : Tok} {Q : Value → Shared → Prop} (F : Fr h₀ L s.heap m) (N : News h₀ L s.heap news) (hl : s.heap.IsList D vs.toArray) (hi : StrsAre vs ss) (h0 : 0 ≤ x) (hz : ss.length ≤ 100000)
    (h : ∀ D h', Fr h₀ L h' m → News h₀ L h' ((D, listOf (vs.drop x.toNat).toArray 0) :: news) → (∀ p ∈ news, p.1 < D) → StrsAre (vs.drop x.toNat) (ss.drop x.toNat) → Q (.ref D) { s with heap := h' })
    (hs : subscripted slice false (.ref D) (.ref s.heap.objs.size) = operate [.ref s.heap.objs.size, .ref D] (getItem (.ref D) (.ref s.heap.objs.size))) (ht : ∀ r, letTemporaryGo value (.ref D) r = pure ()) :
    wpAny (model prog w) A (subscriptTail value slice (.ref D) (.ref s.heap.objs.size)) Q E { s with heap := s.heap.push { cls := .type "slice", data := .fields #[.int x u, .none, .none] } } :=
  kmk_slice F N hl (.int _ _) .none (fun D h' F' N' l1 => h D h' F' (by rw [pick_from vs h0] at N'; exact N') l1 (hi.drop' _)) hs ht (by rw [List.size_toArray, hi.length, sizeLine_eq]; omega)
theorem addS {Q : Value → Shared → Prop} (F : Fr h₀ L s.heap m) (N : News h₀ L s.heap news) (ha : s.heap.IsList a vs.toArray) (hb : s.heap.IsList b ws.toArray) (hi : StrsAre vs ss) (hj : StrsAre ws ts) (hz : ss.length ≤ 100000) (hy : ts.length ≤ 100000)
    (h : ∀ D h', Fr h₀ L h' m → News h₀ L h' ((D, listOf (vs ++ ws).toArray 0) :: news) → (∀ p ∈ news, p.1 < D) → StrsAre (vs ++ ws) (ss ++ ts) → Q (.ref D) { s with heap := h' }) :
    wpAny (model prog w) A (binaryOp .Add (.ref a) (.ref b)) Q E s :=
  add_arrays F N ha hb (fun h' F' N' => h _ h' F' N' (fun p hp => Heap.lt_size (N p hp).1) (hi.append' hj)) (by rw [List.size_toArray, List.size_toArray, hi.length, hj.length, sizeLine_eq]; omega)
end
end Mine
end
section
open PySem PySem.W PyProof.Rows PySem.Calls
set_option Elab.async false
set_option maxRecDepth 100000
set_option maxHeartbeats 1000000
namespace Mine
theorem reset_1 : True := by
  w_top off
  trivial
local macro_rules | `(tactic| k_room) => `(tactic| ktr_room)
local macro_rules | `(tactic| k_units) => `(tactic| ktr_units)
local macro_rules | `(tactic| units_room) => `(tactic| ktr_units)
local macro_rules | `(tactic| walk_at "my enterP") => `(tactic| (refine' enterP ?k3 ?k5 ?k6 ?kL ?kM ?kN ?k7 ?k8 ?k9 ?kB ?_ ?c2 ?c3 ?c4 ?c5; (case k3 => k_asm); (case k5 => k_asm); (case k6 => k_is); (case kL => ((conv => lhs; whnf); (try exact rfl))); (case kM => ((conv => lhs; whnf); (try exact rfl))); (case kN => ((conv => lhs; whnf); (try exact rfl))); (case k7 => k_is); (case k8 => ktr_room); (case k9 => first | exact BindsTo.of_eq rfl | exact binds_K (by k_asm) rfl (by k_is) rfl rfl rfl); (case c5 => decide); (case kB => exact locs rfl); (case c2 => exact rfl); (case c3 => exact rfl); (case c4 => exact rfl); k_whole))
local macro_rules | `(tactic| walk_at "my enterA") => `(tactic| (refine' enterA ?k3 ?k5 ?k6 ?kL ?kM ?kN ?k7 ?k8 ?k9 ?kB ?_ ?c2 ?c3 ?c4 ?c5; (case k3 => k_asm); (case k5 => k_asm); (case k6 => k_is); (case kL => ((conv => lhs; whnf); (try exact rfl))); (case kM => ((conv => lhs; whnf); (try exact rfl))); (case kN => ((conv => lhs; whnf); (try exact rfl))); (case k7 => k_is); (case k8 => ktr_room); (case k9 => first | exact BindsTo.of_eq rfl | exact binds_K (by k_asm) rfl (by k_is) rfl rfl rfl); (case c5 => decide); (case kB => exact locs rfl); (case c2 => exact rfl); (case c3 => exact rfl); (case c4 => exact rfl); k_whole))
local macro_rules | `(tactic| walk_at "my enterR") => `(tactic| (refine' enterR ?k3 ?k5 ?k6 ?kL ?kM ?kN ?k7 ?k8 ?kP ?kG ?kB ?_ ?c2 ?c3 ?c4 ?c5; (case k3 => k_asm); (case k5 => k_asm); (case k6 => k_is); (case kL => ((conv => lhs; whnf); (try exact rfl))); (case kM => ((conv => lhs; whnf); (try exact rfl))); (case kN => ((conv => lhs; whnf); (try exact rfl))); (case k7 => k_is); (case k8 => ktr_room); (case kP => exact rfl); (case kG => exact fun _ => rfl); (case c5 => decide); (case kB => exact fun _ => locs rfl); (case c2 => exact rfl); (case c3 => exact rfl); (case c4 => exact rfl); k_whole))
local macro_rules | `(tactic| walk_at "my enterB") => `(tactic| (refine' enterB ?k3 ?k5 ?k6 ?kL ?kM ?kN ?k7 ?k8 ?kP ?kS ?kT ?kB ?_ ?c2 ?c3 ?c4 ?c5; (case k3 => k_asm); (case k5 => k_asm); (case k6 => k_is); (case kL => ((conv => lhs; whnf); (try exact rfl))); (case kM => ((conv => lhs; whnf); (try exact rfl))); (case kN => ((conv => lhs; whnf); (try exact rfl))); (case k7 => k_is); (case k8 => ktr_room); (case kP => exact rfl); (case kS => exact fun _ => rfl); (case kT => exact fun _ _ => rfl); (case c5 => decide); (case kB => exact fun _ _ => locs rfl); (case c2 => exact rfl); (case c3 => exact rfl); (case c4 => exact rfl); k_whole))

theorem kind_g (w mean mg mb) (n x : Str) (t t' : Tok) : Gives w mean mg mb 1 28 [.str n t, .str x t'] (fun _ => True) (fun t => .str (Str.ofString "") t) := by
  unfold Gives Pg Vw Lo
  k_fill
  intro dp un gd outer base s Q E B X T hd hu hH hret
  refine wpAny_call ?_
  k_dflt (walk_at "my enterP")
  intro L' h' F' N'
  (try dsimp only)
  (try k_fold)
  k_steps
  all_goals exact hret _ _ _ (Fr.keep (by k_asm))
local macro_rules | `(tactic| walk_at "call ref") => `(tactic| (k_here; (with_reducible show wpAny _ _ (call (Value.ref _) _) _ _ _); k_dflt (refine' (kind_g _ _ _ _ _ _ _ _).use ?kf ?kk ?k1 ?k2 ?k3 ?k4 ?k5 ?kd ?ku ?kH ?_; (case kf => exact rfl); (case kk => exact rfl); (case k1 => k_asm); (case k2 => k_asm); (case k3 => k_asm); (case k4 => k_asm); (case k5 => k_asm); (case kd => ktr_room); (case ku => ktr_units); (case kH => exact trivial); walk_say "MY CALL kind_g"); intro t9 h9 tk9 S9 F9 N9; clear S9; (try dsimp only); (try k_sweep); (try k_fold)))
theorem fspath_g (w mean mg mb) (n x : Str) (t t' : Tok) : Gives w mean mg mb 2 35 [.str n t, .str x t'] (fun _ => True) (fun _ => .str x t') := by
  unfold Gives Pg Vw Lo
  k_fill
  intro dp un gd outer base s Q E B X T hd hu hH hret
  refine wpAny_call ?_
  k_dflt (walk_at "my enterP")
  intro L' h' F' N'
  (try dsimp only)
  (try k_fold)
  k_steps
  all_goals exact hret 0 _ _ (Fr.keep (by k_asm))
local macro_rules | `(tactic| walk_at "call ref") => `(tactic| (k_here; (with_reducible show wpAny _ _ (call (Value.ref _) _) _ _ _); k_dflt (refine' (fspath_g _ _ _ _ _ _ _ _).use ?kf ?kk ?k1 ?k2 ?k3 ?k4 ?k5 ?kd ?ku ?kH ?_; (case kf => exact rfl); (case kk => exact rfl); (case k1 => k_asm); (case k2 => k_asm); (case k3 => k_asm); (case k4 => k_asm); (case k5 => k_asm); (case kd => ktr_room); (case ku => ktr_units); (case kH => exact trivial); walk_say "MY CALL fspath_g"); intro t9 h9 tk9 S9 F9 N9; clear S9; (try dsimp only); (try k_sweep); (try k_fold)))
theorem isabs_g (w mean mg mb) (x : Str) (t : Tok) : Gives w mean mg mb 3 49 [.str x t] (fun _ => True) (fun _ => .bool (Txt.startswith x (Str.ofString "/"))) := by
  unfold Gives Pg Vw Lo
  k_fill
  intro dp un gd outer base s Q E B X T hd hu hH hret
  refine wpAny_call ?_
  k_dflt (walk_at "my enterP")
  intro L' h' F' N'
  (try dsimp only)
  (try k_fold)
  k_steps
  all_goals exact hret 0 _ _ (Fr.keep (by k_asm))
end Mine
end
section
open PySem PySem.W PyProof.Rows PySem.Calls
set_option Elab.async false
set_option maxRecDepth 100000
set_option maxHeartbeats 1000000
namespace Mine
local macro_rules | `(tactic| walk_at "pad line 0") => `(tactic| fail)
theorem reset_2 : True := by
  w_top off
  trivial
local macro_rules | `(tactic| k_room) => `(tactic| ktr_room)
local macro_rules | `(tactic| k_units) => `(tactic| ktr_units)
local macro_rules | `(tactic| units_room) => `(tactic| ktr_units)
local macro_rules | `(tactic| walk_at "my enterP") => `(tactic| (refine' enterP ?k3 ?k5 ?k6 ?kL ?kM ?kN ?k7 ?k8 ?k9 ?kB ?_ ?c2 ?c3 ?c4 ?c5; (case k3 => k_asm); (case k5 => k_asm); (case k6 => k_is); (case kL => ((conv => lhs; whnf); (try exact rfl))); (case kM => ((conv => lhs; whnf); (try exact rfl))); (case kN => ((conv => lhs; whnf); (try exact rfl))); (case k7 => k_is); (case k8 => ktr_room); (case k9 => first | exact BindsTo.of_eq rfl | exact binds_K (by k_asm) rfl (by k_is) rfl rfl rfl); (case c5 => decide); (case kB => exact locs rfl); (case c2 => exact rfl); (case c3 => exact rfl); (case c4 => exact rfl); k_whole))
local macro_rules | `(tactic| walk_at "my enterA") => `(tactic| (refine' enterA ?k3 ?k5 ?k6 ?kL ?kM ?kN ?k7 ?k8 ?k9 ?kB ?_ ?c2 ?c3 ?c4 ?c5; (case k3 => k_asm); (case k5 => k_asm); (case k6 => k_is); (case kL => ((conv => lhs; whnf); (try exact rfl))); (case kM => ((conv => lhs; whnf); (try exact rfl))); (case kN => ((conv => lhs; whnf); (try exact rfl))); (case k7 => k_is); (case k8 => ktr_room); (case k9 => first | exact BindsTo.of_eq rfl | exact binds_K (by k_asm) rfl (by k_is) rfl rfl rfl); (case c5 => decide); (case kB => exact locs rfl); (case c2 => exact rfl); (case c3 => exact rfl); (case c4 => exact rfl); k_whole))
local macro_rules | `(tactic| walk_at "my enterR") => `(tactic| (refine' enterR ?k3 ?k5 ?k6 ?kL ?kM ?kN ?k7 ?k8 ?kP ?kG ?kB ?_ ?c2 ?c3 ?c4 ?c5; (case k3 => k_asm); (case k5 => k_asm); (case k6 => k_is); (case kL => ((conv => lhs; whnf); (try exact rfl))); (case kM => ((conv => lhs; whnf); (try exact rfl))); (case kN => ((conv => lhs; whnf); (try exact rfl))); (case k7 => k_is); (case k8 => ktr_room); (case kP => exact rfl); (case kG => exact fun _ => rfl); (case c5 => decide); (case kB => exact fun _ => locs rfl); (case c2 => exact rfl); (case c3 => exact rfl); (case c4 => exact rfl); k_whole))
local macro_rules | `(tactic| walk_at "my enterB") => `(tactic| (refine' enterB ?k3 ?k5 ?k6 ?kL ?kM ?kN ?k7 ?k8 ?kP ?kS ?kT ?kB ?_ ?c2 ?c3 ?c4 ?c5; (case k3 => k_asm); (case k5 => k_asm); (case k6 => k_is); (case kL => ((conv => lhs; whnf); (try exact rfl))); (case kM => ((conv => lhs; whnf); (try exact rfl))); (case kN => ((conv => lhs; whnf); (try exact rfl))); (case k7 => k_is); (case k8 => ktr_room); (case kP => exact rfl); (case kS => exact fun _ => rfl); (case kT => exact fun _ _ => rfl); (case c5 => decide); (case kB => exact fun _ _ => locs rfl); (case c2 => exact rfl); (case c3 => exact rfl); (case c4 => exact rfl); k_whole))

local macro_rules | `(tactic| walk_at "call ref") => `(tactic| (k_here; (with_reducible show wpAny _ _ (call (Value.ref _) _) _ _ _); k_dflt (refine' (kind_g _ _ _ _ _ _ _ _).use ?kf ?kk ?k1 ?k2 ?k3 ?k4 ?k5 ?kd ?ku ?kH ?_; (case kf => exact rfl); (case kk => exact rfl); (case k1 => k_asm); (case k2 => k_asm); (case k3 => k_asm); (case k4 => k_asm); (case k5 => k_asm); (case kd => ktr_room); (case ku => ktr_units); (case kH => exact trivial); walk_say "MY CALL kind_g"); intro t9 h9 tk9 S9 F9 N9; clear S9; (try dsimp only); (try k_sweep); (try k_fold)))
local macro_rules | `(tactic| walk_at "call ref") => `(tactic| (k_here; (with_reducible show wpAny _ _ (call (Value.ref _) _) _ _ _); k_dflt (refine' (fspath_g _ _ _ _ _ _ _ _).use ?kf ?kk ?k1 ?k2 ?k3 ?k4 ?k5 ?kd ?ku ?kH ?_; (case kf => exact rfl); (case kk => exact rfl); (case k1 => k_asm); (case k2 => k_asm); (case k3 => k_asm); (case k4 => k_asm); (case k5 => k_asm); (case kd => ktr_room); (case ku => ktr_units); (case kH => exact trivial); walk_say "MY CALL fspath_g"); intro t9 h9 tk9 S9 F9 N9; clear S9; (try dsimp only); (try k_sweep); (try k_fold)))
def joinF (x y : Str) : Str := if Txt.startswith y (Str.ofString "/") = true then y else if (x.length : Int) = 0 then y else if Txt.endswith x (Str.ofString "/") = true then x ++ y else x ++ (Str.ofString "/" ++ y)
theorem join_g (w mean mg mb) (x y : Str) (t t' : Tok) : Gives w mean mg mb 3 56 [.str x t, .str y t'] (fun _ => x.length ≤ 4000 ∧ y.length ≤ 4000) (fun t => .str (joinF x y) t) := by
  unfold Gives Pg Vw Lo
  k_fill
  intro dp un gd outer base s Q E B X T hd hu hH hret
  refine wpAny_call ?_
  k_dflt (walk_at "my enterR")
  intro D' L' h' F' N'
  (try dsimp only)
  (try k_fold)
  unfold joinF at hret
  obtain ⟨hx, hy⟩ := hH
  k_steps
  all_goals ((try dsimp only); k_steps)
  all_goals ((try simp only [*, if_true, if_false, Bool.false_eq_true, not_true_eq_false, not_false_eq_true, ne_eq, reduceIte] at hret); exact hret _ _ _ (Fr.keep (by k_asm)))
end Mine
end
section
open PySem PySem.W PyProof.Rows PySem.Calls
set_option Elab.async false
set_option maxRecDepth 100000
set_option maxHeartbeats 1000000
namespace Mine
local macro_rules | `(tactic| walk_at "pad line 0") => `(tactic| fail)
local macro_rules | `(tactic| walk_at "pad line 1") => `(tactic| fail)
local macro_rules | `(tactic| walk_at "pad line 2") => `(tactic| fail)
theorem reset_3 : True := by
  w_top off
  trivial
local macro_rules | `(tactic| k_room) => `(tactic| ktr_room)
local macro_rules | `(tactic| k_units) => `(tactic| ktr_units)
local macro_rules | `(tactic| units_room) => `(tactic| ktr_units)
local macro_rules | `(tactic| walk_at "my enterP") => `(tactic| (refine' enterP ?k3 ?k5 ?k6 ?kL ?kM ?kN ?k7 ?k8 ?k9 ?kB ?_ ?c2 ?c3 ?c4 ?c5; (case k3 => k_asm); (case k5 => k_asm); (case k6 => k_is); (case kL => ((conv => lhs; whnf); (try exact rfl))); (case kM => ((conv => lhs; whnf); (try exact rfl))); (case kN => ((conv => lhs; whnf); (try exact rfl))); (case k7 => k_is); (case k8 => ktr_room); (case k9 => first | exact BindsTo.of_eq rfl | exact binds_K (by k_asm) rfl (by k_is) rfl rfl rfl); (case c5 => decide); (case kB => exact locs rfl); (case c2 => exact rfl); (case c3 => exact rfl); (case c4 => exact rfl); k_whole))
local macro_rules | `(tactic| walk_at "my enterA") => `(tactic| (refine' enterA ?k3 ?k5 ?k6 ?kL ?kM ?kN ?k7 ?k8 ?k9 ?kB ?_ ?c2 ?c3 ?c4 ?c5; (case k3 => k_asm); (case k5 => k_asm); (case k6 => k_is); (case kL => ((conv => lhs; whnf); (try exact rfl))); (case kM => ((conv => lhs; whnf); (try exact rfl))); (case kN => ((conv => lhs; whnf); (try exact rfl))); (case k7 => k_is); (case k8 => ktr_room); (case k9 => first | exact BindsTo.of_eq rfl | exact binds_K (by k_asm) rfl (by k_is) rfl rfl rfl); (case c5 => decide); (case kB => exact locs rfl); (case c2 => exact rfl); (case c3 => exact rfl); (case c4 => exact rfl); k_whole))
local macro_rules | `(tactic| walk_at "my enterR") => `(tactic| (refine' enterR ?k3 ?k5 ?k6 ?kL ?kM ?kN ?k7 ?k8 ?kP ?kG ?kB ?_ ?c2 ?c3 ?c4 ?c5; (case k3 => k_asm); (case k5 => k_asm); (case k6 => k_is); (case kL => ((conv => lhs; whnf); (try exact rfl))); (case kM => ((conv => lhs; whnf); (try exact rfl))); (case kN => ((conv => lhs; whnf); (try exact rfl))); (case k7 => k_is); (case k8 => ktr_room); (case kP => exact rfl); (case kG => exact fun _ => rfl); (case c5 => decide); (case kB => exact fun _ => locs rfl); (case c2 => exact rfl); (case c3 => exact rfl); (case c4 => exact rfl); k_whole))
local macro_rules | `(tactic| walk_at "my enterB") => `(tactic| (refine' enterB ?k3 ?k5 ?k6 ?kL ?kM ?kN ?k7 ?k8 ?kP ?kS ?kT ?kB ?_ ?c2 ?c3 ?c4 ?c5; (case k3 => k_asm); (case k5 => k_asm); (case k6 => k_is); (case kL => ((conv => lhs; whnf); (try exact rfl))); (case kM => ((conv => lhs; whnf); (try exact rfl))); (case kN => ((conv => lhs; whnf); (try exact rfl))); (case k7 => k_is); (case k8 => ktr_room); (case kP => exact rfl); (case kS => exact fun _ => rfl); (case kT => exact fun _ _ => rfl); (case c5 => decide); (case kB => exact fun _ _ => locs rfl); (case c2 => exact rfl); (case c3 => exact rfl); (case c4 => exact rfl); k_whole))

local macro_rules | `(tactic| walk_at "call ref") => `(tactic| (k_here; (with_reducible show wpAny _ _ (call (Value.ref _) _) _ _ _); k_dflt (refine' (kind_g _ _ _ _ _ _ _ _).use ?kf ?kk ?k1 ?k2 ?k3 ?k4 ?k5 ?kd ?ku ?kH ?_; (case kf => exact rfl); (case kk => exact rfl); (case k1 => k_asm); (case k2 => k_asm); (case k3 => k_asm); (case k4 => k_asm); (case k5 => k_asm); (case kd => ktr_room); (case ku => ktr_units); (case kH => exact trivial); walk_say "MY CALL kind_g"); intro t9 h9 tk9 S9 F9 N9; clear S9; (try dsimp only); (try k_sweep); (try k_fold)))
def npStep (acc : List Str) (c : Str) : List Str :=
  if c.length = 0 ∨ c = Str.ofString "." then acc else if c ≠ Str.ofString ".." ∨ acc = [] ∨ acc.getLast? = some (Str.ofString "..") then acc ++ [c] else acc.dropLast
theorem dd_len : (Str.ofString "..").length = 2 := by decide +kernel
theorem dd_ne : Str.ofString ".." ≠ Str.ofString "." := by decide +kernel
def npLoop (l : List Str) : List Str := l.foldl npStep []
section
variable {prog : Program} {w : World} {A : Around} {E : Value → Shared → Prop} {s : Shared} {env : Env} {h₀ : Heap} {x : Str} {body : List Stmt} {Q : Flow → Shared → Prop}
abbrev npLed (dst src D : Addr) (l : List (Str × Tok)) (od : Obj) (c : List (Str × Tok) × Nat) : List (Addr × Obj) := [(dst, listOf (strValues c.1).toArray c.2), (src, listOf (strValues l).toArray 0), (D, od)]
theorem np_loop {dst src D : Addr} {od : Obj} {l : List (Str × Tok)} {m₀ : Str → Option Value} {L : Addr} (hL : env.locals = L) (hW : wt l ≤ 4100) (hh : A.handled = none) (F : Fr h₀ L s.heap m₀)
    (N : News h₀ L s.heap [(dst, listOf #[] 0), (src, listOf (strValues l).toArray 0), (D, od)])
    (turn : ∀ (p : Str × Tok) (acc : List (Str × Tok)) (n : Nat) (h : Heap) (tk : Nat) (I : Addr) (it : Obj), p.1.length ≤ 4100 → wt acc ≤ 4100 → acc.length ≤ 4100 → @LT.lt Nat instLTNat dst I → @LT.lt Nat instLTNat src I → @LT.lt Nat instLTNat D I →
      Fr h₀ L h (fun y => if y = x then some (.str p.1 p.2) else m₀ y) → News h₀ L h [(dst, listOf (strValues acc).toArray n), (src, listOf (strValues l).toArray 0), (D, od), (I, it)] →
      wpAny (model prog w) A (execs body env) (EndJ h₀ L x m₀ (npLed dst src D l od) [(I, it)] (fun c => c.1.map (·.1) = npStep (acc.map (·.1)) p.1 ∧ wt c.1 ≤ wt acc + p.1.length + 1) { s with heap := h, toks := tk } Q) E { s with heap := h, toks := tk })
    (done : ∀ (acc : List (Str × Tok)) (n : Nat) (u : Str → Option Value) h tk, acc.map (·.1) = npLoop (l.map (·.1)) → wt acc ≤ wt l → Fr h₀ L h (fun y => if y = x then u y else m₀ y) → News h₀ L h [(dst, listOf (strValues acc).toArray n), (src, listOf (strValues l).toArray 0), (D, od)] → Q .next { s with heap := h, toks := tk }) :
    wpAny (model prog w) A (pyIter (.ref src)) (fun it s₂ => LoopAtV prog w A h₀ env x body Q E it s₂) E s := by
  subst hL
  refine loopT rfl (npLed dst src D l od) (fun pre c => c.1.map (·.1) = npLoop (pre.map (·.1)) ∧ wt c.1 ≤ wt pre) ([], 0) hh (fun c => .tail _ (.head _)) (fun c => rfl) F N ⟨rfl, Nat.le_refl _⟩ ?_ ?_
  · intro pre p c h tk I it hp hJ hlt F₁ N₁
    obtain ⟨post, hp⟩ := hp
    have hw1 : wt l = wt pre + (p.1.length + 1 + wt post) := by rw [hp, wt_append, wt_cons]
    have hw2 := hJ.2
    have hw3 := wt_len c.1
    refine wpAny_mono (turn p c.1 c.2 h tk I it (by omega) (by omega) (by omega) (hlt _ (.head _)) (hlt _ (.tail _ (.head _))) (hlt _ (.tail _ (.tail _ (.head _)))) F₁ N₁) (fun f s₂ e => ?_) fun _ _ e => e
    have fin : (∃ h' tk' m' c', s₂ = { s with heap := h', toks := tk' } ∧ Fr h₀ env.locals h' m' ∧ (∀ z, z ≠ x → m' z = m₀ z) ∧ News h₀ env.locals h' (npLed dst src D l od c' ++ [(I, it)]) ∧ c'.1.map (·.1) = npStep (c.1.map (·.1)) p.1 ∧ wt c'.1 ≤ wt c.1 + p.1.length + 1) →
        (∃ h' tk' m' c', s₂ = { s with heap := h', toks := tk' } ∧ Fr h₀ env.locals h' m' ∧ (∀ z, z ≠ x → m' z = m₀ z) ∧ News h₀ env.locals h' (npLed dst src D l od c' ++ [(I, it)]) ∧ c'.1.map (·.1) = npLoop ((pre ++ [p]).map (·.1)) ∧ wt c'.1 ≤ wt (pre ++ [p])) := by
      rintro ⟨h', tk', m', c', rfl, a, b, d, e, g⟩
      refine ⟨h', tk', m', c', rfl, a, b, d, ?_, by rw [wt_snoc]; omega⟩
      rw [e, hJ.1]
      simp [npLoop]
    cases f with
    | ret v => exact e
    | brk => exact e
    | next => exact fin e
    | cont => exact fin e
  · intro c u h tk hJ F₁ N₁
    exact done c.1 c.2 u h tk hJ.1 hJ.2 F₁ N₁
end
local macro_rules | `(tactic| walk_at "call builtin:str.join") => `(tactic| (k_here; (with_reducible show wpAny _ _ (call (Value.builtin _) [Value.str _ _, Value.ref _]) _ _ _); k_dflt (refine' join_at ?N ?m ?s ?z ?_; (case N => k_asm); (case m => k_mem); (case s => decide); (case z => first | omega | (simp only [List.length_nil, List.length_append, List.length_cons] at *; omega) | exact Nat.le_of_ble_eq_true rfl); k_whole; walk_say "MY JOIN"); intro t' k' hJ'))
local macro_rules | `(tactic| walk_at "truthy ref") => `(tactic| (k_here; (with_reducible show wpAny _ _ (truthy (Value.ref _)) _ _ _); k_dflt (first
  | (refine' truthy_nil ?N ?m ?_; (case N => k_asm); (case m => k_mem); k_whole; walk_say "MY NIL")
  | (refine' truthy_snoc ?N ?m ?z ?_; (case N => k_asm); (case m => k_mem); (case z => first | omega | (simp only [List.length_nil, List.length_append, List.length_cons] at *; omega) | exact Nat.le_of_ble_eq_true rfl); k_whole; walk_say "MY SNOC"))))
local macro_rules | `(tactic| walk_at "subscriptTail") => `(tactic| (k_here; (with_reducible show wpAny _ _ (subscriptTail _ _ (Value.ref _) (Value.int _ _)) _ _ _); k_dflt (refine' neg1_at ?N ?m ?z ?_ ?s; (case N => k_asm); (case m => k_mem); (case z => first | omega | (simp only [List.length_nil, List.length_append, List.length_cons] at *; omega) | exact Nat.le_of_ble_eq_true rfl); (case s => with_unfolding_all rfl); k_whole; walk_say "MY NEG1")))
local macro_rules | `(tactic| walk_at "call builtin:list.pop") => `(tactic| (k_here; (with_reducible show wpAny _ _ (call (Value.builtin _) [Value.ref _]) _ _ _); k_dflt (refine' pop_at ?F ?N ?U ?z ?_; (case F => k_asm); (case N => k_asm); (case U => k_upd); (case z => first | omega | (simp only [List.length_nil, List.length_append, List.length_cons] at *; omega) | exact Nat.le_of_ble_eq_true rfl); k_whole; walk_say "MY POP"); intro h' F' N'; (try k_sweep)))
local macro_rules | `(tactic| walk_at "call builtin:list.append") => `(tactic| (k_here; (with_reducible show wpAny _ _ (call (Value.builtin _) [Value.ref _, _]) _ _ _); k_dflt (refine' push_at ?F ?N ?U ?z ?_; (case F => k_asm); (case N => k_asm); (case U => k_upd); (case z => first | omega | (simp only [List.length_nil, List.length_append, List.length_cons] at *; omega) | exact Nat.le_of_ble_eq_true rfl); k_whole; walk_say "MY PUSH"); intro h' F' N'; (try k_sweep)))

theorem e_len : (Str.ofString "").length = 0 := by decide +kernel
theorem e_app (x : Str) : Str.ofString "" ++ x = x := by
  show (⟨(Str.ofString "").cps ++ x.cps⟩ : Str) = x
  have h : (Str.ofString "").cps = #[] := by decide +kernel
  rw [h]
  simp
def normJ (x : Str) : Str := Txt.join (Str.ofString "/") (npLoop (Txt.split x (Str.ofString "/")))
def normF (x : Str) : Str := if x.length = 0 then Str.ofString "." else if (normJ x).length = 0 then Str.ofString "." else normJ x
theorem normF_0 {x : Str} (h : (x.length : Int) = 0) : normF x = Str.ofString "." := by
  unfold normF
  rw [if_pos (by omega)]
theorem normF_1 {x : Str} (h : (x.length : Int) ≠ 0) (h1 : (normJ x).length = 0) : normF x = Str.ofString "." := by
  unfold normF
  rw [if_neg (by omega), if_pos h1]
theorem normF_2 {x : Str} (h : (x.length : Int) ≠ 0) (h1 : (normJ x).length ≠ 0) : normF x = normJ x := by
  unfold normF
  rw [if_neg (by omega), if_neg h1]
local macro_rules | `(tactic| walk_at "truthy str") => `(tactic| ((with_reducible show PySem.wpAny _ _ (PySem.truthy (PySem.Value.str _ _)) _ _ _); refine SBL.truthy (by simp only [PySem.Str.length_append, e_len]; omega) ?_))
theorem npath_g (w mean mg mb) (x : Str) (t : Tok) : Gives w mean mg mb 5 77 [.str x t] (fun _ => x.length ≤ 4000 ∧ (Txt.slice x none (some 1) != Str.ofString "/") = true) (fun t => .str (normF x) t) := by
  unfold Gives Pg Vw Lo
  k_fill
  intro dp un gd outer base s Q E B X T hd hu hH hret
  refine wpAny_call ?_
  k_dflt (walk_at "my enterP")
  intro L' h' F' N'
  (try dsimp only)
  (try k_fold)
  obtain ⟨hx, hs⟩ := hH
  k_steps
  · rename Fr _ _ _ _ => lF
    rename News _ _ _ _ => lN
    rename (List.map _ _ = Txt.split _ _) => hsp
    have hwt := wt_split hsp (by decide)
    refine np_loop (L := L') rfl (by omega) rfl lF lN ?_ ?_
    · intro p acc n h tk I it hp hacc hlen i1 i2 i3 F1 N1
      clear lF lN
      rcases snoc_cases acc with rfl | ⟨us, y, rfl⟩
      · rw [sv_nil] at N1
        (try k_fold)
        k_steps
        all_goals ((try dsimp only); k_steps)
        all_goals (rename News _ _ _ _ => N9; simp only [beq_iff_eq, bne_iff_ne, beq_eq_false_iff_ne, bne_eq_false_iff_eq, ne_eq, Int.natCast_eq_zero] at *)
        all_goals first
          | (refine EndJ.next ([], n) (by k_asm) (by simpa only [npLed, sv_nil, List.cons_append, List.nil_append] using N9) (fun z hz => if_neg hz) ⟨by simp [npStep, dd_len, dd_ne, *], by simp only [wt_nil, wt_cons, wt_snoc, List.nil_append]; omega⟩)
          | (refine EndJ.cont ([], n) (by k_asm) (by simpa only [npLed, sv_nil, List.cons_append, List.nil_append] using N9) (fun z hz => if_neg hz) ⟨by simp [npStep, dd_len, dd_ne, *], by simp only [wt_nil, wt_cons, wt_snoc, List.nil_append]; omega⟩)
          | (refine EndJ.next ([p], n + 1) (by k_asm) (by exact N9) (fun z hz => if_neg hz) ⟨by simp [npStep, dd_len, dd_ne, *], by simp only [wt_nil, wt_cons, wt_snoc, List.nil_append]; omega⟩)
      · rw [sv_snoc] at N1
        rw [wt_snoc] at hacc
        have hsv := sv_len us
        have hsw := wt_len us
        (try k_fold)
        k_steps
        all_goals ((try dsimp only); k_steps)
        all_goals (rename News _ _ _ _ => N9; simp only [beq_iff_eq, bne_iff_ne, beq_eq_false_iff_ne, bne_eq_false_iff_eq, ne_eq, Int.natCast_eq_zero] at *)
        all_goals first
          | (refine EndJ.next (us ++ [y], n) (by k_asm) (by simpa only [npLed, sv_snoc, List.cons_append, List.nil_append] using N9) (fun z hz => if_neg hz) ⟨by simp [npStep, dd_len, dd_ne, *], by simp only [wt_nil, wt_cons, wt_snoc, List.nil_append]; omega⟩)
          | (refine EndJ.cont (us ++ [y], n) (by k_asm) (by simpa only [npLed, sv_snoc, List.cons_append, List.nil_append] using N9) (fun z hz => if_neg hz) ⟨by simp [npStep, dd_len, dd_ne, *], by simp only [wt_nil, wt_cons, wt_snoc, List.nil_append]; omega⟩)
          | (refine EndJ.next (us ++ [y] ++ [p], n + 1) (by k_asm) (by simpa only [npLed, sv_snoc, List.cons_append, List.nil_append] using N9) (fun z hz => if_neg hz) ⟨by simp [npStep, dd_len, dd_ne, *], by simp only [wt_nil, wt_cons, wt_snoc, List.nil_append]; omega⟩)
          | (refine EndJ.next (us, n + 1) (by k_asm) (by simpa only [npLed, sv_snoc, List.cons_append, List.nil_append] using N9) (fun z hz => if_neg hz) ⟨by simp [npStep, dd_len, dd_ne, *], by simp only [wt_nil, wt_cons, wt_snoc, List.nil_append]; omega⟩)
          | trace_state
    · intro acc n u h tk hacc hlen F1 N1
      clear lF lN
      have ej : normJ x = Str.ofString "" ++ Txt.join (Str.ofString "/") (acc.map (·.1)) := by
        rw [e_app]
        unfold normJ
        rw [hacc, hsp]
      k_steps
      all_goals ((try dsimp only); k_steps)
      · rw [normF_2 ‹_› (by rw [ej]; omega), ej] at hret
        exact hret _ _ _ (Fr.keep (by k_asm))
      · rw [normF_1 ‹_› (by rw [ej]; omega)] at hret
        exact hret _ _ _ (Fr.keep (by k_asm))
  all_goals ((try dsimp only); k_steps)
  all_goals (rw [normF_0 ‹_›] at hret; exact hret _ _ _ (Fr.keep (by k_asm)))
end Mine
end
section
open PySem PySem.W PyProof.Rows PySem.Calls
set_option Elab.async false
set_option maxRecDepth 100000
set_option maxHeartbeats 1000000
namespace Mine
theorem reset_4 : True := by
  w_top off
  trivial
local macro_rules | `(tactic| k_room) => `(tactic| ktr_room)
local macro_rules | `(tactic| k_units) => `(tactic| ktr_units)
local macro_rules | `(tactic| units_room) => `(tactic| ktr_units)
local macro_rules | `(tactic| walk_at "my enterP") => `(tactic| (refine' enterP ?k3 ?k5 ?k6 ?kL ?kM ?kN ?k7 ?k8 ?k9 ?kB ?_ ?c2 ?c3 ?c4 ?c5; (case k3 => k_asm); (case k5 => k_asm); (case k6 => k_is); (case kL => ((conv => lhs; whnf); (try exact rfl))); (case kM => ((conv => lhs; whnf); (try exact rfl))); (case kN => ((conv => lhs; whnf); (try exact rfl))); (case k7 => k_is); (case k8 => ktr_room); (case k9 => first | exact BindsTo.of_eq rfl | exact binds_K (by k_asm) rfl (by k_is) rfl rfl rfl); (case c5 => decide); (case kB => exact locs rfl); (case c2 => exact rfl); (case c3 => exact rfl); (case c4 => exact rfl); k_whole))
local macro_rules | `(tactic| walk_at "my enterA") => `(tactic| (refine' enterA ?k3 ?k5 ?k6 ?kL ?kM ?kN ?k7 ?k8 ?k9 ?kB ?_ ?c2 ?c3 ?c4 ?c5; (case k3 => k_asm); (case k5 => k_asm); (case k6 => k_is); (case kL => ((conv => lhs; whnf); (try exact rfl))); (case kM => ((conv => lhs; whnf); (try exact rfl))); (case kN => ((conv => lhs; whnf); (try exact rfl))); (case k7 => k_is); (case k8 => ktr_room); (case k9 => first | exact BindsTo.of_eq rfl | exact binds_K (by k_asm) rfl (by k_is) rfl rfl rfl); (case c5 => decide); (case kB => exact locs rfl); (case c2 => exact rfl); (case c3 => exact rfl); (case c4 => exact rfl); k_whole))
local macro_rules | `(tactic| walk_at "my enterR") => `(tactic| (refine' enterR ?k3 ?k5 ?k6 ?kL ?kM ?kN ?k7 ?k8 ?kP ?kG ?kB ?_ ?c2 ?c3 ?c4 ?c5; (case k3 => k_asm); (case k5 => k_asm); (case k6 => k_is); (case kL => ((conv => lhs; whnf); (try exact rfl))); (case kM => ((conv => lhs; whnf); (try exact rfl))); (case kN => ((conv => lhs; whnf); (try exact rfl))); (case k7 => k_is); (case k8 => ktr_room); (case kP => exact rfl); (case kG => exact fun _ => rfl); (case c5 => decide); (case kB => exact fun _ => locs rfl); (case c2 => exact rfl); (case c3 => exact rfl); (case c4 => exact rfl); k_whole))
local macro_rules | `(tactic| walk_at "my enterB") => `(tactic| (refine' enterB ?k3 ?k5 ?k6 ?kL ?kM ?kN ?k7 ?k8 ?kP ?kS ?kT ?kB ?_ ?c2 ?c3 ?c4 ?c5; (case k3 => k_asm); (case k5 => k_asm); (case k6 => k_is); (case kL => ((conv => lhs; whnf); (try exact rfl))); (case kM => ((conv => lhs; whnf); (try exact rfl))); (case kN => ((conv => lhs; whnf); (try exact rfl))); (case k7 => k_is); (case k8 => ktr_room); (case kP => exact rfl); (case kS => exact fun _ => rfl); (case kT => exact fun _ _ => rfl); (case c5 => decide); (case kB => exact fun _ _ => locs rfl); (case c2 => exact rfl); (case c3 => exact rfl); (case c4 => exact rfl); k_whole))

local macro_rules | `(tactic| walk_at "call ref") => `(tactic| (k_here; (with_reducible show wpAny _ _ (call (Value.ref _) _) _ _ _); k_dflt (refine' (kind_g _ _ _ _ _ _ _ _).use ?kf ?kk ?k1 ?k2 ?k3 ?k4 ?k5 ?kd ?ku ?kH ?_; (case kf => exact rfl); (case kk => exact rfl); (case k1 => k_asm); (case k2 => k_asm); (case k3 => k_asm); (case k4 => k_asm); (case k5 => k_asm); (case kd => ktr_room); (case ku => ktr_units); (case kH => exact trivial); walk_say "MY CALL kind_g"); intro t9 h9 tk9 S9 F9 N9; clear S9; (try dsimp only); (try k_sweep); (try k_fold)))
local macro_rules | `(tactic| walk_at "call ref") => `(tactic| (k_here; (with_reducible show wpAny _ _ (call (Value.ref _) _) _ _ _); k_dflt (refine' (npath_g _ _ _ _ _ _).use ?kf ?kk ?k1 ?k2 ?k3 ?k4 ?k5 ?kd ?ku ?kH ?_; (case kf => exact rfl); (case kk => exact rfl); (case k1 => k_asm); (case k2 => k_asm); (case k3 => k_asm); (case k4 => k_asm); (case k5 => k_asm); (case kd => ktr_room); (case ku => ktr_units); (case kH => exact ⟨by k_asm, by k_asm⟩); walk_say "MY CALL npath_g"); intro t9 h9 tk9 S9 F9 N9; clear S9; (try dsimp only); (try k_sweep); (try k_fold)))
theorem truthy_dict0 {prog : Program} {w : World} {A : Around} {E : Value → Shared → Prop} {s : Shared} {h₀ : Heap} {L D : Addr} {news : List (Addr × Obj)} {Q : Bool → Shared → Prop} (N : News h₀ L s.heap news) (hm : (D, dictOf [] 0) ∈ news) (hn : (D == sysModules) = false)
    (h : Q false { s with toks := s.toks + 1 + 1 }) : wpAny (model prog w) A (truthy (.ref D)) Q E s :=
  wpAny_truthy_dict (knd := strKind prog w) (kvs := []) hn ⟨dictOf [] 0, #[], 0, (N _ hm).1, ⟨rfl, rfl, rfl⟩, rfl, (fun _ h => absurd h (Array.not_mem_empty _)), .nil, .nil⟩ (by decide) h
local macro_rules | `(tactic| walk_at "truthy ref") => `(tactic| (k_here; (with_reducible show wpAny _ _ (truthy (Value.ref _)) _ _ _); k_dflt (refine' truthy_dict0 ?N ?m ?n ?_; (case N => k_asm); (case m => k_mem); (case n => k_asm); k_whole; walk_say "MY DICT0")))
theorem normpath_g (w mean mg mb) (x : Str) (t : Tok) : Gives w mean mg mb 7 84 [.str x t] (fun _ => x.length ≤ 4000 ∧ (Txt.slice x none (some 1) != Str.ofString "/") = true) (fun t => .str (normF x) t) := by
  unfold Gives Pg Vw Lo
  k_fill
  intro dp un gd outer base s Q E B X T hd hu hH hret
  refine wpAny_call ?_
  k_dflt (walk_at "my enterB")
  intro C' D' L' h' tk' nsm F' N'
  (try dsimp only)
  (try k_fold)
  obtain ⟨hx, hs⟩ := hH
  k_steps
  all_goals exact hret _ _ _ (Fr.keep (by k_asm))
end Mine
end
section
open PySem PySem.W PyProof.Rows PySem.Calls
set_option Elab.async false
set_option maxRecDepth 100000
set_option maxHeartbeats 1000000
namespace Mine
theorem reset_5 : True := by
  w_top off
  trivial
local macro_rules | `(tactic| k_room) => `(tactic| ktr_room)
local macro_rules | `(tactic| k_units) => `(tactic| ktr_units)
local macro_rules | `(tactic| units_room) => `(tactic| ktr_units)
local macro_rules | `(tactic| walk_at "my enterP") => `(tactic| (refine' enterP ?k3 ?k5 ?k6 ?kL ?kM ?kN ?k7 ?k8 ?k9 ?kB ?_ ?c2 ?c3 ?c4 ?c5; (case k3 => k_asm); (case k5 => k_asm); (case k6 => k_is); (case kL => ((conv => lhs; whnf); (try exact rfl))); (case kM => ((conv => lhs; whnf); (try exact rfl))); (case kN => ((conv => lhs; whnf); (try exact rfl))); (case k7 => k_is); (case k8 => ktr_room); (case k9 => first | exact BindsTo.of_eq rfl | exact binds_K (by k_asm) rfl (by k_is) rfl rfl rfl); (case c5 => decide); (case kB => exact locs rfl); (case c2 => exact rfl); (case c3 => exact rfl); (case c4 => exact rfl); k_whole))
local macro_rules | `(tactic| walk_at "my enterA") => `(tactic| (refine' enterA ?k3 ?k5 ?k6 ?kL ?kM ?kN ?k7 ?k8 ?k9 ?kB ?_ ?c2 ?c3 ?c4 ?c5; (case k3 => k_asm); (case k5 => k_asm); (case k6 => k_is); (case kL => ((conv => lhs; whnf); (try exact rfl))); (case kM => ((conv => lhs; whnf); (try exact rfl))); (case kN => ((conv => lhs; whnf); (try exact rfl))); (case k7 => k_is); (case k8 => ktr_room); (case k9 => first | exact BindsTo.of_eq rfl | exact binds_K (by k_asm) rfl (by k_is) rfl rfl rfl); (case c5 => decide); (case kB => exact locs rfl); (case c2 => exact rfl); (case c3 => exact rfl); (case c4 => exact rfl); k_whole))
local macro_rules | `(tactic| walk_at "my enterR") => `(tactic| (refine' enterR ?k3 ?k5 ?k6 ?kL ?kM ?kN ?k7 ?k8 ?kP ?kG ?kB ?_ ?c2 ?c3 ?c4 ?c5; (case k3 => k_asm); (case k5 => k_asm); (case k6 => k_is); (case kL => ((conv => lhs; whnf); (try exact rfl))); (case kM => ((conv => lhs; whnf); (try exact rfl))); (case kN => ((conv => lhs; whnf); (try exact rfl))); (case k7 => k_is); (case k8 => ktr_room); (case kP => exact rfl); (case kG => exact fun _ => rfl); (case c5 => decide); (case kB => exact fun _ => locs rfl); (case c2 => exact rfl); (case c3 => exact rfl); (case c4 => exact rfl); k_whole))
local macro_rules | `(tactic| walk_at "my enterB") => `(tactic| (refine' enterB ?k3 ?k5 ?k6 ?kL ?kM ?kN ?k7 ?k8 ?kP ?kS ?kT ?kB ?_ ?c2 ?c3 ?c4 ?c5; (case k3 => k_asm); (case k5 => k_asm); (case k6 => k_is); (case kL => ((conv => lhs; whnf); (try exact rfl))); (case kM => ((conv => lhs; whnf); (try exact rfl))); (case kN => ((conv => lhs; whnf); (try exact rfl))); (case k7 => k_is); (case k8 => ktr_room); (case kP => exact rfl); (case kS => exact fun _ => rfl); (case kT => exact fun _ _ => rfl); (case c5 => decide); (case kB => exact fun _ _ => locs rfl); (case c2 => exact rfl); (case c3 => exact rfl); (case c4 => exact rfl); k_whole))

local macro_rules | `(tactic| walk_at "call ref") => `(tactic| (k_here; (with_reducible show wpAny _ _ (call (Value.ref _) _) _ _ _); k_dflt (refine' (kind_g _ _ _ _ _ _ _ _).use ?kf ?kk ?k1 ?k2 ?k3 ?k4 ?k5 ?kd ?ku ?kH ?_; (case kf => exact rfl); (case kk => exact rfl); (case k1 => k_asm); (case k2 => k_asm); (case k3 => k_asm); (case k4 => k_asm); (case k5 => k_asm); (case kd => ktr_room); (case ku => ktr_units); (case kH => exact trivial); walk_say "MY CALL kind_g"); intro t9 h9 tk9 S9 F9 N9; clear S9; (try dsimp only); (try k_sweep); (try k_fold)))
local macro_rules | `(tactic| walk_at "call ref") => `(tactic| (k_here; (with_reducible show wpAny _ _ (call (Value.ref _) _) _ _ _); k_dflt (refine' (isabs_g _ _ _ _ _ _).use ?kf ?kk ?k1 ?k2 ?k3 ?k4 ?k5 ?kd ?ku ?kH ?_; (case kf => exact rfl); (case kk => exact rfl); (case k1 => k_asm); (case k2 => k_asm); (case k3 => k_asm); (case k4 => k_asm); (case k5 => k_asm); (case kd => ktr_room); (case ku => ktr_units); (case kH => exact trivial); walk_say "MY CALL isabs_g"); intro t9 h9 tk9 S9 F9 N9; clear S9; (try dsimp only); (try k_sweep); (try k_fold)))
local macro_rules | `(tactic| walk_at "call ref") => `(tactic| (k_here; (with_reducible show wpAny _ _ (call (Value.ref _) _) _ _ _); k_dflt (refine' (join_g _ _ _ _ _ _ _ _).use ?kf ?kk ?k1 ?k2 ?k3 ?k4 ?k5 ?kd ?ku ?kH ?_; (case kf => exact rfl); (case kk => exact rfl); (case k1 => k_asm); (case k2 => k_asm); (case k3 => k_asm); (case k4 => k_asm); (case k5 => k_asm); (case kd => ktr_room); (case ku => ktr_units); (case kH => exact ⟨by omega, by omega⟩); walk_say "MY CALL join_g"); intro t9 h9 tk9 S9 F9 N9; clear S9; (try dsimp only); (try k_sweep); (try k_fold)))
local macro_rules | `(tactic| walk_at "call ref") => `(tactic| (k_here; (with_reducible show wpAny _ _ (call (Value.ref _) _) _ _ _); k_dflt (refine' (normpath_g _ _ _ _ _ _).use ?kf ?kk ?k1 ?k2 ?k3 ?k4 ?k5 ?kd ?ku ?kH ?_; (case kf => exact rfl); (case kk => exact rfl); (case k1 => k_asm); (case k2 => k_asm); (case k3 => k_asm); (case k4 => k_asm); (case k5 => k_asm); (case kd => ktr_room); (case ku => ktr_units); (case kH => first | exact ⟨by omega, by k_asm⟩ | exact ⟨by k_asm, by k_asm⟩); walk_say "MY CALL normpath_g"); intro t9 h9 tk9 S9 F9 N9; clear S9; (try dsimp only); (try k_sweep); (try k_fold)))
/-- a def that catches: the outer frames' slots may turn -/
def GivesT (w : World) (mean : ExcName → Option Value) (mg mb : Str → Option Value) (k : Nat) (f : Addr) (vs : List Value) (H : Heap → Prop) (R : Tok → Value) : Prop :=
  ∀ (dp un : Nat) (gd : Option (List Code)) (outer : List Env) (base : Heap) (s : Shared) (Q E : Value → Shared → Prop),
    (hd.heap_39 w.params).In base → Top Vw Lo mean mg mb base → Below (Ar dp un gd outer) base outer s.heap → (hd.heap_39 w.params).In s.heap → Top Vw Lo mean mg mb s.heap → KtsDicts (outer.filterMap (·.frame)) s.heap →
    dp + k < recursionLimit → un + 16 * k < cLine → H s.heap →
    (∀ (t : Tok) (g' h' : Heap) (tk' : Nat), KtsTurn (outer.filterMap (·.frame)) s.heap g' → g'.StaysIn h' → Q (R t) { s with heap := h', toks := tk' }) →
      wpAny (model Pg w) (Ar dp un gd outer) (call (.ref f) vs) Q E s
def M1 : Str := Str.empty ++ Str.ofString "ZoneInfo keys may not be absolute paths, got: "
def M2 : Str := Str.empty ++ Str.ofString "ZoneInfo keys must be normalized relative paths, got: "
def M3 : Str := Str.empty ++ Str.ofString "ZoneInfo keys must refer to subdirectories of TZPATH, got: "
def okF (base x : Str) : Bool := Txt.startswith (normF (joinF base (normF x))) base
/-- what the call tells: nothing, or the refusal's text -/
def doneF (base x : Str) : Option Str :=
  if Txt.startswith x (Str.ofString "/") = true then some (M1 ++ x) else if (normF x).length ≠ x.length then some (M2 ++ x) else if okF base x = true then none else some (M3 ++ x)
def optV (o : Option Str) (t : Tok) : Value := match o with | none => .none | some y => .str y t
theorem done1 {base x : Str} (hz : Txt.startswith x (Str.ofString "/") = true) : doneF base x = some (M1 ++ x) := if_pos hz
theorem done2 {base x : Str} (hz : Txt.startswith x (Str.ofString "/") = false) (h : (normF x).length ≠ x.length) : doneF base x = some (M2 ++ x) := by
  unfold doneF
  rw [if_neg (by rw [hz]; decide), if_pos h]
theorem done3 {base x : Str} (hz : Txt.startswith x (Str.ofString "/") = false) (h : (normF x).length = x.length) (ho : okF base x = true) : doneF base x = none := by
  unfold doneF
  rw [if_neg (by rw [hz]; decide), if_neg (by omega), if_pos ho]
theorem done4 {base x : Str} (hz : Txt.startswith x (Str.ofString "/") = false) (h : (normF x).length = x.length) (ho : okF base x = false) : doneF base x = some (M3 ++ x) := by
  unfold doneF
  rw [if_neg (by rw [hz]; decide), if_neg (by omega), if_neg (by rw [ho]; decide)]
theorem done_g (w mean mg mb) (x base₁ : Str) (t t' : Tok) : GivesT w mean mg mb 10 186 [.str x t, .str base₁ t'] (fun _ => x.length ≤ 200 ∧ (normF x).length ≤ 1000 ∧ base₁.length ≤ 100 ∧ (Txt.startswith x (Str.ofString "/") = false → (Txt.slice x none (some 1) != Str.ofString "/") = true ∧ (joinF base₁ (normF x)).length ≤ 4000 ∧ (Txt.slice (joinF base₁ (normF x)) none (some 1) != Str.ofString "/") = true)) (fun t => optV (doneF base₁ x) t) := by
  unfold GivesT Pg Vw Lo
  k_fill
  intro dp un gd outer base s Q E XB TB B X T DD hd hu hH hret
  refine wpAny_call ?_
  k_dflt (walk_at "my enterP")
  intro L' h' F' N'
  (try dsimp only)
  (try k_fold)
  obtain ⟨hx, hn, hb, hs⟩ := hH
  rcases Bool.eq_false_or_eq_true (Txt.startswith x (Str.ofString "/")) with hz | hz
  · clear hs
    rw [done1 hz] at hret
    k_steps
    all_goals ((try dsimp only); k_steps)
    all_goals exact hret _ _ _ _ (by first | assumption | exact KtsTurn.refl) (Fr.keep (by k_asm))
  · obtain ⟨h1, h2, h3⟩ := hs hz
    k_steps
    all_goals ((try dsimp only); k_steps)
    · rw [done2 hz (by omega)] at hret
      exact hret _ _ _ _ (by first | assumption | exact KtsTurn.refl) (Fr.keep (by k_asm))
    · rw [done3 hz (by omega) (by assumption)] at hret
      exact hret 0 _ _ _ (by first | assumption | exact KtsTurn.refl) (Fr.keep (by k_asm))
    · rw [done4 hz (by omega) (by assumption)] at hret
      exact hret _ _ _ _ (by first | assumption | exact KtsTurn.refl) (Fr.keep (by k_asm))
end Mine
end
section
open PySem PySem.W PyProof.Rows PySem.Calls
set_option Elab.async false
set_option maxRecDepth 100000
set_option maxHeartbeats 1000000
namespace Mine
local macro_rules | `(tactic| walk_at "pad line 0") => `(tactic| fail)
theorem reset_6 : True := by
  w_top off
  trivial
local macro_rules | `(tactic| k_room) => `(tactic| ktr_room)
local macro_rules | `(tactic| k_units) => `(tactic| ktr_units)
local macro_rules | `(tactic| units_room) => `(tactic| ktr_units)
local macro_rules | `(tactic| walk_at "my enterP") => `(tactic| (refine' enterP ?k3 ?k5 ?k6 ?kL ?kM ?kN ?k7 ?k8 ?k9 ?kB ?_ ?c2 ?c3 ?c4 ?c5; (case k3 => k_asm); (case k5 => k_asm); (case k6 => k_is); (case kL => ((conv => lhs; whnf); (try exact rfl))); (case kM => ((conv => lhs; whnf); (try exact rfl))); (case kN => ((conv => lhs; whnf); (try exact rfl))); (case k7 => k_is); (case k8 => ktr_room); (case k9 => first | exact BindsTo.of_eq rfl | exact binds_K (by k_asm) rfl (by k_is) rfl rfl rfl); (case c5 => decide); (case kB => exact locs rfl); (case c2 => exact rfl); (case c3 => exact rfl); (case c4 => exact rfl); k_whole))
local macro_rules | `(tactic| walk_at "my enterA") => `(tactic| (refine' enterA ?k3 ?k5 ?k6 ?kL ?kM ?kN ?k7 ?k8 ?k9 ?kB ?_ ?c2 ?c3 ?c4 ?c5; (case k3 => k_asm); (case k5 => k_asm); (case k6 => k_is); (case kL => ((conv => lhs; whnf); (try exact rfl))); (case kM => ((conv => lhs; whnf); (try exact rfl))); (case kN => ((conv => lhs; whnf); (try exact rfl))); (case k7 => k_is); (case k8 => ktr_room); (case k9 => first | exact BindsTo.of_eq rfl | exact binds_K (by k_asm) rfl (by k_is) rfl rfl rfl); (case c5 => decide); (case kB => exact locs rfl); (case c2 => exact rfl); (case c3 => exact rfl); (case c4 => exact rfl); k_whole))
local macro_rules | `(tactic| walk_at "my enterR") => `(tactic| (refine' enterR ?k3 ?k5 ?k6 ?kL ?kM ?kN ?k7 ?k8 ?kP ?kG ?kB ?_ ?c2 ?c3 ?c4 ?c5; (case k3 => k_asm); (case k5 => k_asm); (case k6 => k_is); (case kL => ((conv => lhs; whnf); (try exact rfl))); (case kM => ((conv => lhs; whnf); (try exact rfl))); (case kN => ((conv => lhs; whnf); (try exact rfl))); (case k7 => k_is); (case k8 => ktr_room); (case kP => exact rfl); (case kG => exact fun _ => rfl); (case c5 => decide); (case kB => exact fun _ => locs rfl); (case c2 => exact rfl); (case c3 => exact rfl); (case c4 => exact rfl); k_whole))
local macro_rules | `(tactic| walk_at "my enterB") => `(tactic| (refine' enterB ?k3 ?k5 ?k6 ?kL ?kM ?kN ?k7 ?k8 ?kP ?kS ?kT ?kB ?_ ?c2 ?c3 ?c4 ?c5; (case k3 => k_asm); (case k5 => k_asm); (case k6 => k_is); (case kL => ((conv => lhs; whnf); (try exact rfl))); (case kM => ((conv => lhs; whnf); (try exact rfl))); (case kN => ((conv => lhs; whnf); (try exact rfl))); (case k7 => k_is); (case k8 => ktr_room); (case kP => exact rfl); (case kS => exact fun _ => rfl); (case kT => exact fun _ _ => rfl); (case c5 => decide); (case kB => exact fun _ _ => locs rfl); (case c2 => exact rfl); (case c3 => exact rfl); (case c4 => exact rfl); k_whole))

local macro_rules | `(tactic| walk_at "call ref") => `(tactic| (k_here; (with_reducible show wpAny _ _ (call (Value.ref _) _) _ _ _); k_dflt (refine' (kind_g _ _ _ _ _ _ _ _).use ?kf ?kk ?k1 ?k2 ?k3 ?k4 ?k5 ?kd ?ku ?kH ?_; (case kf => exact rfl); (case kk => exact rfl); (case k1 => k_asm); (case k2 => k_asm); (case k3 => k_asm); (case k4 => k_asm); (case k5 => k_asm); (case kd => ktr_room); (case ku => ktr_units); (case kH => exact trivial); walk_say "MY CALL kind_g"); intro t9 h9 tk9 S9 F9 N9; clear S9; (try dsimp only); (try k_sweep); (try k_fold)))
local macro_rules | `(tactic| walk_at "call ref") => `(tactic| (k_here; (with_reducible show wpAny _ _ (call (Value.ref _) _) _ _ _); k_dflt (refine' (isabs_g _ _ _ _ _ _).use ?kf ?kk ?k1 ?k2 ?k3 ?k4 ?k5 ?kd ?ku ?kH ?_; (case kf => exact rfl); (case kk => exact rfl); (case k1 => k_asm); (case k2 => k_asm); (case k3 => k_asm); (case k4 => k_asm); (case k5 => k_asm); (case kd => ktr_room); (case ku => ktr_units); (case kH => exact trivial); walk_say "MY CALL isabs_g"); intro t9 h9 tk9 S9 F9 N9; clear S9; (try dsimp only); (try k_sweep); (try k_fold)))
local macro_rules | `(tactic| walk_at "call ref") => `(tactic| (k_here; (with_reducible show wpAny _ _ (call (Value.ref _) _) _ _ _); k_dflt (refine' (join_g _ _ _ _ _ _ _ _).use ?kf ?kk ?k1 ?k2 ?k3 ?k4 ?k5 ?kd ?ku ?kH ?_; (case kf => exact rfl); (case kk => exact rfl); (case k1 => k_asm); (case k2 => k_asm); (case k3 => k_asm); (case k4 => k_asm); (case k5 => k_asm); (case kd => ktr_room); (case ku => ktr_units); (case kH => exact ⟨by omega, by omega⟩); walk_say "MY CALL join_g"); intro t9 h9 tk9 S9 F9 N9; clear S9; (try dsimp only); (try k_sweep); (try k_fold)))
local macro_rules | `(tactic| walk_at "call ref") => `(tactic| (k_here; (with_reducible show wpAny _ _ (call (Value.ref _) _) _ _ _); k_dflt (refine' (normpath_g _ _ _ _ _ _).use ?kf ?kk ?k1 ?k2 ?k3 ?k4 ?k5 ?kd ?ku ?kH ?_; (case kf => exact rfl); (case kk => exact rfl); (case k1 => k_asm); (case k2 => k_asm); (case k3 => k_asm); (case k4 => k_asm); (case k5 => k_asm); (case kd => ktr_room); (case ku => ktr_units); (case kH => first | exact ⟨by omega, by k_asm⟩ | exact ⟨by k_asm, by k_asm⟩); walk_say "MY CALL normpath_g"); intro t9 h9 tk9 S9 F9 N9; clear S9; (try dsimp only); (try k_sweep); (try k_fold)))
theorem doneN_g (w mean mg mb) (x : Str) (t : Tok) : GivesT w mean mg mb 10 186 [.str x t, .none] (fun _ => x.length ≤ 200 ∧ (normF x).length ≤ 1000 ∧ (Txt.startswith x (Str.ofString "/") = false → (Txt.slice x none (some 1) != Str.ofString "/") = true ∧ (joinF (Str.ofString "_/") (normF x)).length ≤ 4000 ∧ (Txt.slice (joinF (Str.ofString "_/") (normF x)) none (some 1) != Str.ofString "/") = true)) (fun t => optV (doneF (Str.ofString "_/") x) t) := by
  unfold GivesT Pg Vw Lo
  k_fill
  intro dp un gd outer base s Q E XB TB B X T DD hd hu hH hret
  refine wpAny_call ?_
  k_dflt (walk_at "my enterP")
  intro L' h' F' N'
  (try dsimp only)
  (try k_fold)
  obtain ⟨hx, hn, hs⟩ := hH
  have hb : (Str.ofString "_/").length ≤ 100 := by decide +kernel
  rcases Bool.eq_false_or_eq_true (Txt.startswith x (Str.ofString "/")) with hz | hz
  · clear hs
    rw [done1 hz] at hret
    k_steps
    all_goals ((try dsimp only); k_steps)
    all_goals exact hret _ _ _ _ (by first | assumption | exact KtsTurn.refl) (Fr.keep (by k_asm))
  · obtain ⟨h1, h2, h3⟩ := hs hz
    k_steps
    all_goals ((try dsimp only); k_steps)
    · rw [done2 hz (by omega)] at hret
      exact hret _ _ _ _ (by first | assumption | exact KtsTurn.refl) (Fr.keep (by k_asm))
    · rw [done3 hz (by omega) (by assumption)] at hret
      exact hret 0 _ _ _ (by first | assumption | exact KtsTurn.refl) (Fr.keep (by k_asm))
    · rw [done4 hz (by omega) (by assumption)] at hret
      exact hret _ _ _ _ (by first | assumption | exact KtsTurn.refl) (Fr.keep (by k_asm))
end Mine
end
section
open PySem PySem.W PyProof.Rows PySem.Calls
set_option Elab.async false
set_option maxRecDepth 100000
set_option maxHeartbeats 1000000
namespace Mine
theorem reset_7 : True := by
  w_top off
  trivial
local macro_rules | `(tactic| k_room) => `(tactic| ktr_room)
local macro_rules | `(tactic| k_units) => `(tactic| ktr_units)
local macro_rules | `(tactic| units_room) => `(tactic| ktr_units)
local macro_rules | `(tactic| walk_at "my enterP") => `(tactic| (refine' enterP ?k3 ?k5 ?k6 ?kL ?kM ?kN ?k7 ?k8 ?k9 ?kB ?_ ?c2 ?c3 ?c4 ?c5; (case k3 => k_asm); (case k5 => k_asm); (case k6 => k_is); (case kL => ((conv => lhs; whnf); (try exact rfl))); (case kM => ((conv => lhs; whnf); (try exact rfl))); (case kN => ((conv => lhs; whnf); (try exact rfl))); (case k7 => k_is); (case k8 => ktr_room); (case k9 => first | exact BindsTo.of_eq rfl | exact binds_K (by k_asm) rfl (by k_is) rfl rfl rfl); (case c5 => decide); (case kB => exact locs rfl); (case c2 => exact rfl); (case c3 => exact rfl); (case c4 => exact rfl); k_whole))
local macro_rules | `(tactic| walk_at "my enterA") => `(tactic| (refine' enterA ?k3 ?k5 ?k6 ?kL ?kM ?kN ?k7 ?k8 ?k9 ?kB ?_ ?c2 ?c3 ?c4 ?c5; (case k3 => k_asm); (case k5 => k_asm); (case k6 => k_is); (case kL => ((conv => lhs; whnf); (try exact rfl))); (case kM => ((conv => lhs; whnf); (try exact rfl))); (case kN => ((conv => lhs; whnf); (try exact rfl))); (case k7 => k_is); (case k8 => ktr_room); (case k9 => first | exact BindsTo.of_eq rfl | exact binds_K (by k_asm) rfl (by k_is) rfl rfl rfl); (case c5 => decide); (case kB => exact locs rfl); (case c2 => exact rfl); (case c3 => exact rfl); (case c4 => exact rfl); k_whole))
local macro_rules | `(tactic| walk_at "my enterR") => `(tactic| (refine' enterR ?k3 ?k5 ?k6 ?kL ?kM ?kN ?k7 ?k8 ?kP ?kG ?kB ?_ ?c2 ?c3 ?c4 ?c5; (case k3 => k_asm); (case k5 => k_asm); (case k6 => k_is); (case kL => ((conv => lhs; whnf); (try exact rfl))); (case kM => ((conv => lhs; whnf); (try exact rfl))); (case kN => ((conv => lhs; whnf); (try exact rfl))); (case k7 => k_is); (case k8 => ktr_room); (case kP => exact rfl); (case kG => exact fun _ => rfl); (case c5 => decide); (case kB => exact fun _ => locs rfl); (case c2 => exact rfl); (case c3 => exact rfl); (case c4 => exact rfl); k_whole))
local macro_rules | `(tactic| walk_at "my enterB") => `(tactic| (refine' enterB ?k3 ?k5 ?k6 ?kL ?kM ?kN ?k7 ?k8 ?kP ?kS ?kT ?kB ?_ ?c2 ?c3 ?c4 ?c5; (case k3 => k_asm); (case k5 => k_asm); (case k6 => k_is); (case kL => ((conv => lhs; whnf); (try exact rfl))); (case kM => ((conv => lhs; whnf); (try exact rfl))); (case kN => ((conv => lhs; whnf); (try exact rfl))); (case k7 => k_is); (case k8 => ktr_room); (case kP => exact rfl); (case kS => exact fun _ => rfl); (case kT => exact fun _ _ => rfl); (case c5 => decide); (case kB => exact fun _ _ => locs rfl); (case c2 => exact rfl); (case c3 => exact rfl); (case c4 => exact rfl); k_whole))

local macro_rules | `(tactic| walk_at "call ref") => `(tactic| (k_here; (with_reducible show wpAny _ _ (call (Value.ref _) _) _ _ _); k_dflt (refine' (kind_g _ _ _ _ _ _ _ _).use ?kf ?kk ?k1 ?k2 ?k3 ?k4 ?k5 ?kd ?ku ?kH ?_; (case kf => exact rfl); (case kk => exact rfl); (case k1 => k_asm); (case k2 => k_asm); (case k3 => k_asm); (case k4 => k_asm); (case k5 => k_asm); (case kd => ktr_room); (case ku => ktr_units); (case kH => exact trivial); walk_say "MY CALL kind_g"); intro t9 h9 tk9 S9 F9 N9; clear S9; (try dsimp only); (try k_sweep); (try k_fold)))
local macro_rules | `(tactic| walk_at "call builtin:str.join") => `(tactic| (k_here; (with_reducible show wpAny _ _ (call (Value.builtin _) [Value.str _ _, Value.ref _]) _ _ _); k_dflt (refine' joinS ?l ?i ?s ?z ?_; (case l => first | exact News.isList (by k_asm) (by k_mem) | exact Fr.lst (by k_asm) (by assumption) | assumption); (case i => first | assumption | exact sv_are _ | exact StrsAre.nil | exact StrsAre.cons _ _ StrsAre.nil); (case s => decide +kernel); (case z => first | omega | (simp only [List.length_drop, List.length_take, List.length_append, List.length_cons, List.length_nil] <;> omega)); k_whole; walk_say "MY JOIN"); intro t' k' hJ'))
local macro_rules | `(tactic| walk_at "call builtin:len") => `(tactic| (k_here; (with_reducible show wpAny _ _ (call (Value.builtin _) [Value.ref _]) _ _ _); k_dflt (refine' lenS ?l ?i ?z ?_; (case l => first | exact News.isList (by k_asm) (by k_mem) | exact Fr.lst (by k_asm) (by assumption) | assumption); (case i => first | assumption | exact sv_are _ | exact StrsAre.nil | exact StrsAre.cons _ _ StrsAre.nil); (case z => first | omega | (simp only [List.length_drop, List.length_take, List.length_append, List.length_cons, List.length_nil] <;> omega)); k_whole; walk_say "MY LEN"); intro t' k'))
local macro_rules | `(tactic| walk_at "subscriptTail") => `(tactic| (k_here; (with_reducible show wpAny _ _ (subscriptTail _ _ (Value.ref _) (Value.int _ _)) _ _ _); k_dflt (refine' itemD ?l ?i ?a ?z ?x ?_ ?s; (case l => first | exact News.isList (by k_asm) (by k_mem) | exact Fr.lst (by k_asm) (by assumption) | assumption); (case i => first | assumption | exact sv_are _ | exact StrsAre.nil | exact StrsAre.cons _ _ StrsAre.nil); (case a => omega); (case z => first | omega | (simp only [List.length_drop, List.length_take, List.length_append, List.length_cons, List.length_nil] <;> omega)); (case x => first | omega | (simp only [List.length_drop, List.length_take, List.length_append, List.length_cons, List.length_nil] <;> omega)); (case s => with_unfolding_all rfl); k_whole; walk_say "MY ITEM"); intro t'))
local macro_rules | `(tactic| walk_at "subscriptTail Name Slice ref ref") => `(tactic| (k_here; (with_reducible show wpAny _ _ (subscriptTail _ (PySem.Expr.Slice _ _ none _) (Value.ref _) (Value.ref _)) _ _ _); k_dflt (first
  | (refine' sliceFrom ?F ?N ?l ?i ?a ?z ?_ ?s ?t; (case F => k_asm); (case N => k_asm); (case l => first | exact News.isList (by k_asm) (by k_mem) | exact Fr.lst (by k_asm) (by assumption) | assumption); (case i => first | assumption | exact sv_are _ | exact StrsAre.nil | exact StrsAre.cons _ _ StrsAre.nil); (case a => omega); (case z => first | omega | (simp only [List.length_drop, List.length_take, List.length_append, List.length_cons, List.length_nil] <;> omega)); (case s => with_unfolding_all rfl); (case t => kmk_pure); k_whole; walk_say "MY FROM")
  | (refine' sliceTo ?F ?N ?l ?i ?a ?z ?_ ?s ?t; (case F => k_asm); (case N => k_asm); (case l => first | exact News.isList (by k_asm) (by k_mem) | exact Fr.lst (by k_asm) (by assumption) | assumption); (case i => first | assumption | exact sv_are _ | exact StrsAre.nil | exact StrsAre.cons _ _ StrsAre.nil); (case a => omega); (case z => first | omega | (simp only [List.length_drop, List.length_take, List.length_append, List.length_cons, List.length_nil] <;> omega)); (case s => with_unfolding_all rfl); (case t => kmk_pure); k_whole; walk_say "MY TO")); intro D' h' F' N' l1 hS'; (try k_lt l1); (try k_sweep)))
local macro_rules | `(tactic| walk_at "binaryOp Add ref ref") => `(tactic| (k_here; (with_reducible show wpAny _ _ (binaryOp _ (Value.ref _) (Value.ref _)) _ _ _); k_dflt (refine' addS ?F ?N ?l ?r ?i ?j ?y ?z ?_; (case F => k_asm); (case N => k_asm); (case l => first | exact News.isList (by k_asm) (by k_mem) | exact Fr.lst (by k_asm) (by assumption) | assumption); (case r => first | exact News.isList (by k_asm) (by k_mem) | exact Fr.lst (by k_asm) (by assumption) | assumption); (case i => first | assumption | exact sv_are _ | exact StrsAre.nil | exact StrsAre.cons _ _ StrsAre.nil); (case j => first | assumption | exact sv_are _ | exact StrsAre.nil | exact StrsAre.cons _ _ StrsAre.nil); (case y => first | omega | (simp only [List.length_drop, List.length_take, List.length_append, List.length_cons, List.length_nil] <;> omega)); (case z => first | omega | (simp only [List.length_drop, List.length_take, List.length_append, List.length_cons, List.length_nil] <;> omega)); k_whole; walk_say "MY ADD"); intro D' h' F' N' l1 hS'; (try k_lt l1); (try k_sweep)))
local macro_rules | `(tactic| walk_at "compareOp In str ref") => `(tactic| (k_here; (with_reducible show wpAny _ _ (compareOp CmpOp.In _ (Value.ref _)) _ _ _); k_dflt (refine' inS ?l ?i ?_; (case l => first | exact News.isList (by k_asm) (by k_mem) | exact Fr.lst (by k_asm) (by assumption) | assumption); (case i => first | assumption | exact sv_are _ | exact StrsAre.nil | exact StrsAre.cons _ _ StrsAre.nil); k_whole; walk_say "MY IN")))
local macro_rules | `(tactic| walk_at "compareOp Eq ref ref") => `(tactic| (k_here; k_dflt (refine' eqS ?l ?r ?i ?j ?o ?p ?u ?_; (case l => first | exact News.isList (by k_asm) (by k_mem) | exact Fr.lst (by k_asm) (by assumption) | assumption); (case r => first | exact News.isList (by k_asm) (by k_mem) | exact Fr.lst (by k_asm) (by assumption) | assumption); (case i => first | assumption | exact sv_are _ | exact StrsAre.nil | exact StrsAre.cons _ _ StrsAre.nil); (case j => first | assumption | exact sv_are _ | exact StrsAre.nil | exact StrsAre.cons _ _ StrsAre.nil); (case o => repeat' (first | with_reducible assumption | with_reducible exact OkS.nil | with_reducible exact okS1 (by decide +kernel) | with_reducible refine OkS.take ?_ _ | with_reducible refine OkS.drop ?_ _ | with_reducible refine OkS.append ?_ ?_)); (case p => repeat' (first | with_reducible assumption | with_reducible exact OkS.nil | with_reducible exact okS1 (by decide +kernel) | with_reducible refine OkS.take ?_ _ | with_reducible refine OkS.drop ?_ _ | with_reducible refine OkS.append ?_ ?_)); (case u => ktr_units); k_whole; walk_say "MY EQ")))
local macro_rules | `(tactic| walk_at "compareOp NotEq ref ref") => `(tactic| (k_here; k_dflt (refine' neS ?l ?r ?i ?j ?o ?p ?u ?_; (case l => first | exact News.isList (by k_asm) (by k_mem) | exact Fr.lst (by k_asm) (by assumption) | assumption); (case r => first | exact News.isList (by k_asm) (by k_mem) | exact Fr.lst (by k_asm) (by assumption) | assumption); (case i => first | assumption | exact sv_are _ | exact StrsAre.nil | exact StrsAre.cons _ _ StrsAre.nil); (case j => first | assumption | exact sv_are _ | exact StrsAre.nil | exact StrsAre.cons _ _ StrsAre.nil); (case o => repeat' (first | with_reducible assumption | with_reducible exact OkS.nil | with_reducible exact okS1 (by decide +kernel) | with_reducible refine OkS.take ?_ _ | with_reducible refine OkS.drop ?_ _ | with_reducible refine OkS.append ?_ ?_)); (case p => repeat' (first | with_reducible assumption | with_reducible exact OkS.nil | with_reducible exact okS1 (by decide +kernel) | with_reducible refine OkS.take ?_ _ | with_reducible refine OkS.drop ?_ _ | with_reducible refine OkS.append ?_ ?_)); (case u => ktr_units); k_whole; walk_say "MY NE")))

def rooted (l : List Str) : Bool := decide (1 < l.length) && (l.getD 0 Str.empty == Str.ofString "")
theorem rooted_g (w mean mg mb) (b : Addr) (vs : List Value) (bl : List Str) : Gives w mean mg mb 2 172 [.ref b] (fun h => h.IsList b vs.toArray ∧ StrsAre vs bl ∧ bl.length ≤ 1000) (fun _ => .bool (rooted bl)) := by
  unfold Gives Pg Vw Lo
  k_fill
  intro dp un gd outer base s Q E B X T hd hu hH hret
  refine wpAny_call ?_
  k_dflt (walk_at "my enterP")
  intro L' h' F' N'
  (try dsimp only)
  (try k_fold)
  obtain ⟨hl, hi, hw⟩ := hH
  k_steps
  all_goals ((try dsimp only); k_steps)
  · rw [show rooted bl = (bl.getD (Int.toNat 0) Str.empty == Str.ofString "") from by unfold rooted; rw [decide_eq_true (by omega)]; rfl] at hret
    exact hret 0 _ _ (Fr.keep (by k_asm))
  · rw [show rooted bl = decide (1 < (bl.length : Int)) from by unfold rooted; rw [decide_eq_false (by omega), decide_eq_false (by omega)]; rfl] at hret
    exact hret 0 _ _ (Fr.keep (by k_asm))
local macro_rules | `(tactic| walk_at "call ref") => `(tactic| (k_here; (with_reducible show wpAny _ _ (call (Value.ref _) _) _ _ _); k_dflt (refine' (rooted_g _ _ _ _ _ _ _).use ?kf ?kk ?k1 ?k2 ?k3 ?k4 ?k5 ?kd ?ku ?kH ?_; (case kf => exact rfl); (case kk => exact rfl); (case k1 => k_asm); (case k2 => k_asm); (case k3 => k_asm); (case k4 => k_asm); (case k5 => k_asm); (case kd => ktr_room); (case ku => ktr_units); (case kH => exact ⟨by first | exact News.isList (by k_asm) (by k_mem) | exact Fr.lst (by k_asm) (by assumption) | assumption, by assumption, by omega⟩); walk_say "MY CALL rooted_g"); intro t9 h9 tk9 S9 F9 N9; clear S9; (try dsimp only); (try k_sweep); (try k_fold)))
def leadUps (l : List Str) : Nat := (l.takeWhile (· == Str.ofString "..")).length
theorem lead_is : ∀ {l : List Str} {k : Nat}, k ≤ l.length → (∀ i, i < k → l.getD i Str.empty = Str.ofString "..") → (k < l.length → l.getD k Str.empty ≠ Str.ofString "..") → leadUps l = k
  | [], k, h, _, _ => by
    have : k = 0 := by simpa using h
    subst this
    rfl
  | a :: r, 0, _, _, h => by
    have h1 : a ≠ Str.ofString ".." := h (by simp)
    unfold leadUps
    rw [List.takeWhile_cons_of_neg (by simpa using h1)]
    rfl
  | a :: r, k + 1, hk, h, hn => by
    have h1 : a = Str.ofString ".." := h 0 (by omega)
    have ih := lead_is (l := r) (k := k) (by simpa using hk) (fun i hi => h (i + 1) (by omega)) (fun hi => hn (by simpa using hi))
    unfold leadUps at ih ⊢
    rw [List.takeWhile_cons_of_pos (by simpa using h1), List.length_cons, ih]
theorem lead_le (l : List Str) : leadUps l ≤ l.length := (List.takeWhile_sublist _).length_le
section
variable {prog : Program} {w : World} {A : Around} {E : Value → Shared → Prop} {Q : Flow → Shared → Prop} {s : Shared} {env : Env} {h₀ : Heap} {L : Addr}
theorem while_ups {test : Expr} {body : List Stmt} {pos : Pos} {m₀ : Str → Option Value} {news : List (Addr × Obj)} {bl : List Str} {t₀ : Tok} {y : Str}
    (F : Fr h₀ L s.heap m₀) (N : News h₀ L s.heap news) (hy : m₀ y = some (.int 0 t₀))
    (test_ : ∀ (k : Nat) t h tk, k ≤ bl.length → Fr h₀ L h (fun z => if z = y then some (.int (k : Int) t) else m₀ z) → News h₀ L h news →
      wpAny (model prog w) A (isTrue test env (eval test env)) (fun b s₂ => Halt (∃ h' tk', s₂ = { s with heap := h', toks := tk' } ∧ Fr h₀ L h' (fun z => if z = y then some (.int (k : Int) t) else m₀ z) ∧ News h₀ L h' news ∧ (b = true ↔ (k < bl.length ∧ bl.getD k Str.empty = Str.ofString "..")))) E { s with heap := h, toks := tk })
    (body_ : ∀ (k : Nat) t h tk, k < bl.length → Fr h₀ L h (fun z => if z = y then some (.int (k : Int) t) else m₀ z) → News h₀ L h news →
      wpAny (model prog w) A (execs body env) (fun f s₂ => Halt (f = .next ∧ ∃ h' tk' m' t', s₂ = { s with heap := h', toks := tk' } ∧ Fr h₀ L h' m' ∧ m' y = some (.int ((k : Int) + 1) t') ∧ (∀ z, z ≠ y → m' z = m₀ z) ∧ News h₀ L h' news)) E { s with heap := h, toks := tk })
    (done : ∀ t h tk, Fr h₀ L h (fun z => if z = y then some (.int (leadUps bl : Int) t) else m₀ z) → News h₀ L h news → Q .next { s with heap := h, toks := tk })
    (hE : PassesOwn (model prog w) A env E := by passes_own) :
    wpAny (model prog w) A (exec (.While test body [] pos) env) Q E s := by
  have conv : ∀ {h : Heap} {u : Str → Option Value} {k : Nat} {t : Tok}, Fr h₀ L h (kstB (fun z => if ([] : List Str).contains z then u z else m₀ z) [(y, .int (k : Int) t)]) → Fr h₀ L h (fun z => if z = y then some (.int (k : Int) t) else m₀ z) := by
    intro h u k t F'
    have e : kstB (fun z => if ([] : List Str).contains z then u z else m₀ z) [(y, .int (k : Int) t)] = fun z => if z = y then some (.int (k : Int) t) else m₀ z := by
      funext z
      show (if z = y then some (Value.int (k : Int) t) else (if ([] : List Str).contains z = true then u z else m₀ z)) = _
      simp
    rw [← e]
    exact F'
  refine ksw_while (σ := Nat × Tok) (fun _ => news) (fun c => [(y, .int (c.1 : Int) c.2)]) (fun _ => True) [] (fun c => c.1 ≤ bl.length ∧ ∀ i, i < c.1 → bl.getD i Str.empty = Str.ofString "..") (fun c => bl.length - c.1) (0, t₀) F N trivial
    (fun p hp => by rw [List.mem_singleton.mp hp]; exact hy) ⟨Nat.zero_le _, fun i hi => absurd hi (Nat.not_lt_zero _)⟩ ?_ hE
  rintro ⟨k, t⟩ u h tk - ⟨hk, hup⟩ F₁ N₁
  refine wpAny_mono (test_ k t h tk hk (conv F₁) N₁) (fun b s₂ p => ?_) fun _ _ e => e
  obtain ⟨h', tk', rfl, F₂, N₂, hb⟩ := p
  cases b with
  | true =>
    rw [if_pos rfl]
    obtain ⟨h1, h2⟩ := hb.mp rfl
    refine wpAny_mono (body_ k t h' tk' h1 F₂ N₂) (fun f s₃ p => ?_) fun _ _ e => e
    obtain ⟨rfl, h'', tk'', m', t', rfl, F₃, hm1, hm2, N₃⟩ := p
    have e : ((k : Int) + 1) = ((k + 1 : Nat) : Int) := by omega
    rw [e] at hm1
    refine ksw_end (k + 1, t') F₃ N₃ (fun p hp => hp) trivial (fun p hp => by rw [List.mem_singleton.mp hp]; exact hm1) (fun z hz _ => hm2 z (hz _ (.head _))) ⟨h1, fun i hi => ?_⟩ (by show bl.length - (k + 1) < bl.length - k; omega)
    rcases Nat.lt_or_ge i k with q | q
    · exact hup i q
    · have : i = k := by omega
      rw [this]; exact h2
  | false =>
    rw [if_neg (by decide)]
    have e : leadUps bl = k := lead_is hk hup fun hl hq => by
      have := hb.mpr ⟨hl, hq⟩
      cases this
    exact done t h' tk' (e ▸ F₂) N₂
end
end Mine
end
section
open PySem PySem.W PyProof.Rows PySem.Calls
set_option Elab.async false
set_option maxRecDepth 100000
set_option maxHeartbeats 1000000
namespace Mine
theorem reset_8 : True := by
  w_top off
  trivial
local macro_rules | `(tactic| k_room) => `(tactic| ktr_room)
local macro_rules | `(tactic| k_units) => `(tactic| ktr_units)
local macro_rules | `(tactic| units_room) => `(tactic| ktr_units)
local macro_rules | `(tactic| walk_at "my enterP") => `(tactic| (refine' enterP ?k3 ?k5 ?k6 ?kL ?kM ?kN ?k7 ?k8 ?k9 ?kB ?_ ?c2 ?c3 ?c4 ?c5; (case k3 => k_asm); (case k5 => k_asm); (case k6 => k_is); (case kL => ((conv => lhs; whnf); (try exact rfl))); (case kM => ((conv => lhs; whnf); (try exact rfl))); (case kN => ((conv => lhs; whnf); (try exact rfl))); (case k7 => k_is); (case k8 => ktr_room); (case k9 => first | exact BindsTo.of_eq rfl | exact binds_K (by k_asm) rfl (by k_is) rfl rfl rfl); (case c5 => decide); (case kB => exact locs rfl); (case c2 => exact rfl); (case c3 => exact rfl); (case c4 => exact rfl); k_whole))
local macro_rules | `(tactic| walk_at "my enterA") => `(tactic| (refine' enterA ?k3 ?k5 ?k6 ?kL ?kM ?kN ?k7 ?k8 ?k9 ?kB ?_ ?c2 ?c3 ?c4 ?c5; (case k3 => k_asm); (case k5 => k_asm); (case k6 => k_is); (case kL => ((conv => lhs; whnf); (try exact rfl))); (case kM => ((conv => lhs; whnf); (try exact rfl))); (case kN => ((conv => lhs; whnf); (try exact rfl))); (case k7 => k_is); (case k8 => ktr_room); (case k9 => first | exact BindsTo.of_eq rfl | exact binds_K (by k_asm) rfl (by k_is) rfl rfl rfl); (case c5 => decide); (case kB => exact locs rfl); (case c2 => exact rfl); (case c3 => exact rfl); (case c4 => exact rfl); k_whole))
local macro_rules | `(tactic| walk_at "my enterR") => `(tactic| (refine' enterR ?k3 ?k5 ?k6 ?kL ?kM ?kN ?k7 ?k8 ?kP ?kG ?kB ?_ ?c2 ?c3 ?c4 ?c5; (case k3 => k_asm); (case k5 => k_asm); (case k6 => k_is); (case kL => ((conv => lhs; whnf); (try exact rfl))); (case kM => ((conv => lhs; whnf); (try exact rfl))); (case kN => ((conv => lhs; whnf); (try exact rfl))); (case k7 => k_is); (case k8 => ktr_room); (case kP => exact rfl); (case kG => exact fun _ => rfl); (case c5 => decide); (case kB => exact fun _ => locs rfl); (case c2 => exact rfl); (case c3 => exact rfl); (case c4 => exact rfl); k_whole))
local macro_rules | `(tactic| walk_at "my enterB") => `(tactic| (refine' enterB ?k3 ?k5 ?k6 ?kL ?kM ?kN ?k7 ?k8 ?kP ?kS ?kT ?kB ?_ ?c2 ?c3 ?c4 ?c5; (case k3 => k_asm); (case k5 => k_asm); (case k6 => k_is); (case kL => ((conv => lhs; whnf); (try exact rfl))); (case kM => ((conv => lhs; whnf); (try exact rfl))); (case kN => ((conv => lhs; whnf); (try exact rfl))); (case k7 => k_is); (case k8 => ktr_room); (case kP => exact rfl); (case kS => exact fun _ => rfl); (case kT => exact fun _ _ => rfl); (case c5 => decide); (case kB => exact fun _ _ => locs rfl); (case c2 => exact rfl); (case c3 => exact rfl); (case c4 => exact rfl); k_whole))

local macro_rules | `(tactic| walk_at "call ref") => `(tactic| (k_here; (with_reducible show wpAny _ _ (call (Value.ref _) _) _ _ _); k_dflt (refine' (kind_g _ _ _ _ _ _ _ _).use ?kf ?kk ?k1 ?k2 ?k3 ?k4 ?k5 ?kd ?ku ?kH ?_; (case kf => exact rfl); (case kk => exact rfl); (case k1 => k_asm); (case k2 => k_asm); (case k3 => k_asm); (case k4 => k_asm); (case k5 => k_asm); (case kd => ktr_room); (case ku => ktr_units); (case kH => exact trivial); walk_say "MY CALL kind_g"); intro t9 h9 tk9 S9 F9 N9; clear S9; (try dsimp only); (try k_sweep); (try k_fold)))
local macro_rules | `(tactic| walk_at "call builtin:str.join") => `(tactic| (k_here; (with_reducible show wpAny _ _ (call (Value.builtin _) [Value.str _ _, Value.ref _]) _ _ _); k_dflt (refine' joinS ?l ?i ?s ?z ?_; (case l => first | exact News.isList (by k_asm) (by k_mem) | exact Fr.lst (by k_asm) (by assumption) | assumption); (case i => first | assumption | exact sv_are _ | exact StrsAre.nil | exact StrsAre.cons _ _ StrsAre.nil); (case s => decide +kernel); (case z => first | omega | (simp only [List.length_drop, List.length_take, List.length_append, List.length_cons, List.length_nil] <;> omega)); k_whole; walk_say "MY JOIN"); intro t' k' hJ'))
local macro_rules | `(tactic| walk_at "call builtin:len") => `(tactic| (k_here; (with_reducible show wpAny _ _ (call (Value.builtin _) [Value.ref _]) _ _ _); k_dflt (refine' lenS ?l ?i ?z ?_; (case l => first | exact News.isList (by k_asm) (by k_mem) | exact Fr.lst (by k_asm) (by assumption) | assumption); (case i => first | assumption | exact sv_are _ | exact StrsAre.nil | exact StrsAre.cons _ _ StrsAre.nil); (case z => first | omega | (simp only [List.length_drop, List.length_take, List.length_append, List.length_cons, List.length_nil] <;> omega)); k_whole; walk_say "MY LEN"); intro t' k'))
local macro_rules | `(tactic| walk_at "subscriptTail") => `(tactic| (k_here; (with_reducible show wpAny _ _ (subscriptTail _ _ (Value.ref _) (Value.int _ _)) _ _ _); k_dflt (refine' itemD ?l ?i ?a ?z ?x ?_ ?s; (case l => first | exact News.isList (by k_asm) (by k_mem) | exact Fr.lst (by k_asm) (by assumption) | assumption); (case i => first | assumption | exact sv_are _ | exact StrsAre.nil | exact StrsAre.cons _ _ StrsAre.nil); (case a => omega); (case z => first | omega | (simp only [List.length_drop, List.length_take, List.length_append, List.length_cons, List.length_nil] <;> omega)); (case x => first | omega | (simp only [List.length_drop, List.length_take, List.length_append, List.length_cons, List.length_nil] <;> omega)); (case s => with_unfolding_all rfl); k_whole; walk_say "MY ITEM"); intro t'))
local macro_rules | `(tactic| walk_at "subscriptTail Name Slice ref ref") => `(tactic| (k_here; (with_reducible show wpAny _ _ (subscriptTail _ (PySem.Expr.Slice _ _ none _) (Value.ref _) (Value.ref _)) _ _ _); k_dflt (first
  | (refine' sliceFrom ?F ?N ?l ?i ?a ?z ?_ ?s ?t; (case F => k_asm); (case N => k_asm); (case l => first | exact News.isList (by k_asm) (by k_mem) | exact Fr.lst (by k_asm) (by assumption) | assumption); (case i => first | assumption | exact sv_are _ | exact StrsAre.nil | exact StrsAre.cons _ _ StrsAre.nil); (case a => omega); (case z => first | omega | (simp only [List.length_drop, List.length_take, List.length_append, List.length_cons, List.length_nil] <;> omega)); (case s => with_unfolding_all rfl); (case t => kmk_pure); k_whole; walk_say "MY FROM")
  | (refine' sliceTo ?F ?N ?l ?i ?a ?z ?_ ?s ?t; (case F => k_asm); (case N => k_asm); (case l => first | exact News.isList (by k_asm) (by k_mem) | exact Fr.lst (by k_asm) (by assumption) | assumption); (case i => first | assumption | exact sv_are _ | exact StrsAre.nil | exact StrsAre.cons _ _ StrsAre.nil); (case a => omega); (case z => first | omega | (simp only [List.length_drop, List.length_take, List.length_append, List.length_cons, List.length_nil] <;> omega)); (case s => with_unfolding_all rfl); (case t => kmk_pure); k_whole; walk_say "MY TO")); intro D' h' F' N' l1 hS'; (try k_lt l1); (try k_sweep)))
local macro_rules | `(tactic| walk_at "binaryOp Add ref ref") => `(tactic| (k_here; (with_reducible show wpAny _ _ (binaryOp _ (Value.ref _) (Value.ref _)) _ _ _); k_dflt (refine' addS ?F ?N ?l ?r ?i ?j ?y ?z ?_; (case F => k_asm); (case N => k_asm); (case l => first | exact News.isList (by k_asm) (by k_mem) | exact Fr.lst (by k_asm) (by assumption) | assumption); (case r => first | exact News.isList (by k_asm) (by k_mem) | exact Fr.lst (by k_asm) (by assumption) | assumption); (case i => first | assumption | exact sv_are _ | exact StrsAre.nil | exact StrsAre.cons _ _ StrsAre.nil); (case j => first | assumption | exact sv_are _ | exact StrsAre.nil | exact StrsAre.cons _ _ StrsAre.nil); (case y => first | omega | (simp only [List.length_drop, List.length_take, List.length_append, List.length_cons, List.length_nil] <;> omega)); (case z => first | omega | (simp only [List.length_drop, List.length_take, List.length_append, List.length_cons, List.length_nil] <;> omega)); k_whole; walk_say "MY ADD"); intro D' h' F' N' l1 hS'; (try k_lt l1); (try k_sweep)))
local macro_rules | `(tactic| walk_at "compareOp In str ref") => `(tactic| (k_here; (with_reducible show wpAny _ _ (compareOp CmpOp.In _ (Value.ref _)) _ _ _); k_dflt (refine' inS ?l ?i ?_; (case l => first | exact News.isList (by k_asm) (by k_mem) | exact Fr.lst (by k_asm) (by assumption) | assumption); (case i => first | assumption | exact sv_are _ | exact StrsAre.nil | exact StrsAre.cons _ _ StrsAre.nil); k_whole; walk_say "MY IN")))
local macro_rules | `(tactic| walk_at "compareOp Eq ref ref") => `(tactic| (k_here; k_dflt (refine' eqS ?l ?r ?i ?j ?o ?p ?u ?_; (case l => first | exact News.isList (by k_asm) (by k_mem) | exact Fr.lst (by k_asm) (by assumption) | assumption); (case r => first | exact News.isList (by k_asm) (by k_mem) | exact Fr.lst (by k_asm) (by assumption) | assumption); (case i => first | assumption | exact sv_are _ | exact StrsAre.nil | exact StrsAre.cons _ _ StrsAre.nil); (case j => first | assumption | exact sv_are _ | exact StrsAre.nil | exact StrsAre.cons _ _ StrsAre.nil); (case o => repeat' (first | with_reducible assumption | with_reducible exact OkS.nil | with_reducible exact okS1 (by decide +kernel) | with_reducible refine OkS.take ?_ _ | with_reducible refine OkS.drop ?_ _ | with_reducible refine OkS.append ?_ ?_)); (case p => repeat' (first | with_reducible assumption | with_reducible exact OkS.nil | with_reducible exact okS1 (by decide +kernel) | with_reducible refine OkS.take ?_ _ | with_reducible refine OkS.drop ?_ _ | with_reducible refine OkS.append ?_ ?_)); (case u => ktr_units); k_whole; walk_say "MY EQ")))
local macro_rules | `(tactic| walk_at "compareOp NotEq ref ref") => `(tactic| (k_here; k_dflt (refine' neS ?l ?r ?i ?j ?o ?p ?u ?_; (case l => first | exact News.isList (by k_asm) (by k_mem) | exact Fr.lst (by k_asm) (by assumption) | assumption); (case r => first | exact News.isList (by k_asm) (by k_mem) | exact Fr.lst (by k_asm) (by assumption) | assumption); (case i => first | assumption | exact sv_are _ | exact StrsAre.nil | exact StrsAre.cons _ _ StrsAre.nil); (case j => first | assumption | exact sv_are _ | exact StrsAre.nil | exact StrsAre.cons _ _ StrsAre.nil); (case o => repeat' (first | with_reducible assumption | with_reducible exact OkS.nil | with_reducible exact okS1 (by decide +kernel) | with_reducible refine OkS.take ?_ _ | with_reducible refine OkS.drop ?_ _ | with_reducible refine OkS.append ?_ ?_)); (case p => repeat' (first | with_reducible assumption | with_reducible exact OkS.nil | with_reducible exact okS1 (by decide +kernel) | with_reducible refine OkS.take ?_ _ | with_reducible refine OkS.drop ?_ _ | with_reducible refine OkS.append ?_ ?_)); (case u => ktr_units); k_whole; walk_say "MY NE")))

local macro_rules | `(tactic| walk_at "call ref") => `(tactic| (k_here; (with_reducible show wpAny _ _ (call (Value.ref _) _) _ _ _); k_dflt (refine' (rooted_g _ _ _ _ _ _ _).use ?kf ?kk ?k1 ?k2 ?k3 ?k4 ?k5 ?kd ?ku ?kH ?_; (case kf => exact rfl); (case kk => exact rfl); (case k1 => k_asm); (case k2 => k_asm); (case k3 => k_asm); (case k4 => k_asm); (case k5 => k_asm); (case kd => ktr_room); (case ku => ktr_units); (case kH => exact ⟨by first | exact News.isList (by k_asm) (by k_mem) | exact Fr.lst (by k_asm) (by assumption) | assumption, by assumption, by omega⟩); walk_say "MY CALL rooted_g"); intro t9 h9 tk9 S9 F9 N9; clear S9; (try dsimp only); (try k_sweep); (try k_fold)))
local macro_rules | `(tactic| walk_at "exec While") => `(tactic| (refine halt_of ?_))
def D1 : Str := Str.ofString "ZoneInfo keys may not be absolute paths, got: "
def D2 : Str := Str.ofString "ZoneInfo keys must be normalized relative paths, got: "
def D3 : Str := Str.ofString "ZoneInfo keys must refer to subdirectories of TZPATH, got: "
def TX (bl : List Str) : Str := Txt.join (Str.ofString "/") bl
def dueEnd (bl rl below : List Str) : Option Str :=
  if (leadUps bl : Int) ≤ (rl.length : Int) then
    (if (rl.length : Int) < ((rl.take ((rl.length : Int) - (leadUps bl : Int)).toNat ++ below).length : Int) then
      (if (rl.take ((rl.length : Int) - (leadUps bl : Int)).toNat ++ below).take (rl.length : Int).toNat = rl then none else some (D3 ++ TX bl))
    else some (D3 ++ TX bl))
  else some (D3 ++ TX bl)
def dueF (bl rl : List Str) : Option Str :=
  if rooted bl = true then some (D1 ++ TX bl)
  else if bl = [Str.ofString "."] then dueEnd bl rl []
  else if bl.any (· == Str.ofString "") = true then some (D2 ++ TX bl)
  else if bl.any (· == Str.ofString ".") = true then some (D2 ++ TX bl)
  else if (bl.drop (leadUps bl : Int).toNat).any (· == Str.ofString "..") = true then some (D2 ++ TX bl)
  else dueEnd bl rl (bl.drop (leadUps bl : Int).toNat)
section
variable {bl rl below : List Str}
theorem due_1 (h : rooted bl = true) : dueF bl rl = some (D1 ++ TX bl) := if_pos h
theorem due_a (h : rooted bl = false) (h1 : bl = [Str.ofString "."]) : dueF bl rl = dueEnd bl rl [] := by
  unfold dueF
  rw [if_neg (by rw [h]; decide), if_pos h1]
theorem due_2 (h : rooted bl = false) (h1 : ¬ bl = [Str.ofString "."]) (h2 : (bl.any (· == Str.ofString "")) = true) : dueF bl rl = some (D2 ++ TX bl) := by
  unfold dueF
  rw [if_neg (by rw [h]; decide), if_neg h1, if_pos h2]
theorem due_3 (h : rooted bl = false) (h1 : ¬ bl = [Str.ofString "."]) (h2 : (bl.any (· == Str.ofString "")) = false) (h3 : (bl.any (· == Str.ofString ".")) = true) : dueF bl rl = some (D2 ++ TX bl) := by
  unfold dueF
  rw [if_neg (by rw [h]; decide), if_neg h1, if_neg (by rw [h2]; decide), if_pos h3]
theorem due_4 (h : rooted bl = false) (h1 : ¬ bl = [Str.ofString "."]) (h2 : (bl.any (· == Str.ofString "")) = false) (h3 : (bl.any (· == Str.ofString ".")) = false) (h4 : ((bl.drop (leadUps bl : Int).toNat).any (· == Str.ofString "..")) = true) : dueF bl rl = some (D2 ++ TX bl) := by
  unfold dueF
  rw [if_neg (by rw [h]; decide), if_neg h1, if_neg (by rw [h2]; decide), if_neg (by rw [h3]; decide), if_pos h4]
theorem due_b (h : rooted bl = false) (h1 : ¬ bl = [Str.ofString "."]) (h2 : (bl.any (· == Str.ofString "")) = false) (h3 : (bl.any (· == Str.ofString ".")) = false) (h4 : ((bl.drop (leadUps bl : Int).toNat).any (· == Str.ofString "..")) = false) : dueF bl rl = dueEnd bl rl (bl.drop (leadUps bl : Int).toNat) := by
  unfold dueF
  rw [if_neg (by rw [h]; decide), if_neg h1, if_neg (by rw [h2]; decide), if_neg (by rw [h3]; decide), if_neg (by rw [h4]; decide)]
theorem end_1 (h : (leadUps bl : Int) ≤ (rl.length : Int)) (h1 : (rl.length : Int) < ((rl.take ((rl.length : Int) - (leadUps bl : Int)).toNat ++ below).length : Int)) (h2 : (rl.take ((rl.length : Int) - (leadUps bl : Int)).toNat ++ below).take (rl.length : Int).toNat = rl) : dueEnd bl rl below = none := by
  unfold dueEnd
  rw [if_pos h, if_pos h1, if_pos h2]
theorem end_2 (h : (leadUps bl : Int) ≤ (rl.length : Int)) (h1 : (rl.length : Int) < ((rl.take ((rl.length : Int) - (leadUps bl : Int)).toNat ++ below).length : Int)) (h2 : ¬ (rl.take ((rl.length : Int) - (leadUps bl : Int)).toNat ++ below).take (rl.length : Int).toNat = rl) : dueEnd bl rl below = some (D3 ++ TX bl) := by
  unfold dueEnd
  rw [if_pos h, if_pos h1, if_neg h2]
theorem end_3 (h : (leadUps bl : Int) ≤ (rl.length : Int)) (h1 : ¬ (rl.length : Int) < ((rl.take ((rl.length : Int) - (leadUps bl : Int)).toNat ++ below).length : Int)) : dueEnd bl rl below = some (D3 ++ TX bl) := by
  unfold dueEnd
  rw [if_pos h, if_neg h1]
theorem end_4 (h : ¬ (leadUps bl : Int) ≤ (rl.length : Int)) : dueEnd bl rl below = some (D3 ++ TX bl) := by
  unfold dueEnd
  rw [if_neg h]
end
theorem due_g (w mean mg mb) (b r : Addr) (vs ws : List Value) (bl rl : List Str) : Gives w mean mg mb 6 179 [.ref b, .ref r] (fun h => h.IsList b vs.toArray ∧ h.IsList r ws.toArray ∧ StrsAre vs bl ∧ StrsAre ws rl ∧ OkS bl ∧ OkS rl ∧ wS bl ≤ 1000 ∧ rl.length ≤ 10) (fun t => optV (dueF bl rl) t) := by
  unfold Gives Pg Vw Lo
  k_fill
  intro dp un gd outer base s Q E B X T hd hu hH hret
  refine wpAny_call ?_
  k_dflt (walk_at "my enterP")
  intro L' h' F' N'
  (try dsimp only)
  (try k_fold)
  obtain ⟨hl, hr, hi, hj, ho, hq, hw, hv⟩ := hH
  have hwl := wS_len bl
  k_steps
  all_goals ((try dsimp only); k_steps)
  · rw [due_1 ‹_›] at hret
    exact hret _ _ _ (Fr.keep (by k_asm))
  · unfold Halt
    rename Fr _ _ _ _ => lF
    rename News _ _ _ _ => lN
    refine while_ups (L := L') (bl := bl) (y := Str.ofString "ups") lF lN rfl ?_ ?_ ?_
    · intro k t h tk hk F1 N1
      clear lF lN
      (try k_fold)
      k_steps
      all_goals ((try dsimp only); k_steps)
      · exact ⟨_, _, rfl, by k_asm, by k_asm, by simp only [true_iff]; exact ⟨by omega, eq_of_beq ‹_›⟩⟩
      · exact ⟨_, _, rfl, by k_asm, by k_asm, by simp only [Bool.false_eq_true, false_iff]; exact fun h => by have h9 := h.2; simp_all⟩
      · exact ⟨_, _, rfl, by k_asm, by k_asm, by simp only [Bool.false_eq_true, false_iff]; exact fun h => by have h9 := h.1; omega⟩
    · intro k t h tk hk F1 N1
      clear lF lN
      (try k_fold)
      k_steps
      all_goals ((try dsimp only); k_steps)
      exact ⟨rfl, _, _, _, _, rfl, by k_asm, if_pos rfl, fun z hz => by simp only [if_neg hz], by k_asm⟩
    · intro t h tk F1 N1
      clear lF lN
      have hld := lead_le bl
      k_steps
      all_goals ((try dsimp only); k_steps)
      all_goals first
        | (rw [due_a (bl := bl) (rl := rl) (by assumption) (by assumption), end_1 (bl := bl) (rl := rl) (by assumption) (by assumption) (by assumption)] at hret; exact hret 0 _ _ (Fr.keep (by k_asm)))
        | (rw [due_a (bl := bl) (rl := rl) (by assumption) (by assumption), end_2 (bl := bl) (rl := rl) (by assumption) (by assumption) (by assumption)] at hret; exact hret _ _ _ (Fr.keep (by k_asm)))
        | (rw [due_a (bl := bl) (rl := rl) (by assumption) (by assumption), end_3 (bl := bl) (rl := rl) (by assumption) (by assumption)] at hret; exact hret _ _ _ (Fr.keep (by k_asm)))
        | (rw [due_a (bl := bl) (rl := rl) (by assumption) (by assumption), end_4 (bl := bl) (rl := rl) (by assumption)] at hret; exact hret _ _ _ (Fr.keep (by k_asm)))
        | (rw [due_b (bl := bl) (rl := rl) (by assumption) (by assumption) (by assumption) (by assumption) (by assumption), end_1 (bl := bl) (rl := rl) (by assumption) (by assumption) (by assumption)] at hret; exact hret 0 _ _ (Fr.keep (by k_asm)))
        | (rw [due_b (bl := bl) (rl := rl) (by assumption) (by assumption) (by assumption) (by assumption) (by assumption), end_2 (bl := bl) (rl := rl) (by assumption) (by assumption) (by assumption)] at hret; exact hret _ _ _ (Fr.keep (by k_asm)))
        | (rw [due_b (bl := bl) (rl := rl) (by assumption) (by assumption) (by assumption) (by assumption) (by assumption), end_3 (bl := bl) (rl := rl) (by assumption) (by assumption)] at hret; exact hret _ _ _ (Fr.keep (by k_asm)))
        | (rw [due_b (bl := bl) (rl := rl) (by assumption) (by assumption) (by assumption) (by assumption) (by assumption), end_4 (bl := bl) (rl := rl) (by assumption)] at hret; exact hret _ _ _ (Fr.keep (by k_asm)))
        | (rw [due_2 (bl := bl) (rl := rl) (by assumption) (by assumption) (by assumption)] at hret; exact hret _ _ _ (Fr.keep (by k_asm)))
        | (rw [due_3 (bl := bl) (rl := rl) (by assumption) (by assumption) (by assumption) (by assumption)] at hret; exact hret _ _ _ (Fr.keep (by k_asm)))
        | (rw [due_4 (bl := bl) (rl := rl) (by assumption) (by assumption) (by assumption) (by assumption) (by assumption)] at hret; exact hret _ _ _ (Fr.keep (by k_asm)))
end Mine
end
section
open PySem PySem.W PyProof.Rows PySem.Calls
set_option Elab.async false
set_option maxRecDepth 100000
set_option maxHeartbeats 1000000
namespace Mine
theorem reset_9 : True := by
  w_top off
  trivial
local macro_rules | `(tactic| k_room) => `(tactic| ktr_room)
local macro_rules | `(tactic| k_units) => `(tactic| ktr_units)
local macro_rules | `(tactic| units_room) => `(tactic| ktr_units)
local macro_rules | `(tactic| walk_at "my enterP") => `(tactic| (refine' enterP ?k3 ?k5 ?k6 ?kL ?kM ?kN ?k7 ?k8 ?k9 ?kB ?_ ?c2 ?c3 ?c4 ?c5; (case k3 => k_asm); (case k5 => k_asm); (case k6 => k_is); (case kL => ((conv => lhs; whnf); (try exact rfl))); (case kM => ((conv => lhs; whnf); (try exact rfl))); (case kN => ((conv => lhs; whnf); (try exact rfl))); (case k7 => k_is); (case k8 => ktr_room); (case k9 => first | exact BindsTo.of_eq rfl | exact binds_K (by k_asm) rfl (by k_is) rfl rfl rfl); (case c5 => decide); (case kB => exact locs rfl); (case c2 => exact rfl); (case c3 => exact rfl); (case c4 => exact rfl); k_whole))
local macro_rules | `(tactic| walk_at "my enterA") => `(tactic| (refine' enterA ?k3 ?k5 ?k6 ?kL ?kM ?kN ?k7 ?k8 ?k9 ?kB ?_ ?c2 ?c3 ?c4 ?c5; (case k3 => k_asm); (case k5 => k_asm); (case k6 => k_is); (case kL => ((conv => lhs; whnf); (try exact rfl))); (case kM => ((conv => lhs; whnf); (try exact rfl))); (case kN => ((conv => lhs; whnf); (try exact rfl))); (case k7 => k_is); (case k8 => ktr_room); (case k9 => first | exact BindsTo.of_eq rfl | exact binds_K (by k_asm) rfl (by k_is) rfl rfl rfl); (case c5 => decide); (case kB => exact locs rfl); (case c2 => exact rfl); (case c3 => exact rfl); (case c4 => exact rfl); k_whole))
local macro_rules | `(tactic| walk_at "my enterR") => `(tactic| (refine' enterR ?k3 ?k5 ?k6 ?kL ?kM ?kN ?k7 ?k8 ?kP ?kG ?kB ?_ ?c2 ?c3 ?c4 ?c5; (case k3 => k_asm); (case k5 => k_asm); (case k6 => k_is); (case kL => ((conv => lhs; whnf); (try exact rfl))); (case kM => ((conv => lhs; whnf); (try exact rfl))); (case kN => ((conv => lhs; whnf); (try exact rfl))); (case k7 => k_is); (case k8 => ktr_room); (case kP => exact rfl); (case kG => exact fun _ => rfl); (case c5 => decide); (case kB => exact fun _ => locs rfl); (case c2 => exact rfl); (case c3 => exact rfl); (case c4 => exact rfl); k_whole))
local macro_rules | `(tactic| walk_at "my enterB") => `(tactic| (refine' enterB ?k3 ?k5 ?k6 ?kL ?kM ?kN ?k7 ?k8 ?kP ?kS ?kT ?kB ?_ ?c2 ?c3 ?c4 ?c5; (case k3 => k_asm); (case k5 => k_asm); (case k6 => k_is); (case kL => ((conv => lhs; whnf); (try exact rfl))); (case kM => ((conv => lhs; whnf); (try exact rfl))); (case kN => ((conv => lhs; whnf); (try exact rfl))); (case k7 => k_is); (case k8 => ktr_room); (case kP => exact rfl); (case kS => exact fun _ => rfl); (case kT => exact fun _ _ => rfl); (case c5 => decide); (case kB => exact fun _ _ => locs rfl); (case c2 => exact rfl); (case c3 => exact rfl); (case c4 => exact rfl); k_whole))

def WORDS : List Str := [Str.ofString "", Str.ofString ".", Str.ofString "..", Str.ofString "_", Str.ofString "a", Str.ofString "..é", Str.ofString "_b"]
/-- what a draw is -/
def Bits (bl : List Str) : Prop := 1 ≤ bl.length ∧ bl.length ≤ 4 ∧ ∀ x ∈ bl, x ∈ WORDS
theorem words_getD (n : Nat) : WORDS.getD n Str.empty ∈ WORDS := by
  by_cases h : n < 7
  · have : n < WORDS.length := h
    rw [List.getD_eq_getElem?_getD, List.getElem?_eq_getElem this]
    exact List.getElem_mem this
  · rw [List.getD_eq_getElem?_getD, List.getElem?_eq_none (by show 7 ≤ n; omega)]
    have : (Option.none (α := Str)).getD Str.empty = Str.ofString "" := by decide +kernel
    rw [this]
    exact .head _
section
variable {prog : Program} {w : World} {A : Around} {E : Value → Shared → Prop} {s : Shared} {D : Addr}
theorem wordAt {value slice : PySem.Expr} {u t₀ t₁ t₂ t₃ t₄ t₅ t₆ : Tok} {i : Int} {Q : Value → Shared → Prop}
    (hl : s.heap.IsList D [Value.str (Str.ofString "") t₀, Value.str (Str.ofString ".") t₁, Value.str (Str.ofString "..") t₂, Value.str (Str.ofString "_") t₃, Value.str (Str.ofString "a") t₄, Value.str (Str.ofString "..é") t₅, Value.str (Str.ofString "_b") t₆].toArray)
    (h0 : 0 ≤ i) (h7 : i < 7) (h : ∀ x t, x ∈ WORDS → Q (.str x t) s)
    (hs : subscripted slice false (.ref D) (.int i u) = operate [.ref D, .int i u] (getItem (.ref D) (.int i u)) := by with_unfolding_all rfl) :
    wpAny (model prog w) A (subscriptTail value slice (.ref D) (.int i u)) Q E s :=
  itemD (ss := WORDS) hl (.cons _ _ (.cons _ _ (.cons _ _ (.cons _ _ (.cons _ _ (.cons _ _ (.cons _ _ .nil))))))) h0 (by decide) (by show i < 7; exact h7) (fun t => h _ t (words_getD _)) hs
end
local macro_rules | `(tactic| walk_at "subscriptTail Name BinOp ref int") => `(tactic| (k_here; k_dflt (refine' wordAt ?l ?a ?z ?_ ?s; (case l => exact News.isList (by k_asm) (by k_mem)); (case a => first | omega | l_idx); (case z => first | omega | l_idx); (case s => with_unfolding_all rfl); k_whole; walk_say "MY WORD"); intro x' t' hW'))
theorem many_ne (a : Int) : ¬ (1 + a.fmod 4 = 0) := by
  have := Int.fmod_nonneg_of_pos a (show (0 : Int) < 4 by decide)
  omega
/-- a def's contract: it hands back a new list of texts -/
def GivesL (w : World) (mean : ExcName → Option Value) (mg mb : Str → Option Value) (k : Nat) (f : Addr) (vs : List Value) (H : Heap → Prop) (P : List Str → Prop) : Prop :=
  ∀ (dp un : Nat) (gd : Option (List Code)) (outer : List Env) (base : Heap) (s : Shared) (Q E : Value → Shared → Prop),
    Below (Ar dp un gd outer) base outer s.heap → (hd.heap_39 w.params).In s.heap → Top Vw Lo mean mg mb s.heap →
    dp + k < recursionLimit → un + 16 * k < cLine → H s.heap →
    (∀ (D : Addr) (n : Nat) (us : List Value) (bl : List Str) (h' : Heap) (tk' : Nat), s.heap.StaysIn h' → h'.get? D = some (listOf us.toArray n) → s.heap.get? D = none → StrsAre us bl → P bl → Q (.ref D) { s with heap := h', toks := tk' }) →
      wpAny (model Pg w) (Ar dp un gd outer) (call (.ref f) vs) Q E s
theorem bits1 {a : Str} (ha : a ∈ WORDS) : Bits [a] := ⟨by simp, by simp, List.forall_mem_cons.mpr ⟨ha, List.forall_mem_nil _⟩⟩
theorem bits2 {a b : Str} (ha : a ∈ WORDS) (hb : b ∈ WORDS) : Bits [a, b] := ⟨by simp, by simp, List.forall_mem_cons.mpr ⟨ha, List.forall_mem_cons.mpr ⟨hb, List.forall_mem_nil _⟩⟩⟩
theorem bits3 {a b c : Str} (ha : a ∈ WORDS) (hb : b ∈ WORDS) (hc : c ∈ WORDS) : Bits [a, b, c] := ⟨by simp, by simp, List.forall_mem_cons.mpr ⟨ha, List.forall_mem_cons.mpr ⟨hb, List.forall_mem_cons.mpr ⟨hc, List.forall_mem_nil _⟩⟩⟩⟩
theorem bits4 {a b c d : Str} (ha : a ∈ WORDS) (hb : b ∈ WORDS) (hc : c ∈ WORDS) (hd : d ∈ WORDS) : Bits [a, b, c, d] := ⟨by simp, by simp, List.forall_mem_cons.mpr ⟨ha, List.forall_mem_cons.mpr ⟨hb, List.forall_mem_cons.mpr ⟨hc, List.forall_mem_cons.mpr ⟨hd, List.forall_mem_nil _⟩⟩⟩⟩⟩
theorem pieces_g (w mean mg mb) (k : Int) (t : Tok) : GivesL w mean mg mb 3 165 [.int k t] (fun _ => True) Bits := by
  unfold GivesL Pg Vw Lo
  k_fill
  intro dp un gd outer base s Q E B X T hd hu hH hret
  refine wpAny_call ?_
  k_dflt (walk_at "my enterP")
  intro L' h' F' N'
  (try dsimp only)
  (try k_fold)
  k_steps
  all_goals ((try dsimp only); k_steps)
  all_goals first
    | (exact hret _ _ [_] [_] _ _ (Fr.keep (by k_asm)) (News.get (by k_asm) (by k_mem)) (News.fresh (by k_asm) (by k_mem)) (.cons _ _ .nil) (bits1 (by assumption)))
    | (exact hret _ _ [_, _] [_, _] _ _ (Fr.keep (by k_asm)) (News.get (by k_asm) (by k_mem)) (News.fresh (by k_asm) (by k_mem)) (.cons _ _ (.cons _ _ .nil)) (bits2 (by assumption) (by assumption)))
    | (exact hret _ _ [_, _, _] [_, _, _] _ _ (Fr.keep (by k_asm)) (News.get (by k_asm) (by k_mem)) (News.fresh (by k_asm) (by k_mem)) (.cons _ _ (.cons _ _ (.cons _ _ .nil))) (bits3 (by assumption) (by assumption) (by assumption)))
    | (exact hret _ _ [_, _, _, _] [_, _, _, _] _ _ (Fr.keep (by k_asm)) (News.get (by k_asm) (by k_mem)) (News.fresh (by k_asm) (by k_mem)) (.cons _ _ (.cons _ _ (.cons _ _ (.cons _ _ .nil)))) (bits4 (by assumption) (by assumption) (by assumption) (by assumption)))
    | exact absurd ‹_ = (0 : Int)› (many_ne _)
end Mine
end
section
open PySem PySem.W PyProof.Rows PySem.Calls
set_option Elab.async false
set_option maxRecDepth 100000
set_option maxHeartbeats 1000000
namespace Mine
local macro_rules | `(tactic| walk_at "pad line 0") => `(tactic| fail)
local macro_rules | `(tactic| walk_at "pad line 1") => `(tactic| fail)
theorem reset_10 : True := by
  w_top off
  trivial
local macro_rules | `(tactic| k_room) => `(tactic| ktr_room)
local macro_rules | `(tactic| k_units) => `(tactic| ktr_units)
local macro_rules | `(tactic| units_room) => `(tactic| ktr_units)
local macro_rules | `(tactic| walk_at "my enterP") => `(tactic| (refine' enterP ?k3 ?k5 ?k6 ?kL ?kM ?kN ?k7 ?k8 ?k9 ?kB ?_ ?c2 ?c3 ?c4 ?c5; (case k3 => k_asm); (case k5 => k_asm); (case k6 => k_is); (case kL => ((conv => lhs; whnf); (try exact rfl))); (case kM => ((conv => lhs; whnf); (try exact rfl))); (case kN => ((conv => lhs; whnf); (try exact rfl))); (case k7 => k_is); (case k8 => ktr_room); (case k9 => first | exact BindsTo.of_eq rfl | exact binds_K (by k_asm) rfl (by k_is) rfl rfl rfl); (case c5 => decide); (case kB => exact locs rfl); (case c2 => exact rfl); (case c3 => exact rfl); (case c4 => exact rfl); k_whole))
local macro_rules | `(tactic| walk_at "my enterA") => `(tactic| (refine' enterA ?k3 ?k5 ?k6 ?kL ?kM ?kN ?k7 ?k8 ?k9 ?kB ?_ ?c2 ?c3 ?c4 ?c5; (case k3 => k_asm); (case k5 => k_asm); (case k6 => k_is); (case kL => ((conv => lhs; whnf); (try exact rfl))); (case kM => ((conv => lhs; whnf); (try exact rfl))); (case kN => ((conv => lhs; whnf); (try exact rfl))); (case k7 => k_is); (case k8 => ktr_room); (case k9 => first | exact BindsTo.of_eq rfl | exact binds_K (by k_asm) rfl (by k_is) rfl rfl rfl); (case c5 => decide); (case kB => exact locs rfl); (case c2 => exact rfl); (case c3 => exact rfl); (case c4 => exact rfl); k_whole))
local macro_rules | `(tactic| walk_at "my enterR") => `(tactic| (refine' enterR ?k3 ?k5 ?k6 ?kL ?kM ?kN ?k7 ?k8 ?kP ?kG ?kB ?_ ?c2 ?c3 ?c4 ?c5; (case k3 => k_asm); (case k5 => k_asm); (case k6 => k_is); (case kL => ((conv => lhs; whnf); (try exact rfl))); (case kM => ((conv => lhs; whnf); (try exact rfl))); (case kN => ((conv => lhs; whnf); (try exact rfl))); (case k7 => k_is); (case k8 => ktr_room); (case kP => exact rfl); (case kG => exact fun _ => rfl); (case c5 => decide); (case kB => exact fun _ => locs rfl); (case c2 => exact rfl); (case c3 => exact rfl); (case c4 => exact rfl); k_whole))
local macro_rules | `(tactic| walk_at "my enterB") => `(tactic| (refine' enterB ?k3 ?k5 ?k6 ?kL ?kM ?kN ?k7 ?k8 ?kP ?kS ?kT ?kB ?_ ?c2 ?c3 ?c4 ?c5; (case k3 => k_asm); (case k5 => k_asm); (case k6 => k_is); (case kL => ((conv => lhs; whnf); (try exact rfl))); (case kM => ((conv => lhs; whnf); (try exact rfl))); (case kN => ((conv => lhs; whnf); (try exact rfl))); (case k7 => k_is); (case k8 => ktr_room); (case kP => exact rfl); (case kS => exact fun _ => rfl); (case kT => exact fun _ _ => rfl); (case c5 => decide); (case kB => exact fun _ _ => locs rfl); (case c2 => exact rfl); (case c3 => exact rfl); (case c4 => exact rfl); k_whole))

theorem kindA (w mg mb) (n x : Str) (t t' : Tok) : GivesA w mg mb 1 28 [.str n t, .str x t'] (fun _ => True) (fun t => .str (Str.ofString "") t) := by
  unfold GivesA Pg Vw Lo
  k_fill
  intro A s Q E hA X T hd hu hH hret
  refine wpAny_call ?_
  k_dflt (walk_at "my enterA")
  intro L' h' F' N'
  (try dsimp only)
  (try k_fold)
  k_steps
  all_goals exact hret _ _ _ (Fr.keep (by k_asm))
local macro_rules | `(tactic| walk_at "call ref") => `(tactic| (k_here; (with_reducible show wpAny _ _ (call (Value.ref _) _) _ _ _); k_dflt (refine' (kindA _ _ _ _ _ _ _).use ?kf ?k2 ?k3 ?k4 ?k5 ?kd ?ku ?kH ?_; (case kf => first | rfl | assumption); (case k2 => k_asm); (case k3 => k_asm); (case k4 => k_asm); (case k5 => k_asm); (case kd => ktr_room); (case ku => ktr_units); (case kH => exact trivial); walk_say "MY CALL kindA"); intro t9 h9 tk9 S9 F9 N9; clear S9; (try dsimp only); (try k_sweep); (try k_fold)))
theorem fspathA (w mg mb) (n x : Str) (t t' : Tok) : GivesA w mg mb 2 35 [.str n t, .str x t'] (fun _ => True) (fun _ => .str x t') := by
  unfold GivesA Pg Vw Lo
  k_fill
  intro A s Q E hA X T hd hu hH hret
  refine wpAny_call ?_
  k_dflt (walk_at "my enterA")
  intro L' h' F' N'
  (try dsimp only)
  (try k_fold)
  k_steps
  all_goals exact hret 0 _ _ (Fr.keep (by k_asm))
local macro_rules | `(tactic| walk_at "call ref") => `(tactic| (k_here; (with_reducible show wpAny _ _ (call (Value.ref _) _) _ _ _); k_dflt (refine' (fspathA _ _ _ _ _ _ _).use ?kf ?k2 ?k3 ?k4 ?k5 ?kd ?ku ?kH ?_; (case kf => first | rfl | assumption); (case k2 => k_asm); (case k3 => k_asm); (case k4 => k_asm); (case k5 => k_asm); (case kd => ktr_room); (case ku => ktr_units); (case kH => exact trivial); walk_say "MY CALL fspathA"); intro t9 h9 tk9 S9 F9 N9; clear S9; (try dsimp only); (try k_sweep); (try k_fold)))
theorem isabsA (w mg mb) (x : Str) (t : Tok) : GivesA w mg mb 3 49 [.str x t] (fun _ => True) (fun _ => .bool (Txt.startswith x (Str.ofString "/"))) := by
  unfold GivesA Pg Vw Lo
  k_fill
  intro A s Q E hA X T hd hu hH hret
  refine wpAny_call ?_
  k_dflt (walk_at "my enterA")
  intro L' h' F' N'
  (try dsimp only)
  (try k_fold)
  k_steps
  all_goals exact hret 0 _ _ (Fr.keep (by k_asm))
end Mine
end
section
open PySem PySem.W PyProof.Rows PySem.Calls
set_option Elab.async false
set_option maxRecDepth 100000
set_option maxHeartbeats 1000000
namespace Mine
local macro_rules | `(tactic| walk_at "pad line 0") => `(tactic| fail)
local macro_rules | `(tactic| walk_at "pad line 1") => `(tactic| fail)
local macro_rules | `(tactic| walk_at "pad line 2") => `(tactic| fail)
local macro_rules | `(tactic| walk_at "pad line 3") => `(tactic| fail)
theorem reset_11 : True := by
  w_top off
  trivial
local macro_rules | `(tactic| k_room) => `(tactic| ktr_room)
local macro_rules | `(tactic| k_units) => `(tactic| ktr_units)
local macro_rules | `(tactic| units_room) => `(tactic| ktr_units)
local macro_rules | `(tactic| walk_at "my enterP") => `(tactic| (refine' enterP ?k3 ?k5 ?k6 ?kL ?kM ?kN ?k7 ?k8 ?k9 ?kB ?_ ?c2 ?c3 ?c4 ?c5; (case k3 => k_asm); (case k5 => k_asm); (case k6 => k_is); (case kL => ((conv => lhs; whnf); (try exact rfl))); (case kM => ((conv => lhs; whnf); (try exact rfl))); (case kN => ((conv => lhs; whnf); (try exact rfl))); (case k7 => k_is); (case k8 => ktr_room); (case k9 => first | exact BindsTo.of_eq rfl | exact binds_K (by k_asm) rfl (by k_is) rfl rfl rfl); (case c5 => decide); (case kB => exact locs rfl); (case c2 => exact rfl); (case c3 => exact rfl); (case c4 => exact rfl); k_whole))
local macro_rules | `(tactic| walk_at "my enterA") => `(tactic| (refine' enterA ?k3 ?k5 ?k6 ?kL ?kM ?kN ?k7 ?k8 ?k9 ?kB ?_ ?c2 ?c3 ?c4 ?c5; (case k3 => k_asm); (case k5 => k_asm); (case k6 => k_is); (case kL => ((conv => lhs; whnf); (try exact rfl))); (case kM => ((conv => lhs; whnf); (try exact rfl))); (case kN => ((conv => lhs; whnf); (try exact rfl))); (case k7 => k_is); (case k8 => ktr_room); (case k9 => first | exact BindsTo.of_eq rfl | exact binds_K (by k_asm) rfl (by k_is) rfl rfl rfl); (case c5 => decide); (case kB => exact locs rfl); (case c2 => exact rfl); (case c3 => exact rfl); (case c4 => exact rfl); k_whole))
local macro_rules | `(tactic| walk_at "my enterR") => `(tactic| (refine' enterR ?k3 ?k5 ?k6 ?kL ?kM ?kN ?k7 ?k8 ?kP ?kG ?kB ?_ ?c2 ?c3 ?c4 ?c5; (case k3 => k_asm); (case k5 => k_asm); (case k6 => k_is); (case kL => ((conv => lhs; whnf); (try exact rfl))); (case kM => ((conv => lhs; whnf); (try exact rfl))); (case kN => ((conv => lhs; whnf); (try exact rfl))); (case k7 => k_is); (case k8 => ktr_room); (case kP => exact rfl); (case kG => exact fun _ => rfl); (case c5 => decide); (case kB => exact fun _ => locs rfl); (case c2 => exact rfl); (case c3 => exact rfl); (case c4 => exact rfl); k_whole))
local macro_rules | `(tactic| walk_at "my enterB") => `(tactic| (refine' enterB ?k3 ?k5 ?k6 ?kL ?kM ?kN ?k7 ?k8 ?kP ?kS ?kT ?kB ?_ ?c2 ?c3 ?c4 ?c5; (case k3 => k_asm); (case k5 => k_asm); (case k6 => k_is); (case kL => ((conv => lhs; whnf); (try exact rfl))); (case kM => ((conv => lhs; whnf); (try exact rfl))); (case kN => ((conv => lhs; whnf); (try exact rfl))); (case k7 => k_is); (case k8 => ktr_room); (case kP => exact rfl); (case kS => exact fun _ => rfl); (case kT => exact fun _ _ => rfl); (case c5 => decide); (case kB => exact fun _ _ => locs rfl); (case c2 => exact rfl); (case c3 => exact rfl); (case c4 => exact rfl); k_whole))

local macro_rules | `(tactic| walk_at "call ref") => `(tactic| (k_here; (with_reducible show wpAny _ _ (call (Value.ref _) _) _ _ _); k_dflt (refine' (isabsA _ _ _ _ _).use ?kf ?k2 ?k3 ?k4 ?k5 ?kd ?ku ?kH ?_; (case kf => first | rfl | assumption); (case k2 => k_asm); (case k3 => k_asm); (case k4 => k_asm); (case k5 => k_asm); (case kd => ktr_room); (case ku => ktr_units); (case kH => exact trivial); walk_say "MY CALL isabsA"); intro t9 h9 tk9 S9 F9 N9; (try dsimp only); (try k_sweep); (try k_fold)))
section
variable {M : Model} {A : Around} {E : Value → Shared → Prop} {s : Shared} {K : Frag} {h₀ : Heap} {C L a : Addr} {m mg mb : Str → Option Value} {cn : Str} {cs scope : Scope} {ccd code : Value} {cl : List (Str × Addr)} {p : Program} {loose : List Str}
  {x : Str} {pos : Pos} {v : Value} {Q : Value → Shared → Prop}
theorem nameG_K (F : Fr h₀ C s.heap m) (X : K.In h₀) (T : TopRead p loose mg mb h₀) (e : nsIn K mainGlobals x = some (some v)) (h : Q v s)
    (hk : scope.kind = .function) (hx : (genEnv scope cl C code builtinsNs (envOf cn cs L a ccd)).kindOf x = some .globalImplicit) (hd : (x == ("__debug__" : Str)) = false) :
    wpAny M A (eval (.Name x pos) (genEnv scope cl C code builtinsNs (envOf cn cs L a ccd))) Q E s :=
  Name_function_global hk hx (loadGlobal_global (env := genEnv scope cl C code builtinsNs (envOf cn cs L a ccd)) (T.g.keeps F.keep) (mg_of X T.g e) h) hd
end
local macro_rules | `(tactic| walk_at "eval Name") => `(tactic| (k_here; k_dflt (first
  | (refine' ldVarG ?F ?v ?_ ?a ?b ?c; (case b => with_reducible assumption); (case F => with_reducible assumption); (case v => exact if_pos rfl); (case a => with_reducible assumption); (case c => decide); k_whole)
  | (refine' nameG_K ?F ?X ?T ?e ?_ ?a ?b ?c; (case b => with_reducible assumption); (case F => with_reducible assumption); (case X => with_reducible assumption); (case T => with_reducible assumption); (case a => with_reducible assumption); (case c => decide); (case e => k_is); k_whole)); walk_say "MY NAME G"))
def gScope : Scope := { kind := .function, names := [(Str.ofString ".0", .local), (Str.ofString "path", .local), (Str.ofString "isabs", .globalImplicit)], isGenerator := true, isCoroutine := false }
theorem test_isabs (w mg mb) : ∀ {A : Around} {s : Shared} {E : Value → Shared → Prop} {g : Heap} {C L a : Addr} {cn : Str} {cs sc : Scope} {ccd code : Value} {cl : List (Str × Addr)} {m : Str → Option Value} {x : Str} {t : Tok} {p₁ p₂ p₃ p₄ : Pos}
    (_ : A.handled = none) (_ : (hd.heap_39 w.params).In g) (_ : TopRead Vw Lo mg mb g) (_ : A.depth + 6 < recursionLimit) (_ : A.units + 100 < cLine)
    (_ : Fr g C s.heap m) (_ : m (Str.ofString "path") = some (.str x t)) (_ : sc.kind = .function) (_ : (genEnv sc cl C code builtinsNs (envOf cn cs L a ccd)).kindOf (Str.ofString "path") = some .local) (_ : (genEnv sc cl C code builtinsNs (envOf cn cs L a ccd)).kindOf (Str.ofString "isabs") = some .globalImplicit),
    wpAny (model Pg w) A (forIn [Expr.UnaryOp UnaryOp.Not (Expr.Call (Expr.Name (Str.ofString "isabs") p₁) [Expr.Name (Str.ofString "path") p₂] [] p₃) p₄] true fun c r => if r = true then do let ok ← isTrue c (genEnv sc cl C code builtinsNs (envOf cn cs L a ccd)) (eval c (genEnv sc cl C code builtinsNs (envOf cn cs L a ccd))); pure (ForInStep.yield ok) else pure (ForInStep.yield r))
      (fun ok s₃ => Halt (ok = (!Txt.startswith x (Str.ofString "/")) ∧ Keeps s s₃)) E s := by
  unfold Pg Vw Lo
  k_fill
  intro A s E g C L a cn cs sc ccd code cl m x t p₁ p₂ p₃ p₄ hA X T hd hu F hm hsk h1 h2
  have F' : Fr g C s.heap (fun y => if y = Str.ofString "path" then some (.str x t) else m y) := by
    have e : (fun y => if y = Str.ofString "path" then some (.str x t) else m y) = m := by
      funext y
      by_cases q : y = Str.ofString "path"
      · rw [if_pos q, q, hm]
      · rw [if_neg q]
    rw [e]
    exact F
  have N' : News g C s.heap [] := News.nil
  clear F hm
  rw [List.forIn_cons]
  refine wpAny_bind ?_
  rw [if_pos rfl]
  refine wpAny_bind ?_
  (try k_fold)
  k_steps
  refine wpAny_pure ?_
  exact wpAny_pure ⟨rfl, _, _, rfl, ‹_›⟩
end Mine
end
section
open PySem PySem.W PyProof.Rows PySem.Calls PyProof.V PySem.Spec
set_option Elab.async false
set_option maxRecDepth 100000
set_option maxHeartbeats 2000000
namespace Mine
section
variable {prog : Program} {w : World} {A : Around} {E : Value → Shared → Prop} {s : Shared} {h₁ h₀ : Heap} {c P L Kb : Addr} {ps : Array Value} {m mg : Str → Option Value} {bm : Addr} {ob : Obj}
/-- what holds of a generator wherever the frame L alone has been written since -/
def GenLater (prog : Program) (w : World) (A : Around) (L a : Addr) (ts : List Str) (pz : Str → Bool) (s₅ : Shared) : Prop :=
  ∀ h' tk', s₅.toks ≤ tk' → s₅.heap.objs.size ≤ h'.objs.size → (∀ b o, b ≠ L → s₅.heap.get? b = some o → h'.get? b = some o) → GenOnD prog w A L a ts pz (fun x => PyData.str x) { s₅ with heap := h', toks := tk' }
theorem genexp_strs {env : Env} {elt iter : Expr} {x : Str} {px : Pos} {ifs : List Expr} {scope : Scope} {cl : List (Str × Addr)} {pos : Pos} {Q : Value → Shared → Prop} {pz : Str → Bool}
    (_F : Fr h₀ L s.heap m) (B : Based h₁ h₀ c P ps) (M : BMod h₀ env.globals mg bm ob) (hcode : env.code = .ref c) (hnf : codeAmong pos ps.toList = none)
    (hh : A.handled = none) (hco : scope.isCoroutine = false) (hclos : closureFor scope env = pure cl) (hcell : ∀ y ∈ scope.names, y.2 ≠ .cell) (h0 : scope.names.lookup (".0" : Str) = some NameKind.local)
    (hx : scope.names.lookup x = some .local) (hkind : scope.kind = .function) (hroom : A.depth < recursionLimit)
    (h : wpAny (model prog w) A (eval iter env) (fun xv s₁ => ∃ l vs ts, xv = .ref l ∧ s₁.heap.IsList l vs.toArray ∧ StrsAre vs ts ∧ Fr h₀ L s₁.heap m ∧ AllBare s₁.gens ∧ s₁.heap.NoLimit ∧ l ≠ L ∧ cStatics ≠ L ∧
        (∀ (c' C : Addr) (A' : Around) E' (a : Str) (v : Value) (u : Shared) m₂, A'.handled = none → A'.depth ≤ A.depth + 1 → A'.units ≤ A.units + 8 → a ∈ ts → (∃ t, v = .str a t) → Fr (regrown h₀ P (ps ++ #[rawInt pos.line, rawInt pos.col, .ref c'])) C u.heap m₂ → m₂ x = some v → L < C →
          wpAny (model prog w) A' (forIn ifs true fun c r => if r = true then do let ok ← isTrue c (genEnv scope cl C (.ref c') builtinsNs env) (eval c (genEnv scope cl C (.ref c') builtinsNs env)); pure (ForInStep.yield ok) else pure (ForInStep.yield r))
            (fun ok s₃ => ok = pz a ∧ Keeps u s₃) E' u) ∧
        (∀ (c' C : Addr) (A' : Around) E' (a : Str) (v : Value) (u : Shared) m₂, A'.handled = none → A'.depth ≤ A.depth + 1 → A'.units ≤ A.units + 8 → a ∈ ts → (∃ t, v = .str a t) → pz a = true → Fr (regrown h₀ P (ps ++ #[rawInt pos.line, rawInt pos.col, .ref c'])) C u.heap m₂ → m₂ x = some v → L < C →
          wpAny (model prog w) A' (eval elt (genEnv scope cl C (.ref c') builtinsNs env)) (fun y s₃ => Carried y (PyData.str a) ∧ Keeps u s₃) E' u) ∧
        (∀ (c' a : Addr) (s₅ : Shared), Based h₁ (regrown h₀ P (ps ++ #[rawInt pos.line, rawInt pos.col, .ref c'])) c P (ps ++ #[rawInt pos.line, rawInt pos.col, .ref c']) →
          Fr (regrown h₀ P (ps ++ #[rawInt pos.line, rawInt pos.col, .ref c'])) L s₅.heap m → AllBare s₅.gens → s₅.os = s₁.os → s₅.drawn = s₁.drawn → (∀ b o, b ≠ P → s₁.heap.get? b = some o → s₅.heap.get? b = some o) →
          L < a → GenLater prog w A L a ts pz s₅ → Q (.ref a) s₅)) E s)
    (hs : ∀ x, genFold iter env x = pure x) :
    wpAny (model prog w) A (eval (.GeneratorExp elt [⟨.Name x px, iter, ifs, 0⟩] scope pos) env) Q E s := by
  refine wpAny_GeneratorExp_make hco hclos hcell h0 hkind hroom (wpAny_mono h (fun xv s₁ h₁' => ?_) fun _ _ e => e) hs
  obtain ⟨l, vs, ts, rfl, hl, hi, F₁, G₁, hlim, hlL, hcL, hq1, hq2, hQ⟩ := h₁'
  have hlt : l < s₁.heap.objs.size := by obtain ⟨_, e, _⟩ := hl; exact Heap.lt_size e
  have hPlt : P < s₁.heap.objs.size := Heap.lt_size (B.tabAt F₁).2
  have hlP : l ≠ P := fun e => by
    obtain ⟨o, ho, hc, _⟩ := hl
    rw [e, (B.tabAt F₁).2] at ho; cases ho; exact absurd hc (by simp)
  refine wpAny_pyIter_list hl ?_
  have F₂ := F₁.push { cls := .type "list_iterator", data := .fields #[.ref l, .int 0 0] }
  have hst : (s₁.heap.push { cls := .type "list_iterator", data := .fields #[.ref l, .int 0 0] }).IsListIter s₁.heap.objs.size l 0 ∧ (s₁.heap.push { cls := .type "list_iterator", data := .fields #[.ref l, .int 0 0] }).IsList l vs.toArray := ⟨⟨_, Heap.get?_push_size _ rfl, rfl, rfl⟩, hl.push _⟩
  have hlim₂ := hlim.push { cls := .type "list_iterator", data := .fields #[.ref l, .int 0 0] }
  have hold₂ : ∀ b o, s₁.heap.get? b = some o → (s₁.heap.push { cls := .type "list_iterator", data := .fields #[.ref l, .int 0 0] }).get? b = some o := fun b o e => Heap.get?_push_of_some _ e
  have hI₂ : s₁.heap.objs.size < (s₁.heap.push { cls := .type "list_iterator", data := .fields #[.ref l, .int 0 0] }).objs.size := by rw [Heap.size_push]; exact Nat.lt_succ_self _
  generalize (s₁.heap.push { cls := .type "list_iterator", data := .fields #[.ref l, .int 0 0] }) = H₂ at *
  have hIL : s₁.heap.objs.size ≠ L := Nat.ne_of_gt F₁.ns.lt
  generalize hI : s₁.heap.objs.size = I at *
  have hIP : I ≠ P := Nat.ne_of_gt hPlt
  refine ⟨hlim₂, wpAny_genexprCodeX hcode (B.codeAt F₂) (B.tabAt F₂) hnf fun c' h₃ tk₃ hx₃ hge hlt₃ hcode₃ _ htab₃ _ => ?_⟩
  have hsz : H₂.objs.size ≤ h₃.objs.size := Nat.le_trans hge (Nat.le_of_lt hlt₃)
  obtain ⟨B₃, F₃⟩ := B.grow F₂ hx₃ hcode₃ htab₃
  have M₃ : BMod h₃ env.globals mg bm ob := (M.keeps F₂.keep).extBut (B.tabAt F₂) hx₃
  have hcP : cStatics ≠ P := fun e => by
    obtain ⟨_, hns, _⟩ := hlim₂
    obtain ⟨o, es, ep, ho, hd, _⟩ := hns
    rw [e, (B.tabAt F₂).2] at ho; cases ho; cases hd
  have hl₃ : h₃.NoLimit := hlim₂.extBut hx₃ hcP
  refine wpAny_builtinsFor M₃.ns M₃.name M₃.ne M₃.obj M₃.cls M₃.dict M₃.data ?_
  have hclt : cStatics < h₃.objs.size := let ⟨_, hn, _⟩ := hl₃; hn.lt
  intro h' hn' hs'
  have hsz' : h'.objs.size = h₃.objs.size + 1 := by rw [hs'.1, Heap.size_push]
  have keep' : ∀ b o, h₃.get? b = some o → h'.get? b = some o := fun b o e => hs'.extBut b o (Nat.ne_of_lt (Heap.lt_size e)) (Heap.get?_push_of_some _ e)
  let FP : List Addr := (List.range h₃.objs.size).filter (fun b => b != L)
  have memFP : ∀ {b : Addr}, b ∈ FP ↔ b < h₃.objs.size ∧ b ≠ L := fun {b} => by
    show b ∈ (List.range h₃.objs.size).filter (fun b => b != L) ↔ _
    rw [List.mem_filter, List.mem_range, bne_iff_ne]
  have hI₃ : I < h₃.objs.size := Nat.lt_of_lt_of_le hI₂ hsz
  have hsub : ∀ b ∈ [I], b ∈ FP := fun b hb => by rw [List.mem_singleton.mp hb]; exact memFP.mpr ⟨hI₃, hIL⟩
  have hfp : ∀ b ∈ [I, l], b ∈ FP := fun b hb => by
    rcases List.mem_cons.mp hb with rfl | hb
    · exact memFP.mpr ⟨hI₃, hIL⟩
    · rw [List.mem_singleton.mp hb]; exact memFP.mpr ⟨Nat.lt_trans hlt hI₃, hlL⟩
  have haC : h'.objs.size ≠ h₃.objs.size := by rw [hsz']; exact Nat.succ_ne_self _
  have haf : h'.objs.size ∉ FP := fun hm => by
    have h1 : h'.objs.size < h₃.objs.size := (memFP.mp hm).1
    rw [hsz'] at h1
    exact Nat.not_succ_lt_self h1
  have hcw : cStatics ∉ [I] := fun hm => by
    obtain ⟨_, hns, _⟩ := hlim
    have := hns.lt
    rw [List.mem_singleton.mp hm, ← hI] at this
    exact Nat.lt_irrefl _ this
  have keep₅ : ∀ b o, h₃.get? b = some o → (h'.push { cls := .type "generator", data := .fields #[.int s₁.gens.size 0, .str "<genexpr>" (tk₃ + 1), .str (env.qual ++ "<genexpr>") (tk₃ + 1 + 1)] }).get? b = some o :=
    fun b o e => Heap.get?_push_of_some _ (keep' b o e)
  have W := WalksS.genexpQ (prog := prog) (w := w) (A := A.in4) hh h'.objs.size s₁.gens.size h₃.objs.size FP [I] (fun i => (ts[i]?.map pz).getD false) vs.toArray.size (fun i y => ∃ b, ts[i]? = some b ∧ Carried y (PyData.str b)) haC haf hsub hroom (memFP.mpr ⟨hclt, hcL⟩) (Nat.ne_of_lt hclt) hcw
  have hat : ∀ (i : Nat) (v : Value), vs.toArray[i]? = some v → ∃ a, ts[i]? = some a ∧ ∃ t, v = .str a t := fun i v hv => by
    obtain ⟨a, t, e1, e2⟩ := hi.item i v (by simpa using hv)
    exact ⟨a, e2, t, e1⟩
  have hLC : L < h₃.objs.size := Nat.lt_of_lt_of_le F₂.ns.lt hsz
  have hq : ∀ href : Heap, (∀ b o, h₃.get? b = some o → href.get? b = some o) →
      QuietGenD prog w (genEnv scope cl h₃.objs.size (.ref c') builtinsNs env) x ifs elt FP [I] (fun i v => vs.toArray[i]? = some v) (fun i => (ts[i]?.map pz).getD false) (fun i y => ∃ b, ts[i]? = some b ∧ Carried y (PyData.str b)) href (A.depth + 1) (A.units + 8) := fun href hhref => by
    have inB : ∀ (t : Shared) m₂, t.heap.Ns h₃.objs.size m₂ → (∀ b ∈ FP, b ∉ [I] → ∀ o, href.get? b = some o → t.heap.get? b = some o) →
        Fr (regrown h₀ P (ps ++ #[rawInt pos.line, rawInt pos.col, .ref c'])) h₃.objs.size t.heap m₂ := fun t m₂ hn hkp =>
      ⟨hn, fun b o e => hkp b (memFP.mpr ⟨Heap.lt_size (F₃.keep b o e), Nat.ne_of_lt (Nat.lt_of_lt_of_le (Heap.lt_size e) F₃.above)⟩) (fun hm => by
          have h1 : b < L := Nat.lt_of_lt_of_le (Heap.lt_size e) F₃.above
          rw [List.mem_singleton.mp hm, ← hI] at h1
          exact Nat.lt_irrefl _ (Nat.lt_trans h1 F₁.ns.lt)) o (hhref b o (F₃.keep b o e)),
        Nat.le_trans F₃.above (Nat.le_of_lt hLC)⟩
    refine ⟨fun A' E' i v t m₂ hA hD hU hP hn hm hkp => ?_, fun A' E' i v t m₂ hA hD hU hP hp hn hm hkp => ?_⟩
    · obtain ⟨a, ha, hv⟩ := hat i v hP
      exact wpAny_mono (hq1 c' _ A' E' a v t m₂ hA hD hU (List.mem_of_getElem? ha) hv (inB t m₂ hn hkp) hm hLC) (fun ok s₃ r => ⟨r.1.trans (by simp [ha]), r.2⟩) fun _ _ e => e
    · obtain ⟨a, ha, hv⟩ := hat i v hP
      exact wpAny_mono (hq2 c' _ A' E' a v t m₂ hA hD hU (List.mem_of_getElem? ha) hv (by simpa [ha] using hp) (inB t m₂ hn hkp) hm hLC) (fun y s₃ r => ⟨⟨a, ha, r.1⟩, r.2⟩) fun _ _ e => e
  have W₀ : ∀ A' : Around, A'.handled = none → Walks prog w A' I [I, l] [I] vs.toArray.size (fun i v => vs.toArray[i]? = some v) (fun i h => h.IsListIter I l i ∧ h.IsList l vs.toArray) := fun A' hA => Walks.list hA _ _ (fun e => by rw [e] at hlt; exact Nat.lt_irrefl _ (hI ▸ hlt)) vs.toArray
  have hst₃ := (W₀ A hh).frame _ _ _ hst (fun b hb o e => hx₃ b o (fun e' => by
    rcases List.mem_cons.mp hb with q | hb
    · exact hIP (q ▸ e')
    · exact hlP (List.mem_singleton.mp hb ▸ e')) e)
  have old₃ : ∀ b o, b ≠ P → s₁.heap.get? b = some o → h₃.get? b = some o := fun b o hb e => hx₃ b o hb (hold₂ b o e)
  let go : Obj := { cls := .type "generator", data := .fields #[.int s₁.gens.size 0, .str "<genexpr>" (tk₃ + 1), .str (env.qual ++ "<genexpr>") (tk₃ + 1 + 1)] }
  have key : ∀ s₅ : Shared, s₅.heap = h'.push go → s₅.gens = s₁.gens.push (.fresh (.compStart (.GeneratorExp elt [⟨.Name x px, iter, ifs, 0⟩] scope pos) 0 (.ref I) .none (genEnv scope cl h₃.objs.size (.ref c') builtinsNs env))) →
      GenAt prog w A.in4 h'.objs.size s₁.gens.size h₃.objs.size FP [I] (fun i => (ts[i]?.map pz).getD false) vs.toArray.size (fun i y => ∃ b, ts[i]? = some b ∧ Carried y (PyData.str b)) 0 s₅ := by
    intro s₅ e1 e2
    have keep₆ : ∀ b o, h₃.get? b = some o → s₅.heap.get? b = some o := fun b o e => by rw [e1]; exact keep₅ b o e
    exact GenAt.freshD (A := A.in4) (cenv := genEnv scope cl h₃.objs.size (.ref c') builtinsNs env) (m := fun y => if y = ".0" then some (.ref I) else none) hh
      (fun A' hA => (W₀ A' hA).mono_fp hfp) (fun i => (ts[i]?.map pz).getD false) (fun i y => ∃ b, ts[i]? = some b ∧ Carried y (PyData.str b)) hx (by simp [genEnv, hkind]) hco
      (fun hm => Nat.lt_irrefl _ (memFP.mp hm).1) (hq _ keep₆) ⟨_, _, _, by rw [e1]; exact Heap.get?_push_size _ rfl, rfl, rfl, rfl⟩ (by rw [e2]; exact Array.getElem?_push_size ..) ((W₀ A hh).frame _ _ _ hst₃ fun b _ o e => keep₆ b o e) (by rw [e1]; exact hn'.push _) (hl₃.keeps keep₆)
  refine hQ c' h'.objs.size _ B₃ (F₃.keeps keep₅) (G₁.push rfl) rfl rfl (fun b o hb e => keep₅ b o (old₃ b o hb e)) (by rw [hsz']; exact Nat.lt_succ_of_lt hLC) ?_
  intro h₆ tk₆ htk₆ hsz₆ hk₆
  have at₆ := W.frame 0 _ h₆ tk₆ (by exact key _ rfl rfl) htk₆ (fun b hb o e => hk₆ b o (by
    rcases List.mem_cons.mp hb with rfl | hb
    · rw [hsz']; exact Nat.ne_of_gt (Nat.lt_succ_of_lt hLC)
    · rcases List.mem_cons.mp hb with rfl | hb
      · exact Nat.ne_of_gt hLC
      · exact (memFP.mp hb).2) e)
  have hvl : vs.toArray.size = ts.length := by rw [List.size_toArray]; exact hi.length
  have hgs : h'.objs.size < (h'.push go).objs.size := by rw [Heap.size_push]; exact Nat.lt_succ_self _
  have hsz₇ : h'.objs.size + 1 ≤ h₆.objs.size := by
    have e : (h'.push go).objs.size = h'.objs.size + 1 := Heap.size_push ..
    rw [← e]
    exact hsz₆
  have X : Gen prog w A L h'.objs.size (passing (fun i => (ts[i]?.map pz).getD false) vs.toArray.size 0).length (fun j y => ∃ i, (passing (fun i => (ts[i]?.map pz).getD false) vs.toArray.size 0)[j]? = some i ∧ ∃ b, ts[i]? = some b ∧ Carried y (PyData.str b)) { heap := h₆, gens := s₁.gens.push (.fresh (.compStart (.GeneratorExp elt [⟨.Name x px, iter, ifs, 0⟩] scope pos) 0 (.ref I) .none (genEnv scope cl h₃.objs.size (.ref c') builtinsNs env))), drawn := s₁.drawn, toks := tk₆, os := s₁.os } :=
    ⟨_, _, _, _, W, at₆, (fun i s' st => st.1.typeIs), List.mem_cons_self, (fun b hb => by
      show b < h₆.objs.size
      refine Nat.lt_of_lt_of_le ?_ hsz₇
      rcases List.mem_cons.mp hb with rfl | hb
      · exact Nat.lt_succ_self _
      · refine Nat.lt_succ_of_lt ?_
        rw [hsz']
        rcases List.mem_cons.mp hb with rfl | hb
        · exact Nat.lt_succ_self _
        · exact Nat.lt_succ_of_lt (memFP.mp hb).1), (fun b hb => by
      rcases List.mem_cons.mp hb with rfl | hb
      · exact hLC
      · rw [List.mem_singleton.mp hb, ← hI]; exact F₁.ns.lt)⟩
  rw [hvl] at X
  have hidx := idx_map ts pz
  have hpass : passing (fun i => (ts[i]?.map pz).getD false) ts.length 0 = (List.range ts.length).filter fun i => (ts[i]?.map pz).getD false := by simp [passing]
  rw [hpass] at X
  have hlen : ((List.range ts.length).filter fun i => (ts[i]?.map pz).getD false).length = (ts.filter pz).length := by simpa using congrArg List.length hidx
  rw [hlen] at X
  refine X.imp fun j y hy => ?_
  obtain ⟨i, hij, b, hb, hc⟩ := hy
  refine ⟨b, ?_, hc⟩
  have := congrArg (fun l => l[j]?) hidx
  simp only [List.getElem?_map, hij, Option.map_some, hb] at this
  cases hq : (ts.filter pz)[j]? with
  | none => rw [hq] at this; simp at this
  | some b' => rw [hq] at this; simp at this; rw [this]
end
end Mine
end
section
open PySem PySem.W PyProof.Rows PySem.Calls
set_option Elab.async false
set_option maxRecDepth 100000
set_option maxHeartbeats 1000000
namespace Mine
theorem reset_12 : True := by
  w_top off
  trivial
local macro_rules | `(tactic| k_room) => `(tactic| ktr_room)
local macro_rules | `(tactic| k_units) => `(tactic| ktr_units)
local macro_rules | `(tactic| units_room) => `(tactic| ktr_units)
local macro_rules | `(tactic| walk_at "my enterP") => `(tactic| (refine' enterP ?k3 ?k5 ?k6 ?kL ?kM ?kN ?k7 ?k8 ?k9 ?kB ?_ ?c2 ?c3 ?c4 ?c5; (case k3 => k_asm); (case k5 => k_asm); (case k6 => k_is); (case kL => ((conv => lhs; whnf); (try exact rfl))); (case kM => ((conv => lhs; whnf); (try exact rfl))); (case kN => ((conv => lhs; whnf); (try exact rfl))); (case k7 => k_is); (case k8 => ktr_room); (case k9 => first | exact BindsTo.of_eq rfl | exact binds_K (by k_asm) rfl (by k_is) rfl rfl rfl); (case c5 => decide); (case kB => exact locs rfl); (case c2 => exact rfl); (case c3 => exact rfl); (case c4 => exact rfl); k_whole))
local macro_rules | `(tactic| walk_at "my enterA") => `(tactic| (refine' enterA ?k3 ?k5 ?k6 ?kL ?kM ?kN ?k7 ?k8 ?k9 ?kB ?_ ?c2 ?c3 ?c4 ?c5; (case k3 => k_asm); (case k5 => k_asm); (case k6 => k_is); (case kL => ((conv => lhs; whnf); (try exact rfl))); (case kM => ((conv => lhs; whnf); (try exact rfl))); (case kN => ((conv => lhs; whnf); (try exact rfl))); (case k7 => k_is); (case k8 => ktr_room); (case k9 => first | exact BindsTo.of_eq rfl | exact binds_K (by k_asm) rfl (by k_is) rfl rfl rfl); (case c5 => decide); (case kB => exact locs rfl); (case c2 => exact rfl); (case c3 => exact rfl); (case c4 => exact rfl); k_whole))
local macro_rules | `(tactic| walk_at "my enterR") => `(tactic| (refine' enterR ?k3 ?k5 ?k6 ?kL ?kM ?kN ?k7 ?k8 ?kP ?kG ?kB ?_ ?c2 ?c3 ?c4 ?c5; (case k3 => k_asm); (case k5 => k_asm); (case k6 => k_is); (case kL => ((conv => lhs; whnf); (try exact rfl))); (case kM => ((conv => lhs; whnf); (try exact rfl))); (case kN => ((conv => lhs; whnf); (try exact rfl))); (case k7 => k_is); (case k8 => ktr_room); (case kP => exact rfl); (case kG => exact fun _ => rfl); (case c5 => decide); (case kB => exact fun _ => locs rfl); (case c2 => exact rfl); (case c3 => exact rfl); (case c4 => exact rfl); k_whole))
local macro_rules | `(tactic| walk_at "my enterB") => `(tactic| (refine' enterB ?k3 ?k5 ?k6 ?kL ?kM ?kN ?k7 ?k8 ?kP ?kS ?kT ?kB ?_ ?c2 ?c3 ?c4 ?c5; (case k3 => k_asm); (case k5 => k_asm); (case k6 => k_is); (case kL => ((conv => lhs; whnf); (try exact rfl))); (case kM => ((conv => lhs; whnf); (try exact rfl))); (case kN => ((conv => lhs; whnf); (try exact rfl))); (case k7 => k_is); (case k8 => ktr_room); (case kP => exact rfl); (case kS => exact fun _ => rfl); (case kT => exact fun _ _ => rfl); (case c5 => decide); (case kB => exact fun _ _ => locs rfl); (case c2 => exact rfl); (case c3 => exact rfl); (case c4 => exact rfl); k_whole))

local macro_rules | `(tactic| walk_at "eval GeneratorExp") => `(tactic| (refine halt_of ?_))
local macro_rules | `(tactic| walk_at "call builtin:str.join") => `(tactic| (refine halt_of ?_))
section
variable {M : Model} {A : Around} {E : Value → Shared → Prop} {s : Shared} {name : Str} {scope : Scope} {L a : Addr} {cd : Value} {h₀ : Heap} {m : Str → Option Value} {news : List (Addr × Obj)}
theorem stS {x : Str} {v : Value} {Q : Unit → Shared → Prop} (F : Fr h₀ L s.heap m) (N : News h₀ L s.heap news)
    (h : ∀ h', Fr h₀ L h' (fun y => if y = x then some v else m y) → News h₀ L h' news → Heap.SameBut L s.heap h' → Q () { s with heap := h', toks := s.toks + 1 })
    (hk : scope.kind = .function) (hl : (envOf name scope L a cd).kindOf x = some .local) :
    wpAny M A (storeName (envOf name scope L a cd) x v) Q E s :=
  stNK F N (fun h' F' N' hs _ => h h' F' N' hs) hk hl
end
local macro_rules | `(tactic| walk_at "storeName") => `(tactic| (k_here; k_dflt (refine' stS ?F ?N ?_ ?a ?b; (case F => k_asm); (case N => k_asm); (case a => rfl); (case b => rfl); k_whole; intro h' F' N' S'; (try k_sweep)); walk_say "MY STORE"))
theorem wS_filter (pz : Str → Bool) : ∀ ts : List Str, wS (ts.filter pz) ≤ wS ts
  | [] => Nat.le_refl _
  | x :: r => by
    have ih := wS_filter pz r
    by_cases h : pz x = true
    · rw [List.filter_cons_of_pos h, wS_cons, wS_cons]; omega
    · rw [List.filter_cons_of_neg h, wS_cons]; omega
theorem joinS_len' {sep : Str} {ss : List Str} : (Txt.join sep ss).length ≤ wS ss + wS ss * sep.length := by
  show (PySem.Builtin.Str.glued sep ss).length ≤ _
  rw [StrLaws.glued_eq_join]
  refine Nat.le_trans (StrLaws.join_length_le sep ss) (Nat.add_le_add ?_ (Nat.mul_le_mul_right _ (wS_len ss)))
  simp [wS]
theorem nilOf {h₀ h : Heap} {L : Addr} {m : Str → Option Value} (_ : Fr h₀ L h m) : News h₀ L h [] := News.nil
theorem hk_classed (P : Params) : kb_classed (hd.heap_39 P) = true := by kernel_rfl
def GivesM (w : World) (mean : ExcName → Option Value) (mg mb : Str → Option Value) (k : Nat) (f c : Addr) (vs : List Value) (H : Heap → Prop) (R : Tok → Value) : Prop :=
  ∀ (dp un : Nat) (gd : Option (List Code)) (outer : List Env) (s : Shared) (Q E : Value → Shared → Prop) (P : Addr),
    (hd.heap_39 w.params).In s.heap → Top Vw Lo mean mg mb s.heap → AllBare s.gens → Based s.heap s.heap c P #[] → dp + k < recursionLimit → un + 16 * k < cLine → H s.heap →
    (∀ (t : Tok) (ps : Array Value) (s₅ : Shared), Based s.heap (regrown s.heap P ps) c P ps → (regrown s.heap P ps).StaysIn s₅.heap → AllBare s₅.gens → s₅.os = s.os → Q (R t) s₅) →
      wpAny (model Pg w) (Ar dp un gd outer) (call (.ref f) vs) Q E s
local macro_rules | `(tactic| walk_at "execs cons") => `(tactic| ((with_reducible refine wpAny_execs_cons ?_); try dsimp only))
def MH : Str := Str.ofString "Paths should be absolute but found the following relative paths:"
def PX : Str := Str.ofString "\n    "
def msgF (ts : List Str) : Str := MH ++ (PX ++ Txt.join PX (ts.filter fun x => !Txt.startswith x (Str.ofString "/")))
theorem msg_g (w mean mg mb) (l : Addr) (vs : List Value) (ts : List Str) : GivesM w mean mg mb 10 105 104 [.ref l] (fun h => h.IsList l vs.toArray ∧ StrsAre vs ts ∧ wS ts ≤ 1000) (fun t => .str (msgF ts) t) := by
  unfold GivesM Pg Vw Lo
  k_fill
  intro dp un gd outer s Q E P X T hG BB hd hu hH hret
  obtain ⟨hl, hi, hw⟩ := hH
  obtain ⟨bm, ob, M⟩ := bmod_of_top T
  refine wpAny_call ?_
  k_dflt (walk_at "my enterP")
  intro L' h' F' N'
  (try dsimp only)
  (try k_fold)
  k_steps
  · unfold Halt
    rename Fr _ _ _ _ => lF
    have hTR := topRead_of T
    refine genexp_strs (L := L') (pz := fun x => !Txt.startswith x (Str.ofString "/")) lF BB M rfl rfl rfl rfl rfl (by decide) rfl rfl rfl ?_ ?_ (fun _ => rfl)
    · ktr_room
    refine ld lF rfl ?_
    refine ⟨l, vs, ts, rfl, Fr.lst lF hl, hi, lF, hG, T.nolimit.keeps lF.keep, ?_, ?_, ?_, ?_, ?_⟩
    · intro e
      obtain ⟨o, ho, _⟩ := hl
      exact absurd (Nat.lt_of_lt_of_le (Heap.lt_size ho) lF.above) (e ▸ Nat.lt_irrefl _)
    · obtain ⟨_, hns, _⟩ := T.nolimit
      exact Nat.ne_of_lt (Nat.lt_of_lt_of_le hns.lt lF.above)
    · rintro c' C A' E' a v u m₂ hA hD hU ha ⟨t, rfl⟩ F hm hLC
      have hD' : A'.depth ≤ dp + 1 + 1 := hD
      have hU' : A'.units ≤ un + 3 + 8 := hU
      exact wpAny_mono (test_isabs w mg mb hA (LGeL.in_regrown F X hTR BB (hk_classed _)) (LGe.top_regrown F hTR BB) (by omega) (by omega) F hm rfl rfl rfl) (fun ok s₃ r => r) (fun _ _ e => e)
    · rintro c' C A' E' a v u m₂ hA hD hU ha ⟨t, rfl⟩ hp F hm hLC
      exact ldVarG F hm ⟨.str _ _, _, _, rfl, fun _ _ e => e⟩ rfl rfl (by decide)
    · intro c' a s₅ B₅ F₅ G₅ hos hdr hk hLa later
      have X₅ := LGeL.in_regrown F₅ X hTR BB (hk_classed _)
      have T₅ := LGe.top_regrown F₅ hTR BB
      have N₅ := nilOf F₅
      clear hk hdr X T BB M
      clear lF
      dsimp only
      k_steps
      unfold Halt
      rename Fr _ _ _ _ => lF
      rename News _ _ _ _ => lN
      rename Heap.SameBut _ _ _ => sB2
      rename Heap.SameBut _ s₅.heap _ => sB1
      have hwf := wS_filter (fun x => !Txt.startswith x (Str.ofString "/")) ts
      have hp5 : (Str.ofString "\n    ").length = 5 := by decide +kernel
      have hjl := joinS_len' (sep := Str.ofString "\n    ") (ss := ts.filter fun x => !Txt.startswith x (Str.ofString "/"))
      rw [hp5] at hjl
      refine join_genD (f := fun x => x) lF G₅ (later _ _ ?_ ?_ ?_) (Nat.le_refl _) ?_ ?_ ?_
      · (try dsimp only); omega
      · exact Nat.le_of_eq (sB1.1.symm.trans sB2.1.symm)
      · exact fun b o hb e => (sB2.2 b hb).trans ((sB1.2 b hb).trans e)
      · exact joinOk_filter (Nat.le_trans hw (by decide)) (by rw [hp5]; decide)
      · intro s₉ t₉ F₉ G₉ hos₉ hk₉
        rw [List.map_id']
        clear lF lN sB1 sB2 later hk₉
        have N₉ := nilOf F₉
        k_steps
        (try dsimp only)
        k_steps
        exact hret _ _ _ B₅ (Fr.keep (by k_asm)) G₉ (hos₉.trans hos)
      · rw [sizeLine_eq]
        have := wS_len ts
        omega
end Mine
end
section
open PySem PySem.W PyProof.Rows PySem.Calls PyProof.V PySem.Spec
open Sem (wp)
open AutoSeq1 (wpAny_loadPart')
set_option Elab.async false
set_option maxRecDepth 100000
set_option maxHeartbeats 2000000
namespace Mine
theorem sub_filter : isSubtype (.type "filter") (.type "filter") = pure true := by rw [isSubtype_type]; kernel_rfl
theorem slot_filter_init : Slot "filter" "__init__" "object.__init__" :=
  .of (owner := "object") (n := "__init__") (by rw [typeLookup_type, builtinLookup_eq_fast]; kernel_rfl) (by decide +kernel) (by decide +kernel) (by decide +kernel)
    (by first | exact .inl (by decide +kernel) | exact .inr (by decide +kernel)) (by rw [isSubtype_type]; kernel_rfl)
theorem slot_filter_iter : Slot "filter" "__iter__" "filter.__iter__" :=
  .of (owner := "filter") (n := "__iter__") (by rw [typeLookup_type, builtinLookup_eq_fast]; kernel_rfl) (by decide +kernel) (by decide +kernel) (by decide +kernel)
    (by first | exact .inl (by decide +kernel) | exact .inr (by decide +kernel)) (by rw [isSubtype_type]; kernel_rfl)
theorem slot_filter_next : Slot "filter" "__next__" "filter.__next__" :=
  .of (owner := "filter") (n := "__next__") (by rw [typeLookup_type, builtinLookup_eq_fast]; kernel_rfl) (by decide +kernel) (by decide +kernel) (by decide +kernel)
    (by first | exact .inl (by decide +kernel) | exact .inr (by decide +kernel)) (by rw [isSubtype_type]; kernel_rfl)
theorem entry_filter_next : entryFor table "filter.__next__" = some Builtin.«filter.__next__» := entryFor_of_tree (by kernel_rfl)
theorem entry_filter_iter : entryFor table "filter.__iter__" = some Builtin.«dict_keyiterator.__iter__» :=
  entryFor_alias (id' := "dict_keyiterator.__iter__") (by kernel_rfl) (by first | rfl | decide +kernel | (unfold String.splitOn; simp +decide [String.splitOnAux])) (by decide +kernel) (by kernel_rfl)
theorem mro_filter : mroOf (.type "filter") = pure [.type "filter", .type "object"] := by rw [mroOf_type]; kernel_rfl
theorem lookup_filter_new : typeLookup (.type "filter") "__new__" = pure (some (.builtin "filter.__new__")) := by rw [typeLookup_type, builtinLookup_eq_fast]; kernel_rfl
theorem called_filter : TypeCalled "filter" "filter.__new__" "object.__init__" :=
  ⟨by decide +kernel, by decide +kernel, ⟨_, _, mro_filter⟩, madeBy_type mro_filter lookup_filter_new (by decide +kernel), by decide +kernel, by rw [isSubtype_type]; kernel_rfl, slot_filter_init⟩
theorem typeCall_filter_2 (a b : Value) : checkTypeCall "filter" ⟨[a, b], []⟩ = pure () := by kernel_rfl
theorem newCall_filter_2 (a b : Value) : checkBuiltinCall "filter.__new__" ⟨[.type "filter", a, b], []⟩ = pure () := by kernel_rfl
theorem entry_filter_new : entryFor table "filter.__new__" = some Builtin.«filter.__new__» := entryFor_of_tree (by kernel_rfl)
theorem filter_no_len : typeLookup (.type "filter") "__len__" = pure none := by rw [typeLookup_type, builtinLookup_eq_fast]; kernel_rfl
theorem filter_no_hint : typeLookup (.type "filter") "__length_hint__" = pure none := by rw [typeLookup_type, builtinLookup_eq_fast]; kernel_rfl
theorem owner_filter : Manifest.owners.lookup (String.ofList ['r', 'e', 't', 'l', 'i', 'f'].reverse) = some Manifest.sig_filter := by kernel_rfl
theorem args_filter_next_1 (a : Value) : argsOk "filter.__next__" ⟨[a], []⟩ := by
  unfold argsOk; rw [signature?_of (id := "filter.__next__") (n := ['_', '_', 't', 'x', 'e', 'n', '_', '_']) (o := ['r', 'e', 't', 'l', 'i', 'f']) (by kernel_rfl) owner_filter]; kernel_rfl
theorem args_filter_iter_1 (a : Value) : argsOk "filter.__iter__" ⟨[a], []⟩ := by
  unfold argsOk; rw [signature?_of (id := "filter.__iter__") (n := ['_', '_', 'r', 'e', 't', 'i', '_', '_']) (o := ['r', 'e', 't', 'l', 'i', 'f']) (by kernel_rfl) owner_filter]; kernel_rfl
section
variable {prog : Program} {w : World} {A : Around} {E : Value → Shared → Prop} {s : Shared}
abbrev IsFilter (h : Heap) (e : Addr) (f : Value) (it : Addr) : Prop :=
  h.get? e = some { cls := .type "filter", dict := none, data := .fields #[f, .ref it], slots := #[] }
theorem meets_filter_new (f : Value) (l : Addr) (items : Array Value) (n : Nat) :
    Meets (Builtin.«filter.__new__» ⟨[.type "filter", f, .ref l], []⟩) (fun _ R s => s.heap.get? l = some { cls := .type "list", dict := none, data := .seq items n, slots := #[] } ∧
      R (.ok (.ret (.ref (s.heap.push { cls := .type "list_iterator", data := .fields #[.ref l, .int 0 0] }).objs.size)))
        { s with heap := (s.heap.push { cls := .type "list_iterator", data := .fields #[.ref l, .int 0 0] }).push { cls := .type "filter", data := .fields #[f, .ref s.heap.objs.size] } }) :=
  .of_wp fun prog w A R s h => by
    obtain ⟨hp, g, d, tk, os⟩ := s; obtain ⟨hl, h⟩ := h
    have hsub := sub_filter
    have hL : Heap.IsList (Shared.heap ⟨hp, g, d, tk, os⟩) l items := ⟨_, hl, rfl, n, rfl⟩
    wp_walk using wpAny_loadPart' hl, wpAny_pyIter_list hL
    exact ⟨_, rfl, h⟩
theorem call_filter {f : Value} {l : Addr} {its : Array Value} {n : Nat} {Q : Value → Shared → Prop}
    (hl : s.heap.get? l = some { cls := .type "list", dict := none, data := .seq its n, slots := #[] })
    (h : ∀ h', IsFilter h' (s.heap.objs.size + 1) f s.heap.objs.size → h'.IsListIter s.heap.objs.size l 0 → h'.objs.size = s.heap.objs.size + 2 →
      (∀ b o, s.heap.get? b = some o → h'.get? b = some o) → Q (.ref (s.heap.objs.size + 1)) { s with heap := h' }) :
    wpAny (model prog w) A (call (.type "filter") [f, .ref l]) Q E s := by
  refine callType_new called_filter (by decide) (typeCall_filter_2 _ _) (newCall_filter_2 _ _) (fun obj => PySem.F.args_object_init_3 obj _ _) entry_filter_new
    (meets_filter_new f l its n) ⟨hl, ?_⟩
  have hz : (s.heap.push { cls := .type "list_iterator", data := .fields #[.ref l, .int 0 0] }).objs.size = s.heap.objs.size + 1 := Heap.size_push ..
  show _ ∧ _
  rw [hz]
  have he : IsFilter ((s.heap.push { cls := .type "list_iterator", data := .fields #[.ref l, .int 0 0] }).push
      { cls := .type "filter", data := .fields #[f, .ref s.heap.objs.size] }) (s.heap.objs.size + 1) f s.heap.objs.size := by
    have := Heap.get?_push_size (s.heap.push { cls := .type "list_iterator", data := .fields #[.ref l, .int 0 0] })
      (o := { cls := .type "filter", data := .fields #[f, .ref s.heap.objs.size] }) rfl
    rw [hz] at this; exact this
  refine ⟨⟨_, he, rfl⟩, h _ he ⟨_, Heap.get?_push_of_some _ (Heap.get?_push_size _ rfl), rfl, rfl⟩ (by rw [Heap.size_push, hz]) fun b o x => Heap.get?_push_of_some _ (Heap.get?_push_of_some _ x)⟩
theorem pyIter_filter {e it : Addr} {f : Value} {Q : Value → Shared → Prop} (he : IsFilter s.heap e f it) (h : Q (.ref e) s) : wpAny (model prog w) A (pyIter (.ref e)) Q E s := by
  have hT : s.TypeIs (.ref e) "filter" := ⟨_, he, rfl⟩
  refine wpAny_pyIter_slot hT slot_filter_iter (wpAny_call_entry slot_filter_iter hT entry_filter_iter ?_ (args_filter_iter_1 _))
  show wpAny _ _ (ret (.ref e)) _ _ s
  exact wpAny_pure ⟨_, rfl, "filter", _, hT, slot_filter_next.lookup, h⟩
theorem special_item {it l : Addr} {i : Nat} {items : Array Value} {x : Value} {Q : Option Value → Shared → Prop} (hit : s.heap.IsListIter it l i)
    (hl : s.heap.IsList l items) (hx : items[i]? = some x)
    (hQ : ∀ h', h'.IsListIter it l (i + 1) → Heap.SameBut it s.heap h' → Q (some x) { s with heap := h' }) :
    wpAny (model prog w) A (callSpecial? (.ref it) "__next__") Q E s := by
  obtain ⟨o, ho, hc, hd⟩ := id hit
  obtain ⟨ol, hol, _, nl, hdl⟩ := hl
  refine wpAny_callSpecial?_slot (name := Str.ofString "__next__") hit.typeIs slot_listiter_next
    (wpAny_call_entry slot_listiter_next hit.typeIs entry_listiter_next ?_ (args_listiter_next _))
  show wpAny _ _ (field (.ref it) 0 >>= _) _ _ s
  refine wpAny_bind (wpAny_field ho hd (x := .ref l) rfl ?_)
  show wpAny _ _ (if (Value.ref l == Value.none) = true then _ else _) _ _ s
  rw [if_neg (show ¬ ((Value.ref l == Value.none) = true) from Bool.false_ne_true)]
  show wpAny _ _ (field (.ref it) 1 >>= _) _ _ s
  refine wpAny_bind (wpAny_field ho hd (x := .int i 0) rfl ?_)
  show wpAny _ _ (seqItems? (.ref l) >>= _) _ _ s
  refine wpAny_bind (wpAny_seqItems hol hdl ?_)
  simp only [Int.toNat_natCast, hx]
  refine wpAny_bind (wpAny_setField ho hd (by simp) (wpAny_pure ⟨x, rfl, hQ _ ?_ (Heap.SameBut.update ..)⟩))
  exact ⟨_, Heap.get?_update_self _ ho (Obj.isFreed_of_fields (Obj.data_mapFields hd _)), (Obj.cls_mapFields ..).trans hc, by
    rw [Obj.data_mapFields hd]; simp [rawInt]⟩
theorem special_end {it l : Addr} {i : Nat} {items : Array Value} {Q : Option Value → Shared → Prop} (hh : A.handled = none)
    (hit : s.heap.IsListIter it l i) (hl : s.heap.IsList l items) (hx : items[i]? = none)
    (hE : ∀ h' e, Heap.ExtBut it s.heap h' → (∃ o, h'.get? e = some o ∧ o.cls = .type "StopIteration") → E (.ref e) { s with heap := h' }) :
    wpAny (model prog w) A (callSpecial? (.ref it) "__next__") Q E s := by
  obtain ⟨o, ho, hc, hd⟩ := id hit
  obtain ⟨ol, hol, _, nl, hdl⟩ := hl
  refine wpAny_callSpecial?_slot (name := Str.ofString "__next__") hit.typeIs slot_listiter_next
    (wpAny_call_entry slot_listiter_next hit.typeIs entry_listiter_next ?_ (args_listiter_next _))
  show wpAny _ _ (field (.ref it) 0 >>= _) _ _ s
  refine wpAny_bind (wpAny_field ho hd (x := .ref l) rfl ?_)
  show wpAny _ _ (if (Value.ref l == Value.none) = true then _ else _) _ _ s
  rw [if_neg (show ¬ ((Value.ref l == Value.none) = true) from Bool.false_ne_true)]
  show wpAny _ _ (field (.ref it) 1 >>= _) _ _ s
  refine wpAny_bind (wpAny_field ho hd (x := .int i 0) rfl ?_)
  show wpAny _ _ (seqItems? (.ref l) >>= _) _ _ s
  refine wpAny_bind (wpAny_seqItems hol hdl ?_)
  simp only [Int.toNat_natCast, hx]
  refine wpAny_bind (wpAny_rule (wpAny_bind (wpAny_setField ho hd (by simp) ?_)))
  show wpAny _ _ (newExc (.type "StopIteration") [] >>= _) _ _ _
  refine wpAny_bind ?_
  simp only [newExc, newTuple]
  refine wpAny_bind (wpAny_newObj_type ?_ (by size_fits))
  refine wpAny_bind (m := firstArgMember _ _) (wpAny_of_eq (a := Value.none) (by first | rfl | (simp only [firstArgMember]; rfl)) ?_)
  refine wpAny_newObj_type ?_ (by size_fits)
  simp only [raiseNew]
  refine wpAny_bind (wpAny_handled ?_)
  first | rw [show A.in1.handled = none from hh] | rw [hh]
  refine wpAny_bind (wpAny_pure (wpAny_throw ?_))
  exact hE _ _ (((Heap.SameBut.update ..).extBut.push _).push _) ⟨_, Heap.get?_push_size _ rfl, rfl⟩
theorem filter_item {e it l a : Addr} {i : Nat} {items : Array Value} {x : Str} {t : Tok} {Q : Option Value → Shared → Prop}
    (he : IsFilter s.heap e (.ref a) it) (hit : s.heap.IsListIter it l i) (hl : s.heap.IsList l items) (hx : items[i]? = some (.str x t)) (hne : e ≠ it)
    (hcall : ∀ (s' : Shared) Q' E', (∀ b o, b ≠ it → s.heap.get? b = some o → s'.heap.get? b = some o) → (∀ h'' tk'', s'.heap.StaysIn h'' → Q' (.bool true) { s' with heap := h'', toks := tk'' }) → wpAny (model prog w) A.in1 (call (.ref a) [.str x t]) Q' E' s')
    (hQ : ∀ h' tk, h'.IsListIter it l (i + 1) → (∀ b o, b ≠ it → s.heap.get? b = some o → h'.get? b = some o) → Q (some (.str x t)) { s with heap := h', toks := tk }) :
    wpAny (model prog w) A (pyNext (.ref e)) Q E s := by
  have hT : s.TypeIs (.ref e) "filter" := ⟨_, he, rfl⟩
  unfold pyNext
  refine wpAny_bind (wpAny_attempt (wpAny_callSpecial?_slot (name := Str.ofString "__next__") hT slot_filter_next
    (wpAny_call_entry slot_filter_next hT entry_filter_next ?_ (args_filter_next_1 _))))
  show wpAny _ _ (field (.ref e) 0 >>= _) _ _ _
  refine wpAny_bind (wpAny_field he rfl (x := .ref a) rfl ?_)
  show wpAny _ _ (field (.ref e) 1 >>= _) _ _ _
  refine wpAny_bind (wpAny_field he rfl (x := .ref it) rfl ?_)
  show wpAny _ _ (callSpecial? (.ref it) "__next__" >>= _) _ _ _
  refine wpAny_bind (special_item hit hl hx fun h₁ hit₁ hs₁ => ?_)
  show wpAny _ _ (holding [.str x t] (call (.ref a) [.str x t] >>= fun good => holding [good] (truthy good)) >>= _) _ _ _
  refine wpAny_bind (wpAny_holding (wpAny_bind ?_))
  refine hcall { s with heap := h₁ } _ _ (fun b o hb q => hs₁.extBut b o hb q) fun h₂ tk₂ st₂ => ?_
  refine wpAny_holding (wpAny_truthy_bool ?_)
  show wpAny _ _ (ret (.str x t)) _ _ _
  refine wpAny_pure ⟨_, rfl, wpAny_pure (hQ h₂ tk₂ ?_ fun b o hb q => st₂ b o (hs₁.extBut b o hb q))⟩
  obtain ⟨o, ho, r⟩ := hit₁
  exact ⟨o, st₂ _ _ ho, r⟩
theorem filter_end {e it l a : Addr} {i : Nat} {items : Array Value} {Q : Option Value → Shared → Prop} (hh : A.handled = none)
    (he : IsFilter s.heap e (.ref a) it) (hit : s.heap.IsListIter it l i) (hl : s.heap.IsList l items) (hx : items[i]? = none)
    (hQ : ∀ h', Heap.ExtBut it s.heap h' → Q none { s with heap := h' }) : wpAny (model prog w) A (pyNext (.ref e)) Q E s := by
  have hT : s.TypeIs (.ref e) "filter" := ⟨_, he, rfl⟩
  unfold pyNext
  refine wpAny_bind (wpAny_attempt (wpAny_callSpecial?_slot (name := Str.ofString "__next__") hT slot_filter_next
    (wpAny_call_entry slot_filter_next hT entry_filter_next ?_ (args_filter_next_1 _))))
  show wpAny _ _ (field (.ref e) 0 >>= _) _ _ _
  refine wpAny_bind (wpAny_field he rfl (x := .ref a) rfl ?_)
  show wpAny _ _ (field (.ref e) 1 >>= _) _ _ _
  refine wpAny_bind (wpAny_field he rfl (x := .ref it) rfl ?_)
  show wpAny _ _ (callSpecial? (.ref it) "__next__" >>= _) _ _ _
  refine wpAny_bind (special_end hh hit hl hx fun h' x he' hx' => ?_)
  obtain ⟨o, ho, hc⟩ := hx'
  refine wpAny_bind (wpAny_isInstance (T := "StopIteration") (b := true) ⟨o, ho, hc⟩ isSubtype_stop ?_)
  exact wpAny_pure (hQ _ he')
/-- a filter whose test says yes to every text, walked -/
theorem filterWalks {fo it l a : Addr} {vs : List Value} {ts : List Str} {h₀ : Heap} (hh : A.handled = none) (hi : StrsAre vs ts) (h1 : fo ≠ it) (h2 : l ≠ it) (h3 : h₀.get? it = none)
    (hcall : ∀ x ∈ ts, ∀ (t : Tok) (s' : Shared) Q' E', (∀ b o, h₀.get? b = some o → s'.heap.get? b = some o) → (∀ h'' tk'', s'.heap.StaysIn h'' → Q' (.bool true) { s' with heap := h'', toks := tk'' }) → wpAny (model prog w) A.in1 (call (.ref a) [.str x t]) Q' E' s') :
    Walks prog w A fo (fo :: it :: l :: List.range h₀.objs.size) [it] vs.length (fun i v => vs[i]? = some v)
      (fun i h => IsFilter h fo (.ref a) it ∧ h.IsListIter it l i ∧ h.IsList l vs.toArray ∧ ∀ b o, h₀.get? b = some o → h.get? b = some o) where
  sub := fun b hb => by rw [List.mem_singleton.mp hb]; exact .tail _ (.head _)
  frame := fun i h h' st hk => by
    obtain ⟨a1, ⟨o, ho, r⟩, ⟨o2, ho2, r2⟩, k⟩ := st
    refine ⟨hk fo (.head _) _ a1, ⟨o, hk it (.tail _ (.head _)) _ ho, r⟩, ⟨o2, hk l (.tail _ (.tail _ (.head _))) _ ho2, r2⟩, fun b o e => hk b ?_ o (k b o e)⟩
    exact .tail _ (.tail _ (.tail _ (List.mem_range.mpr (Heap.lt_size e))))
  item := fun i s Q E hlt st hQ => by
    obtain ⟨a1, a2, a3, k⟩ := st
    have hv : vs[i]? = some vs[i] := List.getElem?_eq_getElem hlt
    obtain ⟨x, t, hx, hxt⟩ := hi.item i _ hv
    have hb0 : ∀ b o, h₀.get? b = some o → b ≠ it := fun b o e q => by rw [q, h3] at e; cases e
    refine filter_item a1 a2 a3 (x := x) (t := t) (by rw [← hx]; simp [hv]) h1 (fun s' Q' E' hk hq => hcall x (List.mem_of_getElem? hxt) t s' Q' E' (fun b o e => hk b o (hb0 b o e) (k b o e)) hq) fun h' tk hit' hk' => ?_
    refine hQ _ h' tk (by rw [hv, hx]) ⟨hk' _ _ h1 a1, hit', ?_, fun b o e => hk' b o (hb0 b o e) (k b o e)⟩ fun b o hb e => hk' b o (fun q => hb (by rw [q]; exact .head _)) e
    obtain ⟨o2, ho2, r2⟩ := a3
    exact ⟨o2, hk' _ _ h2 ho2, r2⟩
  done := fun s Q E st hQ => by
    obtain ⟨a1, a2, a3, k⟩ := st
    exact filter_end hh a1 a2 a3 (by simp) fun h' he => hQ h' s.toks fun b o hb e => he b o (fun q => hb (by rw [q]; exact .head _)) e
  self := fun i s Q E st hQ => pyIter_filter st.1 hQ
/-- all that an iterator without a length or a hint gives, collected -/
theorem collect_plain {T : String} {I : Addr} {fp wr : List Addr} {G : Array GenState → Array GenState → Prop} {n : Nat} {P : Nat → Value → Prop} {St : Nat → Shared → Prop} {Q : List Value → Shared → Prop}
    (W : WalksS prog w A.in1 I fp wr G n P St) (hT : ∀ i s, St i s → s.TypeIs (.ref I) T) (hnl : (Value.type T == Value.type "list") = false) (hnt : (Value.type T == Value.type "tuple") = false)
    (hlen : typeLookup (.type T) "__len__" = pure none) (hhint : typeLookup (.type T) "__length_hint__" = pure none) (hst : St 0 s) (hfp : ∀ b ∈ fp, b < s.heap.objs.size) (hI : I ∈ fp) (hn : n ≤ sizeLine)
    (hQ : ∀ s' acc, Moved wr G s s' → ItemsOf P acc n → Q acc.toList s') : wpAny (model prog w) A (collect (.ref I)) Q E s := by
  let eo : Obj := { cls := .type "list", data := .seq ([] : List Value).toArray }
  have new : s.heap.objs.size ∉ fp := fun hm => absurd (hfp _ hm) (Nat.lt_irrefl _)
  have apart : s.heap.objs.size ≠ I := fun e => new (e ▸ hI)
  have there : (s.heap.push eo).get? s.heap.objs.size = some eo := Heap.get?_push_size _ rfl
  have st₁ : St 0 { s with heap := s.heap.push eo } := W.frame 0 s (s.heap.push eo) s.toks hst (Nat.le_refl _) fun b _ o e => Heap.get?_push_of_some _ e
  have r1 := Heap.get?_update_self (Obj.mapSeq (·.push Value.none)) there rfl
  have r2 := Heap.get?_update_self (Obj.mapSeq (·.pop)) r1 rfl
  have rest : ∀ b o, b ≠ s.heap.objs.size → (s.heap.push eo).get? b = some o → (((s.heap.push eo).update s.heap.objs.size (Obj.mapSeq (·.push Value.none))).update s.heap.objs.size (Obj.mapSeq (·.pop))).get? b = some o := by
    intro b o hb e
    rw [Heap.get?_update_other _ _ (Ne.symm hb), Heap.get?_update_other _ _ (Ne.symm hb)]
    exact e
  unfold collect
  refine wpAny_bind (wpAny_runValue (codeAny_builtin PySem.F.entry_proto_collect ?_))
  rw [Around.under_plainId PySem.F.plain_proto_collect _]
  show wpAny _ A.in1 (newList [] >>= fun l => again (.builtin "list.__iadd__" ⟨[l, .ref I], []⟩)) _ _ s
  refine wpAny_bind (wpAny_newObj_type (wpAny_pure ⟨plainId_quiet PySem.F.plain_list_iadd _, codeAny_builtin PySem.F.entry_list_iadd ?_⟩))
  rw [Around.under_plainId PySem.F.plain_list_iadd _]
  show wpAny _ A.in1 (Builtin.List.listExtendWith (.ref s.heap.objs.size) (.ref I) (.ref s.heap.objs.size)) _ _ _
  unfold Builtin.List.listExtendWith
  refine wpAny_bind (wpAny_typeOf (hT 0 _ st₁) ?_)
  have q1 : Builtin.List.listSameRef (.ref s.heap.objs.size) (.ref I) = false := by simp [Builtin.List.listSameRef, apart]
  simp only [q1, hnl, hnt, Bool.or_false, Bool.false_eq_true, if_false]
  refine wpAny_bind (W.self 0 _ _ _ st₁ (wpAny_bind (wpAny_holding ?_)))
  unfold Builtin.List.listLengthHint
  refine wpAny_bind (wpAny_specialOf (hT 0 _ st₁) hlen ?_)
  show wpAny _ A.in1 (specialOf (Value.ref I) (Str.ofString "__length_hint__") >>= _) _ _ _
  refine wpAny_bind (wpAny_specialOf (hT 0 _ st₁) hhint (wpAny_pure ?_))
  show wpAny _ A.in1 (rule "list.extend.makes-room" >>= fun _ => Builtin.List.listTouch (.ref s.heap.objs.size) >>= fun _ =>
    again (.builtin "list.extend.loop" ⟨[.ref s.heap.objs.size, .ref I, .ref s.heap.objs.size], []⟩)) _ _ _
  refine wpAny_bind (wpAny_rule (wpAny_bind ?_))
  show wpAny _ A.in1 (updateSeq s.heap.objs.size (·.push .none) >>= fun _ => updateSeq s.heap.objs.size (·.pop)) _ _ _
  refine wpAny_bind (wpAny_updateSeq there rfl (wpAny_updateSeq r1 rfl ?_))
  have st₂ := W.frame 0 ({ s with heap := s.heap.push eo } : Shared) _ s.toks st₁ (Nat.le_refl _) fun b hb o e => rest b o (fun h => new (h ▸ hb)) e
  refine wpAny_pure ⟨plainId_quiet PySem.F.plain_extend_loop _, codeAny_extend_loopS W hn _ new _ n 0 _ _ _ rfl (Nat.zero_le _) st₂ r2 (ItemsOf.nil P) fun s' acc' c' hm hS' hacc => ?_⟩
  show wpAny _ A (load s.heap.objs.size >>= _) _ _ s'
  refine wpAny_bind (wpAny_load hS' (wpAny_pure (hQ s' acc' ?_ hacc)))
  refine Moved.drop_new (o := eo) (tk := s.toks) (Moved.trans W.gtrans ((Moved.refl W.grefl).then_heap (Nat.le_refl _) fun b o hb e => ?_) hm) (Nat.le_refl _)
  exact rest b o (fun h => hb (h ▸ List.mem_cons_self)) e
theorem tuple_plain {T : String} {I : Addr} {fp wr : List Addr} {G : Array GenState → Array GenState → Prop} {n : Nat} {P : Nat → Value → Prop} {St : Nat → Shared → Prop} {Q : Value → Shared → Prop}
    (W : WalksS prog w A.in1.in1.in1 I fp wr G n P St) (hT : ∀ i s, St i s → s.TypeIs (.ref I) T) (hnl : (Value.type T == Value.type "list") = false) (hnt : (Value.type T == Value.type "tuple") = false)
    (hlen : typeLookup (.type T) "__len__" = pure none) (hhint : typeLookup (.type T) "__length_hint__" = pure none) (hst : St 0 s) (hfp : ∀ b ∈ fp, b < s.heap.objs.size) (hI : I ∈ fp) (hn : n ≤ sizeLine)
    (hQ : ∀ s' acc, Moved wr G s s' → ItemsOf P acc n → Q (.ref s'.heap.objs.size) { s' with heap := s'.heap.push { cls := .type "tuple", data := .seq acc } }) :
    wpAny (model prog w) A (call (.type "tuple") [.ref I]) Q E s := by
  have hnew : codeAny (model prog w) A.in1 (.call (.builtin "tuple.__new__") ⟨[.type "tuple", .ref I], []⟩) (wants (fun obj s₁ => s₁.TypeIs obj "tuple" ∧ Q obj s₁) E) s := by
    refine codeAny_of_tree ?_
    show wpAny _ A.in1.in1 (do checkBuiltinCall "tuple.__new__" ⟨[.type "tuple", .ref I], []⟩; again (.builtin "tuple.__new__" ⟨[.type "tuple", .ref I], []⟩)) _ _ s
    refine wpAny_bind (wpAny_of_eq (PySem.F.newCall_tuple_1 _) (wpAny_pure ⟨plainId_quiet PySem.F.plain_tuple_new _, codeAny_builtin PySem.F.entry_tuple_new ?_⟩))
    rw [Around.under_plainId PySem.F.plain_tuple_new _]
    have hsub := sub_tuple_self
    have hinit := init_tuple_lookup
    have hmh := madeHere_tuple
    have hTI := hT 0 s hst
    wp_walk using wpAny_typeOf hTI, collect_plain W hT hnl hnt hlen hhint hst hfp hI hn
    intro s' acc hm hacc
    show wpAny _ _ (Builtin.Tuple.tupleExact acc.toList.toArray >>= fun v => ret v) _ _ _
    have e : acc.toList.toArray = acc := by simp
    rw [e]
    unfold Builtin.Tuple.tupleExact
    exact wpAny_bind (wpAny_newObj_type (wpAny_pure ⟨⟨_, Heap.get?_push_size _ rfl, rfl⟩, hQ s' acc hm hacc⟩) (by show acc.size ≤ sizeLine; rw [hacc.1]; exact hn))
  refine callType_codes (Q₁ := fun obj s₁ => s₁.TypeIs obj "tuple" ∧ Q obj s₁) PySem.F.called_tuple (PySem.F.typeCall_tuple_1 _) PySem.F.entry_object_init hnew fun obj s₁ h₁ => ?_
  exact ⟨h₁.1, PySem.F.args_object_init_2 obj _, object_init_meets PySem.F.called_tuple.init.lookup PySem.F.called_tuple.made (by decide) prog w A.in1 _ s₁ ⟨h₁.1, rfl, h₁.2⟩⟩
end
end Mine
end
section
open PySem PySem.W PyProof.Rows PySem.Calls
set_option Elab.async false
set_option maxRecDepth 100000
set_option maxHeartbeats 1000000
namespace Mine
theorem reset_13 : True := by
  w_top off
  trivial
local macro_rules | `(tactic| k_room) => `(tactic| ktr_room)
local macro_rules | `(tactic| k_units) => `(tactic| ktr_units)
local macro_rules | `(tactic| units_room) => `(tactic| ktr_units)
local macro_rules | `(tactic| walk_at "my enterP") => `(tactic| (refine' enterP ?k3 ?k5 ?k6 ?kL ?kM ?kN ?k7 ?k8 ?k9 ?kB ?_ ?c2 ?c3 ?c4 ?c5; (case k3 => k_asm); (case k5 => k_asm); (case k6 => k_is); (case kL => ((conv => lhs; whnf); (try exact rfl))); (case kM => ((conv => lhs; whnf); (try exact rfl))); (case kN => ((conv => lhs; whnf); (try exact rfl))); (case k7 => k_is); (case k8 => ktr_room); (case k9 => first | exact BindsTo.of_eq rfl | exact binds_K (by k_asm) rfl (by k_is) rfl rfl rfl); (case c5 => decide); (case kB => exact locs rfl); (case c2 => exact rfl); (case c3 => exact rfl); (case c4 => exact rfl); k_whole))
local macro_rules | `(tactic| walk_at "my enterA") => `(tactic| (refine' enterA ?k3 ?k5 ?k6 ?kL ?kM ?kN ?k7 ?k8 ?k9 ?kB ?_ ?c2 ?c3 ?c4 ?c5; (case k3 => k_asm); (case k5 => k_asm); (case k6 => k_is); (case kL => ((conv => lhs; whnf); (try exact rfl))); (case kM => ((conv => lhs; whnf); (try exact rfl))); (case kN => ((conv => lhs; whnf); (try exact rfl))); (case k7 => k_is); (case k8 => ktr_room); (case k9 => first | exact BindsTo.of_eq rfl | exact binds_K (by k_asm) rfl (by k_is) rfl rfl rfl); (case c5 => decide); (case kB => exact locs rfl); (case c2 => exact rfl); (case c3 => exact rfl); (case c4 => exact rfl); k_whole))
local macro_rules | `(tactic| walk_at "my enterR") => `(tactic| (refine' enterR ?k3 ?k5 ?k6 ?kL ?kM ?kN ?k7 ?k8 ?kP ?kG ?kB ?_ ?c2 ?c3 ?c4 ?c5; (case k3 => k_asm); (case k5 => k_asm); (case k6 => k_is); (case kL => ((conv => lhs; whnf); (try exact rfl))); (case kM => ((conv => lhs; whnf); (try exact rfl))); (case kN => ((conv => lhs; whnf); (try exact rfl))); (case k7 => k_is); (case k8 => ktr_room); (case kP => exact rfl); (case kG => exact fun _ => rfl); (case c5 => decide); (case kB => exact fun _ => locs rfl); (case c2 => exact rfl); (case c3 => exact rfl); (case c4 => exact rfl); k_whole))
local macro_rules | `(tactic| walk_at "my enterB") => `(tactic| (refine' enterB ?k3 ?k5 ?k6 ?kL ?kM ?kN ?k7 ?k8 ?kP ?kS ?kT ?kB ?_ ?c2 ?c3 ?c4 ?c5; (case k3 => k_asm); (case k5 => k_asm); (case k6 => k_is); (case kL => ((conv => lhs; whnf); (try exact rfl))); (case kM => ((conv => lhs; whnf); (try exact rfl))); (case kN => ((conv => lhs; whnf); (try exact rfl))); (case k7 => k_is); (case k8 => ktr_room); (case kP => exact rfl); (case kS => exact fun _ => rfl); (case kT => exact fun _ _ => rfl); (case c5 => decide); (case kB => exact fun _ _ => locs rfl); (case c2 => exact rfl); (case c3 => exact rfl); (case c4 => exact rfl); k_whole))

theorem itemsOf_eq {vs : List Value} {acc : Array Value} (h : ItemsOf (fun i v => vs[i]? = some v) acc vs.length) : acc = vs.toArray := by
  apply Array.toList_inj.mp
  apply List.ext_getElem?
  intro i
  have hs : acc.toList.length = vs.length := by rw [Array.length_toList]; exact h.1
  by_cases hi : i < vs.length
  · have hx : acc.toList[i]? = some (acc.toList[i]'(by rw [hs]; exact hi)) := List.getElem?_eq_getElem _
    rw [hx]
    exact (h.2 i _ (by rw [← Array.getElem?_toList]; exact hx)).symm
  · rw [List.getElem?_eq_none (by rw [hs]; omega)]
    simp
    omega
section
variable {prog : Program} {w : World} {A : Around} {E : Value → Shared → Prop} {s : Shared} {h₀ : Heap} {L : Addr} {m : Str → Option Value} {news : List (Addr × Obj)} {vs : List Value} {ts : List Str} {n : Nat}
abbrev filObj (f : Value) (it : Addr) : Obj := { cls := .type "filter", dict := none, data := .fields #[f, .ref it], slots := #[] }
abbrev tupObj (vs : List Value) : Obj := { cls := .type "tuple", data := .seq vs.toArray }
theorem filterK {f : Value} {l : Addr} {Q : Value → Shared → Prop} (F : Fr h₀ L s.heap m) (N : News h₀ L s.heap news) (hm : (l, listOf vs.toArray n) ∈ news)
    (h : ∀ (fo it : Addr) (o : Obj) h', Fr h₀ L h' m → News h₀ L h' ((fo, filObj f it) :: (it, o) :: news) → o.cls = .type "list_iterator" → o.data = .fields #[.ref l, .int 0 0] → (∀ p ∈ news, p.1 < it) → @LT.lt Nat instLTNat it fo → Q (.ref fo) { s with heap := h' }) :
    wpAny (model prog w) A (call (.type "filter") [f, .ref l]) Q E s := by
  refine call_filter (N _ hm).1 fun h' hf hit hsz hk => ?_
  obtain ⟨o, ho, hc, hd⟩ := id hit
  have F' := F.keeps hk
  have low : ∀ k, s.heap.objs.size ≤ k → k ≠ L ∧ h₀.get? k = none := fun k hk2 => ⟨fun e => Nat.lt_irrefl _ (Nat.lt_of_lt_of_le F.ns.lt (e ▸ hk2)), get_size_none (Nat.le_trans F.above (Nat.le_trans (Nat.le_of_lt F.ns.lt) hk2))⟩
  refine h _ _ o h' F' (fun p hp => ?_) hc hd (fun p hp => Heap.lt_size (N p hp).1) (Nat.lt_succ_self _)
  rcases List.mem_cons.mp hp with rfl | hp
  · exact ⟨hf, low _ (Nat.le_succ _)⟩
  · rcases List.mem_cons.mp hp with rfl | hp
    · exact ⟨ho, low _ (Nat.le_refl _)⟩
    · exact ⟨hk _ _ (N p hp).1, (N p hp).2⟩
end
theorem tupleK (w : World) (mg mb) {A : Around} {E : Value → Shared → Prop} {s : Shared} {h₀ : Heap} {L : Addr} {m : Str → Option Value} {rest : List (Addr × Obj)} {vs : List Value} {ts : List Str} {n : Nat} {fo it l : Addr} {o : Obj} {Q : Value → Shared → Prop}
    (hh : A.handled = none) (X : (hd.heap_39 w.params).In h₀) (T : TopRead Vw Lo mg mb h₀) (hdp : A.depth + 20 < recursionLimit) (hun : A.units + 100 < cLine)
    (F : Fr h₀ L s.heap m) (N : News h₀ L s.heap ((fo, filObj (.ref 49) it) :: (it, o) :: rest)) (hc : o.cls = .type "list_iterator") (hd : o.data = .fields #[.ref l, .int 0 0]) (hm : (l, listOf vs.toArray n) ∈ rest)
    (hlt : ∀ p ∈ rest, p.1 ≠ it) (hfo : fo ≠ it) (hi : StrsAre vs ts) (habs : ∀ x ∈ ts, Txt.startswith x (Str.ofString "/") = true) (hz : ts.length ≤ 100000)
    (h : ∀ (D : Addr) h' tk', Fr h₀ L h' m → News h₀ L h' ((D, tupObj vs) :: (fo, filObj (.ref 49) it) :: rest) → (∀ p ∈ ((fo, filObj (.ref 49) it) :: rest : List (Addr × Obj)), p.1 < D) → Q (.ref D) { s with heap := h', toks := tk' }) :
    wpAny (model Pg w) A (call (.type "tuple") [.ref fo]) Q E s := by
  have nit := N (it, o) (.tail _ (.head _))
  have nl := N _ (.tail _ (.tail _ hm))
  have W := filterWalks (prog := Pg) (w := w) (A := A.in1.in1.in1) (fo := fo) (it := it) (l := l) (a := 49) (h₀ := h₀) hh hi hfo (hlt _ hm) nit.2.2 (fun x hx t s' Q' E' hk hq =>
    isabsA w mg mb x t A.in1.in1.in1.in1 s' Q' E' hh (X.keeps hk) (T.keeps hk) (by show A.depth + 3 < _; omega) (by show A.units + 1 + 1 + 1 + 1 + 16 * 3 < _; omega) trivial (fun t' h'' tk'' st => by
      show Q' (.bool (Txt.startswith x (Str.ofString "/"))) _
      rw [habs x hx]
      exact hq h'' tk'' st))
  have hvl : vs.length = ts.length := hi.length
  refine tuple_plain W.toS (fun i s st => ⟨_, st.1, rfl⟩) (by decide) (by decide) filter_no_len filter_no_hint ⟨(N _ (.head _)).1, ⟨o, nit.1, hc, hd⟩, ⟨_, nl.1, rfl, n, rfl⟩, F.keep⟩ (fun b hb => ?_) (.head _) (by rw [hvl, sizeLine_eq]; omega) (fun s' acc hmv hacc => ?_)
  · rcases List.mem_cons.mp hb with rfl | hb
    · exact Heap.lt_size (N _ (.head _)).1
    · rcases List.mem_cons.mp hb with rfl | hb
      · exact Heap.lt_size nit.1
      · rcases List.mem_cons.mp hb with rfl | hb
        · exact Heap.lt_size nl.1
        · exact Nat.lt_of_lt_of_le (List.mem_range.mp hb) (Nat.le_trans F.above (Nat.le_of_lt F.ns.lt))
  · rw [itemsOf_eq hacc]
    have hk : ∀ b oo, b ≠ it → s.heap.get? b = some oo → s'.heap.get? b = some oo := fun b oo hb e => hmv.heap b oo (fun q => hb (List.mem_singleton.mp q)) e
    have F₁ : Fr h₀ L s'.heap m := ⟨F.ns.at' fun o e => hk _ o (fun q => nit.2.1 q.symm) e, fun b o e => hk b o (fun q => by rw [q, nit.2.2] at e; cases e) (F.keep b o e), F.above⟩
    have hs' : s' = { s with heap := s'.heap, toks := s'.toks } := by
      obtain ⟨h1, g1, d1, t1, o1⟩ := s'
      have e1 : g1 = s.gens := hmv.gens
      have e2 : d1 = s.drawn := hmv.drawn
      have e3 : o1 = s.os := hmv.os
      subst e1 e2 e3
      rfl
    have N₁ : News h₀ L s'.heap ((fo, filObj (.ref 49) it) :: rest) := fun p hp => by
      rcases List.mem_cons.mp hp with rfl | hp
      · exact ⟨hk _ _ hfo (N _ (.head _)).1, (N _ (.head _)).2⟩
      · have z := N p (.tail _ (.tail _ hp))
        exact ⟨hk _ _ (hlt p hp) z.1, z.2⟩
    have fin := h s'.heap.objs.size (s'.heap.push (tupObj vs)) s'.toks (F₁.push _) (N₁.push F₁ _) (fun p hp => Heap.lt_size (N₁ p hp).1)
    rw [hs']
    exact fin
end Mine
end
section
open PySem PySem.W PyProof.Rows PySem.Calls
set_option Elab.async false
set_option maxRecDepth 100000
set_option maxHeartbeats 1000000
namespace Mine
theorem reset_14 : True := by
  w_top off
  trivial
local macro_rules | `(tactic| k_room) => `(tactic| ktr_room)
local macro_rules | `(tactic| k_units) => `(tactic| ktr_units)
local macro_rules | `(tactic| units_room) => `(tactic| ktr_units)
local macro_rules | `(tactic| walk_at "my enterP") => `(tactic| (refine' enterP ?k3 ?k5 ?k6 ?kL ?kM ?kN ?k7 ?k8 ?k9 ?kB ?_ ?c2 ?c3 ?c4 ?c5; (case k3 => k_asm); (case k5 => k_asm); (case k6 => k_is); (case kL => ((conv => lhs; whnf); (try exact rfl))); (case kM => ((conv => lhs; whnf); (try exact rfl))); (case kN => ((conv => lhs; whnf); (try exact rfl))); (case k7 => k_is); (case k8 => ktr_room); (case k9 => first | exact BindsTo.of_eq rfl | exact binds_K (by k_asm) rfl (by k_is) rfl rfl rfl); (case c5 => decide); (case kB => exact locs rfl); (case c2 => exact rfl); (case c3 => exact rfl); (case c4 => exact rfl); k_whole))
local macro_rules | `(tactic| walk_at "my enterA") => `(tactic| (refine' enterA ?k3 ?k5 ?k6 ?kL ?kM ?kN ?k7 ?k8 ?k9 ?kB ?_ ?c2 ?c3 ?c4 ?c5; (case k3 => k_asm); (case k5 => k_asm); (case k6 => k_is); (case kL => ((conv => lhs; whnf); (try exact rfl))); (case kM => ((conv => lhs; whnf); (try exact rfl))); (case kN => ((conv => lhs; whnf); (try exact rfl))); (case k7 => k_is); (case k8 => ktr_room); (case k9 => first | exact BindsTo.of_eq rfl | exact binds_K (by k_asm) rfl (by k_is) rfl rfl rfl); (case c5 => decide); (case kB => exact locs rfl); (case c2 => exact rfl); (case c3 => exact rfl); (case c4 => exact rfl); k_whole))
local macro_rules | `(tactic| walk_at "my enterR") => `(tactic| (refine' enterR ?k3 ?k5 ?k6 ?kL ?kM ?kN ?k7 ?k8 ?kP ?kG ?kB ?_ ?c2 ?c3 ?c4 ?c5; (case k3 => k_asm); (case k5 => k_asm); (case k6 => k_is); (case kL => ((conv => lhs; whnf); (try exact rfl))); (case kM => ((conv => lhs; whnf); (try exact rfl))); (case kN => ((conv => lhs; whnf); (try exact rfl))); (case k7 => k_is); (case k8 => ktr_room); (case kP => exact rfl); (case kG => exact fun _ => rfl); (case c5 => decide); (case kB => exact fun _ => locs rfl); (case c2 => exact rfl); (case c3 => exact rfl); (case c4 => exact rfl); k_whole))
local macro_rules | `(tactic| walk_at "my enterB") => `(tactic| (refine' enterB ?k3 ?k5 ?k6 ?kL ?kM ?kN ?k7 ?k8 ?kP ?kS ?kT ?kB ?_ ?c2 ?c3 ?c4 ?c5; (case k3 => k_asm); (case k5 => k_asm); (case k6 => k_is); (case kL => ((conv => lhs; whnf); (try exact rfl))); (case kM => ((conv => lhs; whnf); (try exact rfl))); (case kN => ((conv => lhs; whnf); (try exact rfl))); (case k7 => k_is); (case k8 => ktr_room); (case kP => exact rfl); (case kS => exact fun _ => rfl); (case kT => exact fun _ _ => rfl); (case c5 => decide); (case kB => exact fun _ _ => locs rfl); (case c2 => exact rfl); (case c3 => exact rfl); (case c4 => exact rfl); k_whole))

local macro_rules | `(tactic| walk_at "call type:filter") => `(tactic| (k_here; k_dflt (refine' filterK ?F ?N ?m ?_; (case F => k_asm); (case N => k_asm); (case m => k_mem); k_whole; walk_say "MY FILTER"); intro fo' it' o' h' F' N' hc' hd' l1 l2; (try k_lt l1); (try k_sweep)))
local macro_rules | `(tactic| walk_at "call type:tuple") => `(tactic| (refine halt_of ?_))
theorem lenT {prog : Program} {w : World} {A : Around} {E : Value → Shared → Prop} {s : Shared} {D : Addr} {us : List Value} {ts : List Str} {h₀ : Heap} {L : Addr} {news : List (Addr × Obj)} {Q : Value → Shared → Prop} (N : News h₀ L s.heap news) (hm : (D, tupObj us) ∈ news) (hi : StrsAre us ts) (hz : ts.length ≤ 100000) (h : ∀ t k, Q (.int (ts.length : Int) t) { s with toks := k }) : wpAny (model prog w) A (call (.builtin "len") [.ref D]) Q E s := by
  have e2 : us.toArray.size = ts.length := by rw [List.size_toArray]; exact hi.length
  exact len_tuple ⟨_, (N _ hm).1, rfl, 0, rfl⟩ (by rw [e2]; omega) (by rw [e2]; exact h _ _)
local macro_rules | `(tactic| walk_at "call builtin:len") => `(tactic| (k_here; (with_reducible show wpAny _ _ (call (Value.builtin _) [Value.ref _]) _ _ _); k_dflt (first
  | (refine' lenT ?N ?m ?i ?z ?_; (case N => k_asm); (case m => k_mem); (case i => exact sv_are _); (case z => simp only [List.length_map]; omega); k_whole)
  | (refine' lenS ?l ?i ?z ?_; (case l => exact News.isList (by k_asm) (by k_mem)); (case i => exact sv_are _); (case z => simp only [List.length_map]; omega); k_whole)); walk_say "MY LEN"; intro t' k'))
def GivesU (w : World) (mg mb : Str → Option Value) (k : Nat) (f : Addr) (vs : List Value) (H : Heap → Prop) (ts : List Str) : Prop :=
  ∀ (A : Around) (s : Shared) (Q E : Value → Shared → Prop), A.handled = none → (hd.heap_39 w.params).In s.heap → TopRead Vw Lo mg mb s.heap →
    A.depth + k < recursionLimit → A.units + 16 * k < cLine → H s.heap →
    (∀ (D : Addr) (us : List Value) (h' : Heap) (tk' : Nat), s.heap.StaysIn h' → h'.get? D = some (tupObj us) → s.heap.get? D = none → StrsAre us ts → Q (.ref D) { s with heap := h', toks := tk' }) → wpAny (model Pg w) A (call (.ref f) vs) Q E s
def parseF (x : Str) : List Str := if x.length = 0 then [] else Txt.split x (Str.ofString ":")
theorem parse_g (w mg mb) (x : Str) (t t' : Tok) : GivesU w mg mb 30 98 [.str x t, .int 4 t'] (fun _ => x.length ≤ 5000 ∧ (x.length ≠ 0 → ∀ p ∈ Txt.split x (Str.ofString ":"), Txt.startswith p (Str.ofString "/") = true)) (parseF x) := by
  unfold GivesU Pg Vw Lo
  k_fill
  intro A s Q E hA X T hd hu hH hret
  refine wpAny_call ?_
  k_dflt (walk_at "my enterA")
  intro L' h' F' N'
  (try dsimp only)
  (try k_fold)
  obtain ⟨hx, habs⟩ := hH
  k_steps
  · unfold Halt
    rename Fr _ _ _ _ => lF
    rename News _ _ _ _ => lN
    rename (List.map _ _ = Txt.split _ _) => hsp
    rename Obj.cls _ = Value.type "list_iterator" => hc
    rename Obj.data _ = _ => hdt
    have h0 : x.length ≠ 0 := by omega
    have hwt := wt_split hsp (by decide +kernel)
    have hwl := wt_len ‹List (Str × Tok)›
    have hab := habs h0
    rw [← hsp] at hab
    refine tupleK w mg mb hA X T (by show A.depth + 1 + 20 < _; omega) (by show A.units + 3 + 100 < _; omega) lF lN hc hdt (.head _) ?_ ?_ (sv_are _) hab ?_ ?_
    · intro p hp
      rw [List.mem_singleton.mp hp]
      k_ne
    · k_ne
    · simp only [List.length_map]
      omega
    · intro D h' tk' F' N' l1
      (try k_lt l1)
      clear lF lN
      k_steps
      all_goals ((try dsimp only); k_steps)
      all_goals first
        | (exfalso; omega)
        | exact hret D _ _ _ (Fr.keep (by k_asm)) (News.get (by k_asm) (by k_mem)) (News.fresh (by k_asm) (by k_mem)) (by rw [parseF, if_neg h0, ← hsp]; exact sv_are _)
  · (try dsimp only)
    k_steps
    (try dsimp only)
    (try k_unfold)
    (try dsimp only)
    exact hret _ [] _ _ (Fr.keep (by k_asm)) (News.get (by k_asm) (by k_mem)) (News.fresh (by k_asm) (by k_mem)) (by rw [parseF, if_pos (by omega)]; exact .nil)
end Mine
end
section
open PySem PySem.W PyProof.Rows PySem.Calls PyProof.V PySem.Spec
set_option Elab.async false
set_option maxRecDepth 100000
set_option maxHeartbeats 2000000
namespace Mine
/-- a word of one object alone, at a heap -/
structure OneObj (Row : Heap → Addr → Prop) : Prop where
  keep : ∀ {h h' : Heap} {a : Addr}, Row h a → (∀ o, h.get? a = some o → h'.get? a = some o) → Row h' a
  there : ∀ {h : Heap} {a : Addr}, Row h a → ∃ o, h.get? a = some o
section
variable {prog : Program} {w : World} {A : Around} {E : Value → Shared → Prop} {env : Env} {Row : Heap → Addr → Prop}
/-- the loop of a list comprehension whose element makes an object a turn -/
theorem loop_new {R : Result → Shared → Prop} {s : Shared} {elt iter : Expr} {x : Str} {px : Pos} {scope : Scope} {pos : Pos} {I D : Addr} {fp wr : List Addr} {n : Nat} {P : Nat → Value → Prop} {St : Nat → Heap → Prop} {cenv : Env} {m : Str → Option Value}
    (hR : OneObj Row) (W : Walks prog w A I fp wr n P St) (hx : cenv.kindOf x = some .local) (hp : (cenv.scope.kind == .class || (cenv.scope.kind == .module && cenv.locals != cenv.globals)) = false)
    (hDC : D ≠ cenv.locals) (hDf : D ∉ fp) (hCf : cenv.locals ∉ fp) (hlive : ∀ i h, St i h → ∀ b ∈ wr, ∃ o, h.get? b = some o) (hst : St 0 s.heap) (hacc : s.heap.PlainList D #[]) (hn : s.heap.Ns cenv.locals m) (hsz : n ≤ sizeLine)
    (helt : ∀ i v s₂ m₂, P i v → s₂.heap.Ns cenv.locals m₂ → m₂ x = some v → (∀ b o, b ≠ cenv.locals → b ∉ wr → b ≠ D → s.heap.get? b = some o → s₂.heap.get? b = some o) →
      wpAny (model prog w) A (eval elt cenv) (fun y s₃ => Keeps s₂ s₃ ∧ ∃ a, y = .ref a ∧ s₂.heap.get? a = none ∧ Row s₃.heap a) (notedBy (model prog w) A cenv fun e s' => R (.error e) s') s₂)
    (hQ : ∀ h' tk m' (as : List Addr), h'.Ns cenv.locals m' → h'.PlainList D (as.map Value.ref).toArray → as.length = n → (∀ a ∈ as, s.heap.get? a = none ∧ Row h' a) →
      (∀ b o, b ≠ cenv.locals → b ∉ wr → b ≠ D → s.heap.get? b = some o → h'.get? b = some o) → R (.ok .next) { s with heap := h', toks := tk }) :
    codeAny (model prog w) A (.compLoop (.ListComp elt [⟨.Name x px, iter, [], 0⟩] scope pos) 0 (.ref I) (.ref D) cenv) R s := by
  have hCw : cenv.locals ∉ wr := fun h => hCf (W.sub _ h)
  have hDw : D ∉ wr := fun h => hDf (W.sub _ h)
  have live : ∀ {b : Addr} {o : Obj}, s.heap.get? b = some o → ∀ {a : Addr}, s.heap.get? a = none → a ≠ b := fun e _ h q => by rw [q, e] at h; cases h
  obtain ⟨oC, _, _, hoC, _⟩ := id hn
  obtain ⟨kD, hoD⟩ := id hacc
  refine codeAny_compLoop_tests
    (fun k s' => ∃ h' tk m' as, s' = { s with heap := h', toks := tk } ∧ St as.length h' ∧ h'.PlainList D (as.map Value.ref).toArray ∧ h'.Ns cenv.locals m' ∧ as.length ≤ n ∧ k = n + 1 - as.length ∧
      (∀ a ∈ as, s.heap.get? a = none ∧ Row h' a) ∧ (∀ b o, b ≠ cenv.locals → b ∉ wr → b ≠ D → s.heap.get? b = some o → h'.get? b = some o)) ?_ (n + 1)
    ⟨s.heap, s.toks, m, [], rfl, hst, hacc, hn, Nat.zero_le _, rfl, (fun _ h => nomatch h), fun _ _ _ _ _ e => e⟩
  rintro k s' ⟨H, tk, m', as, rfl, st, acc, ns, hle, hk, rows, old⟩
  by_cases hlt : as.length < n
  · refine W.item as.length _ _ _ hlt st fun v h₁ tk₁ hPv st₁ k₁ => ?_
    refine wpAny_assign_Name (wpAny_storeName_local hx (ns.at' fun o e => k₁ _ o hCw e) (fun h₂ ns₂ sb₂ => ?_) hp)
    have up₂ : ∀ b o, b ≠ cenv.locals → b ∉ wr → H.get? b = some o → h₂.get? b = some o := fun b o hb hw e => sb₂.extBut b o hb (k₁ b o hw e)
    have st₂ : St (as.length + 1) h₂ := W.frame _ _ _ st₁ fun b hb o e => sb₂.extBut b o (fun q => hCf (q ▸ hb)) e
    rw [List.forIn_nil]
    refine wpAny_pure ?_
    rw [if_pos rfl]
    refine wpAny_mono (helt as.length v _ _ hPv ns₂ (by simp) fun b o hb hw hd e => up₂ b o hb hw (old b o hb hw hd e)) (fun y s₄ h₄ => ?_) fun _ _ e => e
    obtain ⟨⟨h₄, tk₄, rfl, k₄⟩, a, rfl, ha, hrow⟩ := h₄
    have acc₄ : h₄.PlainList D (as.map Value.ref).toArray := acc.at fun o e => k₄ _ o (up₂ D o hDC hDw e)
    have aD : a ≠ D := fun q => by
      obtain ⟨_, e⟩ := acc
      have e2 : h₂.get? a = none := ha
      rw [q, up₂ D _ hDC hDw e] at e2
      cases e2
    refine wpAny_list_append_plain (hsz := by rw [List.size_toArray, List.length_map]; omega) acc₄ fun h₅ acc₅ sb₅ => ?_
    have up₅ : ∀ b o, b ≠ cenv.locals → b ∉ wr → b ≠ D → H.get? b = some o → h₅.get? b = some o := fun b o hb hw hd e => sb₅.extBut b o hd (k₄ b o (up₂ b o hb hw e))
    refine ⟨n + 1 - (as.length + 1), by omega, h₅, tk₄, _, as ++ [a], rfl, ?_, by simpa using acc₅, (ns₂.keeps k₄).sameBut sb₅ (Ne.symm hDC), by rw [List.length_append]; exact hlt, by rw [List.length_append]; rfl, ?_, fun b o hb hw hd e => up₅ b o hb hw hd (old b o hb hw hd e)⟩
    · have := W.frame _ _ h₅ st₂ fun b hb o e => sb₅.extBut b o (fun q => hDf (q ▸ hb)) (k₄ b o e)
      simpa using this
    · intro b hb
      rcases List.mem_append.mp hb with q | q
      · obtain ⟨z1, z2⟩ := rows b q
        refine ⟨z1, hR.keep z2 fun o e => up₅ b o (live hoC z1) (fun hw => ?_) (live hoD z1) e⟩
        obtain ⟨o', ho'⟩ := hlive _ _ hst b hw
        rw [z1] at ho'; cases ho'
      · rw [List.mem_singleton.mp q]
        refine ⟨?_, hR.keep hrow fun o e => sb₅.extBut _ _ aD e⟩
        cases e : s.heap.get? a with
        | none => rfl
        | some o =>
          exfalso
          have e2 : h₂.get? a = none := ha
          by_cases c1 : a = cenv.locals
          · obtain ⟨o2, _, _, e3, _⟩ := ns₂
            rw [c1, e3] at e2; cases e2
          · by_cases c2 : a ∈ wr
            · obtain ⟨o3, e3⟩ : ∃ o3, h₂.get? a = some o3 := hlive _ _ st₂ a c2
              rw [e3] at e2; cases e2
            · rw [up₂ a o c1 c2 (old a o c1 c2 aD e)] at e2; cases e2
  · have hin : as.length = n := by omega
    refine W.done _ _ _ (hin ▸ st) fun h₁ tk₁ k₁ => ?_
    refine hQ h₁ tk₁ m' as (ns.at' fun o e => k₁ _ o hCw e) (acc.at fun o e => k₁ _ o hDw e) hin (fun a ha => ?_) fun b o hb hw hd e => k₁ b o hw (old b o hb hw hd e)
    obtain ⟨z1, z2⟩ := rows a ha
    refine ⟨z1, hR.keep z2 fun o e => k₁ a o (fun hw => ?_) e⟩
    obtain ⟨o', ho'⟩ := hlive _ _ hst a hw
    rw [z1] at ho'; cases ho'
/-- «y = [f(x) for x in ..]» whose element makes an object a turn -/
theorem Assign_comp_new {s : Shared} {elt iter : Expr} {x y : Str} {px py : Pos} {scope : Scope} {cl : List (Str × Addr)} {pos spos : Pos} {Q : Flow → Shared → Prop} (hR : OneObj Row)
    (hsw : swapsWith (.ListComp elt [⟨.Name x px, iter, [], 0⟩] scope pos) (some (.Name y py)) spos.line env = pure true)
    (hclos : closureFor scope env = pure cl) (hcell : ∀ z ∈ scope.names, z.2 ≠ .cell) (hkind : scope.kind = .function)
    (hnames : ∀ z ∈ scope.names, z.2 = .local → scope.names.lookup z.1 = some .local) (hx : scope.names.lookup x = some .local)
    (hy : env.kindOf y = some .local) (hp : (env.scope.kind == .class || (env.scope.kind == .module && env.locals != env.globals)) = false)
    (h : wpAny (model prog w) A (eval iter env) (fun xv s₁ => wpAny (model prog w) A (pyIter xv) (fun it s₂ => ∃ I fp wr n P St m, it = .ref I ∧ Walks prog w A I fp wr n P St ∧ n ≤ sizeLine ∧ St 0 s₂.heap ∧ (∀ b ∈ fp, b < s₂.heap.objs.size) ∧
      (∀ i h, St i h → ∀ b ∈ wr, ∃ o, h.get? b = some o) ∧ env.locals ∉ wr ∧ s₂.heap.Ns env.locals m ∧
      (∀ C i v s₃ m₃ E', s₂.heap.objs.size ≤ C → P i v → s₃.heap.Ns C m₃ → m₃ x = some v → (∀ b o, b ∉ wr → s₂.heap.get? b = some o → s₃.heap.get? b = some o) →
        wpAny (model prog w) A (eval elt (compEnvC scope cl C env)) (fun y s₄ => Keeps s₃ s₄ ∧ ∃ a, y = .ref a ∧ s₃.heap.get? a = none ∧ Row s₄.heap a) E' s₃) ∧
      (∀ D h' tk (as : List Addr) k, s₂.heap.get? D = none → h'.get? D = some (listOf (as.map Value.ref).toArray k) → as.length = n → (∀ a ∈ as, s₂.heap.get? a = none ∧ a ≠ D ∧ Row h' a) →
        h'.Ns env.locals (fun z => if z = y then some (.ref D) else m z) → (∀ b o, b ≠ env.locals → b ∉ wr → s₂.heap.get? b = some o → h'.get? b = some o) → Q .next { s₂ with heap := h', toks := tk })) E s₁) E s)
    (hs : ∀ x, foldedSetIterable iter env x = pure x) :
    wpAny (model prog w) A (exec (.Assign [.Name y py] (.ListComp elt [⟨.Name x px, iter, [], 0⟩] scope pos) spos) env) Q E s := by
  rw [exec_Assign_Name_used _ _ _ _ hsw]
  refine wpAny_bind (wpAny_standAt (wpAny_bind ?_))
  show wpAny _ A (do let _ ← comprehension (.ListComp elt [⟨.Name x px, iter, [], 0⟩] scope pos) scope env _ (newList []) false (eval iter env) (some (assign (.Name y py) env))) _ _ s
  refine wpAny_bind (wpAny_mono (wpAny_comprehension_free (use := some (assign (.Name y py) env)) (Q := fun _ s' => Q .next s') rfl hs hclos hkind hnames
    (wpAny_mono h (fun xv s₁ h₁ => wpAny_mono h₁ (fun it s₂ h₂ => ?_) fun _ _ e => e) fun _ _ e => e)) (fun _ s' hq => wpAny_pure (wpAny_pure hq)) fun _ _ e => e)
  obtain ⟨I, fp, wr, n, P, St, m, rfl, W, hsz, hst, hfp, hlive, hLf, hn, helt, hQ⟩ := h₂
  refine wpAny_newObj_type (wpAny_newFunctionEnv hcell (by intro y hy; simp at hy) (fun h₁ hns₁ hsb₁ => ?_) hkind)
  dsimp only at hns₁ hsb₁ ⊢
  generalize hH2 : s₂.heap.push { cls := .type "list", dict := none, data := .seq ([] : List Value).toArray } = H2 at hns₁ hsb₁ ⊢
  have hC : H2.objs.size = s₂.heap.objs.size + 1 := by rw [← hH2, Heap.size_push]
  have hDC : s₂.heap.objs.size ≠ H2.objs.size := by rw [hC]; exact Nat.ne_of_lt (Nat.lt_succ_self _)
  have low : ∀ {b : Addr}, b < s₂.heap.objs.size → b ≠ H2.objs.size ∧ b ≠ s₂.heap.objs.size := fun {b} hb => ⟨by rw [hC]; exact Nat.ne_of_lt (Nat.lt_succ_of_lt hb), Nat.ne_of_lt hb⟩
  have hDf : s₂.heap.objs.size ∉ fp := fun hm => Nat.lt_irrefl _ (hfp _ hm)
  have hCf : H2.objs.size ∉ fp := fun hm => by have := hfp _ hm; rw [hC] at this; exact Nat.lt_irrefl _ (Nat.lt_of_succ_lt this)
  have old : ∀ b o, s₂.heap.get? b = some o → h₁.get? b = some o := fun b o e => hsb₁.extBut b o (low (Heap.lt_size e)).1 (Heap.get?_push_of_some _ (hH2 ▸ Heap.get?_push_of_some _ e))
  have hacc : h₁.PlainList s₂.heap.objs.size #[] := ⟨_, hsb₁.extBut _ _ hDC (Heap.get?_push_of_some _ (hH2 ▸ Heap.get?_push_size _ rfl))⟩
  have hst₁ : St 0 h₁ := W.frame _ _ _ hst fun b _ o e => old b o e
  have hL : env.locals < s₂.heap.objs.size := hn.lt
  have none₂ : ∀ {a : Addr}, h₁.get? a = none → s₂.heap.get? a = none := fun {a} e => by
    cases q : s₂.heap.get? a with
    | none => rfl
    | some o => rw [old a o q] at e; cases e
  have loop : ∀ s₃ : Shared, s₃ = { s₂ with heap := h₁, toks := s₂.toks + ([] : List (Str × Value)).length } →
      codeAny (model prog w) A (.compLoop (.ListComp elt [⟨.Name x px, iter, [], 0⟩] scope pos) 0 (.ref I) (.ref s₂.heap.objs.size) (compEnvC scope cl H2.objs.size env))
        (compPost (model prog w) A E (some (assign (.Name y py) env)) (fun _ s' => Q .next s') (.ref s₂.heap.objs.size) H2.objs.size) s₃ := by
    rintro s₃ rfl
    refine loop_new (cenv := compEnvC scope cl H2.objs.size env) hR W (lookup_relabel_local hx) (by simp [compEnvC, relabel, hkind]) hDC hDf hCf hlive hst₁ hacc hns₁ hsz
      (fun i v s₃ m₃ hv hns hm hk => helt _ i v s₃ m₃ _ (by rw [hC]; exact Nat.le_succ _) hv hns hm fun b o hw e => hk b o (low (Heap.lt_size e)).1 hw (low (Heap.lt_size e)).2 (old b o e)) fun h' tk m' as ns acc hlen rows hk => ?_
    have nsE : h'.Ns env.locals m := hn.at' fun o e => hk _ o (low hL).1 hLf (low hL).2 (old _ o e)
    show wpAny _ A (assign (.Name y py) env (.ref s₂.heap.objs.size)) _ _ _
    refine wpAny_assign_Name (wpAny_storeName_local hy nsE (fun h₂ hn₂ hs₂ => ?_) hp)
    refine ⟨m', ns.sameBut hs₂ (Ne.symm (low hL).1), fun h₃ hs₃ => ?_⟩
    obtain ⟨k, acc⟩ := acc
    refine hQ _ h₃ _ as k (get_size_none (Nat.le_refl _)) (hs₃.extBut _ _ hDC (hs₂.extBut _ _ (Ne.symm (low hL).2) acc)) hlen (fun a ha => ?_) (hn₂.sameBut hs₃ (low hL).1) fun b o hb hw e =>
      hs₃.extBut b o (low (Heap.lt_size e)).1 (hs₂.extBut b o hb (hk b o (low (Heap.lt_size e)).1 hw (low (Heap.lt_size e)).2 (old b o e)))
    obtain ⟨z1, z2⟩ := rows a ha
    have z1' : h₁.get? a = none := z1
    have aD : a ≠ s₂.heap.objs.size := fun q => by
      obtain ⟨_, e⟩ := hacc
      rw [q, e] at z1'; cases z1'
    have aC : a ≠ H2.objs.size := fun q => by
      obtain ⟨_, _, _, e, _⟩ := hns₁
      rw [q, e] at z1'; cases z1'
    have aL : a ≠ env.locals := fun q => by
      obtain ⟨_, _, _, e, _⟩ := hn
      rw [q, old _ _ e] at z1'; cases z1'
    exact ⟨none₂ z1', aD, hR.keep z2 fun o e => hs₃.extBut _ _ aC (hs₂.extBut _ _ aL e)⟩
  exact codeAny_compStart_list (loop _ rfl) (W.self 0 _ _ _ hst₁ (loop _ rfl))
end
end Mine
end
section
open PySem PySem.W PyProof.Rows PySem.Calls PyProof.V PySem.Spec
set_option Elab.async false
set_option maxRecDepth 100000
set_option maxHeartbeats 2000000
namespace Mine
section
variable {prog : Program} {w : World} {A : Around} {E : Value → Shared → Prop} {env : Env} {Row : Heap → Addr → Prop} {h₀ : Heap} {L : Addr} {m : Str → Option Value}
/-- the same over a list of ints, within a frame -/
theorem Assign_comp_ints {s : Shared} {elt iter : Expr} {x y : Str} {px py : Pos} {scope : Scope} {cl : List (Str × Addr)} {pos spos : Pos} {Q : Flow → Shared → Prop} (_ : Fr h₀ L s.heap m) (hL : env.locals = L) (hR : OneObj Row) (hh : A.handled = none)
    (hsw : swapsWith (.ListComp elt [⟨.Name x px, iter, [], 0⟩] scope pos) (some (.Name y py)) spos.line env = pure true)
    (hclos : closureFor scope env = pure cl) (hcell : ∀ z ∈ scope.names, z.2 ≠ .cell) (hkind : scope.kind = .function)
    (hnames : ∀ z ∈ scope.names, z.2 = .local → scope.names.lookup z.1 = some .local) (hx : scope.names.lookup x = some .local)
    (hy : env.kindOf y = some .local) (hp : (env.scope.kind == .class || (env.scope.kind == .module && env.locals != env.globals)) = false)
    (h : wpAny (model prog w) A (eval iter env) (fun xv s₁ => ∃ news : List (Addr × Obj), ∃ ax vs ns, xv = .ref ax ∧ s₁.heap.IsList ax vs.toArray ∧ IntsAre vs ns ∧ ns.length ≤ sizeLine ∧ Fr h₀ L s₁.heap m ∧ News h₀ L s₁.heap news ∧
      (∀ C (k : Int) t s₂ m₂ E', s₁.heap.objs.size ≤ C → s₂.heap.Ns C m₂ → m₂ x = some (.int k t) → (∀ b o, s₁.heap.get? b = some o → s₂.heap.get? b = some o) →
        wpAny (model prog w) A (eval elt (compEnvC scope cl C env)) (fun y s₃ => Keeps s₂ s₃ ∧ ∃ a, y = .ref a ∧ s₂.heap.get? a = none ∧ Row s₃.heap a) E' s₂) ∧
      (∀ D h' tk (as : List Addr) k, Fr h₀ L h' (fun z => if z = y then some (.ref D) else m z) → News h₀ L h' ((D, listOf (as.map Value.ref).toArray k) :: news) → (∀ p ∈ news, p.1 ≠ D) → as.length = ns.length →
        (∀ a ∈ as, a ≠ D ∧ a ≠ L ∧ h₀.get? a = none ∧ (∀ p ∈ news, p.1 ≠ a) ∧ Row h' a) → Q .next { s₁ with heap := h', toks := tk })) E s)
    (hs : ∀ x, foldedSetIterable iter env x = pure x) :
    wpAny (model prog w) A (exec (.Assign [.Name y py] (.ListComp elt [⟨.Name x px, iter, [], 0⟩] scope pos) spos) env) Q E s := by
  subst hL
  refine Assign_comp_new hR hsw hclos hcell hkind hnames hx hy hp (wpAny_mono h (fun xv s₁ h₁ => ?_) fun _ _ e => e) hs
  obtain ⟨news, ax, vs, ns, rfl, hl, hI, hsz, F, N, helt, hQ⟩ := h₁
  have hi := hI.areOf
  have hlt : ax < s₁.heap.objs.size := by obtain ⟨_, e, _⟩ := hl; exact Heap.lt_size e
  have up : ∀ (s₃ : Shared), (∀ b o, b ∉ [s₁.heap.objs.size] → (s₁.heap.push { cls := .type "list_iterator", data := .fields #[.ref ax, .int 0 0] }).get? b = some o → s₃.heap.get? b = some o) → ∀ b o, s₁.heap.get? b = some o → s₃.heap.get? b = some o :=
    fun s₃ hk b o e => hk b o (fun hm => by rcases List.mem_cons.mp hm with rfl | hm; exact Nat.lt_irrefl _ (Heap.lt_size e); cases hm) (Heap.get?_push_of_some _ e)
  refine wpAny_pyIter_list hl ⟨s₁.heap.objs.size, [s₁.heap.objs.size, ax], [s₁.heap.objs.size], vs.toArray.size, _, _, m, rfl, Walks.list hh _ _ (Nat.ne_of_lt hlt) vs.toArray, (by rw [List.size_toArray, hi.length]; exact hsz), ⟨⟨_, Heap.get?_push_size _ rfl, rfl, rfl⟩, hl.push _⟩, ?_, ?_, ?_, F.ns.push _, ?_, ?_⟩
  · intro b hb
    show b < (s₁.heap.push _).objs.size
    rw [Heap.size_push]
    rcases List.mem_cons.mp hb with rfl | hb
    · exact Nat.lt_succ_self _
    · rcases List.mem_cons.mp hb with rfl | hb
      · exact Nat.lt_succ_of_lt hlt
      · cases hb
  · intro i h st b hb
    rw [List.mem_singleton.mp hb]
    obtain ⟨it, hit, _⟩ := st.1
    exact ⟨it, hit⟩
  · intro hm
    rcases List.mem_cons.mp hm with e | hm
    · exact Nat.lt_irrefl _ (e ▸ F.ns.lt)
    · cases hm
  · intro C i v s₃ m₃ E' hC hP hn hm hk
    obtain ⟨a, hmem, ha⟩ := hi.memD v (by simpa using Array.mem_of_getElem? hP)
    obtain ⟨t, rfl⟩ := ItemKind.int_is ha
    exact helt C a t s₃ m₃ E' (Nat.le_of_succ_le (by simpa [Heap.size_push] using hC)) hn hm (up s₃ hk)
  · intro D h' tk as k hnew hD hlen rows hn' hk
    have keep : ∀ b o, b ≠ env.locals → s₁.heap.get? b = some o → h'.get? b = some o := fun b o hb e =>
      hk b o hb (fun hm => by rcases List.mem_cons.mp hm with rfl | hm; exact Nat.lt_irrefl _ (Heap.lt_size e); cases hm) (Heap.get?_push_of_some _ e)
    have off : ∀ b, (s₁.heap.push { cls := .type "list_iterator", data := .fields #[.ref ax, .int 0 0] }).get? b = none → s₁.heap.get? b = none := fun b e => by
      cases q : s₁.heap.get? b with
      | none => rfl
      | some o => rw [Heap.get?_push_of_some _ q] at e; cases e
    have off₀ : ∀ b, s₁.heap.get? b = none → h₀.get? b = none := fun b e => by
      cases q : h₀.get? b with
      | none => rfl
      | some o => rw [F.keep _ _ q] at e; cases e
    have offL : ∀ b, s₁.heap.get? b = none → b ≠ env.locals := fun b e q => by
      obtain ⟨_, _, _, e2, _⟩ := F.ns
      rw [q, e2] at e; cases e
    have offN : ∀ b, s₁.heap.get? b = none → ∀ p ∈ news, p.1 ≠ b := fun b e p hp q => by
      rw [← q, (N p hp).1] at e; cases e
    refine hQ D h' tk as k ⟨hn', fun b o e => keep b o (Nat.ne_of_lt (Nat.lt_of_lt_of_le (Heap.lt_size e) F.above)) (F.keep b o e), F.above⟩
      (fun p hp => ?_) (offN _ (off _ hnew)) (by rw [hlen, List.size_toArray, hi.length]) (fun a ha => ?_)
    · rcases List.mem_cons.mp hp with rfl | hp
      · exact ⟨hD, offL _ (off _ hnew), off₀ _ (off _ hnew)⟩
      · exact ⟨keep _ _ (N p hp).2.1 (N p hp).1, (N p hp).2⟩
    · obtain ⟨z1, z2, z3⟩ := rows a ha
      exact ⟨z2, offL _ (off _ z1), off₀ _ (off _ z1), offN _ (off _ z1), z3⟩
end
theorem wpH {α : Type} {M : Model} {A : Around} {E : Value → Shared → Prop} {s : Shared} {t : Sem α} {Q : α → Shared → Prop} (h : wpAny M A t (fun x s' => Halt (Q x s')) E s) : wpAny M A t Q E s := h
end Mine
end
section
open PySem PySem.W PyProof.Rows PySem.Calls
set_option Elab.async false
set_option maxRecDepth 100000
set_option maxHeartbeats 1000000
namespace Mine
theorem reset_15 : True := by
  w_top off
  trivial
local macro_rules | `(tactic| k_room) => `(tactic| ktr_room)
local macro_rules | `(tactic| k_units) => `(tactic| ktr_units)
local macro_rules | `(tactic| units_room) => `(tactic| ktr_units)
local macro_rules | `(tactic| walk_at "my enterP") => `(tactic| (refine' enterP ?k3 ?k5 ?k6 ?kL ?kM ?kN ?k7 ?k8 ?k9 ?kB ?_ ?c2 ?c3 ?c4 ?c5; (case k3 => k_asm); (case k5 => k_asm); (case k6 => k_is); (case kL => ((conv => lhs; whnf); (try exact rfl))); (case kM => ((conv => lhs; whnf); (try exact rfl))); (case kN => ((conv => lhs; whnf); (try exact rfl))); (case k7 => k_is); (case k8 => ktr_room); (case k9 => first | exact BindsTo.of_eq rfl | exact binds_K (by k_asm) rfl (by k_is) rfl rfl rfl); (case c5 => decide); (case kB => exact locs rfl); (case c2 => exact rfl); (case c3 => exact rfl); (case c4 => exact rfl); k_whole))
local macro_rules | `(tactic| walk_at "my enterA") => `(tactic| (refine' enterA ?k3 ?k5 ?k6 ?kL ?kM ?kN ?k7 ?k8 ?k9 ?kB ?_ ?c2 ?c3 ?c4 ?c5; (case k3 => k_asm); (case k5 => k_asm); (case k6 => k_is); (case kL => ((conv => lhs; whnf); (try exact rfl))); (case kM => ((conv => lhs; whnf); (try exact rfl))); (case kN => ((conv => lhs; whnf); (try exact rfl))); (case k7 => k_is); (case k8 => ktr_room); (case k9 => first | exact BindsTo.of_eq rfl | exact binds_K (by k_asm) rfl (by k_is) rfl rfl rfl); (case c5 => decide); (case kB => exact locs rfl); (case c2 => exact rfl); (case c3 => exact rfl); (case c4 => exact rfl); k_whole))
local macro_rules | `(tactic| walk_at "my enterR") => `(tactic| (refine' enterR ?k3 ?k5 ?k6 ?kL ?kM ?kN ?k7 ?k8 ?kP ?kG ?kB ?_ ?c2 ?c3 ?c4 ?c5; (case k3 => k_asm); (case k5 => k_asm); (case k6 => k_is); (case kL => ((conv => lhs; whnf); (try exact rfl))); (case kM => ((conv => lhs; whnf); (try exact rfl))); (case kN => ((conv => lhs; whnf); (try exact rfl))); (case k7 => k_is); (case k8 => ktr_room); (case kP => exact rfl); (case kG => exact fun _ => rfl); (case c5 => decide); (case kB => exact fun _ => locs rfl); (case c2 => exact rfl); (case c3 => exact rfl); (case c4 => exact rfl); k_whole))
local macro_rules | `(tactic| walk_at "my enterB") => `(tactic| (refine' enterB ?k3 ?k5 ?k6 ?kL ?kM ?kN ?k7 ?k8 ?kP ?kS ?kT ?kB ?_ ?c2 ?c3 ?c4 ?c5; (case k3 => k_asm); (case k5 => k_asm); (case k6 => k_is); (case kL => ((conv => lhs; whnf); (try exact rfl))); (case kM => ((conv => lhs; whnf); (try exact rfl))); (case kN => ((conv => lhs; whnf); (try exact rfl))); (case k7 => k_is); (case k8 => ktr_room); (case kP => exact rfl); (case kS => exact fun _ => rfl); (case kT => exact fun _ _ => rfl); (case c5 => decide); (case kB => exact fun _ _ => locs rfl); (case c2 => exact rfl); (case c3 => exact rfl); (case c4 => exact rfl); k_whole))

local macro_rules | `(tactic| walk_at "call builtin:str.join") => `(tactic| (k_here; (with_reducible show wpAny _ _ (call (Value.builtin _) [Value.str _ _, Value.ref _]) _ _ _); k_dflt (refine' joinS ?l ?i ?s ?z ?_; (case l => first | exact News.isList (by k_asm) (by k_mem) | exact Fr.lst (by k_asm) (by assumption) | assumption); (case i => first | assumption | exact sv_are _ | exact StrsAre.nil | exact StrsAre.cons _ _ StrsAre.nil); (case s => decide +kernel); (case z => first | omega | (simp only [List.length_drop, List.length_take, List.length_append, List.length_cons, List.length_nil] <;> omega)); k_whole; walk_say "MY JOIN"); intro t' k' hJ'))
local macro_rules | `(tactic| walk_at "call builtin:len") => `(tactic| (k_here; (with_reducible show wpAny _ _ (call (Value.builtin _) [Value.ref _]) _ _ _); k_dflt (refine' lenS ?l ?i ?z ?_; (case l => first | exact News.isList (by k_asm) (by k_mem) | exact Fr.lst (by k_asm) (by assumption) | assumption); (case i => first | assumption | exact sv_are _ | exact StrsAre.nil | exact StrsAre.cons _ _ StrsAre.nil); (case z => first | omega | (simp only [List.length_drop, List.length_take, List.length_append, List.length_cons, List.length_nil] <;> omega)); k_whole; walk_say "MY LEN"); intro t' k'))
local macro_rules | `(tactic| walk_at "subscriptTail") => `(tactic| (k_here; (with_reducible show wpAny _ _ (subscriptTail _ _ (Value.ref _) (Value.int _ _)) _ _ _); k_dflt (refine' itemD ?l ?i ?a ?z ?x ?_ ?s; (case l => first | exact News.isList (by k_asm) (by k_mem) | exact Fr.lst (by k_asm) (by assumption) | assumption); (case i => first | assumption | exact sv_are _ | exact StrsAre.nil | exact StrsAre.cons _ _ StrsAre.nil); (case a => omega); (case z => first | omega | (simp only [List.length_drop, List.length_take, List.length_append, List.length_cons, List.length_nil] <;> omega)); (case x => first | omega | (simp only [List.length_drop, List.length_take, List.length_append, List.length_cons, List.length_nil] <;> omega)); (case s => with_unfolding_all rfl); k_whole; walk_say "MY ITEM"); intro t'))
local macro_rules | `(tactic| walk_at "subscriptTail Name Slice ref ref") => `(tactic| (k_here; (with_reducible show wpAny _ _ (subscriptTail _ (PySem.Expr.Slice _ _ none _) (Value.ref _) (Value.ref _)) _ _ _); k_dflt (first
  | (refine' sliceFrom ?F ?N ?l ?i ?a ?z ?_ ?s ?t; (case F => k_asm); (case N => k_asm); (case l => first | exact News.isList (by k_asm) (by k_mem) | exact Fr.lst (by k_asm) (by assumption) | assumption); (case i => first | assumption | exact sv_are _ | exact StrsAre.nil | exact StrsAre.cons _ _ StrsAre.nil); (case a => omega); (case z => first | omega | (simp only [List.length_drop, List.length_take, List.length_append, List.length_cons, List.length_nil] <;> omega)); (case s => with_unfolding_all rfl); (case t => kmk_pure); k_whole; walk_say "MY FROM")
  | (refine' sliceTo ?F ?N ?l ?i ?a ?z ?_ ?s ?t; (case F => k_asm); (case N => k_asm); (case l => first | exact News.isList (by k_asm) (by k_mem) | exact Fr.lst (by k_asm) (by assumption) | assumption); (case i => first | assumption | exact sv_are _ | exact StrsAre.nil | exact StrsAre.cons _ _ StrsAre.nil); (case a => omega); (case z => first | omega | (simp only [List.length_drop, List.length_take, List.length_append, List.length_cons, List.length_nil] <;> omega)); (case s => with_unfolding_all rfl); (case t => kmk_pure); k_whole; walk_say "MY TO")); intro D' h' F' N' l1 hS'; (try k_lt l1); (try k_sweep)))
local macro_rules | `(tactic| walk_at "binaryOp Add ref ref") => `(tactic| (k_here; (with_reducible show wpAny _ _ (binaryOp _ (Value.ref _) (Value.ref _)) _ _ _); k_dflt (refine' addS ?F ?N ?l ?r ?i ?j ?y ?z ?_; (case F => k_asm); (case N => k_asm); (case l => first | exact News.isList (by k_asm) (by k_mem) | exact Fr.lst (by k_asm) (by assumption) | assumption); (case r => first | exact News.isList (by k_asm) (by k_mem) | exact Fr.lst (by k_asm) (by assumption) | assumption); (case i => first | assumption | exact sv_are _ | exact StrsAre.nil | exact StrsAre.cons _ _ StrsAre.nil); (case j => first | assumption | exact sv_are _ | exact StrsAre.nil | exact StrsAre.cons _ _ StrsAre.nil); (case y => first | omega | (simp only [List.length_drop, List.length_take, List.length_append, List.length_cons, List.length_nil] <;> omega)); (case z => first | omega | (simp only [List.length_drop, List.length_take, List.length_append, List.length_cons, List.length_nil] <;> omega)); k_whole; walk_say "MY ADD"); intro D' h' F' N' l1 hS'; (try k_lt l1); (try k_sweep)))
local macro_rules | `(tactic| walk_at "compareOp In str ref") => `(tactic| (k_here; (with_reducible show wpAny _ _ (compareOp CmpOp.In _ (Value.ref _)) _ _ _); k_dflt (refine' inS ?l ?i ?_; (case l => first | exact News.isList (by k_asm) (by k_mem) | exact Fr.lst (by k_asm) (by assumption) | assumption); (case i => first | assumption | exact sv_are _ | exact StrsAre.nil | exact StrsAre.cons _ _ StrsAre.nil); k_whole; walk_say "MY IN")))
local macro_rules | `(tactic| walk_at "compareOp Eq ref ref") => `(tactic| (k_here; k_dflt (refine' eqS ?l ?r ?i ?j ?o ?p ?u ?_; (case l => first | exact News.isList (by k_asm) (by k_mem) | exact Fr.lst (by k_asm) (by assumption) | assumption); (case r => first | exact News.isList (by k_asm) (by k_mem) | exact Fr.lst (by k_asm) (by assumption) | assumption); (case i => first | assumption | exact sv_are _ | exact StrsAre.nil | exact StrsAre.cons _ _ StrsAre.nil); (case j => first | assumption | exact sv_are _ | exact StrsAre.nil | exact StrsAre.cons _ _ StrsAre.nil); (case o => repeat' (first | with_reducible assumption | with_reducible exact OkS.nil | with_reducible exact okS1 (by decide +kernel) | with_reducible refine OkS.take ?_ _ | with_reducible refine OkS.drop ?_ _ | with_reducible refine OkS.append ?_ ?_)); (case p => repeat' (first | with_reducible assumption | with_reducible exact OkS.nil | with_reducible exact okS1 (by decide +kernel) | with_reducible refine OkS.take ?_ _ | with_reducible refine OkS.drop ?_ _ | with_reducible refine OkS.append ?_ ?_)); (case u => ktr_units); k_whole; walk_say "MY EQ")))
local macro_rules | `(tactic| walk_at "compareOp NotEq ref ref") => `(tactic| (k_here; k_dflt (refine' neS ?l ?r ?i ?j ?o ?p ?u ?_; (case l => first | exact News.isList (by k_asm) (by k_mem) | exact Fr.lst (by k_asm) (by assumption) | assumption); (case r => first | exact News.isList (by k_asm) (by k_mem) | exact Fr.lst (by k_asm) (by assumption) | assumption); (case i => first | assumption | exact sv_are _ | exact StrsAre.nil | exact StrsAre.cons _ _ StrsAre.nil); (case j => first | assumption | exact sv_are _ | exact StrsAre.nil | exact StrsAre.cons _ _ StrsAre.nil); (case o => repeat' (first | with_reducible assumption | with_reducible exact OkS.nil | with_reducible exact okS1 (by decide +kernel) | with_reducible refine OkS.take ?_ _ | with_reducible refine OkS.drop ?_ _ | with_reducible refine OkS.append ?_ ?_)); (case p => repeat' (first | with_reducible assumption | with_reducible exact OkS.nil | with_reducible exact okS1 (by decide +kernel) | with_reducible refine OkS.take ?_ _ | with_reducible refine OkS.drop ?_ _ | with_reducible refine OkS.append ?_ ?_)); (case u => ktr_units); k_whole; walk_say "MY NE")))

theorem rootedA (w mg mb) (b : Addr) (vs : List Value) (bl : List Str) : GivesA w mg mb 2 172 [.ref b] (fun h => h.IsList b vs.toArray ∧ StrsAre vs bl ∧ bl.length ≤ 1000) (fun _ => .bool (rooted bl)) := by
  unfold GivesA Pg Vw Lo
  k_fill
  intro A s Q E hA X T hd hu hH hret
  refine wpAny_call ?_
  k_dflt (walk_at "my enterA")
  intro L' h' F' N'
  (try dsimp only)
  (try k_fold)
  obtain ⟨hl, hi, hw⟩ := hH
  k_steps
  all_goals ((try dsimp only); k_steps)
  · rw [show rooted bl = (bl.getD (Int.toNat 0) Str.empty == Str.ofString "") from by unfold rooted; rw [decide_eq_true (by omega)]; rfl] at hret
    exact hret 0 _ _ (Fr.keep (by k_asm))
  · rw [show rooted bl = decide (1 < (bl.length : Int)) from by unfold rooted; rw [decide_eq_false (by omega), decide_eq_false (by omega)]; rfl] at hret
    exact hret 0 _ _ (Fr.keep (by k_asm))
local macro_rules | `(tactic| walk_at "call ref") => `(tactic| (k_here; (with_reducible show wpAny _ _ (call (Value.ref _) _) _ _ _); k_dflt (refine' (rootedA _ _ _ _ _ _).use ?kf ?k2 ?k3 ?k4 ?k5 ?kd ?ku ?kH ?_; (case kf => first | rfl | assumption); (case k2 => k_asm); (case k3 => k_asm); (case k4 => k_asm); (case k5 => k_asm); (case kd => ktr_room); (case ku => ktr_units); (case kH => exact ⟨by first | exact News.isList (by k_asm) (by k_mem) | exact Fr.lst (by k_asm) (by assumption) | assumption, by assumption, by omega⟩); walk_say "MY CALL rootedA"); intro t9 h9 tk9 S9 F9 N9; (try dsimp only); (try k_sweep); (try k_fold)))
def RowB (h : Heap) (a : Addr) : Prop := ∃ us b k, h.get? a = some (listOf (us : List Value).toArray k) ∧ StrsAre us b ∧ Bits b
theorem oneB : OneObj RowB := ⟨fun ⟨us, b, k, e, i, j⟩ up => ⟨us, b, k, up _ e, i, j⟩, fun ⟨_, _, _, e, _⟩ => ⟨_, e⟩⟩
section
variable {M : Model} {A : Around} {E : Value → Shared → Prop} {s : Shared} {K : Frag} {h₀ : Heap} {C L a : Addr} {m mg mb : Str → Option Value} {cn : Str} {cs scope : Scope} {ccd : Value} {cl : List (Str × Addr)} {p : Program} {loose : List Str}
  {x : Str} {pos : Pos} {v : Value} {Q : Value → Shared → Prop}
theorem nameC_K {env : Env} (F : Fr h₀ C s.heap m) (X : K.In h₀) (T : TopRead p loose mg mb h₀) (e : nsIn K mainGlobals x = some (some v)) (h : Q v s)
    (hk : env.scope.kind = .function) (hx : env.kindOf x = some .globalImplicit) (hg : env.globals = mainGlobals) (hd : (x == ("__debug__" : Str)) = false) :
    wpAny M A (eval (.Name x pos) env) Q E s :=
  Name_function_global hk hx (loadGlobal_global (env := env) (hg ▸ T.g.keeps F.keep) (mg_of X T.g e) h) hd
theorem ldVarC {env : Env} (hL : env.locals = C) (F : Fr h₀ C s.heap m) (hv : m x = some v) (h : Q v s)
    (hk : env.scope.kind = .function) (hl : env.kindOf x = some .local) (hd : (x == ("__debug__" : Str)) = false) :
    wpAny M A (eval (.Name x pos) env) Q E s := by
  subst hL
  exact wpAny_Name (wpAny_loadName_local hk hl F.ns hv h) hd
end
local macro_rules | `(tactic| walk_at "eval Name") => `(tactic| (k_here; k_dflt (first
  | (refine' ldVarC ?L ?F ?v ?_ ?a ?b ?c; (case L => with_reducible assumption); (case b => with_reducible assumption); (case F => with_reducible assumption); (case v => exact if_pos rfl); (case a => with_reducible assumption); (case c => decide); k_whole)
  | (refine' nameC_K ?F ?X ?T ?e ?_ ?a ?b ?g ?c; (case g => with_reducible assumption); (case b => with_reducible assumption); (case F => with_reducible assumption); (case X => with_reducible assumption); (case T => with_reducible assumption); (case a => with_reducible assumption); (case c => decide); (case e => k_is); k_whole)); walk_say "MY NAME C"))
local macro_rules | `(tactic| walk_at "isTrue") => `(tactic| refine isTrue_plain ?_)
local macro_rules | `(tactic| walk_at "isTrue Call") => `(tactic| refine isTrue_plain ?_)
local macro_rules | `(tactic| walk_at "eval Call") => `(tactic| refine Call_ ?_)
local macro_rules | `(tactic| walk_at "eval Call Attribute") => `(tactic| refine MethodCall_ ?_)
theorem fr_pin {h₀ h : Heap} {C : Addr} {m : Str → Option Value} {x : Str} {v : Value} (F : Fr h₀ C h m) (hm : m x = some v) : Fr h₀ C h (fun y => if y = x then some v else m y) := by
  have e : (fun y => if y = x then some v else m y) = m := by
    funext y
    by_cases q : y = x
    · rw [if_pos q, q, hm]
    · rw [if_neg q]
  rw [e]
  exact F
theorem test_not_rooted (w mg mb) : ∀ {A : Around} {s : Shared} {E : Value → Shared → Prop} {g : Heap} {C : Addr} {env : Env} {m : Str → Option Value} {r : Addr} {us : List Value} {b : List Str} {p₁ p₂ p₃ p₄ : Pos}
    (_ : A.handled = none) (_ : (hd.heap_39 w.params).In g) (_ : TopRead Vw Lo mg mb g) (_ : A.depth + 6 < recursionLimit) (_ : A.units + 100 < cLine)
    (_ : Fr g C s.heap m) (_ : m (Str.ofString "bits") = some (.ref r)) (_ : s.heap.IsList r us.toArray) (_ : StrsAre us b) (_ : b.length ≤ 1000) (_ : env.scope.kind = .function) (_ : env.globals = mainGlobals) (_ : env.locals = C) (_ : env.kindOf (Str.ofString "bits") = some .local) (_ : env.kindOf (Str.ofString "_law_rooted") = some .globalImplicit),
    wpAny (model Pg w) A (forIn [Expr.UnaryOp UnaryOp.Not (Expr.Call (Expr.Name (Str.ofString "_law_rooted") p₁) [Expr.Name (Str.ofString "bits") p₂] [] p₃) p₄] true fun c r => if r = true then do let ok ← isTrue c env (eval c env); pure (ForInStep.yield ok) else pure (ForInStep.yield r))
      (fun ok s₃ => Halt (ok = (!rooted b) ∧ Keeps s s₃)) E s := by
  unfold Pg Vw Lo
  k_fill
  intro A s E g C env m r us b p₁ p₂ p₃ p₄ hA X T hd hu F hm hl hi hz hsk hgl hlo h1 h2
  have F' := fr_pin F hm
  have N' : News g C s.heap [] := News.nil
  clear F hm
  rw [List.forIn_cons]
  refine wpAny_bind ?_
  rw [if_pos rfl]
  refine wpAny_bind ?_
  (try k_fold)
  refine isTrue_not ?_
  refine isTrue_plain ?_
  refine Call_ ?_
  k_steps
  refine wpAny_pure ?_
  exact wpAny_pure ⟨rfl, _, _, rfl, ‹_›⟩
theorem test_rooted (w mg mb) : ∀ {A : Around} {s : Shared} {E : Value → Shared → Prop} {g : Heap} {C : Addr} {env : Env} {m : Str → Option Value} {r : Addr} {us : List Value} {b : List Str} {p₁ p₂ p₃ : Pos}
    (_ : A.handled = none) (_ : (hd.heap_39 w.params).In g) (_ : TopRead Vw Lo mg mb g) (_ : A.depth + 6 < recursionLimit) (_ : A.units + 100 < cLine)
    (_ : Fr g C s.heap m) (_ : m (Str.ofString "bits") = some (.ref r)) (_ : s.heap.IsList r us.toArray) (_ : StrsAre us b) (_ : b.length ≤ 1000) (_ : env.scope.kind = .function) (_ : env.globals = mainGlobals) (_ : env.locals = C) (_ : env.kindOf (Str.ofString "bits") = some .local) (_ : env.kindOf (Str.ofString "_law_rooted") = some .globalImplicit),
    wpAny (model Pg w) A (forIn [Expr.Call (Expr.Name (Str.ofString "_law_rooted") p₁) [Expr.Name (Str.ofString "bits") p₂] [] p₃] true fun c r => if r = true then do let ok ← isTrue c env (eval c env); pure (ForInStep.yield ok) else pure (ForInStep.yield r))
      (fun ok s₃ => Halt (ok = rooted b ∧ Keeps s s₃)) E s := by
  unfold Pg Vw Lo
  k_fill
  intro A s E g C env m r us b p₁ p₂ p₃ hA X T hd hu F hm hl hi hz hsk hgl hlo h1 h2
  have F' := fr_pin F hm
  have N' : News g C s.heap [] := News.nil
  clear F hm
  rw [List.forIn_cons]
  refine wpAny_bind ?_
  rw [if_pos rfl]
  refine wpAny_bind ?_
  (try k_fold)
  refine isTrue_plain ?_
  refine Call_ ?_
  k_steps
  refine wpAny_pure ?_
  exact wpAny_pure ⟨rfl, _, _, rfl, ‹_›⟩
theorem elt_join {prog : Program} {w : World} : ∀ {A : Around} {s : Shared} {E : Value → Shared → Prop} {g : Heap} {C : Addr} {env : Env} {m : Str → Option Value} {r : Addr} {us : List Value} {b : List Str} {p₁ p₂ p₃ p₄ : Pos} {pl : Sem Bool}
    (_ : eval (Expr.Call (Expr.Attribute (Expr.Constant (.str (Str.ofString "/")) 0 p₁) (Str.ofString "join") p₂) [Expr.Name (Str.ofString "bits") p₃] [] p₄) env = (do
      let ov ← eval (Expr.Constant (.str (Str.ofString "/")) 0 p₁) env
      standAt p₂.atName
      let (f, first) ← holding [ov] (getMethod ov (Str.ofString "join") pl)
      callWith p₄ f first (backTo p₄ (starEach [Expr.Name (Str.ofString "bits") p₃] env)) []))
    (_ : A.handled = none) (_ : Fr g C s.heap m) (_ : m (Str.ofString "bits") = some (.ref r)) (_ : s.heap.IsList r us.toArray) (_ : StrsAre us b) (_ : wS b ≤ 1000) (_ : env.scope.kind = .function) (_ : env.globals = mainGlobals) (_ : env.locals = C) (_ : env.kindOf (Str.ofString "bits") = some .local),
    wpAny (model prog w) A (eval (Expr.Call (Expr.Attribute (Expr.Constant (.str (Str.ofString "/")) 0 p₁) (Str.ofString "join") p₂) [Expr.Name (Str.ofString "bits") p₃] [] p₄) env)
      (fun y s₃ => Halt (Carried y (.str (TX b)) ∧ Keeps s s₃)) E s := by
  intro A s E g C env m r us b p₁ p₂ p₃ p₄ pl he hA F hm hl hi hz hsk hgl hlo h1
  have F' := fr_pin F hm
  have N' : News g C s.heap [] := News.nil
  clear F hm
  refine MethodCall_ ?_ he
  clear he
  k_steps
  refine ldVarC hlo F' (if_pos rfl) ?_ hsk h1 (by decide)
  k_steps
  refine joinS hl hi (by decide +kernel) (by omega) ?_
  intro t' k _
  exact ⟨.str _ _, _, _, rfl, fun _ _ e => e⟩
end Mine
end
section
open PySem PySem.W PyProof.Rows PySem.Calls
set_option Elab.async false
set_option maxRecDepth 100000
set_option maxHeartbeats 1000000
namespace Mine
theorem reset_16 : True := by
  w_top off
  trivial
local macro_rules | `(tactic| k_room) => `(tactic| ktr_room)
local macro_rules | `(tactic| k_units) => `(tactic| ktr_units)
local macro_rules | `(tactic| units_room) => `(tactic| ktr_units)
local macro_rules | `(tactic| walk_at "my enterP") => `(tactic| (refine' enterP ?k3 ?k5 ?k6 ?kL ?kM ?kN ?k7 ?k8 ?k9 ?kB ?_ ?c2 ?c3 ?c4 ?c5; (case k3 => k_asm); (case k5 => k_asm); (case k6 => k_is); (case kL => ((conv => lhs; whnf); (try exact rfl))); (case kM => ((conv => lhs; whnf); (try exact rfl))); (case kN => ((conv => lhs; whnf); (try exact rfl))); (case k7 => k_is); (case k8 => ktr_room); (case k9 => first | exact BindsTo.of_eq rfl | exact binds_K (by k_asm) rfl (by k_is) rfl rfl rfl); (case c5 => decide); (case kB => exact locs rfl); (case c2 => exact rfl); (case c3 => exact rfl); (case c4 => exact rfl); k_whole))
local macro_rules | `(tactic| walk_at "my enterA") => `(tactic| (refine' enterA ?k3 ?k5 ?k6 ?kL ?kM ?kN ?k7 ?k8 ?k9 ?kB ?_ ?c2 ?c3 ?c4 ?c5; (case k3 => k_asm); (case k5 => k_asm); (case k6 => k_is); (case kL => ((conv => lhs; whnf); (try exact rfl))); (case kM => ((conv => lhs; whnf); (try exact rfl))); (case kN => ((conv => lhs; whnf); (try exact rfl))); (case k7 => k_is); (case k8 => ktr_room); (case k9 => first | exact BindsTo.of_eq rfl | exact binds_K (by k_asm) rfl (by k_is) rfl rfl rfl); (case c5 => decide); (case kB => exact locs rfl); (case c2 => exact rfl); (case c3 => exact rfl); (case c4 => exact rfl); k_whole))
local macro_rules | `(tactic| walk_at "my enterR") => `(tactic| (refine' enterR ?k3 ?k5 ?k6 ?kL ?kM ?kN ?k7 ?k8 ?kP ?kG ?kB ?_ ?c2 ?c3 ?c4 ?c5; (case k3 => k_asm); (case k5 => k_asm); (case k6 => k_is); (case kL => ((conv => lhs; whnf); (try exact rfl))); (case kM => ((conv => lhs; whnf); (try exact rfl))); (case kN => ((conv => lhs; whnf); (try exact rfl))); (case k7 => k_is); (case k8 => ktr_room); (case kP => exact rfl); (case kG => exact fun _ => rfl); (case c5 => decide); (case kB => exact fun _ => locs rfl); (case c2 => exact rfl); (case c3 => exact rfl); (case c4 => exact rfl); k_whole))
local macro_rules | `(tactic| walk_at "my enterB") => `(tactic| (refine' enterB ?k3 ?k5 ?k6 ?kL ?kM ?kN ?k7 ?k8 ?kP ?kS ?kT ?kB ?_ ?c2 ?c3 ?c4 ?c5; (case k3 => k_asm); (case k5 => k_asm); (case k6 => k_is); (case kL => ((conv => lhs; whnf); (try exact rfl))); (case kM => ((conv => lhs; whnf); (try exact rfl))); (case kN => ((conv => lhs; whnf); (try exact rfl))); (case k7 => k_is); (case k8 => ktr_room); (case kP => exact rfl); (case kS => exact fun _ => rfl); (case kT => exact fun _ _ => rfl); (case c5 => decide); (case kB => exact fun _ _ => locs rfl); (case c2 => exact rfl); (case c3 => exact rfl); (case c4 => exact rfl); k_whole))

local macro_rules | `(tactic| walk_at "eval Name") => `(tactic| (k_here; k_dflt (first
  | (refine' ldVarC ?L ?F ?v ?_ ?a ?b ?c; (case L => with_reducible assumption); (case b => with_reducible assumption); (case F => with_reducible assumption); (case v => exact if_pos rfl); (case a => with_reducible assumption); (case c => decide); k_whole)
  | (refine' nameC_K ?F ?X ?T ?e ?_ ?a ?b ?g ?c; (case g => with_reducible assumption); (case b => with_reducible assumption); (case F => with_reducible assumption); (case X => with_reducible assumption); (case T => with_reducible assumption); (case a => with_reducible assumption); (case c => decide); (case e => k_is); k_whole)); walk_say "MY NAME C"))

local macro_rules | `(tactic| walk_at "call ref") => `(tactic| (refine halt_of ?_))
theorem elt_pieces (w mean mg mb) : ∀ {dp un : Nat} {gd : Option (List Code)} {outer : List Env} {base : Heap} {s : Shared} {E : Value → Shared → Prop} {g : Heap} {C : Addr} {env : Env} {m : Str → Option Value} {k : Int} {t : Tok} {p₁ p₂ p₃ : Pos}
    (_ : Below (Ar dp un gd outer) base outer s.heap) (_ : (hd.heap_39 w.params).In g) (_ : Top Vw Lo mean mg mb g) (_ : dp + 6 < recursionLimit) (_ : un + 100 < cLine)
    (_ : Fr g C s.heap m) (_ : m (Str.ofString "number") = some (.int k t)) (_ : env.scope.kind = .function) (_ : env.globals = mainGlobals) (_ : env.locals = C) (_ : env.kindOf (Str.ofString "number") = some .local) (_ : env.kindOf (Str.ofString "_law_pieces") = some .globalImplicit),
    wpAny (model Pg w) (Ar dp un gd outer) (eval (Expr.Call (Expr.Name (Str.ofString "_law_pieces") p₁) [Expr.Name (Str.ofString "number") p₂] [] p₃) env)
      (fun y s₃ => Halt (Keeps s s₃ ∧ ∃ a, y = .ref a ∧ s.heap.get? a = none ∧ RowB s₃.heap a)) E s := by
  unfold Pg Vw Lo
  k_fill
  intro dp un gd outer base s E g C env m k t p₁ p₂ p₃ B X T hd hu F hm hsk hgl hlo h1 h2
  refine Call_ ?_
  refine nameC_K F X (topRead_of T) (by k_is) ?_ hsk h2 hgl (by decide)
  have F' := fr_pin F hm
  k_steps
  unfold Halt
  refine pieces_g w mean mg mb k t dp un gd outer base _ _ _ B (X.keeps F.keep) (T.keeps F.keep) (Nat.lt_of_le_of_lt (Nat.add_le_add_left (by decide) dp) hd) (Nat.lt_of_le_of_lt (Nat.add_le_add_left (by decide) un) hu) trivial ?_
  intro D n us bl h' tk' st hD hfr hi hb
  exact ⟨⟨h', tk', rfl, st⟩, D, rfl, hfr, us, bl, n, hD, hi, hb⟩
end Mine
end
section
open PySem PySem.W PyProof.Rows PySem.Calls PyProof.V PySem.Spec
set_option Elab.async false
set_option maxRecDepth 100000
set_option maxHeartbeats 2000000
namespace Mine
abbrev Tab := Addr → List Value × List Str × Nat
abbrev rowAt (tab : Tab) (a : Addr) : Addr × Obj := (a, listOf (tab a).1.toArray (tab a).2.2)
theorem rows_led {h₀ h : Heap} {L : Addr} {as : List Addr} (hr : ∀ a ∈ as, a ≠ L ∧ h₀.get? a = none ∧ RowB h a) :
    ∃ tab : Tab, (∀ a ∈ as, StrsAre (tab a).1 (tab a).2.1 ∧ Bits (tab a).2.1) ∧ News h₀ L h (as.map (rowAt tab)) := by
  have : ∀ a, ∃ y : List Value × List Str × Nat, a ∈ as → h.get? a = some (listOf y.1.toArray y.2.2) ∧ StrsAre y.1 y.2.1 ∧ Bits y.2.1 := fun a => by
    by_cases q : a ∈ as
    · obtain ⟨us, b, k, e, i, j⟩ := (hr a q).2.2
      exact ⟨(us, b, k), fun _ => ⟨e, i, j⟩⟩
    · exact ⟨([], [], 0), fun z => absurd z q⟩
  obtain ⟨tab, ht⟩ := Classical.axiomOfChoice this
  refine ⟨tab, fun a ha => (ht a ha).2, fun p hp => ?_⟩
  obtain ⟨a, ha, rfl⟩ := List.mem_map.mp hp
  exact ⟨(ht a ha).1, (hr a ha).1, (hr a ha).2.1⟩
def refKind : ItemKind Addr := ⟨fun a v => v = .ref a, fun v => match v with | .ref a => some a | _ => none, fun _ _ h => by subst h; rfl⟩
theorem refs_are : ∀ as : List Addr, AreOf refKind (as.map Value.ref) as
  | [] => .nil
  | _ :: r => .cons rfl (refs_are r)
theorem wS_word {x : Str} (h : x ∈ WORDS) : x.length ≤ 3 := by
  have : ∀ x ∈ WORDS, x.length ≤ 3 := by decide +kernel
  exact this x h
theorem wS_words : ∀ {b : List Str}, (∀ x ∈ b, x ∈ WORDS) → wS b ≤ 4 * b.length
  | [], _ => Nat.le_refl _
  | x :: r, h => by
    have ih := wS_words (b := r) fun y hy => h y (.tail _ hy)
    have h1 := wS_word (h x (.head _))
    rw [wS_cons, List.length_cons]
    omega
theorem Bits.wS {b : List Str} (h : Bits b) : wS b ≤ 16 := by
  have := wS_words h.2.2
  have := h.2.1
  omega
theorem Bits.ok {b : List Str} (h : Bits b) : OkS b := fun x hx => by
  have : ∀ x ∈ WORDS, PyData.strOk x = true := by decide +kernel
  exact this x (h.2.2 x hx)
theorem news_front {h₀ h : Heap} {L : Addr} {Z : List (Addr × Obj)} {p : Addr × Obj} (N : News h₀ L h Z) (hp : p ∈ Z) : News h₀ L h (p :: Z) := fun q hq => by
  rcases List.mem_cons.mp hq with rfl | hq
  · exact N _ hp
  · exact N q hq
section
variable {prog : Program} {w : World} {A : Around} {E : Value → Shared → Prop} {s : Shared} {h₀ : Heap} {L : Addr} {m : Str → Option Value} {env : Env}
/-- the library's two rules for a comprehension, its frame taken from a fact that stands -/
abbrev lcAt (_ : Fr h₀ L s.heap m) := @ListComp_DCn prog w A E s h₀ L m env
abbrev acAt (_ : Fr h₀ L s.heap m) := @Assign_ListComp_DCn prog w A E s h₀ L m env
theorem news_fresh {h h' : Heap} {news : List (Addr × Obj)} {D : Addr} {o : Obj} (F : Fr h₀ L h m) (N : News h₀ L h news) (st : h.StaysIn h') (hD : h'.get? D = some o) (hf : h.get? D = none) : News h₀ L h' ((D, o) :: news) := fun p hp => by
  rcases List.mem_cons.mp hp with rfl | hp
  · refine ⟨hD, fun e => ?_, ?_⟩
    · obtain ⟨_, _, _, e2, _⟩ := F.ns
      rw [show D = L from e, e2] at hf; cases hf
    · cases q : h₀.get? D with
      | none => rfl
      | some o' => rw [F.keep _ _ q] at hf; cases hf
  · exact ⟨st _ _ (N p hp).1, (N p hp).2⟩
theorem news_new {h : Heap} {news : List (Addr × Obj)} {D : Addr} {ys : List Value} (F : Fr h₀ L h m) (N : News h₀ L h news) (h0 : h₀.get? D = none) (hp : NewPlain h news D ys.toArray) : ∃ n, News h₀ L h ((D, listOf ys.toArray n) :: news) := by
  obtain ⟨n, e⟩ := hp.1
  refine ⟨n, fun p hq => ?_⟩
  rcases List.mem_cons.mp hq with rfl | hq
  · exact ⟨e, hp.ne_locals F, h0⟩
  · exact N p hq
end
theorem Bits.len {b : List Str} (h : Bits b) : (TX b).length ≤ 68 := by
  have h1 := joinS_len (sep := Str.ofString "/") (ss := b) (by decide +kernel)
  have := h.wS
  show (Txt.join _ _).length ≤ _
  omega
theorem wS_TX {tab : Tab} : ∀ {as : List Addr}, (∀ a ∈ as, Bits (tab a).2.1) → wS (as.map fun a => TX (tab a).2.1) ≤ 69 * as.length
  | [], _ => Nat.le_refl _
  | a :: r, h => by
    have ih := wS_TX (as := r) fun y hy => h y (.tail _ hy)
    have h1 := (h a (.head _)).len
    rw [List.map_cons, wS_cons, List.length_cons]
    omega
def ROOTS : List (List Str) := [[Str.ofString "a"], [Str.ofString "_b"], [Str.ofString "_", Str.ofString "a"], [Str.ofString "a", Str.ofString "_"]]
section
variable {prog : Program} {w : World} {A : Around} {E : Value → Shared → Prop} {s : Shared}
theorem rootAt {value slice : PySem.Expr} {u : Tok} {i : Int} {R r0 r1 r2 r3 : Addr} {Q : Value → Shared → Prop} (hl : s.heap.IsList R [Value.ref r0, Value.ref r1, Value.ref r2, Value.ref r3].toArray) (h0 : 0 ≤ i) (h4 : i < 4)
    (h : ∀ r, r = r0 ∨ r = r1 ∨ r = r2 ∨ r = r3 → Q (.ref r) s)
    (hs : subscripted slice false (.ref R) (.int i u) = operate [.ref R, .int i u] (getItem (.ref R) (.int i u)) := by with_unfolding_all rfl) :
    wpAny (model prog w) A (subscriptTail value slice (.ref R) (.int i u)) Q E s := by
  have hi : i = 0 ∨ i = 1 ∨ i = 2 ∨ i = 3 := by omega
  rcases hi with rfl | rfl | rfl | rfl
  · exact tail_any hl.typeIs slot_list_getitem.lookup (wpAny_getItem_list hl (by decide) (by decide) rfl (h _ (.inl rfl))) hs
  · exact tail_any hl.typeIs slot_list_getitem.lookup (wpAny_getItem_list hl (by decide) (by decide) rfl (h _ (.inr (.inl rfl)))) hs
  · exact tail_any hl.typeIs slot_list_getitem.lookup (wpAny_getItem_list hl (by decide) (by decide) rfl (h _ (.inr (.inr (.inl rfl))))) hs
  · exact tail_any hl.typeIs slot_list_getitem.lookup (wpAny_getItem_list hl (by decide) (by decide) rfl (h _ (.inr (.inr (.inr rfl))))) hs
end
theorem root_pick {h₀ h : Heap} {L R r r0 r1 r2 r3 : Addr} {o : Obj} {t0 t1 t2 t3 t4 t5 : Tok} {dn : List (Addr × Obj)}
    (N : News h₀ L h ((R, o) :: (r3, listOf [Value.str (Str.ofString "a") t4, Value.str (Str.ofString "_") t5].toArray 0) :: (r2, listOf [Value.str (Str.ofString "_") t2, Value.str (Str.ofString "a") t3].toArray 0) :: (r1, listOf [Value.str (Str.ofString "_b") t1].toArray 0) :: (r0, listOf [Value.str (Str.ofString "a") t0].toArray 0) :: dn))
    (hr : r = r0 ∨ r = r1 ∨ r = r2 ∨ r = r3) : ∃ us rl, News h₀ L h ((r, listOf us.toArray 0) :: dn) ∧ StrsAre us rl ∧ rl ∈ ROOTS := by
  have up : ∀ p ∈ dn, h.get? p.1 = some p.2 ∧ p.1 ≠ L ∧ h₀.get? p.1 = none := fun p hp => N p (.tail _ (.tail _ (.tail _ (.tail _ (.tail _ hp)))))
  have put : ∀ p : Addr × Obj, (h.get? p.1 = some p.2 ∧ p.1 ≠ L ∧ h₀.get? p.1 = none) → News h₀ L h (p :: dn) := fun p hp q hq => by
    rcases List.mem_cons.mp hq with rfl | hq
    · exact hp
    · exact up q hq
  rcases hr with rfl | rfl | rfl | rfl
  · exact ⟨_, _, put _ (N _ (.tail _ (.tail _ (.tail _ (.tail _ (.head _)))))), .cons _ _ .nil, .head _⟩
  · exact ⟨_, _, put _ (N _ (.tail _ (.tail _ (.tail _ (.head _))))), .cons _ _ .nil, .tail _ (.head _)⟩
  · exact ⟨_, _, put _ (N _ (.tail _ (.tail _ (.head _)))), .cons _ _ (.cons _ _ .nil), .tail _ (.tail _ (.head _))⟩
  · exact ⟨_, _, put _ (N _ (.tail _ (.head _))), .cons _ _ (.cons _ _ .nil), .tail _ (.tail _ (.tail _ (.head _)))⟩
end Mine
end
section
open PySem PySem.W PyProof.Rows PySem.Calls PyProof.V PySem.Spec
set_option Elab.async false
set_option maxRecDepth 100000
set_option maxHeartbeats 2000000
namespace Mine
theorem GivesT.use0 {w : World} {mean : ExcName → Option Value} {mg mb : Str → Option Value} {k : Nat} {f : Addr} {vs : List Value} {H : Heap → Prop} {R : Tok → Value} (G : GivesT w mean mg mb k f vs H R)
    {news : List (Addr × Obj)} {dp un : Nat} {gd : Option (List Code)} {env : Env} {A₀ : Around} {h₀ : Heap} {L : Addr} {m : Str → Option Value} {s : Shared} {Q E : Value → Shared → Prop}
    (hf : env.frame = some L) (hk : env.scope.kind = .function)
    (B : Below A₀ h₀ [] h₀) (F : Fr h₀ L s.heap m) (X : (hd.heap_39 w.params).In h₀) (N : News h₀ L s.heap news) (T : Top Vw Lo mean mg mb h₀)
    (hd : dp + k < recursionLimit) (hu : un + 16 * k < cLine) (hH : H s.heap)
    (ret : ∀ (t : Tok) (h' : Heap) (tk' : Nat), Fr h₀ L h' m → News h₀ L h' news → Q (R t) { s with heap := h', toks := tk' }) :
    wpAny (model Pg w) (Ar dp un gd [env]) (call (.ref f) vs) Q E s := by
  obtain ⟨oL, es, ep, hL, hLd, hLk, hLf⟩ := id F.ns
  have e1 : ([env] : List Env).filterMap (·.frame) = [L] := by simp [hf]
  refine G dp un gd [env] h₀ s Q E X T (belowAt rfl hf hk B F) (X.keeps F.keep) (T.keeps F.keep) (fun b hb => ?_) hd hu hH fun t g' h' tk' tn st => ret t h' tk' ?_ ?_
  · rw [e1, List.mem_singleton] at hb
    exact ⟨oL, es, ep, hb ▸ hL, hLd⟩
  · obtain ⟨sl, hs⟩ := tn.up hL
    refine ⟨⟨_, es, ep, st _ _ hs, hLd, hLk, hLf⟩, fun b o e => st _ _ (tn.other b o (F.keep b o e) fun q => ?_), F.above⟩
    rw [e1, List.mem_singleton] at q
    rw [q, kts_self F] at e
    cases e
  · intro p hp
    refine ⟨st _ _ (tn.other _ _ (N p hp).1 fun q => ?_), (N p hp).2⟩
    rw [e1, List.mem_singleton] at q
    exact (N p hp).2.1 q
section
variable {prog : Program} {w : World} {A : Around} {E : Value → Shared → Prop} {s : Shared} {env : Env} {h₀ : Heap} {L : Addr} {x : Str} {body : List Stmt} {Q : Flow → Shared → Prop}
theorem cmpSame {a b : Option Str} {t u : Tok} {Q : Value → Shared → Prop} (e : a = b) (h : Q (.bool false) s) : wpAny (model prog w) A (compareOp .NotEq (optV a t) (optV b u)) Q E s := by
  subst e
  cases a with
  | none => exact EqNone.ne_none_none h
  | some y => exact ne_str (by rw [show (y != y) = false by simp]; exact h)
/-- how a turn ends -/
def EndR (h₀ : Heap) (L : Addr) (x : Str) (m₀ : Str → Option Value) (stored : List Str) (Led : List (Addr × Obj)) (s₁ : Shared) (Q : Flow → Shared → Prop) (f : Flow) (s₂ : Shared) : Prop :=
  match f with
  | .ret v => Q (.ret v) s₂
  | .brk => Q .next s₂
  | _ => ∃ h' tk m', s₂ = { s₁ with heap := h', toks := tk } ∧ Fr h₀ L h' m' ∧ (∀ z, z ≠ x → stored.contains z = false → m' z = m₀ z) ∧ News h₀ L h' Led
theorem EndR.next {h' : Heap} {m₀ m' : Str → Option Value} {stored : List Str} {Led : List (Addr × Obj)} {s₁ : Shared} {tk : Nat} (F : Fr h₀ L h' m') (N : News h₀ L h' Led) (hm : ∀ z, z ≠ x → stored.contains z = false → m' z = m₀ z) :
    EndR h₀ L x m₀ stored Led s₁ Q .next { s₁ with heap := h', toks := tk } := ⟨h', tk, m', rfl, F, hm, N⟩
/-- a loop over a made list of references -/
theorem loopR {as : List Addr} {D : Addr} {k : Nat} {m₀ : Str → Option Value} {Led : List (Addr × Obj)} (hL : env.locals = L) (stored : List Str)
    (hh : A.handled = none) (hl : (D, listOf (as.map Value.ref).toArray k) ∈ Led) (F : Fr h₀ L s.heap m₀) (N : News h₀ L s.heap Led)
    (turn : ∀ a (u : Str → Option Value) h tk I it, a ∈ as → (∀ q ∈ Led, q.1 < I) →
      Fr h₀ L h (fun y => if y = x then some (.ref a) else (if stored.contains y then u y else m₀ y)) → News h₀ L h (Led ++ [(I, it)]) →
      wpAny (model prog w) A (execs body env) (EndR h₀ L x m₀ stored (Led ++ [(I, it)]) { s with heap := h, toks := tk } Q) E { s with heap := h, toks := tk })
    (done : ∀ (u : Str → Option Value) h tk, Fr h₀ L h (fun y => if y = x then u y else (if stored.contains y then u y else m₀ y)) → News h₀ L h Led → Q .next { s with heap := h, toks := tk }) :
    wpAny (model prog w) A (pyIter (.ref D)) (fun it s₂ => LoopAtV prog w A h₀ env x body Q E it s₂) E s := by
  subst hL
  refine loopV (σ := Unit) (fun _ => Led) (fun _ => []) stored (fun _ _ => True) () hh (vs := as.map Value.ref) (o := listOf (as.map Value.ref).toArray k) rfl rfl (fun _ => hl) F N (fun _ hp => nomatch hp) trivial ?_ ?_
  · intro i c v u h tk I it hv _ hlt F₁ N₁
    rw [List.getElem?_map] at hv
    obtain ⟨a, ha, rfl⟩ := Option.map_eq_some_iff.mp hv
    refine wpAny_mono (turn a u h tk I it (List.mem_of_getElem? ha) hlt F₁ N₁) (fun f s₂ e => ?_) fun _ _ e => e
    have fin : (∃ h' tk' m', s₂ = { s with heap := h', toks := tk' } ∧ Fr h₀ env.locals h' m' ∧ (∀ z, z ≠ x → stored.contains z = false → m' z = m₀ z) ∧ News h₀ env.locals h' (Led ++ [(I, it)])) →
        InvEndN h₀ env.locals (KstS (fun _ : Unit => Led) (fun _ => []) (fun _ => True) x stored m₀ (fun _ _ => True) []) [(I, it)] (Led.map (·.1)) { s with heap := h, toks := tk } s₂ := by
      rintro ⟨h', tk', m', rfl, F', hm, N'⟩
      exact kst_end () F' N' (fun p hp => List.mem_append_left _ hp) (fun p hp => List.mem_append_right _ hp) rfl trivial (fun _ hp => nomatch hp) (fun z hz _ hs => hm z hz (by simpa using hs)) trivial
    cases f with
    | ret v => exact e
    | brk => exact e
    | next => exact fin e
    | cont => exact fin e
  · intro c u h tk _ F₁ N₁
    exact done u h tk F₁ N₁
end
end Mine
end
section
open PySem PySem.W PyProof.Rows PySem.Calls
set_option Elab.async false
set_option maxRecDepth 100000
namespace Mine
open StrLaws Builtin Builtin.Str
/-- the codes of a joined text -/
def joinC (y : List Nat) : List (List Nat) → List Nat
  | [] => []
  | [p] => p
  | p :: q :: r => p ++ (y ++ joinC y (q :: r))
theorem at_codes {x y : Str} {i : Nat} (h : At x y x.length i) : (x.cps.toList.drop i).take y.length = y.cps.toList := by
  have := h.2
  rw [subAt_eq] at this
  exact eq_of_beq this
theorem chain_parts {x y : Str} {c0 : Nat} {ys : List Nat} (hy : y.cps.toList = c0 :: ys) : ∀ (l : List (List Nat)) (a f : Nat) (cuts : List Nat), l ≠ [] → (∀ p ∈ l, c0 ∉ p) → a ≤ x.length → x.cps.toList.drop a = joinC y.cps.toList l →
    ChainG x y x.length a cuts f → (∀ k, f ≤ k → ¬ At x y x.length k) → (partsFrom x y.length a cuts).map (·.cps.toList) = l
  | [], _, _, _, h, _, _, _, _, _ => absurd rfl h
  | [p], a, f, [], _, hf, ha, hd, hc, hn => by
    show [(strSub x a x.length).cps.toList] = [p]
    rw [strSub_toList, hd]
    show [p.take (x.length - a)] = [p]
    have e : p.length = x.length - a := by
      have := congrArg List.length hd
      rw [List.length_drop] at this
      exact this.symm
    rw [← e, List.take_length]
  | [p], a, f, c :: r, _, hf, ha, hd, hc, hn => by
    exfalso
    have h1 := at_codes hc.2.1
    have h2 : (x.cps.toList.drop c)[0]? = some c0 := by
      have : ((x.cps.toList.drop c).take y.length)[0]? = some c0 := by rw [h1, hy]; rfl
      rw [List.getElem?_take] at this
      split at this
      · exact this
      · cases this
    have h3 : (x.cps.toList.drop a)[c - a]? = some c0 := by
      rw [List.getElem?_drop] at h2 ⊢
      rw [show a + (c - a) = c + 0 from by have := hc.1; omega]
      exact h2
    rw [hd] at h3
    exact hf p (.head _) (List.mem_of_getElem? h3)
  | p :: q :: l, a, f, cuts, _, hf, ha, hd, hc, hn => by
    have hd' : x.cps.toList.drop a = p ++ (y.cps.toList ++ joinC y.cps.toList (q :: l)) := hd
    have hlen : x.length - a = p.length + (y.length + (joinC y.cps.toList (q :: l)).length) := by
      have := congrArg List.length hd'
      rw [List.length_drop, List.length_append, List.length_append] at this
      exact this
    have hA : At x y x.length (a + p.length) := by
      refine ⟨by omega, ?_⟩
      rw [subAt_eq, ← List.drop_drop, hd', List.drop_left]
      rw [show y.length = y.cps.toList.length from by simp [Str.length], List.take_left]
      simp
    cases cuts with
    | nil =>
      have e : f = a := hc
      exact absurd hA (hn _ (by omega))
    | cons c r =>
      obtain ⟨h1, h2, h3, h4⟩ := hc
      have hle : c ≤ a + p.length := by
        rcases Nat.lt_or_ge (a + p.length) c with q' | q'
        · exact absurd hA (h3 _ (by omega) q')
        · exact q'
      have hge : a + p.length ≤ c := by
        rcases Nat.lt_or_ge c (a + p.length) with q' | q'
        · exfalso
          have k1 := at_codes h2
          have k2 : (x.cps.toList.drop c)[0]? = some c0 := by
            have : ((x.cps.toList.drop c).take y.length)[0]? = some c0 := by rw [k1, hy]; rfl
            rw [List.getElem?_take] at this
            split at this
            · exact this
            · cases this
          have k3 : (x.cps.toList.drop a)[c - a]? = some c0 := by
            rw [List.getElem?_drop] at k2 ⊢
            rw [show a + (c - a) = c + 0 from by omega]
            exact k2
          rw [hd', List.getElem?_append_left (by omega)] at k3
          exact hf p (.head _) (List.mem_of_getElem? k3)
        · exact q'
      have e : c = a + p.length := by omega
      subst e
      show (strSub x a (a + p.length)).cps.toList :: (partsFrom x y.length (a + p.length + y.length) r).map (·.cps.toList) = p :: q :: l
      rw [strSub_toList, hd', show a + p.length - a = p.length from by omega, List.take_left]
      congr 1
      refine chain_parts hy (q :: l) _ f r (by simp) (fun z hz => hf z (.tail _ hz)) (by omega) ?_ h4 hn
      rw [← List.drop_drop, ← List.drop_drop, hd', List.drop_left]
      rw [show y.length = y.cps.toList.length from by simp [Str.length], List.drop_left]
theorem joined_codes (y : Str) : ∀ l : List Str, (Txt.join y l).cps.toList = joinC y.cps.toList (l.map (·.cps.toList)) := by
  intro l
  show (glued y l).cps.toList = _
  rw [glued_eq_join]
  induction l with
  | nil => rfl
  | cons p r ih =>
    cases r with
    | nil => rfl
    | cons q r =>
      show (p ++ y ++ Str.join y (q :: r)).cps.toList = _
      show (p.cps ++ y.cps ++ (Str.join y (q :: r)).cps).toList = _
      rw [Array.toList_append, Array.toList_append, ih, List.append_assoc]
      rfl
theorem codes_inj : ∀ {l l' : List Str}, l.map (·.cps.toList) = l'.map (·.cps.toList) → l = l'
  | [], [], _ => rfl
  | [], _ :: _, h => by cases h
  | _ :: _, [], h => by cases h
  | a :: l, b :: l', h => by
    obtain ⟨h1, h2⟩ := List.cons.inj h
    have h3 : a.cps = b.cps := Array.toList_inj.mp h1
    cases a
    cases b
    cases h3
    rw [codes_inj h2]
theorem kind_pos (x : Str) : 1 ≤ PySem.Builtin.Str.strKind x := by
  unfold PySem.Builtin.Str.strKind
  split
  · omega
  · split <;> omega
theorem split_join {y : Str} {c0 : Nat} {ys : List Nat} (hy : y.cps.toList = c0 :: ys) (hk : PySem.Builtin.Str.strKind y = 1) {l : List Str} (hl : l ≠ []) (hf : ∀ p ∈ l, c0 ∉ p.cps.toList) : Txt.split (Txt.join y l) y = l := by
  have hw : 1 ≤ y.length := by
    show 1 ≤ y.cps.size
    rw [← Array.length_toList, hy]
    simp
  obtain ⟨f, hG, hn⟩ := occ_tight (Txt.join y l) y hw
  have key := chain_parts hy (l.map (·.cps.toList)) 0 f _ (by simpa using hl) (fun p hp => by
    obtain ⟨q, hq, rfl⟩ := List.mem_map.mp hp
    exact hf q hq) (Nat.zero_le _) (by rw [List.drop_zero]; exact joined_codes y l) hG hn
  have key2 := codes_inj key
  unfold Txt.split
  split
  · rename_i hc
    rw [Bool.or_eq_true, decide_eq_true_eq, decide_eq_true_eq, hk] at hc
    have hlt : (Txt.join y l).length < y.length := hc.resolve_right (by have := kind_pos (Txt.join y l); omega)
    have e0 : occurrences (Txt.join y l) y 0 (Txt.join y l).length ((Txt.join y l).length + 1) = [] := by
      generalize occurrences (Txt.join y l) y 0 (Txt.join y l).length ((Txt.join y l).length + 1) = cuts at hG
      cases cuts with
      | nil => rfl
      | cons c r =>
        have := hG.2.1.1
        omega
    rw [e0] at key2
    have k3 : [strSub (Txt.join y l) 0 (Txt.join y l).length] = l := key2
    rw [sub_whole] at k3
    exact k3
  · split
    · rename_i he
      rw [List.isEmpty_iff.mp he] at key2
      have k3 : [strSub (Txt.join y l) 0 (Txt.join y l).length] = l := key2
      rw [sub_whole] at k3
      exact k3
    · rw [partsBetween_eq]
      exact key2
end Mine
end
section
open PySem PySem.W PyProof.Rows PySem.Calls
set_option Elab.async false
set_option maxRecDepth 100000
namespace Mine
open StrLaws Builtin Builtin.Str
theorem mem_joinC {y : List Nat} {c : Nat} : ∀ {l : List (List Nat)}, c ∈ joinC y l → c ∈ y ∨ ∃ p ∈ l, c ∈ p
  | [], h => nomatch h
  | [p], h => .inr ⟨p, .head _, h⟩
  | p :: q :: r, h => by
    have h' : c ∈ p ++ (y ++ joinC y (q :: r)) := h
    rcases List.mem_append.mp h' with h1 | h1
    · exact .inr ⟨p, .head _, h1⟩
    · rcases List.mem_append.mp h1 with h2 | h2
      · exact .inl h2
      · rcases mem_joinC h2 with h3 | ⟨z, hz, h3⟩
        · exact .inl h3
        · exact .inr ⟨z, .tail _ hz, h3⟩
theorem sl_codes : (Str.ofString "/").cps.toList = [47] := by decide +kernel
theorem co_codes : (Str.ofString ":").cps.toList = [58] := by decide +kernel
theorem px_codes : (Str.ofString "\n    ").cps.toList = 10 :: [32, 32, 32, 32] := by decide +kernel
theorem sl_kind : strKind (Str.ofString "/") = 1 := by decide +kernel
theorem co_kind : strKind (Str.ofString ":") = 1 := by decide +kernel
theorem px_kind : strKind (Str.ofString "\n    ") = 1 := by decide +kernel
theorem w_free : ∀ x ∈ WORDS, 47 ∉ x.cps.toList ∧ 58 ∉ x.cps.toList ∧ 10 ∉ x.cps.toList := by decide +kernel
theorem TX_free {b : List Str} (hb : ∀ x ∈ b, x ∈ WORDS) {c : Nat} (h : c ∈ (TX b).cps.toList) : c = 47 ∨ ∃ x ∈ WORDS, c ∈ x.cps.toList := by
  have h' : c ∈ joinC (Str.ofString "/").cps.toList (b.map (·.cps.toList)) := by rw [← joined_codes]; exact h
  rw [sl_codes] at h'
  rcases mem_joinC h' with q | ⟨p, hp, q⟩
  · exact .inl (List.mem_singleton.mp q)
  · obtain ⟨x, hx, rfl⟩ := List.mem_map.mp hp
    exact .inr ⟨x, hb x hx, q⟩
theorem TX_58 {b : List Str} (hb : ∀ x ∈ b, x ∈ WORDS) : 58 ∉ (TX b).cps.toList := fun h => by
  rcases TX_free hb h with q | ⟨x, hx, q⟩
  · cases q
  · exact (w_free x hx).2.1 q
theorem TX_10 {b : List Str} (hb : ∀ x ∈ b, x ∈ WORDS) : 10 ∉ (TX b).cps.toList := fun h => by
  rcases TX_free hb h with q | ⟨x, hx, q⟩
  · cases q
  · exact (w_free x hx).2.2 q
theorem split_TX {b : List Str} (hn : b ≠ []) (hb : ∀ x ∈ b, x ∈ WORDS) : Txt.split (TX b) (Str.ofString "/") = b :=
  split_join sl_codes sl_kind hn fun p hp => (w_free p (hb p hp)).1
theorem pl_kept0 {bs : List (List Str)} (hb : ∀ b ∈ bs, Bits b ∧ rooted b = true) : (Txt.join (Str.ofString ":") (bs.map TX)).length = 0 → bs = [] := by
  intro h
  cases bs with
  | nil => rfl
  | cons b r =>
    exfalso
    have e : (Txt.join (Str.ofString ":") ((b :: r).map TX)).cps.toList = [] := by
      apply List.eq_nil_of_length_eq_zero
      rw [Array.length_toList]
      exact h
    rw [joined_codes] at e
    have hr := (hb b (.head _)).2
    unfold rooted at hr
    have hl : 1 < b.length := by
      rw [Bool.and_eq_true, decide_eq_true_eq] at hr
      exact hr.1
    have e2 : (TX b).cps.toList = [] := by
      cases r with
      | nil => exact e
      | cons q r => exact (List.append_eq_nil_iff.mp e).1
    have e3 : joinC (Str.ofString "/").cps.toList (b.map (·.cps.toList)) = [] := by rw [← joined_codes]; exact e2
    rw [sl_codes] at e3
    match b, hl with
    | x :: y :: t, _ =>
      have := (List.append_eq_nil_iff.mp e3).2
      cases this
theorem pl_kept {bs : List (List Str)} (hb : ∀ b ∈ bs, Bits b ∧ rooted b = true) : (Txt.join (Str.ofString ":") (bs.map TX)).length ≠ 0 → Txt.split (Txt.join (Str.ofString ":") (bs.map TX)) (Str.ofString ":") = bs.map TX := by
  intro h
  refine split_join co_codes co_kind ?_ fun p hp => ?_
  · intro q
    rw [q] at h
    exact h rfl
  · obtain ⟨b, hm, rfl⟩ := List.mem_map.mp hp
    exact TX_58 (hb b hm).1.2.2
def orE (l : List Str) : List Str := if l = [] then [Str.ofString ""] else l
theorem pl_slash {b : List Str} (hb : Bits b) : Txt.startswith (TX b) (Str.ofString "/") = rooted b := by
  have e1 : (Str.ofString "/").length = 1 := by decide +kernel
  have key : Txt.startswith (TX b) (Str.ofString "/") = ((TX b).cps.toList[0]? == some 47) := by
    unfold Txt.startswith
    rw [subAt_eq, e1, sl_codes, List.drop_zero]
    show (decide (0 + 1 ≤ (TX b).cps.size) && _) = _
    rw [← Array.length_toList]
    cases (TX b).cps.toList with
    | nil => rfl
    | cons c r => simp
  rw [key]
  show ((Txt.join _ b).cps.toList[0]? == some 47) = _
  rw [joined_codes, sl_codes]
  have hw : ∀ x ∈ WORDS, (x = Str.ofString "" ∧ x.cps.toList = []) ∨ (x ≠ Str.ofString "" ∧ ∃ c r, x.cps.toList = c :: r ∧ c ≠ 47) := by
    intro x hx
    by_cases h : x = Str.ofString ""
    · exact .inl ⟨h, by rw [h]; decide +kernel⟩
    · refine .inr ⟨h, ?_⟩
      have hne : ∀ x ∈ WORDS, x ≠ Str.ofString "" → x.cps.toList ≠ [] := by decide +kernel
      cases e : x.cps.toList with
      | nil => exact absurd e (hne x hx h)
      | cons c r => exact ⟨c, r, rfl, fun q => (w_free x hx).1 (by rw [e, q]; exact .head _)⟩
  match b, hb with
  | [], hb => exact absurd hb.1 (by simp)
  | [x], hb =>
    show (x.cps.toList[0]? == some 47) = false
    rcases hw x (hb.2.2 x (.head _)) with ⟨_, h⟩ | ⟨_, c, r, h, hc⟩
    · rw [h]; rfl
    · rw [h]; simpa using hc
  | x :: y :: t, hb =>
    show ((x.cps.toList ++ ([47] ++ joinC [47] ((y :: t).map (·.cps.toList))))[0]? == some 47) = (x == Str.ofString "")
    rcases hw x (hb.2.2 x (.head _)) with ⟨h1, h⟩ | ⟨h1, c, r, h, hc⟩
    · rw [h, h1]; simp
    · rw [h]
      rw [show (x == Str.ofString "") = false from beq_false_of_ne h1]
      simpa using hc
end Mine
end
section
open PySem PySem.W PyProof.Rows PySem.Calls
set_option Elab.async false
set_option maxRecDepth 100000
namespace Mine
open StrLaws Builtin Builtin.Str
theorem codes_eq {a b : Str} (h : a.cps.toList = b.cps.toList) : a = b := by
  have := codes_inj (l := [a]) (l' := [b]) (by simpa using h)
  exact (List.cons.inj this).1
theorem cat_codes (a b : Str) : (a ++ b).cps.toList = a.cps.toList ++ b.cps.toList := by
  show (a.cps ++ b.cps).toList = _
  rw [Array.toList_append]
theorem msg_len {ts : List Str} (h : wS ts ≤ 700) : (msgF ts).length ≤ 5000 := by
  have h1 := wS_filter (fun x => !Txt.startswith x (Str.ofString "/")) ts
  have h2 := joinS_len' (sep := PX) (ss := ts.filter fun x => !Txt.startswith x (Str.ofString "/"))
  have h3 : PX.length = 5 := by decide +kernel
  have h4 : MH.length = 64 := by decide +kernel
  unfold msgF
  rw [Str.length_append, Str.length_append, h3, h4]
  rw [h3] at h2
  omega
theorem msg_join (fs : List Str) : MH ++ (PX ++ Txt.join PX fs) = Txt.join PX (MH :: orE fs) := by
  apply codes_eq
  rw [cat_codes, cat_codes, joined_codes, joined_codes]
  cases fs with
  | nil =>
    show MH.cps.toList ++ (PX.cps.toList ++ []) = MH.cps.toList ++ (PX.cps.toList ++ (Str.ofString "").cps.toList)
    rw [show (Str.ofString "").cps.toList = [] from by decide +kernel]
  | cons p r => rfl
theorem pl_msg {bs : List (List Str)} (hb : ∀ b ∈ bs, Bits b) : Txt.split (msgF (bs.map TX)) (Str.ofString "\n    ") = MH :: orE ((bs.filter (fun b => !rooted b)).map TX) := by
  have e : (bs.map TX).filter (fun x => !Txt.startswith x (Str.ofString "/")) = (bs.filter (fun b => !rooted b)).map TX := by
    rw [List.filter_map]
    congr 1
    apply List.filter_congr
    intro b hm
    show (!Txt.startswith (TX b) (Str.ofString "/")) = _
    rw [pl_slash (hb b hm)]
  unfold msgF
  rw [e, msg_join]
  refine split_join px_codes px_kind (by simp) fun p hp => ?_
  rcases List.mem_cons.mp hp with rfl | hp
  · decide +kernel
  · unfold orE at hp
    split at hp
    · rw [List.mem_singleton.mp hp]
      decide +kernel
    · obtain ⟨b, hm, rfl⟩ := List.mem_map.mp hp
      exact TX_10 (hb b (List.mem_filter.mp hm).1).2.2
theorem roots_ok {rl : List Str} (hr : rl ∈ ROOTS) : OkS rl ∧ wS rl ≤ 10 ∧ rl.length ≤ 2 := by
  have h1 : ∀ rl ∈ ROOTS, (∀ x ∈ rl, PyData.strOk x = true) ∧ wS rl ≤ 10 ∧ rl.length ≤ 2 := by decide +kernel
  exact h1 rl hr
theorem pl_B {rl : List Str} (hr : rl ∈ ROOTS) : (TX rl ++ Str.ofString "/").length ≤ 100 := by
  have h1 : ∀ rl ∈ ROOTS, (TX rl ++ Str.ofString "/").length ≤ 100 := by decide +kernel
  exact h1 rl hr
end Mine
end
section
open PySem PySem.W PyProof.Rows PySem.Calls
set_option Elab.async false
set_option maxRecDepth 100000
namespace Mine
def bad (b : List Str) : Bool := b.any (· == Str.ofString "") || b.any (· == Str.ofString ".") || (b.drop (leadUps b : Int).toNat).any (· == Str.ofString "..")
def proper (m rl : List Str) : Bool := decide (rl.length < m.length) && decide (m.take rl.length = rl)
def chk (b rl : List Str) : Bool :=
  rooted b || decide (b = [Str.ofString "."]) || (if bad b then decide (npLoop b ≠ b) else decide (npLoop b = b) && (proper (npLoop (rl ++ b)) rl == (dueEnd b rl (b.drop (leadUps b : Int).toNat)).isNone))
def ROOT5 : List (List Str) := [Str.ofString "_"] :: ROOTS
theorem chk1 : ∀ rl ∈ ROOT5, ∀ x ∈ WORDS, chk [x] rl = true := by decide +kernel
theorem chk2 : ∀ rl ∈ ROOT5, ∀ x ∈ WORDS, ∀ y ∈ WORDS, chk [x, y] rl = true := by decide +kernel
theorem chk3 : ∀ rl ∈ ROOT5, ∀ x ∈ WORDS, ∀ y ∈ WORDS, ∀ z ∈ WORDS, chk [x, y, z] rl = true := by decide +kernel
theorem chk4 : ∀ x ∈ WORDS, ∀ y ∈ WORDS, ∀ z ∈ WORDS, ∀ u ∈ WORDS, ROOT5.all (chk [x, y, z, u]) = true := by decide +kernel
theorem chk_all {b rl : List Str} (hb : Bits b) (hr : rl ∈ ROOT5) : chk b rl = true := by
  obtain ⟨h1, h2, h3⟩ := hb
  match b, h1, h2, h3 with
  | [x], _, _, h => exact chk1 rl hr x (h x (by simp))
  | [x, y], _, _, h => exact chk2 rl hr x (h x (by simp)) y (h y (by simp))
  | [x, y, z], _, _, h => exact chk3 rl hr x (h x (by simp)) y (h y (by simp)) z (h z (by simp))
  | [x, y, z, u], _, _, h => exact List.all_eq_true.mp (chk4 x (h x (by simp)) y (h y (by simp)) z (h z (by simp)) u (h u (by simp))) rl hr
  | [], h, _, _ => exact absurd h (by simp)
  | _ :: _ :: _ :: _ :: _ :: _, _, h, _ => exact absurd h (by simp)
theorem pl_ok {b : List Str} (hb : Bits b) : PyData.strOk (TX b) = true := by
  show (TX b).cps.all (· < 0x110000) = true
  rw [← Array.all_toList, List.all_eq_true]
  intro c hc
  have hw : ∀ x ∈ WORDS, ∀ c ∈ x.cps.toList, c < 0x110000 := by decide +kernel
  rcases TX_free hb.2.2 hc with q | ⟨x, hx, q⟩
  · subst q; decide
  · exact decide_eq_true (hw x hx c q)
end Mine
end
section
open PySem PySem.W PyProof.Rows PySem.Calls
set_option Elab.async false
set_option maxRecDepth 100000
namespace Mine
open StrLaws Builtin Builtin.Str
theorem step_w (acc : List Str) (c : Str) : npStep acc c = acc ++ [c] ∨ wS (npStep acc c) ≤ wS acc := by
  unfold npStep
  split
  · exact .inr (Nat.le_refl _)
  · split
    · exact .inl rfl
    · refine .inr ?_
      rcases snoc_cases acc with e | ⟨us, y, e⟩
      · subst e
        exact Nat.le_refl _
      · subst e
        rw [List.dropLast_concat, wS_append]
        omega
theorem np_dich : ∀ (b acc : List Str), b.foldl npStep acc = acc ++ b ∨ wS (b.foldl npStep acc) < wS acc + wS b
  | [], acc => .inl (by simp)
  | c :: r, acc => by
    rw [List.foldl_cons, wS_cons]
    rcases step_w acc c with e | e
    · rw [e]
      rcases np_dich r (acc ++ [c]) with h | h
      · exact .inl (by rw [h]; simp)
      · rw [wS_append, wS_cons, wS_nil] at h
        exact .inr (by omega)
    · rcases np_dich r (npStep acc c) with h | h
      · rw [h, wS_append]
        exact .inr (by omega)
      · exact .inr (by omega)
theorem np_mem : ∀ (b acc : List Str), ∀ x ∈ b.foldl npStep acc, x ∈ acc ∨ x ∈ b
  | [], acc, x, h => .inl h
  | c :: r, acc, x, h => by
    rcases np_mem r (npStep acc c) x h with h1 | h1
    · unfold npStep at h1
      split at h1
      · exact .inl h1
      · split at h1
        · rcases List.mem_append.mp h1 with q | q
          · exact .inl q
          · rw [List.mem_singleton.mp q]; exact .inr (.head _)
        · exact .inl (List.dropLast_subset _ h1)
    · exact .inr (.tail _ h1)
theorem joinC_len : ∀ {l : List (List Nat)}, l ≠ [] → (joinC [47] l).length + 1 = (l.map (·.length)).sum + l.length
  | [], h => absurd rfl h
  | [p], _ => by simp [joinC]
  | p :: q :: r, _ => by
    have ih := joinC_len (l := q :: r) (by simp)
    show (p ++ ([47] ++ joinC [47] (q :: r))).length + 1 = _
    rw [List.length_append, List.length_append, List.map_cons, List.sum_cons]
    simp only [List.length_cons, List.length_nil] at ih ⊢
    omega
theorem TX_len {l : List Str} (h : l ≠ []) : (TX l).length + 1 = wS l := by
  show (TX l).cps.size + 1 = _
  rw [← Array.length_toList]
  show (Txt.join _ l).cps.toList.length + 1 = _
  rw [joined_codes, sl_codes, joinC_len (by simpa using h)]
  unfold wS
  rw [List.map_map, List.length_map]
  congr 1
theorem norm_TX {b : List Str} (hn : b ≠ []) (hb : ∀ x ∈ b, x ∈ WORDS) : normJ (TX b) = TX (npLoop b) := by
  unfold normJ
  rw [split_TX hn hb]
  rfl
theorem loop_mem {b : List Str} {x : Str} (h : x ∈ npLoop b) : x ∈ b := by
  rcases np_mem b [] x h with q | q
  · cases q
  · exact q
theorem loop_w (b : List Str) : npLoop b = b ∨ wS (npLoop b) < wS b := by
  rcases np_dich b [] with h | h
  · exact .inl h
  · exact .inr (by rw [wS_nil] at h; unfold npLoop; omega)
theorem pl_H {bl : List Str} (hb : Bits bl) : (TX bl).length ≤ 200 ∧ (normF (TX bl)).length ≤ 1000 := by
  refine ⟨Nat.le_trans hb.len (by decide), ?_⟩
  have hn : bl ≠ [] := fun e => by have := hb.1; rw [e] at this; simp at this
  have hd : (Str.ofString ".").length = 1 := by decide +kernel
  unfold normF
  split
  · omega
  · split
    · omega
    · rw [norm_TX hn hb.2.2]
      have h1 := loop_w bl
      have h2 := hb.wS
      have h3 := joinS_len (sep := Str.ofString "/") (ss := npLoop bl) (by decide +kernel)
      have h4 : wS (npLoop bl) ≤ 16 := by
        rcases h1 with h | h
        · rw [h]; exact h2
        · omega
      show (Txt.join _ _).length ≤ _
      omega
end Mine
end
section
open PySem PySem.W PyProof.Rows PySem.Calls
set_option Elab.async false
set_option maxRecDepth 100000
namespace Mine
open StrLaws Builtin Builtin.Str
theorem sw1 (x : Str) : Txt.startswith x (Str.ofString "/") = (x.cps.toList[0]? == some 47) := by
  have e1 : (Str.ofString "/").length = 1 := by decide +kernel
  unfold Txt.startswith
  rw [subAt_eq, e1, sl_codes, List.drop_zero]
  show (decide (0 + 1 ≤ x.cps.size) && _) = _
  rw [← Array.length_toList]
  cases x.cps.toList with
  | nil => rfl
  | cons c r => simp
theorem slice_idx (n : Nat) : strSliceIndices none (some 1) 1 n = strSliceIndices (some ((0 : Nat) : Int)) (some ((1 : Nat) : Int)) 1 n := by
  unfold strSliceIndices
  have e : max (0 : Int) (min 0 (n : Int)) = 0 := by omega
  simp [e]
theorem slice_ne {x : Str} (h : Txt.startswith x (Str.ofString "/") = false) : (Txt.slice x none (some 1) != Str.ofString "/") = true := by
  rw [bne_iff_ne]
  intro e
  have e1 : (Str.ofString "/").length = 1 := by decide +kernel
  have hx : 1 ≤ x.length := by
    have := Txt.slice_le x none (some 1)
    rw [e, e1] at this
    exact this
  unfold Txt.slice at e
  split at e
  · rw [e] at h
    revert h
    decide +kernel
  · have k := congrArg (fun z : Str => z.cps.toList) e
    dsimp only at k
    rw [sl_codes, slice_idx, sliced_plain x (by decide) hx] at k
    rw [sw1] at h
    cases q : x.cps.toList with
    | nil => rw [q] at k; cases k
    | cons c r =>
      rw [q] at k h
      have hc : c = 47 := by
        have : [c] = [47] := k
        exact (List.cons.inj this).1
      rw [hc] at h
      simp at h
end Mine
end
section
open PySem PySem.W PyProof.Rows PySem.Calls
set_option Elab.async false
set_option maxRecDepth 100000
namespace Mine
open StrLaws Builtin Builtin.Str
theorem pre_cons {c : Nat} : ∀ {r p s t : List Nat}, c ∉ r → c ∉ p → ((r ++ c :: s) <+: (p ++ c :: t) ↔ r = p ∧ s <+: t)
  | [], [], s, t, _, _ => by simp
  | [], d :: p, s, t, _, h => by
    simp only [List.nil_append, List.cons_append, List.cons_prefix_cons, List.mem_cons, not_or] at h ⊢
    constructor
    · intro q; exact absurd q.1 h.1
    · intro q; exact absurd q.1 (by simp)
  | d :: r, [], s, t, h, _ => by
    simp only [List.nil_append, List.cons_append, List.cons_prefix_cons, List.mem_cons, not_or] at h ⊢
    constructor
    · intro q; exact absurd q.1.symm h.1
    · intro q; exact absurd q.1 (by simp)
  | d :: r, e :: p, s, t, h, h' => by
    simp only [List.cons_append, List.cons_prefix_cons, List.mem_cons, not_or] at h h' ⊢
    rw [pre_cons h.2 h'.2, List.cons.injEq, and_assoc]
theorem pre_in {c : Nat} {r s p : List Nat} (h : (r ++ c :: s) <+: p) : c ∈ p := h.subset (List.mem_append_right _ (.head _))
theorem pre_join : ∀ (rl m : List (List Nat)), rl ≠ [] → (∀ p ∈ rl, 47 ∉ p) → (∀ p ∈ m, 47 ∉ p) → ((joinC [47] rl ++ [47]) <+: joinC [47] m ↔ rl.length < m.length ∧ m.take rl.length = rl)
  | [], _, h, _, _ => absurd rfl h
  | r :: rl, [], _, _, _ => by
    constructor
    · intro h
      have := h.length_le
      simp [joinC] at this
    · intro h; exact absurd h.1 (by simp)
  | r :: rl, [p], _, _, hm => by
    constructor
    · intro h
      exfalso
      exact hm p (.head _) (h.subset (List.mem_append_right _ (.head _)))
    · intro h; exact absurd h.1 (by simp)
  | [r], p :: q :: t, _, hr, hm => by
    show ((r ++ 47 :: []) <+: (p ++ 47 :: joinC [47] (q :: t))) ↔ _
    rw [pre_cons (hr r (.head _)) (hm p (.head _))]
    simp
    exact eq_comm
  | r :: r2 :: rl, p :: q :: t, _, hr, hm => by
    have ih := pre_join (r2 :: rl) (q :: t) (by simp) (fun z hz => hr z (.tail _ hz)) (fun z hz => hm z (.tail _ hz))
    show ((r ++ (47 :: joinC [47] (r2 :: rl)) ++ [47]) <+: (p ++ 47 :: joinC [47] (q :: t))) ↔ _
    rw [List.append_assoc, List.cons_append, pre_cons (hr r (.head _)) (hm p (.head _)), ih]
    simp only [List.length_cons, List.take_succ_cons, List.cons.injEq]
    constructor
    · rintro ⟨rfl, h1, h2⟩
      exact ⟨by omega, rfl, h2⟩
    · rintro ⟨h1, rfl, h2⟩
      exact ⟨rfl, by omega, h2⟩
end Mine
end
section
open PySem PySem.W PyProof.Rows PySem.Calls
set_option Elab.async false
set_option maxRecDepth 100000
namespace Mine
open StrLaws Builtin Builtin.Str
theorem sw_pre (x y : Str) : Txt.startswith x y = true ↔ y.cps.toList <+: x.cps.toList := by
  unfold Txt.startswith
  rw [subAt_eq, List.drop_zero, Bool.and_eq_true, decide_eq_true_eq, beq_iff_eq]
  have e : y.length = y.cps.toList.length := by rw [Array.length_toList]; rfl
  have e' : x.length = x.cps.toList.length := by rw [Array.length_toList]; rfl
  rw [e, e', List.prefix_iff_eq_take]
  constructor
  · intro h; exact h.2.symm
  · intro h
    refine ⟨?_, h.symm⟩
    have := congrArg List.length h
    rw [List.length_take] at this
    omega
theorem sw_TX {m rl : List Str} (hn : rl ≠ []) (h1 : ∀ p ∈ rl, 47 ∉ p.cps.toList) (h2 : ∀ p ∈ m, 47 ∉ p.cps.toList) : Txt.startswith (TX m) (TX rl ++ Str.ofString "/") = proper m rl := by
  rw [Bool.eq_iff_iff, sw_pre, cat_codes, sl_codes]
  show ((Txt.join _ rl).cps.toList ++ [47] <+: (Txt.join _ m).cps.toList) ↔ _
  rw [joined_codes, joined_codes, sl_codes, pre_join _ _ (by simpa using hn) (fun p hp => by
    obtain ⟨q, hq, rfl⟩ := List.mem_map.mp hp
    exact h1 q hq) (fun p hp => by
    obtain ⟨q, hq, rfl⟩ := List.mem_map.mp hp
    exact h2 q hq)]
  unfold proper
  rw [Bool.and_eq_true, decide_eq_true_eq, decide_eq_true_eq, List.length_map, List.length_map, ← List.map_take]
  constructor
  · rintro ⟨a, b⟩
    exact ⟨a, codes_inj b⟩
  · rintro ⟨a, b⟩
    exact ⟨a, by rw [b]⟩
theorem TX_app {rl b : List Str} (hr : rl ≠ []) (hb : b ≠ []) : TX rl ++ (Str.ofString "/") ++ TX b = TX (rl ++ b) := by
  apply codes_eq
  rw [cat_codes, cat_codes, sl_codes]
  show (Txt.join _ rl).cps.toList ++ [47] ++ (Txt.join _ b).cps.toList = (Txt.join _ (rl ++ b)).cps.toList
  rw [joined_codes, joined_codes, joined_codes, sl_codes, List.map_append]
  have hb' : b.map (·.cps.toList) ≠ [] := by simpa using hb
  have hr' : rl.map (·.cps.toList) ≠ [] := by simpa using hr
  generalize b.map (·.cps.toList) = B at hb'
  generalize rl.map (·.cps.toList) = R at hr'
  clear hb hr
  induction R with
  | nil => exact absurd rfl hr'
  | cons r R ih =>
    cases R with
    | nil =>
      cases B with
      | nil => exact absurd rfl hb'
      | cons q B => simp [joinC]
    | cons r2 R =>
      have := ih (by simp)
      show (r ++ ([47] ++ joinC [47] (r2 :: R))) ++ [47] ++ joinC [47] B = r ++ ([47] ++ joinC [47] (r2 :: (R ++ B)))
      have e : joinC [47] (r2 :: (R ++ B)) = joinC [47] (r2 :: R) ++ [47] ++ joinC [47] B := this.symm
      rw [e]
      simp
end Mine
end
section
open PySem PySem.W PyProof.Rows PySem.Calls
set_option Elab.async false
set_option maxRecDepth 100000
namespace Mine
open StrLaws Builtin Builtin.Str
def wchk (b : List Str) : Bool := rooted b || decide (b = [Str.ofString "."]) || (if bad b then decide (wS b ≠ 2) else decide (wS b ≠ 1))
theorem wchk1 : ∀ x ∈ WORDS, wchk [x] = true := by decide +kernel
theorem wchk2 : ∀ x ∈ WORDS, ∀ y ∈ WORDS, wchk [x, y] = true := by decide +kernel
theorem wchk_all {b : List Str} (hb : Bits b) : wchk b = true := by
  obtain ⟨h1, h2, h3⟩ := hb
  match b, h1, h3 with
  | [x], _, h => exact wchk1 x (h x (by simp))
  | [x, y], _, h => exact wchk2 x (h x (by simp)) y (h y (by simp))
  | x :: y :: z :: t, _, h =>
    have e : 3 ≤ wS (x :: y :: z :: t) := by rw [wS_cons, wS_cons, wS_cons]; omega
    unfold wchk
    rw [Bool.or_eq_true]
    refine .inr ?_
    split <;> exact decide_eq_true (by omega)
  | [], h, _ => exact absurd h (by simp)
theorem dot_R : ∀ rl ∈ ROOT5, doneF (TX rl ++ Str.ofString "/") (TX [Str.ofString "."]) = dueF [Str.ofString "."] rl := by decide +kernel
theorem root_facts : ∀ rl ∈ ROOT5, rl ≠ [] ∧ (∀ x ∈ rl, x ∈ WORDS) ∧ (TX rl ++ Str.ofString "/").length ≠ 0 ∧ Txt.endswith (TX rl ++ Str.ofString "/") (Str.ofString "/") = true ∧ Txt.startswith (Str.ofString ".") (TX rl ++ Str.ofString "/") = false ∧ Txt.startswith Str.empty (TX rl ++ Str.ofString "/") = false := by decide +kernel
theorem m1 : M1 = D1 := Str.empty_append _
theorem m2 : M2 = D2 := Str.empty_append _
theorem m3 : M3 = D3 := Str.empty_append _
theorem len0 {x : Str} (h : x.length = 0) : x = Str.empty := codes_eq (by
  have : x.cps.toList = [] := List.eq_nil_of_length_eq_zero (by rw [Array.length_toList]; exact h)
  rw [this]; rfl)
theorem sw_norm {m rl : List Str} (hr : rl ∈ ROOT5) (hm : ∀ x ∈ m, x ∈ WORDS) {z : Str} (hz : z.length ≠ 0) (hj : normJ z = TX m) : Txt.startswith (normF z) (TX rl ++ Str.ofString "/") = proper m rl := by
  obtain ⟨f1, f2, f3, f4, f5, f6⟩ := root_facts rl hr
  have key := sw_TX (m := m) f1 (fun p hp => (w_free p (f2 p hp)).1) (fun p hp => (w_free p (hm p hp)).1)
  unfold normF
  rw [if_neg hz, hj]
  split
  · rename_i h0
    rw [f5, ← key, len0 h0, f6]
  · exact key
theorem join_base {rl b : List Str} (hr : rl ∈ ROOT5) (hb : b ≠ []) (hs : Txt.startswith (TX b) (Str.ofString "/") = false) : joinF (TX rl ++ Str.ofString "/") (TX b) = TX (rl ++ b) := by
  obtain ⟨f1, f2, f3, f4, f5, f6⟩ := root_facts rl hr
  unfold joinF
  rw [if_neg (by rw [hs]; decide), if_neg (by omega), if_pos f4, TX_app f1 hb]
end Mine
end
section
open PySem PySem.W PyProof.Rows PySem.Calls
set_option Elab.async false
set_option maxRecDepth 100000
namespace Mine
open StrLaws Builtin Builtin.Str
theorem pl_5 {b rl : List Str} (hb : Bits b) (hr : rl ∈ ROOT5) : doneF (TX rl ++ Str.ofString "/") (TX b) = dueF b rl := by
  have hsw := pl_slash hb
  have hn : b ≠ [] := fun e => by have := hb.1; rw [e] at this; simp at this
  rcases Bool.eq_false_or_eq_true (rooted b) with hro | hro
  · rw [done1 (hsw.trans hro), due_1 hro, m1]
  by_cases hd : b = [Str.ofString "."]
  · subst hd
    exact dot_R rl hr
  have hc := chk_all hb hr
  have hw := wchk_all hb
  unfold chk at hc
  unfold wchk at hw
  rw [hro, Bool.false_or, decide_eq_false hd, Bool.false_or] at hc hw
  have hs := hsw.trans hro
  have hlen := TX_len hn
  rcases Bool.eq_false_or_eq_true (bad b) with hbad | hbad
  · rw [if_pos hbad] at hc hw
    have hne := of_decide_eq_true hc
    have hw2 := of_decide_eq_true hw
    have hlt := (loop_w b).resolve_left hne
    have h1 : (Str.ofString ".").length = 1 := by decide +kernel
    have hnl : (normF (TX b)).length ≠ (TX b).length := by
      unfold normF
      split
      · omega
      · split
        · omega
        · rename_i h0 h2
          rw [norm_TX hn hb.2.2] at h2 ⊢
          have hm : npLoop b ≠ [] := fun e => h2 (by rw [e]; rfl)
          have := TX_len hm
          omega
    rw [done2 hs hnl, m2]
    unfold bad at hbad
    rcases Bool.eq_false_or_eq_true (b.any (· == Str.ofString "")) with q1 | q1
    · rw [due_2 hro hd q1]
    rcases Bool.eq_false_or_eq_true (b.any (· == Str.ofString ".")) with q2 | q2
    · rw [due_3 hro hd q1 q2]
    · rw [q1, q2, Bool.false_or, Bool.false_or] at hbad
      rw [due_4 hro hd q1 q2 hbad]
  · rw [if_neg (by rw [hbad]; decide)] at hc hw
    rw [Bool.and_eq_true, decide_eq_true_eq, beq_iff_eq] at hc
    obtain ⟨hnp, hpr⟩ := hc
    have hw1 := of_decide_eq_true hw
    have hx0 : (TX b).length ≠ 0 := by omega
    have hj : normJ (TX b) = TX b := by rw [norm_TX hn hb.2.2, hnp]
    have hnf : normF (TX b) = TX b := by
      unfold normF
      rw [if_neg hx0, hj, if_neg hx0]
    unfold bad at hbad
    rw [Bool.or_eq_false_iff, Bool.or_eq_false_iff] at hbad
    rw [due_b hro hd hbad.1.1 hbad.1.2 hbad.2]
    obtain ⟨f1, f2, f3, f4, f5, f6⟩ := root_facts rl hr
    have hrb : rl ++ b ≠ [] := by simp [hn]
    have hmem : ∀ x ∈ rl ++ b, x ∈ WORDS := fun x hx => (List.mem_append.mp hx).elim (f2 x) (hb.2.2 x)
    have hok : okF (TX rl ++ Str.ofString "/") (TX b) = proper (npLoop (rl ++ b)) rl := by
      unfold okF
      rw [hnf, join_base hr hn hs]
      have hz := TX_len hrb
      refine sw_norm hr (fun x hx => hmem x (loop_mem hx)) ?_ (norm_TX hrb hmem)
      have h2 : wS (rl ++ b) = wS rl + wS b := wS_append _ _
      omega
    rw [hpr] at hok
    cases hdue : dueEnd b rl (b.drop (leadUps b : Int).toNat) with
    | none =>
      rw [hdue] at hok
      exact done3 hs (by rw [hnf]) hok
    | some y =>
      rw [hdue] at hok
      rw [done4 hs (by rw [hnf]) hok, m3]
      have : dueEnd b rl (b.drop (leadUps b : Int).toNat) = none ∨ dueEnd b rl (b.drop (leadUps b : Int).toNat) = some (D3 ++ TX b) := by
        unfold dueEnd
        split
        · split
          · split
            · exact .inl rfl
            · exact .inr rfl
          · exact .inr rfl
        · exact .inr rfl
      rcases this with q | q
      · rw [q] at hdue; cases hdue
      · rw [q] at hdue; exact hdue
theorem pl_R {bl rl : List Str} (hb : Bits bl) (hr : rl ∈ ROOTS) : doneF (TX rl ++ Str.ofString "/") (TX bl) = dueF bl rl := pl_5 hb (.tail _ hr)
theorem pl_N {bl : List Str} (hb : Bits bl) : doneF (Str.ofString "_/") (TX bl) = dueF bl [Str.ofString "_"] := by
  have e : Str.ofString "_/" = TX [Str.ofString "_"] ++ Str.ofString "/" := by decide +kernel
  rw [e]
  exact pl_5 hb (.head _)
end Mine
end
section
open PySem PySem.W PyProof.Rows PySem.Calls
set_option Elab.async false
set_option maxRecDepth 100000
namespace Mine
open StrLaws Builtin Builtin.Str
theorem np_ne : ∀ (b acc : List Str), (∀ x ∈ acc, x.length ≠ 0) → ∀ x ∈ b.foldl npStep acc, x.length ≠ 0
  | [], acc, h, x, hx => h x hx
  | c :: r, acc, h, x, hx => by
    refine np_ne r (npStep acc c) (fun z hz => ?_) x hx
    unfold npStep at hz
    split at hz
    · exact h z hz
    · rename_i hc
      split at hz
      · rcases List.mem_append.mp hz with q | q
        · exact h z q
        · rw [List.mem_singleton.mp q]; exact fun e => hc (.inl e)
      · exact h z (List.dropLast_subset _ hz)
theorem head_ne {p : Str} (hp : p ∈ WORDS) (h0 : p.length ≠ 0) : ∃ c r, p.cps.toList = c :: r ∧ c ≠ 47 := by
  cases e : p.cps.toList with
  | nil => exact absurd (by show p.cps.size = 0; rw [← Array.length_toList, e]; rfl) h0
  | cons c r => exact ⟨c, r, rfl, fun q => (w_free p hp).1 (by rw [e, q]; exact .head _)⟩
theorem sw_no {m : List Str} (h : ∀ x ∈ m, x ∈ WORDS ∧ x.length ≠ 0) : Txt.startswith (TX m) (Str.ofString "/") = false := by
  rw [sw1]
  show ((Txt.join _ m).cps.toList[0]? == some 47) = false
  rw [joined_codes, sl_codes]
  match m, h with
  | [], _ => rfl
  | [p], h =>
    obtain ⟨c, r, e, hc⟩ := head_ne (h p (.head _)).1 (h p (.head _)).2
    show (p.cps.toList[0]? == some 47) = false
    rw [e]; simpa using hc
  | p :: q :: t, h =>
    obtain ⟨c, r, e, hc⟩ := head_ne (h p (.head _)).1 (h p (.head _)).2
    show ((p.cps.toList ++ ([47] ++ joinC [47] ((q :: t).map (·.cps.toList))))[0]? == some 47) = false
    rw [e]; simpa using hc
theorem norm_no {b : List Str} (hb : Bits b) : Txt.startswith (normF (TX b)) (Str.ofString "/") = false := by
  have hn : b ≠ [] := fun e => by have := hb.1; rw [e] at this; simp at this
  have hd : Txt.startswith (Str.ofString ".") (Str.ofString "/") = false := by decide +kernel
  unfold normF
  split
  · exact hd
  · split
    · exact hd
    · rw [norm_TX hn hb.2.2]
      exact sw_no fun x hx => ⟨hb.2.2 x (loop_mem hx), np_ne b [] (fun _ h => nomatch h) x hx⟩
theorem base_head : ∀ rl ∈ ROOT5, (TX rl ++ Str.ofString "/").cps.toList ≠ [] ∧ (TX rl ++ Str.ofString "/").cps.toList[0]? ≠ some 47 ∧ (TX rl ++ Str.ofString "/").length ≤ 100 := by decide +kernel
theorem pl_S5 {b rl : List Str} (hb : Bits b) (hr : rl ∈ ROOT5) (hs : Txt.startswith (TX b) (Str.ofString "/") = false) : (Txt.slice (TX b) none (some 1) != Str.ofString "/") = true ∧ (joinF (TX rl ++ Str.ofString "/") (normF (TX b))).length ≤ 4000 ∧ (Txt.slice (joinF (TX rl ++ Str.ofString "/") (normF (TX b))) none (some 1) != Str.ofString "/") = true := by
  obtain ⟨f1, f2, f3, f4, f5, f6⟩ := root_facts rl hr
  obtain ⟨g1, g2, g3⟩ := base_head rl hr
  have e : joinF (TX rl ++ Str.ofString "/") (normF (TX b)) = (TX rl ++ Str.ofString "/") ++ normF (TX b) := by
    unfold joinF
    rw [if_neg (by rw [norm_no hb]; decide), if_neg (by omega), if_pos f4]
  have h2 := (pl_H hb).2
  rw [e]
  refine ⟨slice_ne hs, by rw [Str.length_append]; omega, slice_ne ?_⟩
  rw [sw1, cat_codes]
  cases q : (TX rl ++ Str.ofString "/").cps.toList with
  | nil => exact absurd q g1
  | cons c r =>
    rw [q] at g2
    simpa using g2
theorem pl_SR {bl rl : List Str} (hb : Bits bl) (hr : rl ∈ ROOTS) (hs : Txt.startswith (TX bl) (Str.ofString "/") = false) : (Txt.slice (TX bl) none (some 1) != Str.ofString "/") = true ∧ (joinF (TX rl ++ Str.ofString "/") (normF (TX bl))).length ≤ 4000 ∧ (Txt.slice (joinF (TX rl ++ Str.ofString "/") (normF (TX bl))) none (some 1) != Str.ofString "/") = true := pl_S5 hb (.tail _ hr) hs
theorem pl_SN {bl : List Str} (hb : Bits bl) (hs : Txt.startswith (TX bl) (Str.ofString "/") = false) : (Txt.slice (TX bl) none (some 1) != Str.ofString "/") = true ∧ (joinF (Str.ofString "_/") (normF (TX bl))).length ≤ 4000 ∧ (Txt.slice (joinF (Str.ofString "_/") (normF (TX bl))) none (some 1) != Str.ofString "/") = true := by
  have e : Str.ofString "_/" = TX [Str.ofString "_"] ++ Str.ofString "/" := by decide +kernel
  rw [e]
  exact pl_S5 hb (.head _) hs
end Mine
end
section
open PySem PySem.W PyProof.Rows PySem.Calls
set_option Elab.async false
set_option maxRecDepth 100000
set_option maxHeartbeats 1000000
namespace Mine
theorem reset_17 : True := by
  w_top off
  trivial
local macro_rules | `(tactic| k_room) => `(tactic| ktr_room)
local macro_rules | `(tactic| k_units) => `(tactic| ktr_units)
local macro_rules | `(tactic| units_room) => `(tactic| ktr_units)
local macro_rules | `(tactic| walk_at "my enterP") => `(tactic| (refine' enterP ?k3 ?k5 ?k6 ?kL ?kM ?kN ?k7 ?k8 ?k9 ?kB ?_ ?c2 ?c3 ?c4 ?c5; (case k3 => k_asm); (case k5 => k_asm); (case k6 => k_is); (case kL => ((conv => lhs; whnf); (try exact rfl))); (case kM => ((conv => lhs; whnf); (try exact rfl))); (case kN => ((conv => lhs; whnf); (try exact rfl))); (case k7 => k_is); (case k8 => ktr_room); (case k9 => first | exact BindsTo.of_eq rfl | exact binds_K (by k_asm) rfl (by k_is) rfl rfl rfl); (case c5 => decide); (case kB => exact locs rfl); (case c2 => exact rfl); (case c3 => exact rfl); (case c4 => exact rfl); k_whole))
local macro_rules | `(tactic| walk_at "my enterA") => `(tactic| (refine' enterA ?k3 ?k5 ?k6 ?kL ?kM ?kN ?k7 ?k8 ?k9 ?kB ?_ ?c2 ?c3 ?c4 ?c5; (case k3 => k_asm); (case k5 => k_asm); (case k6 => k_is); (case kL => ((conv => lhs; whnf); (try exact rfl))); (case kM => ((conv => lhs; whnf); (try exact rfl))); (case kN => ((conv => lhs; whnf); (try exact rfl))); (case k7 => k_is); (case k8 => ktr_room); (case k9 => first | exact BindsTo.of_eq rfl | exact binds_K (by k_asm) rfl (by k_is) rfl rfl rfl); (case c5 => decide); (case kB => exact locs rfl); (case c2 => exact rfl); (case c3 => exact rfl); (case c4 => exact rfl); k_whole))
local macro_rules | `(tactic| walk_at "my enterR") => `(tactic| (refine' enterR ?k3 ?k5 ?k6 ?kL ?kM ?kN ?k7 ?k8 ?kP ?kG ?kB ?_ ?c2 ?c3 ?c4 ?c5; (case k3 => k_asm); (case k5 => k_asm); (case k6 => k_is); (case kL => ((conv => lhs; whnf); (try exact rfl))); (case kM => ((conv => lhs; whnf); (try exact rfl))); (case kN => ((conv => lhs; whnf); (try exact rfl))); (case k7 => k_is); (case k8 => ktr_room); (case kP => exact rfl); (case kG => exact fun _ => rfl); (case c5 => decide); (case kB => exact fun _ => locs rfl); (case c2 => exact rfl); (case c3 => exact rfl); (case c4 => exact rfl); k_whole))
local macro_rules | `(tactic| walk_at "my enterB") => `(tactic| (refine' enterB ?k3 ?k5 ?k6 ?kL ?kM ?kN ?k7 ?k8 ?kP ?kS ?kT ?kB ?_ ?c2 ?c3 ?c4 ?c5; (case k3 => k_asm); (case k5 => k_asm); (case k6 => k_is); (case kL => ((conv => lhs; whnf); (try exact rfl))); (case kM => ((conv => lhs; whnf); (try exact rfl))); (case kN => ((conv => lhs; whnf); (try exact rfl))); (case k7 => k_is); (case k8 => ktr_room); (case kP => exact rfl); (case kS => exact fun _ => rfl); (case kT => exact fun _ _ => rfl); (case c5 => decide); (case kB => exact fun _ _ => locs rfl); (case c2 => exact rfl); (case c3 => exact rfl); (case c4 => exact rfl); k_whole))

theorem GivesM.use {w : World} {mean : ExcName → Option Value} {mg mb : Str → Option Value} {k : Nat} {f c : Addr} {vs : List Value} {H : Heap → Prop} {R : Tok → Value} (G : GivesM w mean mg mb k f c vs H R)
    {news : List (Addr × Obj)} {dp un : Nat} {gd : Option (List Code)} {outer : List Env} {h₀ : Heap} {L P : Addr} {m : Str → Option Value} {s : Shared} {Q E : Value → Shared → Prop}
    (F : Fr h₀ L s.heap m) (N : News h₀ L s.heap news) (X : (hd.heap_39 w.params).In h₀) (T : Top Vw Lo mean mg mb h₀) (B : Based h₀ h₀ c P #[]) (hG : AllBare s.gens)
    (hd' : dp + k < recursionLimit) (hu : un + 16 * k < cLine) (hH : H s.heap)
    (ret : ∀ (t : Tok) (ps : Array Value) (s₅ : Shared), Fr (regrown h₀ P ps) L s₅.heap m → News (regrown h₀ P ps) L s₅.heap news → (hd.heap_39 w.params).In (regrown h₀ P ps) → TopRead Vw Lo mg mb (regrown h₀ P ps) → Based h₀ (regrown h₀ P ps) c P ps →
      AllBare s₅.gens → s₅.os = s.os → Q (R t) s₅) :
    wpAny (model Pg w) (Ar dp un gd outer) (call (.ref f) vs) Q E s := by
  have B₂ : Based s.heap s.heap c P #[] := .start (B.codeAt F) (B.tabAt F) B.notStatics
  refine G dp un gd outer s Q E P (X.keeps F.keep) (T.keeps F.keep) hG B₂ hd' hu hH fun t ps s₅ B₅ st G₅ os => ?_
  have hx : Heap.ExtBut P s.heap s₅.heap := fun b o hb e => st _ _ (regrown_other _ P ps b o hb e)
  have e0 : (#[] : Array Value) ++ ps = ps := by simp
  obtain ⟨B₆, F₆⟩ := B.grow (more := ps) F hx (by rw [e0]; exact B₅.code.keeps st) (by rw [e0]; exact B₅.tab.keeps st)
  rw [e0] at B₆ F₆
  have N₆ : News (regrown h₀ P ps) L s₅.heap news := fun p hp => by
    have z := N p hp
    have hP : p.1 ≠ P := fun q => by
      have := z.2.2
      rw [q, B.tab.2] at this; cases this
    exact ⟨hx _ _ hP z.1, z.2.1, (Heap.get?_update_other _ _ (Ne.symm hP)).trans z.2.2⟩
  exact ret t ps s₅ F₆ N₆ (LGeL.in_regrown F₆ X (topRead_of T) B (hk_classed _)) (LGe.top_regrown F₆ (topRead_of T) B) B₆ G₅ os
theorem with_msg (w : World) (mean mg mb) : ∀ {α : Type} {A : Around} {s : Shared} {E : Value → Shared → Prop} {t : Sem α} {Q : α → Shared → Prop} {h : Heap}, (hd.heap_39 w.params).In h → Top Vw Lo mean mg mb h →
    (∀ P, Based h h 104 P #[] → wpAny (model Pg w) A t Q E s) → wpAny (model Pg w) A t Q E s := by
  unfold Pg Vw Lo
  k_fill
  intro α A s E t Q h X T hk
  obtain ⟨c, P, e, B⟩ := based_of_top T (name := Str.ofString "_get_invalid_paths_message") rfl (mg_of X T.g (by k_is)) (X 105 _ (by k_is)) rfl
  cases e
  exact hk P B
theorem strs_carried : ∀ {ys : List Value} {ss : List Str}, CarriedAll ys (ss.map PyData.str) → StrsAre ys ss
  | [], [], _ => .nil
  | v :: vs, s :: ss, h => by
    cases h with
    | cons h1 h2 =>
      cases h1
      exact .cons _ _ (strs_carried h2)
section
variable {prog : Program} {w : World} {A : Around} {E : Value → Shared → Prop} {s : Shared} {D a b : Addr} {vs us ws : List Value} {ss ts : List Str}
theorem truthyS0 {Q : Bool → Shared → Prop} (hl : s.heap.IsList D vs.toArray) (hi : StrsAre vs ss) (he : ss.isEmpty = true) (h : Q false { s with toks := s.toks + 1 + 1 }) : wpAny (model prog w) A (truthy (.ref D)) Q E s := by
  have e : ss = [] := List.isEmpty_iff.mp he
  subst e
  cases hi
  exact wpAny_truthy_list hl (by simp) h
theorem truthyS1 {Q : Bool → Shared → Prop} (hl : s.heap.IsList D vs.toArray) (hi : StrsAre vs ss) (he : ss.isEmpty = false) (hz : ss.length ≤ 100000) (h : Q true { s with toks := s.toks + 1 + 1 }) : wpAny (model prog w) A (truthy (.ref D)) Q E s := by
  cases hi with
  | nil => cases he
  | cons x t hi => exact wpAny_truthy_list hl (by have := hi.length; simp at hz ⊢; omega) h
theorem eqT {Q : Value → Shared → Prop} (ha : IsTup s.heap a us.toArray) (hb : IsTup s.heap b ws.toArray) (hi : StrsAre us ss) (hj : StrsAre ws ts) (ho : OkS ss) (ho' : OkS ts) (hu : A.units + 64 < cLine) (h : Q (.bool (decide (ss = ts))) s) :
    wpAny (model prog w) A (compareOp .Eq (.ref a) (.ref b)) Q E s :=
  eq_dataH_same (reads_newDataT ha hi.carried) (reads_newDataT hb hj.carried) (sm_shapedT ho) (sm_shapedT ho') hu (SeqAt.noMix_of_shape (.tuples .str) rfl _ _ (tuples_map_has fun _ => rfl) (tuples_map_has fun _ => rfl)) (by rw [sm_sameT]; exact h)
end
end Mine
end
section
open PySem PySem.W PyProof.Rows PySem.Calls
set_option Elab.async false
set_option maxRecDepth 100000
set_option maxHeartbeats 1000000
namespace Mine
theorem reset_18 : True := by
  w_top off
  trivial
local macro_rules | `(tactic| k_room) => `(tactic| ktr_room)
local macro_rules | `(tactic| k_units) => `(tactic| ktr_units)
local macro_rules | `(tactic| units_room) => `(tactic| ktr_units)
local macro_rules | `(tactic| walk_at "my enterP") => `(tactic| (refine' enterP ?k3 ?k5 ?k6 ?kL ?kM ?kN ?k7 ?k8 ?k9 ?kB ?_ ?c2 ?c3 ?c4 ?c5; (case k3 => k_asm); (case k5 => k_asm); (case k6 => k_is); (case kL => ((conv => lhs; whnf); (try exact rfl))); (case kM => ((conv => lhs; whnf); (try exact rfl))); (case kN => ((conv => lhs; whnf); (try exact rfl))); (case k7 => k_is); (case k8 => ktr_room); (case k9 => first | exact BindsTo.of_eq rfl | exact binds_K (by k_asm) rfl (by k_is) rfl rfl rfl); (case c5 => decide); (case kB => exact locs rfl); (case c2 => exact rfl); (case c3 => exact rfl); (case c4 => exact rfl); k_whole))
local macro_rules | `(tactic| walk_at "my enterA") => `(tactic| (refine' enterA ?k3 ?k5 ?k6 ?kL ?kM ?kN ?k7 ?k8 ?k9 ?kB ?_ ?c2 ?c3 ?c4 ?c5; (case k3 => k_asm); (case k5 => k_asm); (case k6 => k_is); (case kL => ((conv => lhs; whnf); (try exact rfl))); (case kM => ((conv => lhs; whnf); (try exact rfl))); (case kN => ((conv => lhs; whnf); (try exact rfl))); (case k7 => k_is); (case k8 => ktr_room); (case k9 => first | exact BindsTo.of_eq rfl | exact binds_K (by k_asm) rfl (by k_is) rfl rfl rfl); (case c5 => decide); (case kB => exact locs rfl); (case c2 => exact rfl); (case c3 => exact rfl); (case c4 => exact rfl); k_whole))
local macro_rules | `(tactic| walk_at "my enterR") => `(tactic| (refine' enterR ?k3 ?k5 ?k6 ?kL ?kM ?kN ?k7 ?k8 ?kP ?kG ?kB ?_ ?c2 ?c3 ?c4 ?c5; (case k3 => k_asm); (case k5 => k_asm); (case k6 => k_is); (case kL => ((conv => lhs; whnf); (try exact rfl))); (case kM => ((conv => lhs; whnf); (try exact rfl))); (case kN => ((conv => lhs; whnf); (try exact rfl))); (case k7 => k_is); (case k8 => ktr_room); (case kP => exact rfl); (case kG => exact fun _ => rfl); (case c5 => decide); (case kB => exact fun _ => locs rfl); (case c2 => exact rfl); (case c3 => exact rfl); (case c4 => exact rfl); k_whole))
local macro_rules | `(tactic| walk_at "my enterB") => `(tactic| (refine' enterB ?k3 ?k5 ?k6 ?kL ?kM ?kN ?k7 ?k8 ?kP ?kS ?kT ?kB ?_ ?c2 ?c3 ?c4 ?c5; (case k3 => k_asm); (case k5 => k_asm); (case k6 => k_is); (case kL => ((conv => lhs; whnf); (try exact rfl))); (case kM => ((conv => lhs; whnf); (try exact rfl))); (case kN => ((conv => lhs; whnf); (try exact rfl))); (case k7 => k_is); (case k8 => ktr_room); (case kP => exact rfl); (case kS => exact fun _ => rfl); (case kT => exact fun _ _ => rfl); (case c5 => decide); (case kB => exact fun _ _ => locs rfl); (case c2 => exact rfl); (case c3 => exact rfl); (case c4 => exact rfl); k_whole))

local macro_rules | `(tactic| walk_at "exec Assign cons ListComp") => `(tactic| (refine halt_of ?_))
local macro_rules | `(tactic| walk_at "eval ListComp") => `(tactic| (refine halt_of ?_))
local macro_rules | `(tactic| walk_at "call ref") => `(tactic| (refine halt_of ?_))
local macro_rules | `(tactic| walk_at "call builtin:str.join") => `(tactic| (k_here; (with_reducible show wpAny _ _ (call (Value.builtin _) [Value.str _ _, Value.ref _]) _ _ _); k_dflt (refine' joinS ?l ?i ?s ?z ?_; (case l => first | exact News.isList (by k_asm) (by k_mem) | exact Fr.lst (by k_asm) (by assumption) | assumption); (case i => first | assumption | exact sv_are _ | exact StrsAre.nil | exact StrsAre.cons _ _ StrsAre.nil); (case s => decide +kernel); (case z => first | omega | (simp only [List.length_drop, List.length_take, List.length_append, List.length_cons, List.length_nil] <;> omega)); k_whole; walk_say "MY JOIN"); intro t' k' hJ'))
local macro_rules | `(tactic| walk_at "call builtin:len") => `(tactic| (k_here; (with_reducible show wpAny _ _ (call (Value.builtin _) [Value.ref _]) _ _ _); k_dflt (refine' lenS ?l ?i ?z ?_; (case l => first | exact News.isList (by k_asm) (by k_mem) | exact Fr.lst (by k_asm) (by assumption) | assumption); (case i => first | assumption | exact sv_are _ | exact StrsAre.nil | exact StrsAre.cons _ _ StrsAre.nil); (case z => first | omega | (simp only [List.length_drop, List.length_take, List.length_append, List.length_cons, List.length_nil] <;> omega)); k_whole; walk_say "MY LEN"); intro t' k'))
local macro_rules | `(tactic| walk_at "subscriptTail") => `(tactic| (k_here; (with_reducible show wpAny _ _ (subscriptTail _ _ (Value.ref _) (Value.int _ _)) _ _ _); k_dflt (refine' itemD ?l ?i ?a ?z ?x ?_ ?s; (case l => first | exact News.isList (by k_asm) (by k_mem) | exact Fr.lst (by k_asm) (by assumption) | assumption); (case i => first | assumption | exact sv_are _ | exact StrsAre.nil | exact StrsAre.cons _ _ StrsAre.nil); (case a => omega); (case z => first | omega | (simp only [List.length_drop, List.length_take, List.length_append, List.length_cons, List.length_nil] <;> omega)); (case x => first | omega | (simp only [List.length_drop, List.length_take, List.length_append, List.length_cons, List.length_nil] <;> omega)); (case s => with_unfolding_all rfl); k_whole; walk_say "MY ITEM"); intro t'))
local macro_rules | `(tactic| walk_at "subscriptTail Name Slice ref ref") => `(tactic| (k_here; (with_reducible show wpAny _ _ (subscriptTail _ (PySem.Expr.Slice _ _ none _) (Value.ref _) (Value.ref _)) _ _ _); k_dflt (first
  | (refine' sliceFrom ?F ?N ?l ?i ?a ?z ?_ ?s ?t; (case F => k_asm); (case N => k_asm); (case l => first | exact News.isList (by k_asm) (by k_mem) | exact Fr.lst (by k_asm) (by assumption) | assumption); (case i => first | assumption | exact sv_are _ | exact StrsAre.nil | exact StrsAre.cons _ _ StrsAre.nil); (case a => omega); (case z => first | omega | (simp only [List.length_drop, List.length_take, List.length_append, List.length_cons, List.length_nil] <;> omega)); (case s => with_unfolding_all rfl); (case t => kmk_pure); k_whole; walk_say "MY FROM")
  | (refine' sliceTo ?F ?N ?l ?i ?a ?z ?_ ?s ?t; (case F => k_asm); (case N => k_asm); (case l => first | exact News.isList (by k_asm) (by k_mem) | exact Fr.lst (by k_asm) (by assumption) | assumption); (case i => first | assumption | exact sv_are _ | exact StrsAre.nil | exact StrsAre.cons _ _ StrsAre.nil); (case a => omega); (case z => first | omega | (simp only [List.length_drop, List.length_take, List.length_append, List.length_cons, List.length_nil] <;> omega)); (case s => with_unfolding_all rfl); (case t => kmk_pure); k_whole; walk_say "MY TO")); intro D' h' F' N' l1 hS'; (try k_lt l1); (try k_sweep)))
local macro_rules | `(tactic| walk_at "binaryOp Add ref ref") => `(tactic| (k_here; (with_reducible show wpAny _ _ (binaryOp _ (Value.ref _) (Value.ref _)) _ _ _); k_dflt (refine' addS ?F ?N ?l ?r ?i ?j ?y ?z ?_; (case F => k_asm); (case N => k_asm); (case l => first | exact News.isList (by k_asm) (by k_mem) | exact Fr.lst (by k_asm) (by assumption) | assumption); (case r => first | exact News.isList (by k_asm) (by k_mem) | exact Fr.lst (by k_asm) (by assumption) | assumption); (case i => first | assumption | exact sv_are _ | exact StrsAre.nil | exact StrsAre.cons _ _ StrsAre.nil); (case j => first | assumption | exact sv_are _ | exact StrsAre.nil | exact StrsAre.cons _ _ StrsAre.nil); (case y => first | omega | (simp only [List.length_drop, List.length_take, List.length_append, List.length_cons, List.length_nil] <;> omega)); (case z => first | omega | (simp only [List.length_drop, List.length_take, List.length_append, List.length_cons, List.length_nil] <;> omega)); k_whole; walk_say "MY ADD"); intro D' h' F' N' l1 hS'; (try k_lt l1); (try k_sweep)))
local macro_rules | `(tactic| walk_at "compareOp In str ref") => `(tactic| (k_here; (with_reducible show wpAny _ _ (compareOp CmpOp.In _ (Value.ref _)) _ _ _); k_dflt (refine' inS ?l ?i ?_; (case l => first | exact News.isList (by k_asm) (by k_mem) | exact Fr.lst (by k_asm) (by assumption) | assumption); (case i => first | assumption | exact sv_are _ | exact StrsAre.nil | exact StrsAre.cons _ _ StrsAre.nil); k_whole; walk_say "MY IN")))
local macro_rules | `(tactic| walk_at "compareOp Eq ref ref") => `(tactic| (k_here; k_dflt (refine' eqS ?l ?r ?i ?j ?o ?p ?u ?_; (case l => first | exact News.isList (by k_asm) (by k_mem) | exact Fr.lst (by k_asm) (by assumption) | assumption); (case r => first | exact News.isList (by k_asm) (by k_mem) | exact Fr.lst (by k_asm) (by assumption) | assumption); (case i => first | assumption | exact sv_are _ | exact StrsAre.nil | exact StrsAre.cons _ _ StrsAre.nil); (case j => first | assumption | exact sv_are _ | exact StrsAre.nil | exact StrsAre.cons _ _ StrsAre.nil); (case o => repeat' (first | with_reducible assumption | with_reducible exact OkS.nil | with_reducible exact okS1 (by decide +kernel) | with_reducible refine OkS.take ?_ _ | with_reducible refine OkS.drop ?_ _ | with_reducible refine OkS.append ?_ ?_)); (case p => repeat' (first | with_reducible assumption | with_reducible exact OkS.nil | with_reducible exact okS1 (by decide +kernel) | with_reducible refine OkS.take ?_ _ | with_reducible refine OkS.drop ?_ _ | with_reducible refine OkS.append ?_ ?_)); (case u => ktr_units); k_whole; walk_say "MY EQ")))
local macro_rules | `(tactic| walk_at "compareOp NotEq ref ref") => `(tactic| (k_here; k_dflt (refine' neS ?l ?r ?i ?j ?o ?p ?u ?_; (case l => first | exact News.isList (by k_asm) (by k_mem) | exact Fr.lst (by k_asm) (by assumption) | assumption); (case r => first | exact News.isList (by k_asm) (by k_mem) | exact Fr.lst (by k_asm) (by assumption) | assumption); (case i => first | assumption | exact sv_are _ | exact StrsAre.nil | exact StrsAre.cons _ _ StrsAre.nil); (case j => first | assumption | exact sv_are _ | exact StrsAre.nil | exact StrsAre.cons _ _ StrsAre.nil); (case o => repeat' (first | with_reducible assumption | with_reducible exact OkS.nil | with_reducible exact okS1 (by decide +kernel) | with_reducible refine OkS.take ?_ _ | with_reducible refine OkS.drop ?_ _ | with_reducible refine OkS.append ?_ ?_)); (case p => repeat' (first | with_reducible assumption | with_reducible exact OkS.nil | with_reducible exact okS1 (by decide +kernel) | with_reducible refine OkS.take ?_ _ | with_reducible refine OkS.drop ?_ _ | with_reducible refine OkS.append ?_ ?_)); (case u => ktr_units); k_whole; walk_say "MY NE")))

local macro_rules | `(tactic| walk_at "call builtin:str.split") => `(tactic| (refine halt_of ?_))
local macro_rules | `(tactic| walk_at "truthy ref") => `(tactic| (k_here; (with_reducible show wpAny _ _ (truthy (Value.ref _)) _ _ _); k_dflt (first
  | (refine' truthyS0 ?l ?i ?e ?_; (case l => exact News.isList (by k_asm) (by k_mem)); (case i => assumption); (case e => assumption); k_whole)
  | (refine' truthyS1 ?l ?i ?e ?z ?_; (case l => exact News.isList (by k_asm) (by k_mem)); (case i => assumption); (case e => assumption); (case z => omega); k_whole)); walk_say "MY TRUTH"))
local macro_rules | `(tactic| walk_at "compareOp Eq ref ref") => `(tactic| (refine halt_of ?_))
local macro_rules | `(tactic| walk_at "call ref") => `(tactic| (k_here; (with_reducible show wpAny _ _ (call (Value.ref _) _) _ _ _); k_dflt (refine' (doneN_g _ _ _ _ _ _).use0 ?kf ?kk ?k1 ?k2 ?k3 ?k4 ?k5 ?kd ?ku ?kH ?_; (case kf => exact rfl); (case kk => exact rfl); (case k1 => assumption); (case k2 => k_asm); (case k3 => k_asm); (case k4 => k_asm); (case k5 => k_asm); (case kd => ktr_room); (case ku => ktr_units); (case kH => exact ⟨(pl_H (by assumption)).1, (pl_H (by assumption)).2, pl_SN (by assumption)⟩); walk_say "MY CALL doneN_g"); intro t9 h9 tk9 F9 N9; (try dsimp only); (try k_sweep); (try k_fold)))
local macro_rules | `(tactic| walk_at "call ref") => `(tactic| (k_here; (with_reducible show wpAny _ _ (call (Value.ref _) _) _ _ _); k_dflt (refine' (done_g _ _ _ _ _ _ _ _).use0 ?kf ?kk ?k1 ?k2 ?k3 ?k4 ?k5 ?kd ?ku ?kH ?_; (case kf => exact rfl); (case kk => exact rfl); (case k1 => assumption); (case k2 => k_asm); (case k3 => k_asm); (case k4 => k_asm); (case k5 => k_asm); (case kd => ktr_room); (case ku => ktr_units); (case kH => exact ⟨(pl_H (by assumption)).1, (pl_H (by assumption)).2, pl_B (by assumption), pl_SR (by assumption) (by assumption)⟩); walk_say "MY CALL done_g"); intro t9 h9 tk9 F9 N9; (try dsimp only); (try k_sweep); (try k_fold)))
local macro_rules | `(tactic| walk_at "call ref") => `(tactic| (k_here; (with_reducible show wpAny _ _ (call (Value.ref _) _) _ _ _); k_dflt (refine' (due_g _ _ _ _ _ _ _ _ _ _).use ?kf ?kk ?k1 ?k2 ?k3 ?k4 ?k5 ?kd ?ku ?kH ?_; (case kf => exact rfl); (case kk => exact rfl); (case k1 => k_asm); (case k2 => k_asm); (case k3 => k_asm); (case k4 => k_asm); (case k5 => k_asm); (case kd => ktr_room); (case ku => ktr_units); (case kH => exact ⟨News.isList (by k_asm) (by k_mem), News.isList (by k_asm) (by k_mem), by assumption, by first | assumption | exact StrsAre.cons _ _ StrsAre.nil, Bits.ok (by assumption), by first | exact okS1 (by decide +kernel) | exact (roots_ok (by assumption)).1, Nat.le_trans (Bits.wS (by assumption)) (by decide), by first | decide | exact Nat.le_trans (roots_ok (by assumption)).2.2 (by decide)⟩); walk_say "MY CALL due_g"); intro t9 h9 tk9 S9 F9 N9; clear S9; (try dsimp only); (try k_sweep); (try k_fold)))
local macro_rules | `(tactic| walk_at "compareOp") => `(tactic| (k_here; k_dflt (refine' cmpSame ?e ?_; (case e => first | exact pl_N (by assumption) | exact pl_R (by assumption) (by assumption)); k_whole; walk_say "MY SAME")))
local macro_rules | `(tactic| walk_at "compareOp NotEq") => `(tactic| (k_here; k_dflt (refine' cmpSame ?e ?_; (case e => first | exact pl_N (by assumption) | exact pl_R (by assumption) (by assumption)); k_whole; walk_say "MY SAME")))
local macro_rules | `(tactic| walk_at "call builtin:list.append") => `(tactic| (refine halt_of ?_))
local macro_rules | `(tactic| walk_at "subscriptTail") => `(tactic| (k_here; (with_reducible show wpAny _ _ (subscriptTail (PySem.Expr.List _ _) _ (Value.ref _) (Value.int _ _)) _ _ _); refine halt_of ?_))
local macro_rules | `(tactic| walk_at "exec For") => `(tactic| (refine halt_of ?_))
set_option maxHeartbeats 8000000
theorem law_walk : PySem.Challenge.rw_sh0097_01.Holds := by
  refine' hd.law_of ?hw ?ha ?hb ?hc ?call
  case hw => w_witness2
  case ha => exact rfl
  case hb => exact rfl
  case hc => exact rfl
  lge_go0
  rename LGe.Mark => lgM
  clear lgM
  (all_goals try k_fold)
  k_steps
  unfold Halt
  rename Fr _ _ _ _ => lF
  rename News _ _ _ _ => lN
  rename Frag.In _ _ => X
  rename Below _ _ _ _ => K0
  rename Top _ _ _ _ _ _ => T
  (try unfold Top.heap at K0)
  rename Based _ _ _ _ _ => B0
  rename (_ = #[] : Prop) => hgens
  rename IntsAre _ _ => hI
  refine Assign_comp_ints lF rfl oneB rfl rfl rfl (by decide) rfl (by decide) rfl rfl rfl (wpH ?_) (fun _ => rfl)
  (try dsimp only)
  k_steps
  unfold Halt
  rename Fr _ _ _ _ => lF2
  rename News _ _ _ _ => lN2
  rename IntsAre _ (List.take 8 _) => hI8
  refine ⟨_, _, _, _, rfl, News.isList lN2 (.head _), hI8, (by rw [sizeLine_eq]; simp only [List.length_take]; omega), lF2, lN2, ?_, ?_⟩
  · intro C k t s₂ m₂ E' hC hns hm keep
    exact elt_pieces _ _ _ _ (belowAt rfl rfl rfl K0 (lF2.keeps keep)) (X.keeps lF2.keep) (T.keeps lF2.keep) (by decide) (by decide) (frInComp hns keep hC) hm rfl rfl rfl rfl rfl
  · clear lN2 lF2 hI8
    intro D h' tk as k lF lN hD hlen hrows
    simp only [List.mem_singleton, forall_eq] at hD hrows
    (try dsimp only)
    k_steps
    unfold Halt
    refine pieces_g _ _ _ _ _ _ _ _ _ _ _ _ _ _ (belowAt rfl rfl rfl K0 lF) (X.keeps lF.keep) (T.keeps lF.keep) (by decide) (by decide) trivial ?_
    intro D2 n2 us2 bl2 h2 tk2 st hD2 hfr2 hi2 hb2
    (try dsimp only)
    have lF2 := lF.keeps st
    have lND := lN.grown st _ (.head _)
    have hnew : ∀ b o, h'.get? b = some o → b ≠ D2 := fun b o e q => by rw [q] at e; rw [hfr2] at e; cases e
    obtain ⟨tab, hrow, lR⟩ := rows_led (h₀ := _) (h := h2) (L := _) (as := as ++ [D2]) (fun a ha => by
      rcases List.mem_append.mp ha with q | q
      · obtain ⟨z1, z2, z3, z4, z5⟩ := hrows a q
        exact ⟨z2, z3, oneB.keep z5 fun o e => st _ o e⟩
      · rw [List.mem_singleton.mp q]
        exact ⟨fun e => by obtain ⟨_, _, _, e2, _⟩ := lF.ns; exact hnew _ _ e2 e.symm, (by cases q : Heap.get? _ D2 with
          | none => rfl
          | some o => exact absurd rfl (hnew _ _ (lF.keep _ _ q))), _, _, _, hD2, hi2, hb2⟩)
    have lN3 : News _ _ h2 ((D, listOf (as.map Value.ref).toArray k) :: (as ++ [D2]).map (rowAt tab)) := fun p hp => by
      rcases List.mem_cons.mp hp with rfl | hp
      · exact lND
      · exact lR p hp
    have hne : ∀ p ∈ (as ++ [D2]).map (rowAt tab), p.1 ≠ D := fun p hp => by
      obtain ⟨a, ha, rfl⟩ := List.mem_map.mp hp
      rcases List.mem_append.mp ha with q | q
      · exact (hrows a q).1
      · rw [List.mem_singleton.mp q]
        exact fun e => hnew _ _ (lN _ (.head _)).1 e.symm
    have hlen9 : (as ++ [D2]).length ≤ 9 := by rw [List.length_append, hlen]; simp only [List.length_take, List.length_singleton]; omega
    clear lND lR hnew hrows hD hlen lN lF hfr2 hD2 hi2 hb2 st
    k_steps
    unfold Halt
    refine push_at lF2 lN3 (.head hne) (by rw [List.length_map]; rw [List.length_append] at hlen9; omega) ?_
    intro h3 lF3 lN4
    rw [show as.map Value.ref ++ [Value.ref D2] = (as ++ [D2]).map Value.ref by simp] at lN4
    clear lN3 lF2
    generalize as ++ [D2] = as9 at *
    generalize hrest : as9.map (rowAt tab) = rest at *
    (try dsimp only)
    k_steps
    unfold Halt
    rename Fr _ _ _ _ => lF
    rename News _ _ _ _ => lN
    refine rootAt (News.isList lN (.head _)) (Int.fmod_nonneg_of_pos _ (by decide)) (Int.fmod_lt_of_pos _ (by decide)) ?_
    intro r hr
    obtain ⟨rus, rl, lN2, hru, hrl⟩ := root_pick lN hr
    clear lN hr
    (try dsimp only)
    (try k_fold)
    k_steps
    rename Fr _ _ _ _ => lF
    rename News _ _ _ _ => lN
    refine loopR (by exact rfl) [Str.ofString "text"] rfl (.tail _ (.head _)) lF lN ?_ ?_
    · intro a u h tk I it ha hlt F1 N1
      clear lF lN
      obtain ⟨hsa, hba⟩ := hrow a ha
      have N2 := news_front (news_front N1 (List.mem_append_left _ (.head _))) (List.mem_cons_of_mem _ (List.mem_append_left _ (.tail _ (.tail _ (hrest ▸ List.mem_map_of_mem (f := rowAt tab) ha)))))
      obtain ⟨hro, hwr, hlr⟩ := roots_ok hrl
      have hwa := Bits.wS hba
      have hla := hba.2.1
      clear N1
      unfold rowAt at N2
      generalize hZ : (_ ++ [(I, it)] : List (Addr × Obj)) = Z at N2 ⊢
      (try dsimp only)
      (try k_fold)
      k_steps
      all_goals ((try dsimp only); k_steps)
      rename Fr _ _ _ _ => lF
      rename News _ _ _ _ => lN
      refine EndR.next lF (fun p hp => lN p (by simp [hp])) (fun z hz hc => ?_)
      have hzt : z ≠ Str.ofString "text" := by
        rintro rfl
        simp at hc
      (try dsimp only)
      rw [if_neg hzt, if_neg hz, if_neg (by rw [hc]; decide)]
    · intro u h tk F1 N1
      clear lF lN
      (try dsimp only)
      k_steps
      unfold Halt
      rename Fr _ _ _ _ => lF
      rename News _ _ _ _ => lN
      refine lcAt lF (K := refKind) (pz := fun _ => true) (d := fun a => PyData.str (TX (tab a).2.1)) rfl rfl (by decide) rfl (by decide) rfl (wpH ?_) (fun _ => rfl)
      k_steps
      unfold Halt
      refine ⟨_, _, _, as9, rfl, News.isList lN (.tail _ (.head _)), refs_are as9, (by rw [sizeLine_eq]; omega), lF, lN, ?_, ?_, ?_⟩
      · intro C a v s₂ m₂ E' hC ha hv hns hm keep
        rw [List.forIn_nil]
        exact wpAny_pure ⟨rfl, _, _, rfl, fun _ _ e => e⟩
      · intro C a v s₂ m₂ E' hC ha hv hp hns hm keep
        cases hv
        exact elt_join rfl rfl (frInComp hns keep hC) hm ⟨_, keep _ _ (lN _ (.tail _ (.tail _ (hrest ▸ List.mem_map_of_mem (f := rowAt tab) ha)))).1, rfl, _, rfl⟩ (hrow a ha).1 (Nat.le_trans (hrow a ha).2.wS (by decide)) rfl rfl rfl rfl
      · intro D3 ys h4 tk4 F4 N4 h0D _ hnp hca
        obtain ⟨n3, N5⟩ := news_new F4 N4 h0D hnp
        rw [List.filter_eq_self.mpr (fun _ _ => rfl)] at hca
        have hys : StrsAre ys (as9.map fun a => TX (tab a).2.1) := strs_carried (by rw [List.map_map]; exact hca)
        have hwt := wS_TX (tab := tab) (as := as9) fun a ha => (hrow a ha).2
        clear lF lN N4 hnp hca
        (try dsimp only)
        k_steps
        unfold Halt
        refine with_msg _ _ _ _ X T (fun P BP => ?_)
        refine (msg_g _ _ _ _ _ _ _).use F4 N5 X T BP ?_ (by decide) (by decide) ⟨News.isList N5 (.head _), hys, by omega⟩ ?_
        · (try dsimp only)
          rw [hgens]
          exact .of_eq rfl
        · intro t5 ps s₅ F₅ N₅ X₅ T₅ B₅ G₅ os₅
          have hml := msg_len (ts := as9.map fun a => TX (tab a).2.1) (by omega)
          clear F4 N5
          (try dsimp only)
          k_steps
          unfold Halt
          rename Fr _ _ _ _ => lF
          rename News _ _ _ _ => lN
          refine KSpl.split1 lF lN (by decide +kernel) ?_ (by rw [sizeLine_eq]; omega)
          intro D6 l6 h6 k6 hsp _ F6 N6 l16
          clear lF lN
          have hnl := pl_msg (bs := as9.map fun a => (tab a).2.1) (fun b hb => by
            obtain ⟨a, ha, rfl⟩ := List.mem_map.mp hb
            exact (hrow a ha).2)
          rw [List.map_map, List.filter_map, List.map_map] at hnl
          have hsp2 := hsp.trans hnl
          clear hsp hnl
          obtain ⟨t6, l7, rfl, hl7⟩ : ∃ t l7, l6 = (MH, t) :: l7 ∧ l7.map (·.1) = orE ((as9.filter fun a => !rooted (tab a).2.1).map fun a => TX (tab a).2.1) := by
            cases l6 with
            | nil => cases hsp2
            | cons p l7 =>
              obtain ⟨x, t⟩ := p
              rw [List.map_cons] at hsp2
              obtain ⟨e1, e2⟩ := List.cons.inj hsp2
              exact ⟨t, l7, by rw [show x = MH from e1], e2⟩
          clear hsp2
          have hs6 := (StrsAre.cons MH t6 (sv_are l7))
          rw [hl7] at hs6
          have N7 := N6
          change News _ _ _ ((D6, listOf (Value.str MH t6 :: strValues l7).toArray 0) :: _) at N7
          clear N6
          generalize hgl : orE ((as9.filter fun a => !rooted (tab a).2.1).map fun a => TX (tab a).2.1) = nl at hs6
          have hnz : nl.length ≤ 10 := by
            rw [← hgl]
            have := List.length_filter_le (fun a => !rooted (tab a).2.1) as9
            unfold orE
            split
            · simp
            · rw [List.length_map]; omega
          (try k_lt l16)
          (try dsimp only)
          k_steps
          · exact absurd ‹((MH :: nl).getD (Int.toNat 0) Str.empty != _) = true› (by show ¬ ((MH != Str.ofString "Paths should be absolute but found the following relative paths:") = true); decide +kernel)
          unfold Halt
          rename Fr _ _ _ _ => lF
          rename News _ _ _ _ => lN
          rename StrsAre (List.drop _ _) _ => hS7
          have hoM : PyData.strOk MH = true := by decide +kernel
          refine lcAt lF (K := refKind) (pz := fun a => !rooted (tab a).2.1) (d := fun a => PyData.str (TX (tab a).2.1)) rfl rfl (by decide) rfl (by decide) rfl (wpH ?_) (fun _ => rfl)
          k_steps
          unfold Halt
          refine ⟨_, _, _, as9, rfl, News.isList lN (.tail _ (.tail _ (.tail _ (.tail _ (.head _))))), refs_are as9, (by rw [sizeLine_eq]; omega), lF, lN, ?_, ?_, ?_⟩
          · intro C a v s₂ m₂ E' hC ha hv hns hm keep
            cases hv
            exact test_not_rooted _ _ _ rfl (X₅.keeps lF.keep) (T₅.keeps lF.keep) (by show callerA.depth + 1 + 6 < recursionLimit; decide) (by show callerA.units + 3 + 100 < cLine; decide) (frInComp hns keep hC) hm ⟨_, keep _ _ (lN _ (.tail _ (.tail _ (.tail _ (.tail _ (.tail _ (hrest ▸ List.mem_map_of_mem (f := rowAt tab) ha))))))).1, rfl, _, rfl⟩ (hrow a ha).1 (Nat.le_trans (hrow a ha).2.2.1 (by decide)) rfl rfl rfl rfl rfl
          · intro C a v s₂ m₂ E' hC ha hv hp hns hm keep
            cases hv
            exact elt_join rfl rfl (frInComp hns keep hC) hm ⟨_, keep _ _ (lN _ (.tail _ (.tail _ (.tail _ (.tail _ (.tail _ (hrest ▸ List.mem_map_of_mem (f := rowAt tab) ha))))))).1, rfl, _, rfl⟩ (hrow a ha).1 (Nat.le_trans (hrow a ha).2.wS (by decide)) rfl rfl rfl rfl
          · intro D8 ys8 h8 tk8 F8 N8 h08 _ hnp8 hca8
            obtain ⟨n8, N9⟩ := news_new F8 N8 h08 hnp8
            have hys8 : StrsAre ys8 ((as9.filter fun a => !rooted (tab a).2.1).map fun a => TX (tab a).2.1) := strs_carried (by rw [List.map_map]; exact hca8)
            have hof : OkS ((as9.filter fun a => !rooted (tab a).2.1).map fun a => TX (tab a).2.1) := fun x hx => by
              obtain ⟨a, ha, rfl⟩ := List.mem_map.mp hx
              exact pl_ok (hrow a (List.mem_filter.mp ha).1).2
            have hfz : ((as9.filter fun a => !rooted (tab a).2.1).map fun a => TX (tab a).2.1).length ≤ 10 := by
              have := List.length_filter_le (fun a => !rooted (tab a).2.1) as9
              rw [List.length_map]; omega
            clear lF lN N8 hnp8 hca8 hl7
            generalize (as9.filter fun a => !rooted (tab a).2.1).map (fun a => TX (tab a).2.1) = ff at *
            (try dsimp only)
            rcases Bool.eq_false_or_eq_true ff.isEmpty with he | he
            · have hok6 : OkS (MH :: nl) := by
                rw [← hgl, List.isEmpty_iff.mp he]
                exact OkS.append (okS1 hoM) (okS1 (by decide +kernel))
              have hnl1 : nl = [Str.ofString ""] := by rw [← hgl, List.isEmpty_iff.mp he]; rfl
              k_steps
              · refine halt_of ?_
                unfold Halt
                rename Fr _ _ _ _ => lF
                rename News _ _ _ _ => lN
                refine acAt lF (K := refKind) (pz := fun a => rooted (tab a).2.1) (d := fun a => PyData.str (TX (tab a).2.1)) rfl (by exact rfl) rfl rfl (by decide) rfl (by decide) rfl rfl rfl (wpH ?_) (fun _ => rfl)
                k_steps
                unfold Halt
                refine ⟨_, _, _, as9, rfl, News.isList lN (by k_mem), refs_are as9, (by rw [sizeLine_eq]; omega), lF, lN, ?_, ?_, ?_⟩
                · intro C a v s₂ m₂ E' hC ha hv hns hm keep
                  cases hv
                  exact test_rooted _ _ _ rfl (X₅.keeps lF.keep) (T₅.keeps lF.keep) (by show callerA.depth + 1 + 6 < recursionLimit; decide) (by show callerA.units + 3 + 100 < cLine; decide) (frInComp hns keep hC) hm ⟨_, keep _ _ (lN (rowAt tab a) (by repeat (first | exact (hrest ▸ List.mem_map_of_mem (f := rowAt tab) ha) | apply List.mem_cons_of_mem))).1, rfl, _, rfl⟩ (hrow a ha).1 (Nat.le_trans (hrow a ha).2.2.1 (by decide)) rfl rfl rfl rfl rfl
                · intro C a v s₂ m₂ E' hC ha hv hp hns hm keep
                  cases hv
                  exact elt_join rfl rfl (frInComp hns keep hC) hm ⟨_, keep _ _ (lN (rowAt tab a) (by repeat (first | exact (hrest ▸ List.mem_map_of_mem (f := rowAt tab) ha) | apply List.mem_cons_of_mem))).1, rfl, _, rfl⟩ (hrow a ha).1 (Nat.le_trans (hrow a ha).2.wS (by decide)) rfl rfl rfl rfl
                · intro D10 ys10 h10 tk10 F10 N10 h010 _ hnp10 hca10
                  obtain ⟨n10, N11⟩ := news_new F10 N10 h010 hnp10
                  have hys10 : StrsAre ys10 ((as9.filter fun a => rooted (tab a).2.1).map fun a => TX (tab a).2.1) := strs_carried (by rw [List.map_map]; exact hca10)
                  have hbk : ∀ b ∈ (as9.filter fun a => rooted (tab a).2.1).map fun a => (tab a).2.1, Bits b ∧ rooted b = true := fun b hb => by
                    obtain ⟨a, ha, rfl⟩ := List.mem_map.mp hb
                    exact ⟨(hrow a (List.mem_filter.mp ha).1).2, (List.mem_filter.mp ha).2⟩
                  have hwk := wS_TX (tab := tab) (as := as9.filter fun a => rooted (tab a).2.1) fun a ha => (hrow a (List.mem_filter.mp ha).1).2
                  have hlk := List.length_filter_le (fun a => rooted (tab a).2.1) as9
                  clear lF lN N10 hnp10 hca10
                  rw [show ((as9.filter fun a => rooted (tab a).2.1).map fun a => TX (tab a).2.1) = ((as9.filter fun a => rooted (tab a).2.1).map fun a => (tab a).2.1).map TX by rw [List.map_map]; rfl] at hys10 hwk
                  generalize (as9.filter fun a => rooted (tab a).2.1).map (fun a => (tab a).2.1) = bk at *
                  have hjl := joinS_len (sep := Str.ofString ":") (ss := bk.map TX) (by decide +kernel)
                  have hok10 : OkS (bk.map TX) := fun x hx => by
                    obtain ⟨b, hb, rfl⟩ := List.mem_map.mp hx
                    exact pl_ok (hbk b hb).1
                  have hz10 : (bk.map TX).length ≤ 1000 := by have := wS_len (bk.map TX); omega
                  have hpf : parseF (Txt.join (Str.ofString ":") (bk.map TX)) = bk.map TX := by
                    unfold parseF
                    split
                    · rw [pl_kept0 hbk ‹_›]; rfl
                    · exact pl_kept hbk ‹_›
                  have hsl : (Txt.join (Str.ofString ":") (bk.map TX)).length ≠ 0 → ∀ p ∈ Txt.split (Txt.join (Str.ofString ":") (bk.map TX)) (Str.ofString ":"), Txt.startswith p (Str.ofString "/") = true := fun h p hp => by
                    rw [pl_kept hbk h] at hp
                    obtain ⟨b, hb, rfl⟩ := List.mem_map.mp hp
                    rw [pl_slash (hbk b hb).1]
                    exact (hbk b hb).2
                  (try dsimp only)
                  k_steps
                  unfold Halt
                  refine parse_g _ _ _ _ _ _ _ _ _ _ rfl (X₅.keeps F10.keep) (T₅.keeps F10.keep) (by show callerA.depth + 1 + 30 < recursionLimit; decide) (by show callerA.units + 3 + 16 * 30 < cLine; decide) ⟨by omega, hsl⟩ ?_
                  intro D11 us11 h11 tk11 st11 hD11 hfr11 hi11
                  rw [hpf] at hi11
                  have lF := F10.keeps st11
                  have lN := news_fresh F10 N11 st11 hD11 hfr11
                  clear F10 N11
                  (try dsimp only)
                  k_steps
                  unfold Halt
                  rename Fr _ _ _ _ => lF
                  rename News _ _ _ _ => lN
                  refine eqT (us := us11) (ws := ys10) ⟨_, (lN _ (.tail _ (.head _))).1, rfl, 0, rfl⟩ ⟨_, (lN _ (.head _)).1, rfl, _, rfl⟩ hi11 hys10 hok10 hok10 (by show callerA.units + 3 + 64 < cLine; decide) ?_
                  rw [decide_eq_true rfl]
                  (try dsimp only at os₅)
                  refine ⟨.inl ⟨_, ofPy (.bool true), [], rfl, raisesW_false (by wrow_none_raised), .bool true, postW_of (by wrow_shape) (by wtm_val) (by str_meet; first | done | w_fin), fun _ => ⟨.nil, fun _ h => nomatch h⟩⟩, B₅.finish lF, os₅, G₅⟩
              · exact (‹¬ List.drop _ _ = _› (by rw [hnl1]; rfl)).elim
            · have hnl1 : nl = ff := by
                rw [← hgl]
                exact if_neg (fun q => by rw [q] at he; cases he)
              have hok6 : OkS (MH :: nl) := by
                rw [hnl1]
                exact OkS.append (okS1 hoM) hof
              k_steps
              · refine halt_of ?_
                unfold Halt
                rename Fr _ _ _ _ => lF
                rename News _ _ _ _ => lN
                refine acAt lF (K := refKind) (pz := fun a => rooted (tab a).2.1) (d := fun a => PyData.str (TX (tab a).2.1)) rfl (by exact rfl) rfl rfl (by decide) rfl (by decide) rfl rfl rfl (wpH ?_) (fun _ => rfl)
                k_steps
                unfold Halt
                refine ⟨_, _, _, as9, rfl, News.isList lN (by k_mem), refs_are as9, (by rw [sizeLine_eq]; omega), lF, lN, ?_, ?_, ?_⟩
                · intro C a v s₂ m₂ E' hC ha hv hns hm keep
                  cases hv
                  exact test_rooted _ _ _ rfl (X₅.keeps lF.keep) (T₅.keeps lF.keep) (by show callerA.depth + 1 + 6 < recursionLimit; decide) (by show callerA.units + 3 + 100 < cLine; decide) (frInComp hns keep hC) hm ⟨_, keep _ _ (lN (rowAt tab a) (by repeat (first | exact (hrest ▸ List.mem_map_of_mem (f := rowAt tab) ha) | apply List.mem_cons_of_mem))).1, rfl, _, rfl⟩ (hrow a ha).1 (Nat.le_trans (hrow a ha).2.2.1 (by decide)) rfl rfl rfl rfl rfl
                · intro C a v s₂ m₂ E' hC ha hv hp hns hm keep
                  cases hv
                  exact elt_join rfl rfl (frInComp hns keep hC) hm ⟨_, keep _ _ (lN (rowAt tab a) (by repeat (first | exact (hrest ▸ List.mem_map_of_mem (f := rowAt tab) ha) | apply List.mem_cons_of_mem))).1, rfl, _, rfl⟩ (hrow a ha).1 (Nat.le_trans (hrow a ha).2.wS (by decide)) rfl rfl rfl rfl
                · intro D10 ys10 h10 tk10 F10 N10 h010 _ hnp10 hca10
                  obtain ⟨n10, N11⟩ := news_new F10 N10 h010 hnp10
                  have hys10 : StrsAre ys10 ((as9.filter fun a => rooted (tab a).2.1).map fun a => TX (tab a).2.1) := strs_carried (by rw [List.map_map]; exact hca10)
                  have hbk : ∀ b ∈ (as9.filter fun a => rooted (tab a).2.1).map fun a => (tab a).2.1, Bits b ∧ rooted b = true := fun b hb => by
                    obtain ⟨a, ha, rfl⟩ := List.mem_map.mp hb
                    exact ⟨(hrow a (List.mem_filter.mp ha).1).2, (List.mem_filter.mp ha).2⟩
                  have hwk := wS_TX (tab := tab) (as := as9.filter fun a => rooted (tab a).2.1) fun a ha => (hrow a (List.mem_filter.mp ha).1).2
                  have hlk := List.length_filter_le (fun a => rooted (tab a).2.1) as9
                  clear lF lN N10 hnp10 hca10
                  rw [show ((as9.filter fun a => rooted (tab a).2.1).map fun a => TX (tab a).2.1) = ((as9.filter fun a => rooted (tab a).2.1).map fun a => (tab a).2.1).map TX by rw [List.map_map]; rfl] at hys10 hwk
                  generalize (as9.filter fun a => rooted (tab a).2.1).map (fun a => (tab a).2.1) = bk at *
                  have hjl := joinS_len (sep := Str.ofString ":") (ss := bk.map TX) (by decide +kernel)
                  have hok10 : OkS (bk.map TX) := fun x hx => by
                    obtain ⟨b, hb, rfl⟩ := List.mem_map.mp hx
                    exact pl_ok (hbk b hb).1
                  have hz10 : (bk.map TX).length ≤ 1000 := by have := wS_len (bk.map TX); omega
                  have hpf : parseF (Txt.join (Str.ofString ":") (bk.map TX)) = bk.map TX := by
                    unfold parseF
                    split
                    · rw [pl_kept0 hbk ‹_›]; rfl
                    · exact pl_kept hbk ‹_›
                  have hsl : (Txt.join (Str.ofString ":") (bk.map TX)).length ≠ 0 → ∀ p ∈ Txt.split (Txt.join (Str.ofString ":") (bk.map TX)) (Str.ofString ":"), Txt.startswith p (Str.ofString "/") = true := fun h p hp => by
                    rw [pl_kept hbk h] at hp
                    obtain ⟨b, hb, rfl⟩ := List.mem_map.mp hp
                    rw [pl_slash (hbk b hb).1]
                    exact (hbk b hb).2
                  (try dsimp only)
                  k_steps
                  unfold Halt
                  refine parse_g _ _ _ _ _ _ _ _ _ _ rfl (X₅.keeps F10.keep) (T₅.keeps F10.keep) (by show callerA.depth + 1 + 30 < recursionLimit; decide) (by show callerA.units + 3 + 16 * 30 < cLine; decide) ⟨by omega, hsl⟩ ?_
                  intro D11 us11 h11 tk11 st11 hD11 hfr11 hi11
                  rw [hpf] at hi11
                  have lF := F10.keeps st11
                  have lN := news_fresh F10 N11 st11 hD11 hfr11
                  clear F10 N11
                  (try dsimp only)
                  k_steps
                  unfold Halt
                  rename Fr _ _ _ _ => lF
                  rename News _ _ _ _ => lN
                  refine eqT (us := us11) (ws := ys10) ⟨_, (lN _ (.tail _ (.head _))).1, rfl, 0, rfl⟩ ⟨_, (lN _ (.head _)).1, rfl, _, rfl⟩ hi11 hys10 hok10 hok10 (by show callerA.units + 3 + 64 < cLine; decide) ?_
                  rw [decide_eq_true rfl]
                  (try dsimp only at os₅)
                  refine ⟨.inl ⟨_, ofPy (.bool true), [], rfl, raisesW_false (by wrow_none_raised), .bool true, postW_of (by wrow_shape) (by wtm_val) (by str_meet; first | done | w_fin), fun _ => ⟨.nil, fun _ h => nomatch h⟩⟩, B₅.finish lF, os₅, G₅⟩
              · exact (‹¬ List.drop _ _ = _› (by rw [hnl1]; rfl)).elim
end Mine
end
theorem PySem.Challenge.cw_sh0097_01_holds : PySem.Challenge.rw_sh0097_01.Holds :=
  Mine.law_walk
