import PyProof.Rows.All
import Wide.All
import OpenK.AllK
import Wide.FinOn
import PySem.Challenge.RW_pd0100_01
open PySem PySem.W PySem.Calls PySem.Spec PyProof.Rows
set_option Elab.async false
set_option maxRecDepth 100000
set_option maxHeartbeats 8000000
namespace Mine
namespace hd
/-- a statement of the text's top, by its place -/
noncomputable def st (i : Nat) : Stmt := (PySem.Challenge.pw_pd0100_01.main.body[i]?).getD default
/-- the object that a def of the top makes -/
noncomputable def fnObj (i : Nat) (q : Str) (m : Value) (c : Nat) : Obj := match st i with
  | .FunctionDef n a b _ _ _ sc _ _ _ => { cls := .type "function", data := .func { name := n, qualname := q, params := a, body := .stmts b, scope := sc, globals := 3, closure := [], defaults := .none, kwdefaults := .none, pyModule := m, code := .ref c } }
  | _ => default
/-- the text without its plain assignments -/
noncomputable def view_39 : Program := { PySem.Challenge.pw_pd0100_01 with main := { PySem.Challenge.pw_pd0100_01.main with body := [0, 2, 4, 6, 7, 9, 11, 13, 14, 15, 16, 17, 19, 20, 21, 23, 24, 25, 26, 27, 28, 29].map st } }
noncomputable def f94 : Obj := by
  refine (fun (K : Obj) (_ : fnObj 9 (Str.ofString "fspath") (Value.str (Str.ofString "os") 281) 93 = K) => K) ?K ?h
  case h =>
    conv =>
      lhs
      whnf
noncomputable def f108 : Obj := by
  refine (fun (K : Obj) (_ : fnObj 13 (Str.ofString "_get_sep") (Value.str (Str.ofString "cpy313.posixpath") 306) 107 = K) => K) ?K ?h
  case h =>
    conv =>
      lhs
      whnf
noncomputable def f115 : Obj := by
  refine (fun (K : Obj) (_ : fnObj 14 (Str.ofString "join") (Value.str (Str.ofString "cpy313.posixpath") 306) 114 = K) => K) ?K ?h
  case h =>
    conv =>
      lhs
      whnf
noncomputable def f122 : Obj := by
  refine (fun (K : Obj) (_ : fnObj 15 (Str.ofString "splitroot") (Value.str (Str.ofString "cpy313.posixpath") 306) 121 = K) => K) ?K ?h
  case h =>
    conv =>
      lhs
      whnf
noncomputable def f129 : Obj := by
  refine (fun (K : Obj) (_ : fnObj 16 (Str.ofString "dirname") (Value.str (Str.ofString "cpy313.posixpath") 306) 128 = K) => K) ?K ?h
  case h =>
    conv =>
      lhs
      whnf
noncomputable def f136 : Obj := by
  refine (fun (K : Obj) (_ : fnObj 17 (Str.ofString "normpath") (Value.str (Str.ofString "cpy313.posixpath") 306) 135 = K) => K) ?K ?h
  case h =>
    conv =>
      lhs
      whnf
noncomputable def f168 : Obj := by
  refine (fun (K : Obj) (_ : fnObj 21 (Str.ofString "parse257") (Value.str (Str.ofString "cpy313.ftplib") 360) 167 = K) => K) ?K ?h
  case h =>
    conv =>
      lhs
      whnf
noncomputable def f173 : Obj := by
  refine (fun (K : Obj) (_ : fnObj 23 (Str.ofString "_law_way") (Value.str (Str.ofString "law_pd0100_01") 409) 172 = K) => K) ?K ?h
  case h =>
    conv =>
      lhs
      whnf
noncomputable def f180 : Obj := by
  refine (fun (K : Obj) (_ : fnObj 24 (Str.ofString "_law_answer") (Value.str (Str.ofString "law_pd0100_01") 409) 179 = K) => K) ?K ?h
  case h =>
    conv =>
      lhs
      whnf
noncomputable def f185 : Obj := by
  refine (fun (K : Obj) (_ : fnObj 25 (Str.ofString "_law_server") (Value.str (Str.ofString "law_pd0100_01") 409) 184 = K) => K) ?K ?h
  case h =>
    conv =>
      lhs
      whnf
noncomputable def f192 : Obj := by
  refine (fun (K : Obj) (_ : fnObj 26 (Str.ofString "_law_talk") (Value.str (Str.ofString "law_pd0100_01") 409) 191 = K) => K) ?K ?h
  case h =>
    conv =>
      lhs
      whnf
noncomputable def f199 : Obj := by
  refine (fun (K : Obj) (_ : fnObj 27 (Str.ofString "_law_place") (Value.str (Str.ofString "law_pd0100_01") 409) 198 = K) => K) ?K ?h
  case h =>
    conv =>
      lhs
      whnf
noncomputable def f204 : Obj := by
  refine (fun (K : Obj) (_ : fnObj 28 (Str.ofString "_law_due") (Value.str (Str.ofString "law_pd0100_01") 409) 203 = K) => K) ?K ?h
  case h =>
    conv =>
      lhs
      whnf
noncomputable def f211 : Obj := by
  refine (fun (K : Obj) (_ : fnObj 29 (Str.ofString "law") (Value.str (Str.ofString "law_pd0100_01") 409) 210 = K) => K) ?K ?h
  case h =>
    conv =>
      lhs
      whnf
/-- the objects that the top leaves, as far as the law needs them -/
noncomputable def heap_39 (P : Params) : Frag :=
  (nat_lit 2, (Obj.mk Value.none none (Data.dict (List.toArray ((DictEntry.mk (PyData.keyHash P (Str.ofString "type.__subclasses__.Exception.0")) (Value.str (Str.ofString "type.__subclasses__.Exception.0") 378) (Value.int 146 0)) :: ((DictEntry.mk (PyData.keyHash P (Str.ofString "type.__subclasses__.Exception.n")) (Value.str (Str.ofString "type.__subclasses__.Exception.n") 379) (Value.int 1 0)) :: []))) 2) (List.toArray []))) ::
  (nat_lit 3, (Obj.mk (Value.type "dict") none (Data.dict (List.toArray ((DictEntry.mk (PyData.keyHash P (Str.ofString "__name__")) (Value.str (Str.ofString "__name__") 165) (Value.str (Str.ofString "law_pd0100_01") 409)) :: ((DictEntry.mk (PyData.keyHash P (Str.ofString "__doc__")) (Value.str (Str.ofString "__doc__") 166) Value.none) :: ((DictEntry.mk (PyData.keyHash P (Str.ofString "__package__")) (Value.str (Str.ofString "__package__") 167) Value.none) :: ((DictEntry.mk (PyData.keyHash P (Str.ofString "__loader__")) (Value.str (Str.ofString "__loader__") 168) (Value.builtin "__main__.__loader__#opaque")) :: ((DictEntry.mk (PyData.keyHash P (Str.ofString "__spec__")) (Value.str (Str.ofString "__spec__") 169) Value.none) :: ((DictEntry.mk (PyData.keyHash P (Str.ofString "__annotations__")) (Value.str (Str.ofString "__annotations__") 170) (Value.ref 6)) :: ((DictEntry.mk (PyData.keyHash P (Str.ofString "__builtins__")) (Value.str (Str.ofString "__builtins__") 171) (Value.ref 4)) :: ((DictEntry.mk (PyData.keyHash P (Str.ofString "__file__")) (Value.str (Str.ofString "__file__") 173) (Value.str (Str.ofString "/claim/cut.py") 172)) :: ((DictEntry.mk (PyData.keyHash P (Str.ofString "__cached__")) (Value.str (Str.ofString "__cached__") 174) Value.none) :: ((DictEntry.mk (PyData.keyHash P (Str.ofString "_wall")) (Value.str (Str.ofString "_wall") 193) (Value.ref 21)) :: ((DictEntry.mk (PyData.keyHash P (Str.ofString "_plain_name")) (Value.str (Str.ofString "_plain_name") 204) (Value.ref 28)) :: ((DictEntry.mk (PyData.keyHash P (Str.ofString "ABCMeta")) (Value.str (Str.ofString "ABCMeta") 230) (Value.ref 45)) :: ((DictEntry.mk (PyData.keyHash P (Str.ofString "_ABCLike")) (Value.str (Str.ofString "_ABCLike") 273) (Value.ref 78)) :: ((DictEntry.mk (PyData.keyHash P (Str.ofString "_abc_plain_meta")) (Value.str (Str.ofString "_abc_plain_meta") 280) (Value.ref 87)) :: ((DictEntry.mk (PyData.keyHash P (Str.ofString "fspath")) (Value.str (Str.ofString "fspath") 292) (Value.ref 94)) :: ((DictEntry.mk (PyData.keyHash P (Str.ofString "_check_arg_types")) (Value.str (Str.ofString "_check_arg_types") 305) (Value.ref 101)) :: ((DictEntry.mk (PyData.keyHash P (Str.ofString "_get_sep")) (Value.str (Str.ofString "_get_sep") 314) (Value.ref 108)) :: ((DictEntry.mk (PyData.keyHash P (Str.ofString "join")) (Value.str (Str.ofString "join") 325) (Value.ref 115)) :: ((DictEntry.mk (PyData.keyHash P (Str.ofString "splitroot")) (Value.str (Str.ofString "splitroot") 334) (Value.ref 122)) :: ((DictEntry.mk (PyData.keyHash P (Str.ofString "dirname")) (Value.str (Str.ofString "dirname") 344) (Value.ref 129)) :: ((DictEntry.mk (PyData.keyHash P (Str.ofString "normpath")) (Value.str (Str.ofString "normpath") 359) (Value.ref 136)) :: ((DictEntry.mk (PyData.keyHash P (Str.ofString "Error")) (Value.str (Str.ofString "Error") 381) (Value.ref 146)) :: ((DictEntry.mk (PyData.keyHash P (Str.ofString "error_reply")) (Value.str (Str.ofString "error_reply") 397) (Value.ref 159)) :: ((DictEntry.mk (PyData.keyHash P (Str.ofString "parse257")) (Value.str (Str.ofString "parse257") 408) (Value.ref 168)) :: ((DictEntry.mk (PyData.keyHash P (Str.ofString "_law_way")) (Value.str (Str.ofString "_law_way") 416) (Value.ref 173)) :: ((DictEntry.mk (PyData.keyHash P (Str.ofString "_law_answer")) (Value.str (Str.ofString "_law_answer") 425) (Value.ref 180)) :: ((DictEntry.mk (PyData.keyHash P (Str.ofString "_law_server")) (Value.str (Str.ofString "_law_server") 431) (Value.ref 185)) :: ((DictEntry.mk (PyData.keyHash P (Str.ofString "_law_talk")) (Value.str (Str.ofString "_law_talk") 444) (Value.ref 192)) :: ((DictEntry.mk (PyData.keyHash P (Str.ofString "_law_place")) (Value.str (Str.ofString "_law_place") 455) (Value.ref 199)) :: ((DictEntry.mk (PyData.keyHash P (Str.ofString "_law_due")) (Value.str (Str.ofString "_law_due") 461) (Value.ref 204)) :: ((DictEntry.mk (PyData.keyHash P (Str.ofString "law")) (Value.str (Str.ofString "law") 475) (Value.ref 211)) :: [])))))))))))))))))))))))))))))))) 31) (List.toArray []))) ::
  (nat_lit 88, (Obj.mk (Value.type "tuple") none (Data.seq (List.toArray []) 0) (List.toArray []))) ::
  (nat_lit 90, (Obj.mk (Value.type "tuple") none (Data.seq (List.toArray ((Value.str (Str.ofString "path") 286) :: ((Value.str (Str.ofString "kind") 287) :: ((Value.str (Str.ofString "hook") 288) :: ((Value.str (Str.ofString "given") 289) :: []))))) 0) (List.toArray []))) ::
  (nat_lit 91, (Obj.mk (Value.type "tuple") none (Data.seq (List.toArray []) 0) (List.toArray []))) ::
  (nat_lit 93, (Obj.mk (Value.type "code") none (Data.fields (List.toArray ((Value.str (Str.ofString "fspath") 283) :: ((Value.str (Str.ofString "fspath") 284) :: ((Value.str (Str.ofString "/claim/cut.py") 285) :: ((Value.int 35 0) :: ((Value.int 1 0) :: ((Value.int 0 0) :: ((Value.int 0 0) :: ((Value.int 3 0) :: ((Value.ref 88) :: ((Value.bool true) :: ((Value.int 181 0) :: ((Value.ref 89) :: (Value.none :: ((Value.ref 90) :: ((Value.ref 91) :: ((Value.ref 92) :: ((Value.int 290 0) :: ((Value.int 35 0) :: ((Value.str (Str.ofString "/claim/cut.py") 291) :: []))))))))))))))))))))) (List.toArray []))) ::
  (nat_lit 94, f94) ::
  (nat_lit 102, (Obj.mk (Value.type "tuple") none (Data.seq (List.toArray []) 0) (List.toArray []))) ::
  (nat_lit 104, (Obj.mk (Value.type "tuple") none (Data.seq (List.toArray ((Value.str (Str.ofString "path") 311) :: [])) 0) (List.toArray []))) ::
  (nat_lit 105, (Obj.mk (Value.type "tuple") none (Data.seq (List.toArray []) 0) (List.toArray []))) ::
  (nat_lit 107, (Obj.mk (Value.type "code") none (Data.fields (List.toArray ((Value.str (Str.ofString "_get_sep") 308) :: ((Value.str (Str.ofString "_get_sep") 309) :: ((Value.str (Str.ofString "/claim/cut.py") 310) :: ((Value.int 64 0) :: ((Value.int 1 0) :: ((Value.int 0 0) :: ((Value.int 0 0) :: ((Value.int 3 0) :: ((Value.ref 102) :: ((Value.bool true) :: ((Value.int 181 0) :: ((Value.ref 103) :: (Value.none :: ((Value.ref 104) :: ((Value.ref 105) :: ((Value.ref 106) :: ((Value.int 312 0) :: ((Value.int 64 0) :: ((Value.str (Str.ofString "/claim/cut.py") 313) :: []))))))))))))))))))))) (List.toArray []))) ::
  (nat_lit 108, f108) ::
  (nat_lit 109, (Obj.mk (Value.type "tuple") none (Data.seq (List.toArray []) 0) (List.toArray []))) ::
  (nat_lit 111, (Obj.mk (Value.type "tuple") none (Data.seq (List.toArray ((Value.str (Str.ofString "a") 318) :: ((Value.str (Str.ofString "p") 319) :: ((Value.str (Str.ofString "sep") 320) :: ((Value.str (Str.ofString "path") 321) :: ((Value.str (Str.ofString "b") 322) :: [])))))) 0) (List.toArray []))) ::
  (nat_lit 112, (Obj.mk (Value.type "tuple") none (Data.seq (List.toArray []) 0) (List.toArray []))) ::
  (nat_lit 114, (Obj.mk (Value.type "code") none (Data.fields (List.toArray ((Value.str (Str.ofString "join") 315) :: ((Value.str (Str.ofString "join") 316) :: ((Value.str (Str.ofString "/claim/cut.py") 317) :: ((Value.int 69 0) :: ((Value.int 1 0) :: ((Value.int 0 0) :: ((Value.int 0 0) :: ((Value.int 7 0) :: ((Value.ref 109) :: ((Value.bool true) :: ((Value.int 181 0) :: ((Value.ref 110) :: (Value.none :: ((Value.ref 111) :: ((Value.ref 112) :: ((Value.ref 113) :: ((Value.int 323 0) :: ((Value.int 69 0) :: ((Value.str (Str.ofString "/claim/cut.py") 324) :: []))))))))))))))))))))) (List.toArray []))) ::
  (nat_lit 115, f115) ::
  (nat_lit 116, (Obj.mk (Value.type "tuple") none (Data.seq (List.toArray []) 0) (List.toArray []))) ::
  (nat_lit 118, (Obj.mk (Value.type "tuple") none (Data.seq (List.toArray ((Value.str (Str.ofString "p") 329) :: ((Value.str (Str.ofString "sep") 330) :: ((Value.str (Str.ofString "empty") 331) :: [])))) 0) (List.toArray []))) ::
  (nat_lit 119, (Obj.mk (Value.type "tuple") none (Data.seq (List.toArray []) 0) (List.toArray []))) ::
  (nat_lit 121, (Obj.mk (Value.type "code") none (Data.fields (List.toArray ((Value.str (Str.ofString "splitroot") 326) :: ((Value.str (Str.ofString "splitroot") 327) :: ((Value.str (Str.ofString "/claim/cut.py") 328) :: ((Value.int 86 0) :: ((Value.int 1 0) :: ((Value.int 0 0) :: ((Value.int 0 0) :: ((Value.int 3 0) :: ((Value.ref 116) :: ((Value.bool true) :: ((Value.int 181 0) :: ((Value.ref 117) :: (Value.none :: ((Value.ref 118) :: ((Value.ref 119) :: ((Value.ref 120) :: ((Value.int 332 0) :: ((Value.int 86 0) :: ((Value.str (Str.ofString "/claim/cut.py") 333) :: []))))))))))))))))))))) (List.toArray []))) ::
  (nat_lit 122, f122) ::
  (nat_lit 123, (Obj.mk (Value.type "tuple") none (Data.seq (List.toArray []) 0) (List.toArray []))) ::
  (nat_lit 125, (Obj.mk (Value.type "tuple") none (Data.seq (List.toArray ((Value.str (Str.ofString "p") 338) :: ((Value.str (Str.ofString "sep") 339) :: ((Value.str (Str.ofString "i") 340) :: ((Value.str (Str.ofString "head") 341) :: []))))) 0) (List.toArray []))) ::
  (nat_lit 126, (Obj.mk (Value.type "tuple") none (Data.seq (List.toArray []) 0) (List.toArray []))) ::
  (nat_lit 128, (Obj.mk (Value.type "code") none (Data.fields (List.toArray ((Value.str (Str.ofString "dirname") 335) :: ((Value.str (Str.ofString "dirname") 336) :: ((Value.str (Str.ofString "/claim/cut.py") 337) :: ((Value.int 100 0) :: ((Value.int 1 0) :: ((Value.int 0 0) :: ((Value.int 0 0) :: ((Value.int 3 0) :: ((Value.ref 123) :: ((Value.bool true) :: ((Value.int 181 0) :: ((Value.ref 124) :: (Value.none :: ((Value.ref 125) :: ((Value.ref 126) :: ((Value.ref 127) :: ((Value.int 342 0) :: ((Value.int 100 0) :: ((Value.str (Str.ofString "/claim/cut.py") 343) :: []))))))))))))))))))))) (List.toArray []))) ::
  (nat_lit 129, f129) ::
  (nat_lit 130, (Obj.mk (Value.type "tuple") none (Data.seq (List.toArray []) 0) (List.toArray []))) ::
  (nat_lit 132, (Obj.mk (Value.type "tuple") none (Data.seq (List.toArray ((Value.str (Str.ofString "path") 348) :: ((Value.str (Str.ofString "sep") 349) :: ((Value.str (Str.ofString "dot") 350) :: ((Value.str (Str.ofString "dotdot") 351) :: ((Value.str (Str.ofString "_") 352) :: ((Value.str (Str.ofString "initial_slashes") 353) :: ((Value.str (Str.ofString "comps") 354) :: ((Value.str (Str.ofString "new_comps") 355) :: ((Value.str (Str.ofString "comp") 356) :: [])))))))))) 0) (List.toArray []))) ::
  (nat_lit 133, (Obj.mk (Value.type "tuple") none (Data.seq (List.toArray []) 0) (List.toArray []))) ::
  (nat_lit 135, (Obj.mk (Value.type "code") none (Data.fields (List.toArray ((Value.str (Str.ofString "normpath") 345) :: ((Value.str (Str.ofString "normpath") 346) :: ((Value.str (Str.ofString "/claim/cut.py") 347) :: ((Value.int 108 0) :: ((Value.int 1 0) :: ((Value.int 0 0) :: ((Value.int 0 0) :: ((Value.int 3 0) :: ((Value.ref 130) :: ((Value.bool true) :: ((Value.int 181 0) :: ((Value.ref 131) :: (Value.none :: ((Value.ref 132) :: ((Value.ref 133) :: ((Value.ref 134) :: ((Value.int 357 0) :: ((Value.int 108 0) :: ((Value.str (Str.ofString "/claim/cut.py") 358) :: []))))))))))))))))))))) (List.toArray []))) ::
  (nat_lit 136, f136) ::
  (nat_lit 137, (Obj.mk (Value.type "tuple") none (Data.seq (List.toArray ((Value.type "Exception") :: [])) 0) (List.toArray []))) ::
  (nat_lit 144, (Obj.mk (Value.type "tuple") none (Data.seq (List.toArray []) 0) (List.toArray []))) ::
  (nat_lit 145, (Obj.mk (Value.type "dict") none (Data.dict (List.toArray ((DictEntry.mk (PyData.keyHash P (Str.ofString "__module__")) (Value.str (Str.ofString "__module__") 369) (Value.str (Str.ofString "cpy313.ftplib") 360)) :: ((DictEntry.mk (PyData.keyHash P (Str.ofString "__firstlineno__")) (Value.str (Str.ofString "__firstlineno__") 373) (Value.int 134 372)) :: ((DictEntry.mk (PyData.keyHash P (Str.ofString "__static_attributes__")) (Value.str (Str.ofString "__static_attributes__") 374) (Value.ref 144)) :: ((DictEntry.mk (PyData.keyHash P (Str.ofString "__weakref__")) (Value.str (Str.ofString "__weakref__") 376) (Value.ref 147)) :: ((DictEntry.mk (PyData.keyHash P (Str.ofString "__doc__")) (Value.str (Str.ofString "__doc__") 377) Value.none) :: [])))))) 3) (List.toArray []))) ::
  (nat_lit 146, (Obj.mk (Value.type "type") none (Data.cls (ClassData.mk (Str.ofString "Error") ((Value.type "Exception") :: []) ((Value.ref 146) :: ((Value.type "Exception") :: ((Value.type "BaseException") :: ((Value.type "object") :: [])))) 145 (Str.ofString "Error") true [] ((Value.ref 159) :: []) false none false)) (List.toArray ((some (Value.ref 137)) :: (none :: ((some (Value.str (Str.ofString "Error") 362)) :: ((some (Value.str (Str.ofString "Error") 370)) :: ((some (Value.builtin "Exception.__new__")) :: ((some (Value.bool true)) :: []))))))))) ::
  (nat_lit 147, (Obj.mk (Value.type "getset_descriptor") none (Data.fields (List.toArray ((Value.str (Str.ofString "__weakref__") 375) :: ((Value.ref 146) :: ((Value.builtin "ExceptionGroup.__weakref__") :: (Value.none :: [])))))) (List.toArray []))) ::
  (nat_lit 150, (Obj.mk (Value.type "tuple") none (Data.seq (List.toArray ((Value.ref 146) :: [])) 0) (List.toArray []))) ::
  (nat_lit 157, (Obj.mk (Value.type "tuple") none (Data.seq (List.toArray []) 0) (List.toArray []))) ::
  (nat_lit 158, (Obj.mk (Value.type "dict") none (Data.dict (List.toArray ((DictEntry.mk (PyData.keyHash P (Str.ofString "__module__")) (Value.str (Str.ofString "__module__") 389) (Value.str (Str.ofString "cpy313.ftplib") 360)) :: ((DictEntry.mk (PyData.keyHash P (Str.ofString "__firstlineno__")) (Value.str (Str.ofString "__firstlineno__") 393) (Value.int 136 392)) :: ((DictEntry.mk (PyData.keyHash P (Str.ofString "__static_attributes__")) (Value.str (Str.ofString "__static_attributes__") 394) (Value.ref 157)) :: ((DictEntry.mk (PyData.keyHash P (Str.ofString "__doc__")) (Value.str (Str.ofString "__doc__") 395) Value.none) :: []))))) 2) (List.toArray []))) ::
  (nat_lit 159, (Obj.mk (Value.type "type") none (Data.cls (ClassData.mk (Str.ofString "error_reply") ((Value.ref 146) :: []) ((Value.ref 159) :: ((Value.ref 146) :: ((Value.type "Exception") :: ((Value.type "BaseException") :: ((Value.type "object") :: []))))) 158 (Str.ofString "error_reply") true [] [] false none false)) (List.toArray ((some (Value.ref 150)) :: (none :: ((some (Value.str (Str.ofString "error_reply") 382)) :: ((some (Value.str (Str.ofString "error_reply") 390)) :: ((some (Value.builtin "Exception.__new__")) :: ((some (Value.bool true)) :: []))))))))) ::
  (nat_lit 162, (Obj.mk (Value.type "tuple") none (Data.seq (List.toArray []) 0) (List.toArray []))) ::
  (nat_lit 164, (Obj.mk (Value.type "tuple") none (Data.seq (List.toArray ((Value.str (Str.ofString "resp") 401) :: ((Value.str (Str.ofString "dirname") 402) :: ((Value.str (Str.ofString "i") 403) :: ((Value.str (Str.ofString "n") 404) :: ((Value.str (Str.ofString "c") 405) :: [])))))) 0) (List.toArray []))) ::
  (nat_lit 165, (Obj.mk (Value.type "tuple") none (Data.seq (List.toArray []) 0) (List.toArray []))) ::
  (nat_lit 167, (Obj.mk (Value.type "code") none (Data.fields (List.toArray ((Value.str (Str.ofString "parse257") 398) :: ((Value.str (Str.ofString "parse257") 399) :: ((Value.str (Str.ofString "/claim/cut.py") 400) :: ((Value.int 138 0) :: ((Value.int 1 0) :: ((Value.int 0 0) :: ((Value.int 0 0) :: ((Value.int 3 0) :: ((Value.ref 162) :: ((Value.bool true) :: ((Value.int 181 0) :: ((Value.ref 163) :: (Value.none :: ((Value.ref 164) :: ((Value.ref 165) :: ((Value.ref 166) :: ((Value.int 406 0) :: ((Value.int 138 0) :: ((Value.str (Str.ofString "/claim/cut.py") 407) :: []))))))))))))))))))))) (List.toArray []))) ::
  (nat_lit 168, f168) ::
  (nat_lit 169, (Obj.mk (Value.type "tuple") none (Data.seq (List.toArray []) 0) (List.toArray []))) ::
  (nat_lit 172, (Obj.mk (Value.type "code") none (Data.fields (List.toArray ((Value.str (Str.ofString "_law_way") 411) :: ((Value.str (Str.ofString "_law_way") 412) :: ((Value.str (Str.ofString "/claim/cut.py") 413) :: ((Value.int 156 0) :: ((Value.int 1 0) :: ((Value.int 0 0) :: ((Value.int 0 0) :: ((Value.int 3 0) :: ((Value.ref 169) :: ((Value.bool true) :: ((Value.int 181 0) :: ((Value.ref 170) :: (Value.none :: (Value.none :: (Value.none :: ((Value.ref 171) :: ((Value.int 414 0) :: ((Value.int 156 0) :: ((Value.str (Str.ofString "/claim/cut.py") 415) :: []))))))))))))))))))))) (List.toArray []))) ::
  (nat_lit 173, f173) ::
  (nat_lit 174, (Obj.mk (Value.type "tuple") none (Data.seq (List.toArray []) 0) (List.toArray []))) ::
  (nat_lit 176, (Obj.mk (Value.type "tuple") none (Data.seq (List.toArray ((Value.str (Str.ofString "code") 420) :: ((Value.str (Str.ofString "names") 421) :: ((Value.str (Str.ofString "words") 422) :: [])))) 0) (List.toArray []))) ::
  (nat_lit 177, (Obj.mk (Value.type "tuple") none (Data.seq (List.toArray []) 0) (List.toArray []))) ::
  (nat_lit 179, (Obj.mk (Value.type "code") none (Data.fields (List.toArray ((Value.str (Str.ofString "_law_answer") 417) :: ((Value.str (Str.ofString "_law_answer") 418) :: ((Value.str (Str.ofString "/claim/cut.py") 419) :: ((Value.int 161 0) :: ((Value.int 3 0) :: ((Value.int 0 0) :: ((Value.int 0 0) :: ((Value.int 3 0) :: ((Value.ref 174) :: ((Value.bool true) :: ((Value.int 181 0) :: ((Value.ref 175) :: (Value.none :: ((Value.ref 176) :: ((Value.ref 177) :: ((Value.ref 178) :: ((Value.int 423 0) :: ((Value.int 161 0) :: ((Value.str (Str.ofString "/claim/cut.py") 424) :: []))))))))))))))))))))) (List.toArray []))) ::
  (nat_lit 180, f180) ::
  (nat_lit 181, (Obj.mk (Value.type "tuple") none (Data.seq (List.toArray []) 0) (List.toArray []))) ::
  (nat_lit 184, (Obj.mk (Value.type "code") none (Data.fields (List.toArray ((Value.str (Str.ofString "_law_server") 426) :: ((Value.str (Str.ofString "_law_server") 427) :: ((Value.str (Str.ofString "/claim/cut.py") 428) :: ((Value.int 163 0) :: ((Value.int 2 0) :: ((Value.int 0 0) :: ((Value.int 0 0) :: ((Value.int 3 0) :: ((Value.ref 181) :: ((Value.bool true) :: ((Value.int 181 0) :: ((Value.ref 182) :: (Value.none :: (Value.none :: (Value.none :: ((Value.ref 183) :: ((Value.int 429 0) :: ((Value.int 163 0) :: ((Value.str (Str.ofString "/claim/cut.py") 430) :: []))))))))))))))))))))) (List.toArray []))) ::
  (nat_lit 185, f185) ::
  (nat_lit 186, (Obj.mk (Value.type "tuple") none (Data.seq (List.toArray []) 0) (List.toArray []))) ::
  (nat_lit 188, (Obj.mk (Value.type "tuple") none (Data.seq (List.toArray ((Value.str (Str.ofString "there") 435) :: ((Value.str (Str.ofString "goal") 436) :: ((Value.str (Str.ofString "asked") 437) :: ((Value.str (Str.ofString "talk") 438) :: ((Value.str (Str.ofString "turn") 439) :: ((Value.str (Str.ofString "path") 440) :: ((Value.str (Str.ofString "fault") 441) :: [])))))))) 0) (List.toArray []))) ::
  (nat_lit 189, (Obj.mk (Value.type "tuple") none (Data.seq (List.toArray []) 0) (List.toArray []))) ::
  (nat_lit 191, (Obj.mk (Value.type "code") none (Data.fields (List.toArray ((Value.str (Str.ofString "_law_talk") 432) :: ((Value.str (Str.ofString "_law_talk") 433) :: ((Value.str (Str.ofString "/claim/cut.py") 434) :: ((Value.int 171 0) :: ((Value.int 2 0) :: ((Value.int 0 0) :: ((Value.int 0 0) :: ((Value.int 3 0) :: ((Value.ref 186) :: ((Value.bool true) :: ((Value.int 181 0) :: ((Value.ref 187) :: (Value.none :: ((Value.ref 188) :: ((Value.ref 189) :: ((Value.ref 190) :: ((Value.int 442 0) :: ((Value.int 171 0) :: ((Value.str (Str.ofString "/claim/cut.py") 443) :: []))))))))))))))))))))) (List.toArray []))) ::
  (nat_lit 192, f192) ::
  (nat_lit 193, (Obj.mk (Value.type "tuple") none (Data.seq (List.toArray []) 0) (List.toArray []))) ::
  (nat_lit 195, (Obj.mk (Value.type "tuple") none (Data.seq (List.toArray ((Value.str (Str.ofString "place") 448) :: ((Value.str (Str.ofString "pieces") 449) :: ((Value.str (Str.ofString "names") 450) :: ((Value.str (Str.ofString "debts") 451) :: ((Value.str (Str.ofString "piece") 452) :: [])))))) 0) (List.toArray []))) ::
  (nat_lit 196, (Obj.mk (Value.type "tuple") none (Data.seq (List.toArray []) 0) (List.toArray []))) ::
  (nat_lit 198, (Obj.mk (Value.type "code") none (Data.fields (List.toArray ((Value.str (Str.ofString "_law_place") 445) :: ((Value.str (Str.ofString "_law_place") 446) :: ((Value.str (Str.ofString "/claim/cut.py") 447) :: ((Value.int 187 0) :: ((Value.int 2 0) :: ((Value.int 0 0) :: ((Value.int 0 0) :: ((Value.int 3 0) :: ((Value.ref 193) :: ((Value.bool true) :: ((Value.int 181 0) :: ((Value.ref 194) :: (Value.none :: ((Value.ref 195) :: ((Value.ref 196) :: ((Value.ref 197) :: ((Value.int 453 0) :: ((Value.int 187 0) :: ((Value.str (Str.ofString "/claim/cut.py") 454) :: []))))))))))))))))))))) (List.toArray []))) ::
  (nat_lit 199, f199) ::
  (nat_lit 200, (Obj.mk (Value.type "tuple") none (Data.seq (List.toArray []) 0) (List.toArray []))) ::
  (nat_lit 203, (Obj.mk (Value.type "code") none (Data.fields (List.toArray ((Value.str (Str.ofString "_law_due") 456) :: ((Value.str (Str.ofString "_law_due") 457) :: ((Value.str (Str.ofString "/claim/cut.py") 458) :: ((Value.int 198 0) :: ((Value.int 3 0) :: ((Value.int 0 0) :: ((Value.int 0 0) :: ((Value.int 3 0) :: ((Value.ref 200) :: ((Value.bool true) :: ((Value.int 181 0) :: ((Value.ref 201) :: (Value.none :: (Value.none :: (Value.none :: ((Value.ref 202) :: ((Value.int 459 0) :: ((Value.int 198 0) :: ((Value.str (Str.ofString "/claim/cut.py") 460) :: []))))))))))))))))))))) (List.toArray []))) ::
  (nat_lit 204, f204) ::
  (nat_lit 205, (Obj.mk (Value.type "tuple") none (Data.seq (List.toArray []) 0) (List.toArray []))) ::
  (nat_lit 207, (Obj.mk (Value.type "tuple") none (Data.seq (List.toArray ((Value.str (Str.ofString "script") 465) :: ((Value.str (Str.ofString "there") 466) :: ((Value.str (Str.ofString "here") 467) :: ((Value.str (Str.ofString "place") 468) :: ((Value.str (Str.ofString "x") 469) :: ((Value.str (Str.ofString "way") 470) :: ((Value.str (Str.ofString "root") 471) :: ((Value.str (Str.ofString "due") 472) :: []))))))))) 0) (List.toArray []))) ::
  (nat_lit 208, (Obj.mk (Value.type "tuple") none (Data.seq (List.toArray []) 0) (List.toArray []))) ::
  (nat_lit 210, (Obj.mk (Value.type "code") none (Data.fields (List.toArray ((Value.str (Str.ofString "law") 462) :: ((Value.str (Str.ofString "law") 463) :: ((Value.str (Str.ofString "/claim/cut.py") 464) :: ((Value.int 208 0) :: ((Value.int 1 0) :: ((Value.int 0 0) :: ((Value.int 0 0) :: ((Value.int 3 0) :: ((Value.ref 205) :: ((Value.bool true) :: ((Value.int 181 0) :: ((Value.ref 206) :: (Value.none :: ((Value.ref 207) :: ((Value.ref 208) :: ((Value.ref 209) :: ((Value.int 473 0) :: ((Value.int 208 0) :: ((Value.str (Str.ofString "/claim/cut.py") 474) :: []))))))))))))))))))))) (List.toArray []))) ::
  (nat_lit 211, f211) :: []
def ads : List Addr := [2, 3, 88, 90, 91, 93, 94, 102, 104, 105, 107, 108, 109, 111, 112, 114, 115, 116, 118, 119, 121, 122, 123, 125, 126, 128, 129, 130, 132, 133, 135, 136, 137, 144, 145, 146, 147, 150, 157, 158, 159, 162, 164, 165, 167, 168, 169, 172, 173, 174, 176, 177, 179, 180, 181, 184, 185, 186, 188, 189, 191, 192, 193, 195, 196, 198, 199, 200, 203, 204, 205, 207, 208, 210, 211]
theorem ads_eq : ∀ P, ads = (heap_39 P).map (·.1) := fun _ => by kernel_rfl
theorem left : LeftO PySem.Challenge.rw_pd0100_01.row.prog view_39 [] (fun s => xlAt view_39 [] s && recOk (RowW.records PySem.Challenge.rw_pd0100_01.row.toRowW) s)
    (kHook heap_39 ads ads_eq).obs (kHook heap_39 ads ads_eq).val 3248 := by
  intro w
  kernel_rfl
noncomputable def lawRec : DefRec := by
  refine (fun (K : DefRec) (_ : ((defOf view_39 (Str.ofString "law")).get (by decide +kernel)).1 = K) => K) ?K ?h
  case h =>
    conv =>
      lhs
      whnf
end hd
theorem hd (walk : WalkO hd.view_39 [] (XL hd.view_39 []) (kHook hd.heap_39 hd.ads hd.ads_eq).says PySem.Challenge.rw_pd0100_01.row.toRowW hd.lawRec [] fun f vs => PySem.call f vs) : PySem.Challenge.rw_pd0100_01.Holds := by
  w_on
  o_law
  refine holds_open (q := hd.view_39) (loose := []) (Xt := fun s => xlAt hd.view_39 [] s && recOk (RowW.records PySem.Challenge.rw_pd0100_01.row.toRowW) s) (XP := XL hd.view_39 []) (Yf := (kHook hd.heap_39 hd.ads hd.ads_eq).obs) (Ya := (kHook hd.heap_39 hd.ads hd.ads_eq).val) (YP := (kHook hd.heap_39 hd.ads hd.ads_eq).says) (d := hd.lawRec) (kwd := []) (N := 3248)
    hd.left (kHook hd.heap_39 hd.ads hd.ads_eq).of (kHook hd.heap_39 hd.ads hd.ads_eq).keeps (fun s e => xl_of s (Bool.and_eq_true_iff.mp e).1) XL.keeps (by kernel_rfl) (by kernel_rfl) (by rfl) (fun s e => recFacts_of (Bool.and_eq_true_iff.mp e).2) (by rfl) (by assumption) (by decide +kernel) ⟨rfl, rfl, rfl, rfl, rfl, by decide +kernel⟩ ?hw walk
  w_witness2

section
-- part Base
section
variable {prog : Program} {w : World} {A : Around} {s : Shared} {h₀ : Heap} {L : Addr} {m : Str → Option Value} {news : List (Addr × Obj)} {K : Frag}
  {name qual : Str} {params : Arguments} {body : List Stmt} {scope : Scope} {dV kV doc pm cdv ct oc : Value} {an od : Option Addr} {osl : Array (Option Value)} {f : Addr} {pos : List Value} {kw : List (Str × Value)} {binds : List (Str × Value)}
  {p : Program} {loose : List Str} {mg mb : Str → Option Value} {Q E : Value → Shared → Prop}

/-- what holds behind a call's body: the callee's frame and ledger, and what the caller makes of them -/
def Back (h₀ : Heap) (L : Addr) (m : Str → Option Value) (g : Heap) (Q : Value → Shared → Prop) (v : Value) (s' : Shared) : Prop :=
  ∃ L' m' news', Fr g L' s'.heap m' ∧ News g L' s'.heap news' ∧ (Fr h₀ L s'.heap m → News h₀ L s'.heap news' → Q v s')

theorem Back.intro {g : Heap} {L' : Addr} {m' : Str → Option Value} {nw : List (Addr × Obj)} {v : Value} (F : Fr g L' s.heap m') (N : News g L' s.heap nw) (k : Fr h₀ L s.heap m → News h₀ L s.heap nw → Q v s) : Back h₀ L m g Q v s := ⟨L', m', nw, F, N, k⟩

theorem ground (F : Fr h₀ L s.heap m) (N : News h₀ L s.heap news) :
    h₀.StaysIn (hideAll s.heap (news.map (·.1))) ∧ ∀ v s', Back h₀ L m (hideAll s.heap (news.map (·.1))) Q v s' → Q v s' := by
  have nm : ∀ b o, h₀.get? b = some o → b ∉ news.map (·.1) := fun b o e q => by
    obtain ⟨p, hp, rfl⟩ := List.mem_map.mp q
    rw [(N p hp).2.2] at e; cases e
  have st : h₀.StaysIn (hideAll s.heap (news.map (·.1))) := fun b o e => hideAll_get _ (F.keep b o e) (nm b o e)
  obtain ⟨oL, es, ep, hL, hLd, hLk, hLf⟩ := F.ns
  have nL : L ∉ news.map (·.1) := fun q => by
    obtain ⟨p, hp, e⟩ := List.mem_map.mp q
    exact (N p hp).2.1 e
  have hLg := hideAll_get (news.map (·.1)) hL nL
  refine ⟨st, fun v s' hl => ?_⟩
  obtain ⟨L', m', news', F', N', k⟩ := hl
  refine k ⟨⟨oL, es, ep, F'.keep L oL hLg, hLd, hLk, hLf⟩, fun b o e => F'.keep b o (st b o e), F.above⟩ fun p hp => ⟨(N' p hp).1, fun q => ?_, ?_⟩
  · have := (N' p hp).2.2; rw [q, hLg] at this; cases this
  · cases q : h₀.get? p.1 with
    | none => rfl
    | some o => have := (N' p hp).2.2; rw [st _ _ q] at this; cases this

theorem enter (F : Fr h₀ L s.heap m) (N : News h₀ L s.heap news) (X : K.In h₀) (T : TopRead p loose mg mb h₀)
    (ho : K.lookup f = some ⟨oc, od, .func (fnOf name qual params body scope dV kV doc pm an cdv ct), osl⟩) (hcd : codeIn K cdv qual = true) (hroom : A.depth < recursionLimit)
    (hbind : BindsTo s (fnOf name qual params body scope dV kV doc pm an cdv ct) ⟨pos, kw⟩ binds) (hloc : ∀ y ∈ binds, scope.names.lookup y.1 = some .local)
    (h : ∀ g L' h₁ tk, (∀ p ∈ news, p.1 < L') → Fr g L' h₁ (fun y => binds.reverse.lookup y) → News g L' h₁ news → K.In g → TopRead p loose mg mb g →
      wpAny (model prog w) (A.deeper (envOf qual scope L' f cdv)) (execs body (envOf qual scope L' f cdv))
        (fun fl s' => Back h₀ L m g Q (match fl with | .ret v => v | _ => .none) s') (fun _ _ => False)
        { s with heap := h₁, toks := tk })
    (hco : scope.isCoroutine = false := by rfl) (hgen : scope.isGenerator = false := by rfl) (hk : scope.kind = .function := by rfl)
    (hcell : ∀ x ∈ scope.names, x.2 ≠ .cell := by decide) : wpAny (model prog w) A (call (.ref f) pos kw) Q E s := by
  obtain ⟨st, lv⟩ := ground (Q := Q) F N
  refine wpAny_call (codeAny_call_def (fd := fnOf name qual params body scope dV kV doc pm an cdv ct) (body := body) (binds := binds) hroom ((X.keeps F.keep) _ _ ho) rfl (T.nolimit.keeps F.keep) (codeRec_of (X.keeps F.keep) hcd) rfl hbind hcell hloc (fun h₁ hns hk₁ => ?_) hco hgen hk)
  exact wpAny_mono (h (hideAll s.heap (news.map (·.1))) s.heap.objs.size h₁ (s.toks + binds.length) (fun p hp => Heap.lt_size (N p hp).1) ⟨hns, fun b o e => hk₁ b o (of_hideAll _ e), Nat.le_of_eq (hideAll_size _ _)⟩
    (fun p hp => ⟨hk₁ _ _ (N p hp).1, Nat.ne_of_lt (Heap.lt_size (N p hp).1), hideAll_none _ (List.mem_map_of_mem hp)⟩) (X.keeps st) (T.keeps st)) (fun fl s' hl => lv _ _ hl) fun _ _ y => y.elim

theorem enterRest {vs : List Value} {g₁ : Addr → Option (List (Str × Value))} {binds : Addr → List (Str × Value)}
    (F : Fr h₀ L s.heap m) (N : News h₀ L s.heap news) (X : K.In h₀) (T : TopRead p loose mg mb h₀)
    (ho : K.lookup f = some ⟨oc, od, .func (fnOf name qual params body scope dV kV doc pm an cdv ct), osl⟩) (hcd : codeIn K cdv qual = true) (hroom : A.depth < recursionLimit)
    (hp : peek1 K ⟨prog, w.params⟩ (bindArgs (fnOf name qual params body scope dV kV doc pm an cdv ct) ⟨pos, kw⟩) = some (({ cls := .type "tuple", data := .seq vs.toArray } : Obj), g₁))
    (hg : ∀ D, g₁ D = some (binds D)) (hloc : ∀ D, ∀ y ∈ binds D, scope.names.lookup y.1 = some .local)
    (h : ∀ D g L' h₁ tk, (∀ p ∈ news, p.1 < D) → D < L' → Fr g L' h₁ (fun y => (binds D).reverse.lookup y) → News g L' h₁ ((D, ({ cls := .type "tuple", data := .seq vs.toArray } : Obj)) :: news) → K.In g → TopRead p loose mg mb g →
      wpAny (model prog w) (A.deeper (envOf qual scope L' f cdv)) (execs body (envOf qual scope L' f cdv))
        (fun fl s' => Back h₀ L m g Q (match fl with | .ret v => v | _ => .none) s') (fun _ _ => False)
        { s with heap := h₁, toks := tk })
    (hco : scope.isCoroutine = false := by rfl) (hgen : scope.isGenerator = false := by rfl) (hk : scope.kind = .function := by rfl)
    (hcell : ∀ x ∈ scope.names, x.2 ≠ .cell := by decide) : wpAny (model prog w) A (call (.ref f) pos kw) Q E s := by
  refine wpAny_call (codeAny_call_function (fd := fnOf name qual params body scope dV kV doc pm an cdv ct) (body := body) hroom ((X.keeps F.keep) _ _ ho) rfl hco hgen rfl (codeRec_of (X.keeps F.keep) hcd) ?_)
  refine wp_of_peek1 (o := ({ cls := .type "tuple", data := .seq vs.toArray } : Obj)) F N (X.keeps F.keep) rfl (r := binds) (fun D h' F' N' l => ?_) _ g₁ hp hg
  obtain ⟨st, lv⟩ := ground (s := { s with heap := h' }) (Q := Q) F' N'
  refine wpAny_newFunctionEnv hcell (hloc D) (fun h₁ hns hsb => ⟨(T.nolimit.keeps F'.keep).fresh _ hsb, codeAny_func ?_⟩) hk
  have hk₁ : ∀ b o, h'.get? b = some o → h₁.get? b = some o := fun b o e => hsb.extBut b o (Nat.ne_of_lt (Heap.lt_size e)) (Heap.get?_push_of_some _ e)
  exact wpAny_mono (h D _ h'.objs.size h₁ (s.toks + (binds D).length) l (Heap.lt_size (N' _ (List.Mem.head _)).1) ⟨hns, fun b o e => hk₁ b o (of_hideAll _ e), Nat.le_of_eq (hideAll_size _ _)⟩
    (fun p hp => ⟨hk₁ _ _ (N' p hp).1, Nat.ne_of_lt (Heap.lt_size (N' p hp).1), hideAll_none _ (List.mem_map_of_mem hp)⟩) (X.keeps st) (T.keeps st)) (fun fl s' hl => lv _ _ hl) fun _ _ y => y.elim

theorem enterC (F : Fr h₀ L s.heap m) (N : News h₀ L s.heap news) (X : K.In h₀) (T : TopRead p loose mg mb h₀)
    (ho : K.lookup f = some ⟨oc, od, .func (fnOf name qual params body scope dV kV doc pm an cdv ct), osl⟩) (hcd : codeIn K cdv qual = true) (hroom : A.depth < recursionLimit)
    (hbind : BindsTo s (fnOf name qual params body scope dV kV doc pm an cdv ct) ⟨pos, kw⟩ binds)
    (hkind : (binds.all fun y => scope.names.lookup y.1 == some .local || scope.names.lookup y.1 == some .cell) = true)
    (hnd : ((cellsFrom 0 scope.names []).map (·.1)).Nodup)
    (h : ∀ g L' h₁ tk cells, (∀ p ∈ news, p.1 < L') → Fr g L' h₁ (bindL (envOfC qual scope L' f cdv).kindOf binds fun _ => none) → News g L' h₁ (cells ++ news) →
      CellsAre (bindC (envOfC qual scope L' f cdv).kindOf binds fun _ => none) (cellsFrom (L' + 1) scope.names []) cells → K.In g → TopRead p loose mg mb g →
      wpAny (model prog w) (A.deeper (envOfC qual scope L' f cdv)) (execs body (envOfC qual scope L' f cdv))
        (fun fl s' => Back h₀ L m g Q (match fl with | .ret v => v | _ => .none) s') (fun _ _ => False)
        { s with heap := h₁, toks := tk })
    (hco : scope.isCoroutine = false := by rfl) (hgen : scope.isGenerator = false := by rfl) (hk : scope.kind = .function := by rfl) : wpAny (model prog w) A (call (.ref f) pos kw) Q E s := by
  obtain ⟨st, lv⟩ := ground (Q := Q) F N
  refine wpAny_call (codeAny_call_function (fd := fnOf name qual params body scope dV kV doc pm an cdv ct) hroom ((X.keeps F.keep) _ _ ho) rfl hco hgen rfl (codeRec_of (X.keeps F.keep) hcd) (hbind _ _ _ _ ?_))
  refine wpAny_newFunctionEnv_cells hk (kindsX hkind _) fun env' he s' x => ?_
  subst he
  refine ⟨(T.nolimit.keeps F.keep).keeps x.toInCall.keep, codeAny_func ?_⟩
  obtain ⟨h₁, tk, rfl, _⟩ := x.done
  have hk₁ := x.toInCall.keep
  obtain ⟨cells, NC, Y⟩ := Cl.news (h₀ := s.heap) (Nat.le_refl _) fun n c hm => ⟨x.cell n c (lookup_of_mem_nodup (cellsFrom_names scope.names 0 (s.heap.objs.size + 1) [] [] rfl ▸ hnd) hm), x.above n c hm⟩
  refine wpAny_mono (h _ s.heap.objs.size h₁ tk cells (fun p hp => Heap.lt_size (N p hp).1) ⟨x.toInCall.ns, fun b o e => hk₁ b o (of_hideAll _ e), Nat.le_of_eq (hideAll_size _ _)⟩ (fun p hp => ?_) Y (X.keeps st) (T.keeps st)) (fun fl s' hl => lv _ _ hl) fun _ _ y => y.elim
  rcases List.mem_append.mp hp with hp | hp
  · refine ⟨(NC p hp).1, (NC p hp).2.1, ?_⟩
    cases q : (hideAll s.heap (news.map (·.1))).get? p.1 with
    | none => rfl
    | some o => have := of_hideAll _ q; rw [(NC p hp).2.2] at this; cases this
  · exact ⟨hk₁ _ _ (N p hp).1, Nat.ne_of_lt (Heap.lt_size (N p hp).1), hideAll_none _ (List.mem_map_of_mem hp)⟩
end
end

section
-- part Loops
/-- a turn's end: the frame and the ledger again, the loop's own objects as they were -/
def TurnEnd (h₀ : Heap) (L : Addr) (own : List (Addr × Obj)) (I : Addr) (J : (Str → Option Value) → List (Addr × Obj) → Prop) (s s₂ : Shared) : Prop :=
  ∃ h' tk' m' news', s₂ = { s with heap := h', toks := tk' } ∧ Fr h₀ L h' m' ∧ News h₀ L h' (own ++ news') ∧ (∀ p ∈ news', p.1 ≠ I) ∧ J m' news'
def TurnPost (h₀ : Heap) (L : Addr) (own : List (Addr × Obj)) (I : Addr) (J : (Str → Option Value) → List (Addr × Obj) → Prop) (s : Shared) (Q : Flow → Shared → Prop) (f : Flow) (s₂ : Shared) : Prop :=
  match f with
  | .ret v => Q (.ret v) s₂
  | .brk => Q .next s₂
  | _ => TurnEnd h₀ L own I J s s₂

section
variable {prog : Program} {w : World} {A : Around} {E : Value → Shared → Prop} {s : Shared} {env : Env} {h₀ : Heap} {x : Str} {body : List Stmt} {Q : Flow → Shared → Prop} {m₀ : Str → Option Value} {news : List (Addr × Obj)}

theorem iter_of {I : Addr} {fp : List Addr} {n : Nat} {P : Nat → Value → Prop} {St : Nat → Heap → Prop} (J : Nat → (Str → Option Value) → List (Addr × Obj) → Prop)
    (W : Walks prog w A I fp [I] n P St) (hI : h₀.get? I = none) (hLf : env.locals ∉ fp) (hnw : ∀ p ∈ news, p.1 ≠ I) (hst : St 0 s.heap) (F : Fr h₀ env.locals s.heap m₀) (N : News h₀ env.locals s.heap news) (hj : J 0 m₀ news)
    (turn : ∀ i v m₁ news₁ h tk own, i < n → P i v → J i m₁ news₁ → (∀ p ∈ news₁, p.1 ≠ I) → (∀ p ∈ own, p.1 ∈ fp) → Fr h₀ env.locals h (fun y => if y = x then some v else m₁ y) → News h₀ env.locals h (own ++ news₁) →
      wpAny (model prog w) A (execs body env) (TurnPost h₀ env.locals own I (J (i + 1)) s Q) E { s with heap := h, toks := tk })
    (done : ∀ m₁ news₁ h tk, J n m₁ news₁ → Fr h₀ env.locals h m₁ → News h₀ env.locals h news₁ → Q .next { s with heap := h, toks := tk }) :
    LoopAtV prog w A h₀ env x body Q E (.ref I) s := by
  refine ⟨I, fp, [I], n, P, St, m₀, news, J, rfl, W, hLf, fun b hb => by rw [List.mem_singleton.mp hb]; exact hI, fun p hp hb => hnw p hp (List.mem_singleton.mp hb), hst, F, N, hj, ?_, ?_⟩
  · rintro i v m₁ news₁ s₁ own ⟨hh', tk', rfl⟩ hin hP hJ hoff hown _ _ _ F₁ N₁
    refine wpAny_mono (turn i v m₁ news₁ hh' tk' own hin hP hJ (fun p hp e => hoff p hp (by rw [e]; exact List.mem_singleton.mpr rfl)) hown F₁ N₁) (fun f s₂ p => ?_) fun _ _ e => e
    have fin : TurnEnd h₀ env.locals own I (J (i + 1)) s s₂ → LoopStepU h₀ env.locals [I] own (J (i + 1)) { s with heap := hh', toks := tk' } .next s₂ := by
      rintro ⟨h', tk, m', news', rfl, F', N', hn, hm⟩
      exact ⟨rfl, h', tk, m', news', rfl, F', N', fun p hp hq => hn p hp (List.mem_singleton.mp hq), hm⟩
    cases f with
    | ret v => exact .ret p
    | brk => exact .brk p
    | next => exact .next (fin p)
    | cont => exact .cont (fin p)
  · rintro h' tk m' news' F' N' _ hJ
    exact done m' news' h' tk hJ F' N'

theorem iter_list {l : Addr} {vs : List Value} {n : Nat} (J : Nat → (Str → Option Value) → List (Addr × Obj) → Prop)
    (hh : A.handled = none) (F : Fr h₀ env.locals s.heap m₀) (N : News h₀ env.locals s.heap news) (hl : (l, listOf vs.toArray n) ∈ news) (hj : J 0 m₀ news)
    (turn : ∀ I, (∀ p ∈ news, p.1 < I) → ∀ i v m₁ news₁ h tk own, vs[i]? = some v → J i m₁ news₁ → (∀ p ∈ news₁, p.1 ≠ I) → (∀ p ∈ own, p.1 = I ∨ p.1 = l) → Fr h₀ env.locals h (fun y => if y = x then some v else m₁ y) → News h₀ env.locals h (own ++ news₁) →
      wpAny (model prog w) A (execs body env) (TurnPost h₀ env.locals own I (J (i + 1)) s Q) E { s with heap := h, toks := tk })
    (done : ∀ m₁ news₁ h tk, J vs.length m₁ news₁ → Fr h₀ env.locals h m₁ → News h₀ env.locals h news₁ → Q .next { s with heap := h, toks := tk }) :
    wpAny (model prog w) A (pyIter (.ref l)) (fun it s₂ => LoopAtV prog w A h₀ env x body Q E it s₂) E s := by
  have hls : s.heap.IsList l vs.toArray := ⟨_, (N _ hl).1, rfl, _, rfl⟩
  have hne : l ≠ s.heap.objs.size := Nat.ne_of_lt (Heap.lt_size (N _ hl).1)
  refine wpAny_pyIter_list hls ?_
  have W := Walks.list (prog := prog) (w := w) hh s.heap.objs.size l hne vs.toArray
  rw [List.size_toArray] at W
  have hlt : ∀ p ∈ news, p.1 < s.heap.objs.size := fun p hp => Heap.lt_size (N p hp).1
  refine iter_of J W (next_is_new F) ?_ (fun p hp => Nat.ne_of_lt (hlt p hp)) ⟨⟨_, Heap.get?_push_size _ rfl, rfl, rfl⟩, hls.at fun o e => Heap.get?_push_of_some _ e⟩ (F.push _) (fun p hp => ⟨Heap.get?_push_of_some _ (N p hp).1, (N p hp).2⟩) hj ?_ ?_
  · intro hm
    rcases List.mem_cons.mp hm with e | hm
    · exact absurd F.ns.lt (e ▸ Nat.lt_irrefl _)
    · exact (N _ hl).2.1 (List.mem_singleton.mp hm).symm
  · intro i v m₁ news₁ h tk own hi hP hJ hoff hown F₁ N₁
    refine turn _ hlt i v m₁ news₁ h tk own (by simpa using hP) hJ hoff (fun p hp => ?_) F₁ N₁
    rcases List.mem_cons.mp (hown p hp) with e | e
    · exact .inl e
    · exact .inr (List.mem_singleton.mp e)
  · intro m₁ news₁ h tk hJ F₁ N₁
    exact done m₁ news₁ h tk hJ F₁ N₁

theorem iter_tuple {l : Addr} {vs : List Value} {n : Nat} (J : Nat → (Str → Option Value) → List (Addr × Obj) → Prop)
    (hh : A.handled = none) (F : Fr h₀ env.locals s.heap m₀) (N : News h₀ env.locals s.heap news) (hl : (l, ({ cls := .type "tuple", data := .seq vs.toArray n } : Obj)) ∈ news) (hj : J 0 m₀ news)
    (turn : ∀ I, (∀ p ∈ news, p.1 < I) → ∀ i v m₁ news₁ h tk own, vs[i]? = some v → J i m₁ news₁ → (∀ p ∈ news₁, p.1 ≠ I) → (∀ p ∈ own, p.1 = I ∨ p.1 = l) → Fr h₀ env.locals h (fun y => if y = x then some v else m₁ y) → News h₀ env.locals h (own ++ news₁) →
      wpAny (model prog w) A (execs body env) (TurnPost h₀ env.locals own I (J (i + 1)) s Q) E { s with heap := h, toks := tk })
    (done : ∀ m₁ news₁ h tk, J vs.length m₁ news₁ → Fr h₀ env.locals h m₁ → News h₀ env.locals h news₁ → Q .next { s with heap := h, toks := tk }) :
    wpAny (model prog w) A (pyIter (.ref l)) (fun it s₂ => LoopAtV prog w A h₀ env x body Q E it s₂) E s := by
  have hls : s.heap.IsTuple l vs.toArray := ⟨_, (N _ hl).1, rfl, _, rfl⟩
  have hne : l ≠ s.heap.objs.size := Nat.ne_of_lt (Heap.lt_size (N _ hl).1)
  refine wpAny_pyIter_tuple hls ?_
  have W := Walks.tuple (prog := prog) (w := w) hh s.heap.objs.size l hne vs.toArray
  rw [List.size_toArray] at W
  have hlt : ∀ p ∈ news, p.1 < s.heap.objs.size := fun p hp => Heap.lt_size (N p hp).1
  refine iter_of J W (next_is_new F) ?_ (fun p hp => Nat.ne_of_lt (hlt p hp)) ⟨⟨_, Heap.get?_push_size _ rfl, rfl, rfl⟩, hls.at fun o e => Heap.get?_push_of_some _ e⟩ (F.push _) (fun p hp => ⟨Heap.get?_push_of_some _ (N p hp).1, (N p hp).2⟩) hj ?_ ?_
  · intro hm
    rcases List.mem_cons.mp hm with e | hm
    · exact absurd F.ns.lt (e ▸ Nat.lt_irrefl _)
    · exact (N _ hl).2.1 (List.mem_singleton.mp hm).symm
  · intro i v m₁ news₁ h tk own hi hP hJ hoff hown F₁ N₁
    refine turn _ hlt i v m₁ news₁ h tk own (by simpa using hP) hJ hoff (fun p hp => ?_) F₁ N₁
    rcases List.mem_cons.mp (hown p hp) with e | e
    · exact .inl e
    · exact .inr (List.mem_singleton.mp e)
  · intro m₁ news₁ h tk hJ F₁ N₁
    exact done m₁ news₁ h tk hJ F₁ N₁

theorem iter_range {r : Addr} {a b : Int} {t u v : Tok} {k : Nat} (J : Nat → (Str → Option Value) → List (Addr × Obj) → Prop)
    (hh : A.handled = none) (F : Fr h₀ env.locals s.heap m₀) (N : News h₀ env.locals s.heap news) (hr : IsRange s.heap r a b 1 t u v) (hsmall : Builtin.Range.small a b 1 = true) (hk : Builtin.Range.rangeSize a b 1 = (k : Int)) (hj : J 0 m₀ news)
    (turn : ∀ I, (∀ p ∈ news, p.1 < I) → ∀ i t m₁ news₁ h tk own, i < k → J i m₁ news₁ → (∀ p ∈ news₁, p.1 ≠ I) → (∀ p ∈ own, p.1 = I) → Fr h₀ env.locals h (fun y => if y = x then some (.int (a + i) t) else m₁ y) → News h₀ env.locals h (own ++ news₁) →
      wpAny (model prog w) A (execs body env) (TurnPost h₀ env.locals own I (J (i + 1)) s Q) E { s with heap := h, toks := tk })
    (done : ∀ m₁ news₁ h tk, J k m₁ news₁ → Fr h₀ env.locals h m₁ → News h₀ env.locals h news₁ → Q .next { s with heap := h, toks := tk }) :
    wpAny (model prog w) A (pyIter (.ref r)) (fun it s₂ => LoopAtV prog w A h₀ env x body Q E it s₂) E s := by
  refine wpAny_pyIter_range hr hsmall ?_
  have W := Walks.range (prog := prog) (w := w) hh s.heap.objs.size a 1 k
  have hlt : ∀ p ∈ news, p.1 < s.heap.objs.size := fun p hp => Heap.lt_size (N p hp).1
  refine iter_of J W (next_is_new F) ?_ (fun p hp => Nat.ne_of_lt (hlt p hp)) ?_ (F.push _) (fun p hp => ⟨Heap.get?_push_of_some _ (N p hp).1, (N p hp).2⟩) hj ?_ ?_
  · intro hm
    exact absurd F.ns.lt (List.mem_singleton.mp hm ▸ Nat.lt_irrefl _)
  · show Heap.get? _ _ = _
    rw [hk]
    simpa [rawInt] using Heap.get?_push_size _ rfl
  · rintro i v m₁ news₁ h tk own hi ⟨t', rfl⟩ hJ hoff hown F₁ N₁
    rw [Int.mul_one] at F₁
    exact turn _ hlt i t' m₁ news₁ h tk own hi hJ hoff (fun p hp => List.mem_singleton.mp (hown p hp)) F₁ N₁
  · intro m₁ news₁ h tk hJ F₁ N₁
    exact done m₁ news₁ h tk hJ F₁ N₁
end
end

section
-- part Led
/-- the frame's map is as it was but for some names -/
def Upto (xs : List Str) (m₀ m : Str → Option Value) : Prop := ∀ y, y ∉ xs → m y = m₀ y
theorem Upto.refl (xs : List Str) (m : Str → Option Value) : Upto xs m m := fun _ _ => rfl
theorem Upto.set {xs : List Str} {m₀ m : Str → Option Value} {x : Str} {v : Option Value} (h : Upto xs m₀ m) (hx : x ∈ xs) : Upto xs m₀ (fun y => if y = x then v else m y) := fun y hy => by
  show (if y = x then v else m y) = m₀ y
  rw [if_neg (fun e : y = x => hy (by rw [e]; exact hx)), h y hy]
theorem Upto.one {x : Str} {m₀ m : Str → Option Value} {v : Option Value} (h : Upto [x] m₀ m) : (fun y => if y = x then v else m y) = (fun y => if y = x then v else m₀ y) := by
  funext y
  by_cases e : y = x
  · rw [if_pos e, if_pos e]
  · rw [if_neg e, if_neg e]; exact h y (by simpa using e)
theorem Upto.eq1 {x : Str} {m₀ m : Str → Option Value} (h : Upto [x] m₀ m) : m = (fun y => if y = x then m x else m₀ y) := by
  funext y
  by_cases e : y = x
  · rw [if_pos e, e]
  · rw [if_neg e]; exact h y (by simpa using e)
theorem Upto.eq3 {x1 x2 x3 : Str} {v1 v2 : Option Value} {m₀ m : Str → Option Value} (h : Upto [x1, x2, x3] m₀ m) (h1 : m x1 = v1) (h2 : m x2 = v2) : m = (fun y => if y = x1 then v1 else if y = x2 then v2 else if y = x3 then m x3 else m₀ y) := by
  funext y
  by_cases e1 : y = x1
  · rw [if_pos e1, e1, h1]
  · rw [if_neg e1]
    by_cases e2 : y = x2
    · rw [if_pos e2, e2, h2]
    · rw [if_neg e2]
      by_cases e3 : y = x3
      · rw [if_pos e3, e3]
      · rw [if_neg e3]; exact h y (by simp [e1, e2, e3])
theorem allLt_mem {d : Nat} {l : List (Addr × Obj)} : AllLt d l → ∀ p ∈ l, p.1 < d := by
  induction l with
  | nil => intro _ p hp; cases hp
  | cons q r ih =>
    intro h p hp
    rcases List.mem_cons.mp hp with rfl | hp
    · exact h.1
    · exact ih h.2 p hp

section
variable {h₀ h : Heap} {L : Addr} {own zl : List (Addr × Obj)} {a b c : Addr × Obj}
theorem led_in (N : News h₀ L h (own ++ a :: zl)) : News h₀ L h (a :: (own ++ zl)) := fun p hp => N p (by
  simp only [List.mem_append, List.mem_cons] at hp ⊢
  rcases hp with h | h | h
  · exact .inr (.inl h)
  · exact .inl h
  · exact .inr (.inr h))
theorem led_out (N : News h₀ L h (a :: (own ++ zl))) : News h₀ L h (own ++ a :: zl) := fun p hp => N p (by
  simp only [List.mem_append, List.mem_cons] at hp ⊢
  rcases hp with h | h | h
  · exact .inr (.inl h)
  · exact .inl h
  · exact .inr (.inr h))
theorem led_sub {news news' : List (Addr × Obj)} (N : News h₀ L h news) (hs : ∀ p ∈ news', p ∈ news) : News h₀ L h news' := fun p hp => N p (hs p hp)
end

theorem StrsAre.at {vs : List Value} {ys : List Str} (h : StrsAre vs ys) : ∀ {i : Nat} {v : Value}, vs[i]? = some v → ∃ y t, v = .str y t ∧ ys[i]? = some y := by
  induction h with
  | nil => intro i v e; cases e
  | cons y t r ih =>
    intro i v e
    cases i with
    | zero => cases e; exact ⟨y, t, rfl, rfl⟩
    | succ i => exact ih e
theorem StrsAre.snoc {vs : List Value} {ys : List Str} {y : Str} {t : Tok} (h : StrsAre vs ys) : StrsAre (vs ++ [.str y t]) (ys ++ [y]) := by
  induction h with
  | nil => exact .cons y t .nil
  | cons z u r ih => exact .cons z u ih
theorem StrsAre.unsnoc {vs : List Value} {v : Value} : ∀ {ys : List Str}, StrsAre (vs ++ [v]) ys → ∃ zs y t, ys = zs ++ [y] ∧ v = .str y t ∧ StrsAre vs zs := by
  induction vs with
  | nil =>
    intro ys h
    cases h with
    | cons y t r => cases r; exact ⟨[], y, t, rfl, rfl, .nil⟩
  | cons u vs ih =>
    intro ys h
    cases h with
    | cons y t r =>
      obtain ⟨zs, z, tz, rfl, rfl, h'⟩ := ih r
      exact ⟨y :: zs, z, tz, rfl, rfl, .cons y t h'⟩
theorem StrsAre.len {vs : List Value} {ys : List Str} (h : StrsAre vs ys) : vs.length = ys.length := by
  induction h with
  | nil => rfl
  | cons y t r ih => simp [ih]
theorem take_snoc {α : Type} {l : List α} {i : Nat} {c : α} (h : l[i]? = some c) : l.take (i + 1) = l.take i ++ [c] := by
  rw [List.take_add_one, h]; rfl
theorem le_sum {l : List Nat} {a : Nat} (h : a ∈ l) : a ≤ l.sum := by
  induction l with
  | nil => cases h
  | cons b r ih =>
    rw [List.sum_cons]
    rcases List.mem_cons.mp h with rfl | h
    · omega
    · have := ih h; omega
/-- a goal that the walk leaves alone -/
def Stop (p : Prop) : Prop := p
theorem stop_of {p : Prop} (h : Stop p) : p := h
theorem Stop.go {p : Prop} (h : p) : Stop p := h
end

section
-- part Loops2
/-- a turn's end: what it changes (mu), what it has made and kept (tl), what lay there (yl, of it z) -/
def LoopEnd (h₀ : Heap) (L : Addr) (mu yl z : List (Addr × Obj)) (J : (Str → Option Value) → List (Addr × Obj) → List (Addr × Obj) → Prop) (s s₂ : Shared) : Prop :=
  ∃ h' tk' m' mu' tl, s₂ = { s with heap := h', toks := tk' } ∧ Fr h₀ L h' m' ∧ News h₀ L h' (mu' ++ (tl ++ yl)) ∧ (∀ q ∈ mu ++ yl, ∀ p ∈ tl, q.1 ≠ p.1) ∧ J m' mu' (tl ++ z)
theorem LoopEnd.intro {h₀ h' : Heap} {L : Addr} {mu yl z : List (Addr × Obj)} {J : (Str → Option Value) → List (Addr × Obj) → List (Addr × Obj) → Prop} {s : Shared} {tk' : Nat} {m' : Str → Option Value} (mu' tl : List (Addr × Obj)) (F : Fr h₀ L h' m') (N : News h₀ L h' (mu' ++ (tl ++ yl))) (hlt : ∀ q ∈ mu ++ yl, ∀ p ∈ tl, q.1 ≠ p.1) (hJ : J m' mu' (tl ++ z)) :
    LoopEnd h₀ L mu yl z J s { s with heap := h', toks := tk' } := ⟨h', tk', m', mu', tl, rfl, F, N, hlt, hJ⟩
def LoopPost (h₀ : Heap) (L : Addr) (mu yl z : List (Addr × Obj)) (J : (Str → Option Value) → List (Addr × Obj) → List (Addr × Obj) → Prop) (s : Shared) (Q : Flow → Shared → Prop) (f : Flow) (s₂ : Shared) : Prop :=
  match f with
  | .ret v => Q (.ret v) s₂
  | .brk => Q .next s₂
  | _ => LoopEnd h₀ L mu yl z J s s₂
theorem LoopPost.nx {h₀ h' : Heap} {L : Addr} {mu yl z : List (Addr × Obj)} {J : (Str → Option Value) → List (Addr × Obj) → List (Addr × Obj) → Prop} {s : Shared} {Q : Flow → Shared → Prop} {tk' : Nat} {m' : Str → Option Value} (mu' tl : List (Addr × Obj)) (F : Fr h₀ L h' m') (N : News h₀ L h' (mu' ++ (tl ++ yl))) (hlt : ∀ q ∈ mu ++ yl, ∀ p ∈ tl, q.1 ≠ p.1) (hJ : J m' mu' (tl ++ z)) :
    LoopPost h₀ L mu yl z J s Q .next { s with heap := h', toks := tk' } := LoopEnd.intro mu' tl F N hlt hJ

section
variable {prog : Program} {w : World} {A : Around} {E : Value → Shared → Prop} {s : Shared} {env : Env} {h₀ : Heap} {x : Str} {body : List Stmt} {Q : Flow → Shared → Prop} {m₀ : Str → Option Value} {mu₀ z₀ : List (Addr × Obj)} {adr : List Addr}

theorem for_of {I : Addr} {fp : List Addr} {n : Nat} {P : Nat → Value → Prop} {St : Nat → Heap → Prop} (J : Nat → (Str → Option Value) → List (Addr × Obj) → List (Addr × Obj) → Prop)
    (W : Walks prog w A I fp [I] n P St) (hI : h₀.get? I = none) (hSt : ∀ i h, St i h → ∃ o, h.get? I = some o) (hLf : env.locals ∉ fp) (hfp : ∀ b ∈ fp, b ∉ adr) (hnI : ∀ p ∈ mu₀ ++ z₀, p.1 ≠ I) (hst : St 0 s.heap) (F : Fr h₀ env.locals s.heap m₀) (N : News h₀ env.locals s.heap (mu₀ ++ z₀)) (hz : ∀ p ∈ z₀, p.1 ∉ adr)
    (hJ : ∀ i m mu z, J i m mu z → mu.map (·.1) = adr) (hj : J 0 m₀ mu₀ z₀)
    (turn : ∀ i v m mu z yl h tk, i < n → P i v → J i m mu z → (∀ p ∈ z, p ∈ yl) → (∀ p ∈ yl, p.1 ∉ adr) → Fr h₀ env.locals h (fun y => if y = x then some v else m y) → News h₀ env.locals h (mu ++ yl) →
      wpAny (model prog w) A (execs body env) (LoopPost h₀ env.locals mu yl z (J (i + 1)) s Q) E { s with heap := h, toks := tk })
    (done : ∀ m mu z h tk, J n m mu z → Fr h₀ env.locals h m → News h₀ env.locals h (mu ++ z) → (∀ p ∈ z, p.1 ∉ adr) → Q .next { s with heap := h, toks := tk }) :
    LoopAtV prog w A h₀ env x body Q E (.ref I) s := by
  let J' : Nat → (Str → Option Value) → List (Addr × Obj) → Prop := fun i m news => ∃ mu z, news = mu ++ z ∧ J i m mu z ∧ ∀ p ∈ z, p.1 ∉ adr
  refine ⟨I, fp, [I], n, P, St, m₀, mu₀ ++ z₀, J', rfl, W, hLf, fun b hb => by rw [List.mem_singleton.mp hb]; exact hI, fun p hp hb => hnI p hp (List.mem_singleton.mp hb), hst, F, N, ⟨mu₀, z₀, rfl, hj, hz⟩, ?_, ?_⟩
  · rintro i v m₁ news₁ s₁ own ⟨hh', tk', rfl⟩ hin hP ⟨mu, z, rfl, hJ₁, hz₁⟩ hoff hown _ hall hst₁ F₁ N₁
    obtain ⟨oI, hoI⟩ := hSt _ _ hst₁
    have hIo : (I, oI) ∈ own := hall I (W.sub I (List.mem_singleton.mpr rfl)) hI oI hoI
    have hown' : ∀ p ∈ own, p.1 ∉ adr := fun p hp => hfp _ (hown p hp)
    have N₂ : News h₀ env.locals hh' (mu ++ (own ++ z)) := fun p hp => N₁ p (by
      simp only [List.mem_append] at hp ⊢
      rcases hp with h | h | h
      · exact .inr (.inl h)
      · exact .inl h
      · exact .inr (.inr h))
    refine wpAny_mono (turn i v m₁ mu z (own ++ z) hh' tk' hin hP hJ₁ (fun p hp => List.mem_append_right _ hp) (fun p hp => (List.mem_append.mp hp).elim (hown' p) (hz₁ p)) F₁ N₂) (fun f s₂ p => ?_) fun _ _ e => e
    have fin : LoopEnd h₀ env.locals mu (own ++ z) z (J (i + 1)) s s₂ → LoopStepU h₀ env.locals [I] own (J' (i + 1)) { s with heap := hh', toks := tk' } .next s₂ := by
      rintro ⟨h', tk, m', mu', tl, rfl, F', N', hlt, hJ₂⟩
      have ha : mu'.map (·.1) = mu.map (·.1) := (hJ _ _ _ _ hJ₂).trans (hJ _ _ _ _ hJ₁).symm
      refine ⟨rfl, h', tk, m', mu' ++ (tl ++ z), rfl, F', fun p hp => N' p ?_, fun p hp hq => ?_, mu', tl ++ z, rfl, hJ₂, fun p hp hq => ?_⟩
      · simp only [List.mem_append] at hp ⊢
        rcases hp with h | h | h | h
        · exact .inr (.inr (.inl h))
        · exact .inl h
        · exact .inr (.inl h)
        · exact .inr (.inr (.inr h))
      · rcases List.mem_append.mp hp with h | h
        · have : p.1 ∈ mu.map (·.1) := ha ▸ List.mem_map.mpr ⟨p, h, rfl⟩
          obtain ⟨q, hq1, hq2⟩ := List.mem_map.mp this
          exact hoff q (List.mem_append_left _ hq1) (hq2 ▸ hq)
        · rcases List.mem_append.mp h with h | h
          · have := hlt (I, oI) (List.mem_append_right _ (List.mem_append_left _ hIo)) p h
            rw [List.mem_singleton.mp hq] at this
            exact this rfl
          · exact hoff p (List.mem_append_right _ h) hq
      · rcases List.mem_append.mp hp with h | h
        · rw [← hJ _ _ _ _ hJ₁] at hq
          obtain ⟨q, hq1, hq2⟩ := List.mem_map.mp hq
          have := hlt q (List.mem_append_left _ hq1) p h
          exact this hq2
        · exact hz₁ p h hq
    cases f with
    | ret v => exact .ret p
    | brk => exact .brk p
    | next => exact .next (fin p)
    | cont => exact .cont (fin p)
  · rintro h' tk m' news' F' N' _ ⟨mu, z, rfl, hJ₁, hz₁⟩
    exact done m' mu z h' tk hJ₁ F' N' hz₁

theorem for_list {l : Addr} {vs : List Value} {nl : Nat} (J : (Str → Option Value) → List (Addr × Obj) → Nat → (Str → Option Value) → List (Addr × Obj) → List (Addr × Obj) → Prop)
    (hh : A.handled = none) (F : Fr h₀ env.locals s.heap m₀) (N : News h₀ env.locals s.heap (mu₀ ++ z₀)) (hz : ∀ p ∈ z₀, p.1 ∉ adr) (hl : (l, listOf vs.toArray nl) ∈ z₀)
    (hJ : ∀ i m mu z, J m₀ z₀ i m mu z → mu.map (·.1) = adr) (hj : J m₀ z₀ 0 m₀ mu₀ z₀)
    (turn : ∀ i v m mu z yl h tk, vs[i]? = some v → J m₀ z₀ i m mu z → (∀ p ∈ z, p ∈ yl) → (∀ p ∈ yl, p.1 ∉ adr) → Fr h₀ env.locals h (fun y => if y = x then some v else m y) → News h₀ env.locals h (mu ++ yl) →
      wpAny (model prog w) A (execs body env) (LoopPost h₀ env.locals mu yl z (J m₀ z₀ (i + 1)) s Q) E { s with heap := h, toks := tk })
    (done : ∀ m mu z h tk, J m₀ z₀ vs.length m mu z → Fr h₀ env.locals h m → News h₀ env.locals h (mu ++ z) → (∀ p ∈ z, p.1 ∉ adr) → Q .next { s with heap := h, toks := tk }) :
    wpAny (model prog w) A (pyIter (.ref l)) (fun it s₂ => LoopAtV prog w A h₀ env x body Q E it s₂) E s := by
  have hln := N _ (List.mem_append_right _ hl)
  have hls : s.heap.IsList l vs.toArray := ⟨_, hln.1, rfl, _, rfl⟩
  have hne : l ≠ s.heap.objs.size := Nat.ne_of_lt (Heap.lt_size hln.1)
  refine wpAny_pyIter_list hls ?_
  have W := Walks.list (prog := prog) (w := w) hh s.heap.objs.size l hne vs.toArray
  rw [List.size_toArray] at W
  have hlt : ∀ p ∈ mu₀ ++ z₀, p.1 < s.heap.objs.size := fun p hp => Heap.lt_size (N p hp).1
  refine for_of (J m₀ z₀) W (next_is_new F) (fun i h st => by obtain ⟨⟨o, ho, _⟩, _⟩ := st; exact ⟨o, ho⟩) ?_ ?_ (fun p hp => Nat.ne_of_lt (hlt p hp)) ⟨⟨_, Heap.get?_push_size _ rfl, rfl, rfl⟩, hls.at fun o e => Heap.get?_push_of_some _ e⟩ (F.push _) (fun p hp => ⟨Heap.get?_push_of_some _ (N p hp).1, (N p hp).2⟩) hz hJ hj ?_ ?_
  · intro hm
    rcases List.mem_cons.mp hm with e | hm
    · exact absurd F.ns.lt (e ▸ Nat.lt_irrefl _)
    · exact hln.2.1 (List.mem_singleton.mp hm).symm
  · intro b hb hq
    rcases List.mem_cons.mp hb with rfl | hb
    · rw [← hJ _ _ _ _ hj] at hq
      obtain ⟨q, hq1, hq2⟩ := List.mem_map.mp hq
      have := hlt q (List.mem_append_left _ hq1)
      rw [hq2] at this
      exact absurd this (Nat.lt_irrefl _)
    · exact hz _ hl (List.mem_singleton.mp hb ▸ hq)
  · intro i v m mu z yl h tk hi hP hJ₁ h1 h2 F₁ N₁
    exact turn i v m mu z yl h tk (by simpa using hP) hJ₁ h1 h2 F₁ N₁
  · intro m mu z h tk hJ₁ F₁ N₁ hz₁
    exact done m mu z h tk hJ₁ F₁ N₁ hz₁

theorem for_range {r : Addr} {a b : Int} {t u v : Tok} {k : Nat} (J : (Str → Option Value) → List (Addr × Obj) → Nat → (Str → Option Value) → List (Addr × Obj) → List (Addr × Obj) → Prop)
    (hh : A.handled = none) (F : Fr h₀ env.locals s.heap m₀) (N : News h₀ env.locals s.heap (mu₀ ++ z₀)) (hz : ∀ p ∈ z₀, p.1 ∉ adr) (hr : IsRange s.heap r a b 1 t u v) (hsmall : Builtin.Range.small a b 1 = true) (hk : Builtin.Range.rangeSize a b 1 = (k : Int))
    (hJ : ∀ i m mu z, J m₀ z₀ i m mu z → mu.map (·.1) = adr) (hj : J m₀ z₀ 0 m₀ mu₀ z₀)
    (turn : ∀ i t m mu z yl h tk, i < k → J m₀ z₀ i m mu z → (∀ p ∈ z, p ∈ yl) → (∀ p ∈ yl, p.1 ∉ adr) → Fr h₀ env.locals h (fun y => if y = x then some (.int (a + i) t) else m y) → News h₀ env.locals h (mu ++ yl) →
      wpAny (model prog w) A (execs body env) (LoopPost h₀ env.locals mu yl z (J m₀ z₀ (i + 1)) s Q) E { s with heap := h, toks := tk })
    (done : ∀ m mu z h tk, J m₀ z₀ k m mu z → Fr h₀ env.locals h m → News h₀ env.locals h (mu ++ z) → (∀ p ∈ z, p.1 ∉ adr) → Q .next { s with heap := h, toks := tk }) :
    wpAny (model prog w) A (pyIter (.ref r)) (fun it s₂ => LoopAtV prog w A h₀ env x body Q E it s₂) E s := by
  refine wpAny_pyIter_range hr hsmall ?_
  have W := Walks.range (prog := prog) (w := w) hh s.heap.objs.size a 1 k
  have hlt : ∀ p ∈ mu₀ ++ z₀, p.1 < s.heap.objs.size := fun p hp => Heap.lt_size (N p hp).1
  refine for_of (J m₀ z₀) W (next_is_new F) (fun i h st => ⟨_, st⟩) ?_ ?_ (fun p hp => Nat.ne_of_lt (hlt p hp)) ?_ (F.push _) (fun p hp => ⟨Heap.get?_push_of_some _ (N p hp).1, (N p hp).2⟩) hz hJ hj ?_ ?_
  · intro hm
    exact absurd F.ns.lt (List.mem_singleton.mp hm ▸ Nat.lt_irrefl _)
  · intro b hb hq
    rw [List.mem_singleton.mp hb, ← hJ _ _ _ _ hj] at hq
    obtain ⟨q, hq1, hq2⟩ := List.mem_map.mp hq
    have := hlt q (List.mem_append_left _ hq1)
    rw [hq2] at this
    exact absurd this (Nat.lt_irrefl _)
  · show Heap.get? _ _ = _
    rw [hk]
    simpa [rawInt] using Heap.get?_push_size _ rfl
  · rintro i v m mu z yl h tk hi ⟨t', rfl⟩ hJ₁ h1 h2 F₁ N₁
    rw [Int.mul_one] at F₁
    exact turn i t' m mu z yl h tk hi hJ₁ h1 h2 F₁ N₁
  · intro m mu z h tk hJ₁ F₁ N₁ hz₁
    exact done m mu z h tk hJ₁ F₁ N₁ hz₁
end
end

section
-- part Rules
section
variable {prog : Program} {w : World} {A : Around} {s : Shared} {Q E : Value → Shared → Prop}
theorem k_nested : builtinKind "issubclass.nested" = none := by decide +kernel
theorem pl_nested : plainId "issubclass.nested" = true := by decide +kernel
theorem ar_nested (a b c : Value) : argsOk "issubclass.nested" ⟨[a, b, c], []⟩ := by unfold argsOk; kernel_rfl
theorem sub_nested_str {dep : Int} {tk : Tok} {s : Shared} {Q : Fin → Shared → Prop} {E : Value → Shared → Prop} (hq : Q (.done (.ret (.bool true))) s) :
    wpAny (model prog w) A (Builtin.«issubclass.nested» ⟨[.type "str", .type "str", .int dep tk], []⟩) Q E s := by
  have hm := PySem.F.isi_meta_str
  have hself := PySem.F.sub_str_str
  have hself2 : isSubtype (.type "type") (.type "type") = pure true := by rw [isSubtype_type]; kernel_rfl
  obtain ⟨h, g, d, t, os⟩ := s
  repeat (any_goals (first | assumption | (rw [hself]) | (rw [hself2]) | wp_step))
theorem issub_cons {tp : Addr} {cs r : List Value} (hcs : cs = .type "str" :: r) (htp : s.heap.get? tp = some { cls := .type "tuple", data := .seq cs.toArray }) (h : Q (.bool true) s) :
    wpAny (model prog w) A (call (.builtin "issubclass") [.type "str", .ref tp]) Q E s := by
  refine call_issubclass (S := fun _ R s => s.heap.get? tp = some { cls := .type "tuple", data := .seq cs.toArray } ∧ R (.ok (.ret (.bool true))) s) (fun prog w A R s hs => issubclass_outer ?_) ⟨htp, h⟩
  obtain ⟨htp, hq⟩ := hs
  obtain ⟨h, g, d, t, os⟩ := s
  have hT2 : (⟨h, g, d, t, os⟩ : Shared).TypeIs (.ref tp) "tuple" := ⟨_, htp, rfl⟩
  have f1 := F.isi_sub_tuple
  repeat (any_goals (first | assumption | wp_step))
  refine wpAny_arrayLoop ?_
  simp only [Option.getD_some, List.toList_toArray]
  subst hcs
  rw [List.forIn_cons]
  refine wpAny_bind (wpAny_bind (call_function_meets k_nested pl_nested F.entry_issubclass_nested (ar_nested _ _ _) (S := fun _ R s => R (.ok (.ret (.bool true))) s) (fun _ _ _ _ _ hs => sub_nested_str hs) ?_))
  refine wpAny_bind (m := truthy (.bool true)) (wpAny_pure ?_)
  exact wpAny_bind (wpAny_pure (wpAny_pure (wpAny_pure (wpAny_pure hq))))
theorem issub_str {tp : Addr} (htp : s.heap.get? tp = some { cls := .type "tuple", data := .seq #[.type "str", .type "bytes"] }) (h : Q (.bool true) s) :
    wpAny (model prog w) A (call (.builtin "issubclass") [.type "str", .ref tp]) Q E s := issub_cons (cs := [.type "str", .type "bytes"]) rfl htp h
end

section
variable {prog : Program} {w : World} {A : Around} {E : Value → Shared → Prop} {s : Shared} {h₀ : Heap} {L D : Addr} {m : Str → Option Value} {news zl : List (Addr × Obj)} {n : Nat} {vs : List Value} {x y : Str} {t u : Tok} {Q : Value → Shared → Prop}
theorem r_append {v : Value} (F : Fr h₀ L s.heap m) (N : News h₀ L s.heap ((D, listOf vs.toArray n) :: zl)) (hz : ∀ p ∈ zl, p.1 ≠ D) (hs : vs.length ≤ 10000)
    (h : ∀ h', Fr h₀ L h' m → News h₀ L h' ((D, listOf (vs ++ [v]).toArray (n + 1)) :: zl) → Q .none { s with heap := h' }) : wpAny (model prog w) A (call (.builtin "list.append") [.ref D, v]) Q E s := by
  refine append_K F N (Upd.head hz) (fun h' F' N' => h h' F' ?_) (by rw [List.size_toArray, sizeLine_eq]; omega)
  simpa using N'
theorem r_pop {v : Value} (F : Fr h₀ L s.heap m) (N : News h₀ L s.heap ((D, listOf (vs ++ [v]).toArray n) :: zl)) (hz : ∀ p ∈ zl, p.1 ≠ D) (hs : vs.length ≤ 10000)
    (h : ∀ h', Fr h₀ L h' m → News h₀ L h' ((D, listOf vs.toArray (n + 1)) :: zl) → Q v { s with heap := h' }) : wpAny (model prog w) A (call (.builtin "list.pop") [.ref D]) Q E s := by
  refine kl_pop F N (p := vs) (y := v) (by simpa using kpa_last v vs) (Upd.head hz) (by simp; rw [sizeLine_eq]; omega) fun h' F' N' => h h' F' N'
theorem r_truthy {Q : Bool → Shared → Prop} (N : News h₀ L s.heap news) (hm : (D, listOf vs.toArray n) ∈ news) (hs : vs.length ≤ 10000) (h : Q (!vs.isEmpty) { s with toks := s.toks + 1 + 1 }) : wpAny (model prog w) A (truthy (.ref D)) Q E s := by
  refine wpAny_truthy_list (items := vs.toArray) ⟨_, (N _ hm).1, rfl, _, rfl⟩ (by rw [List.size_toArray]; omega) ?_
  simpa using h
theorem r_last {value slice : Expr} {v : Value} (N : News h₀ L s.heap news) (hm : (D, listOf (vs ++ [v]).toArray n) ∈ news) (h : Q v s)
    (hs : subscripted slice false (.ref D) (.int (-1) u) = operate [.ref D, .int (-1) u] (getItem (.ref D) (.int (-1) u)) := by with_unfolding_all rfl) :
    wpAny (model prog w) A (subscriptTail value slice (.ref D) (.int (-1) u)) Q E s := by
  have hl : s.heap.IsList D (vs ++ [v]).toArray := ⟨_, (N _ hm).1, rfl, _, rfl⟩
  refine tail_any hl.typeIs slot_list_getitem.lookup (wpAny_getItem_list_neg hl (by decide) (by simp; omega) (by decide) ?_ h) hs
  simp
  rw [show ((-1 : Int) + (↑vs.length + 1)).toNat = vs.length by omega]
  simp
theorem r_split (F : Fr h₀ L s.heap m) (N : News h₀ L s.heap news) (hs : x.length ≤ 100000)
    (h : ∀ D vs h' k, StrsAre vs (Txt.split x (Str.ofString "/")) → Fr h₀ L h' m → News h₀ L h' ((D, listOf vs.toArray 0) :: news) → (∀ p ∈ news, p.1 < D) → Q (.ref D) { s with heap := h', toks := k }) :
    wpAny (model prog w) A (call (.builtin "str.split") [.str x t, .str (Str.ofString "/") u]) Q E s := by
  refine KSpl.split1 F N (by decide) (fun D l h' k e a F' N' l1 => h D _ h' k (e ▸ a) F' N' l1) (by rw [sizeLine_eq]; omega)
theorem r_join {ys : List Str} (N : News h₀ L s.heap news) (hm : (D, listOf vs.toArray n) ∈ news) (hi : StrsAre vs ys) (hs : (ys.map (·.length)).sum + ys.length * x.length ≤ 16777216)
    (h : ∀ t' k, (Txt.join x ys).length ≤ (ys.map (·.length)).sum + ys.length * x.length → Q (.str (Txt.join x ys) t') { s with toks := k }) : wpAny (model prog w) A (call (.builtin "str.join") [.str x t, .ref D]) Q E s :=
  join_list (items := vs.toArray) ⟨_, (N _ hm).1, rfl, _, rfl⟩ (by simpa using hi) hs fun t' k => h t' k (by
    show (Builtin.Str.glued x ys).length ≤ _
    rw [StrLaws.glued_eq_join]; exact StrLaws.join_length_le x ys)
end
end

section
-- part F1
theorem k_filled (w : World) (h : Heap) : (Mine.hd.heap_39 w.params).In h → PySem.Challenge.rw_pd0100_01 = PySem.Challenge.rw_pd0100_01 := by
  k_fill
  intro _
  rfl
section
variable {w : World} {A : Around} {s : Shared} {h₀ : Heap} {L : Addr} {m : Str → Option Value} {news : List (Addr × Obj)} {p : Program} {loose : List Str} {mg mb : Str → Option Value} {Q E : Value → Shared → Prop}
theorem c_get_sep {x : Str} {t : Tok}
    (F : Fr h₀ L s.heap m) (N : News h₀ L s.heap news) (X : (Mine.hd.heap_39 w.params).In h₀) (T : TopRead p loose mg mb h₀) (hd : A.depth + 10 < recursionLimit)
    (hQ : ∀ t' h' tk', Fr h₀ L h' m → News h₀ L h' news → Q (.str (Str.ofString "/") t') { s with heap := h', toks := tk' }) :
    wpAny (model PySem.Challenge.rw_pd0100_01.row.prog w) A (call (.ref 108) [.str x t]) Q E s := by
  refine' enter (binds := [(Str.ofString "path", .str x t)]) F N X T ?k1 ?k2 ?k3 (BindsTo.of_eq ?k4) (locs ?k5) ?_ ?c1 ?c2 ?c3 ?c4
  (case k1 => k_is); (case k2 => k_is); (try (case k3 => omega)); (case k4 => exact rfl); (case k5 => exact rfl); (case c1 => exact rfl); (case c2 => exact rfl); (case c3 => exact rfl); (case c4 => decide)
  intro g L' h₁ tk hlt F' N' X' T'
  clear F N X T
  k_fold
  repeat' (first
    | (k_unfold; (try dsimp only))
    | ((with_reducible show wpAny _ _ (PySem.call (Value.builtin "issubclass") _ _) _ _ _); (refine' issub_str ?k0 ?_; (case k0 => exact News.get (by assumption) (List.Mem.head _))))
    | walk1
    | (dsimp only; walk1))
  exact ⟨_, _, _, F', N', fun F N => hQ _ _ _ F N⟩
theorem c_fspath {x : Str} {t : Tok}
    (F : Fr h₀ L s.heap m) (N : News h₀ L s.heap news) (X : (Mine.hd.heap_39 w.params).In h₀) (T : TopRead p loose mg mb h₀) (hd : A.depth + 10 < recursionLimit)
    (hQ : ∀ h' tk', Fr h₀ L h' m → News h₀ L h' news → Q (.str x t) { s with heap := h', toks := tk' }) :
    wpAny (model PySem.Challenge.rw_pd0100_01.row.prog w) A (call (.ref 94) [.str x t]) Q E s := by
  refine' enter (binds := [(Str.ofString "path", .str x t)]) F N X T ?k1 ?k2 ?k3 (BindsTo.of_eq ?k4) (locs ?k5) ?_ ?c1 ?c2 ?c3 ?c4
  (case k1 => k_is); (case k2 => k_is); (try (case k3 => omega)); (case k4 => exact rfl); (case k5 => exact rfl); (case c1 => exact rfl); (case c2 => exact rfl); (case c3 => exact rfl); (case c4 => decide)
  intro g L' h₁ tk hlt F' N' X' T'
  clear F N X T
  k_fold
  repeat' (first
    | (k_unfold; (try dsimp only))
    | ((with_reducible show wpAny _ _ (PySem.call (Value.builtin "issubclass") _ _) _ _ _); (refine' issub_str ?k0 ?_; (case k0 => exact News.get (by assumption) (List.Mem.head _))))
    | walk1
    | (dsimp only; walk1))
  rename News g L' _ _ => N9
  rename Fr g L' _ _ => F9
  exact ⟨_, _, _, F9, fun q hq => N9 q (List.mem_cons_of_mem _ hq), fun F N => hQ _ _ F N⟩
end
end

section
-- part F2
/-- what splitroot tells: the root and the rest -/
def rootF (x : Str) : Str × Str :=
  if (Txt.slice x none (some 1) != Str.ofString "/") = true then (Str.ofString "", x)
  else if (Txt.slice x (some 1) (some 2) != Str.ofString "/") = true then (Str.ofString "/", Txt.slice x (some 1) none)
  else if (Txt.slice x (some 2) (some 3) == Str.ofString "/") = true then (Str.ofString "/", Txt.slice x (some 1) none)
  else (Txt.slice x none (some 2), Txt.slice x (some 2) none)
def dirF (x : Str) : Str :=
  let head := Txt.slice x none (some (Txt.rfind x (Str.ofString "/") + 1))
  if (head.length : Int) = 0 then head
  else if (head != Txt.mul (Str.ofString "/") (head.length : Int)) = true then Txt.rstripChars head (Str.ofString "/") else head
section
variable {w : World} {A : Around} {s : Shared} {h₀ : Heap} {L : Addr} {m : Str → Option Value} {news : List (Addr × Obj)} {p : Program} {loose : List Str} {mg mb : Str → Option Value} {Q E : Value → Shared → Prop}
theorem c_splitroot {x : Str} {t : Tok}
    (F : Fr h₀ L s.heap m) (N : News h₀ L s.heap news) (X : (Mine.hd.heap_39 w.params).In h₀) (T : TopRead p loose mg mb h₀) (hd : A.depth + 20 < recursionLimit) (hx : x.length ≤ 1000)
    (hQ : ∀ D t1 t2 t3 h' tk', Fr h₀ L h' m → News h₀ L h' ((D, { cls := .type "tuple", data := .seq #[.str (Str.ofString "") t1, .str (rootF x).1 t2, .str (rootF x).2 t3] }) :: news) → (∀ p ∈ news, p.1 < D) → Q (.ref D) { s with heap := h', toks := tk' }) :
    wpAny (model PySem.Challenge.rw_pd0100_01.row.prog w) A (call (.ref 122) [.str x t]) Q E s := by
  refine' enter (binds := [(Str.ofString "p", .str x t)]) F N X T ?k1 ?k2 ?k3 (BindsTo.of_eq ?k4) (locs ?k5) ?_ ?c1 ?c2 ?c3 ?c4
  (case k1 => k_is); (case k2 => k_is); (try (case k3 => omega)); (case k4 => exact rfl); (case k5 => exact rfl); (case c1 => exact rfl); (case c2 => exact rfl); (case c3 => exact rfl); (case c4 => decide)
  intro g L' h₁ tk hlt F' N' X' T'
  clear F N X T
  k_fold
  repeat' (first
    | (k_unfold; (try dsimp only))
    | ((with_reducible show wpAny _ _ (PySem.call (Value.ref 94) _ _) _ _ _); (refine' c_fspath ?k0 ?k1 ?k2 ?k3 ?k4 ?_; (case k0 => k_asm); (case k1 => k_asm); (case k2 => k_asm); (case k3 => k_asm); (case k4 => (first | omega | (simp only [depth_deeper, depth_in1, units_deeper, units_in1]; (try dsimp only); omega)))); intro h' tk' F' N'; (try k_sweep))
    | ((with_reducible show wpAny _ _ (PySem.call (Value.ref 108) _ _) _ _ _); (refine' c_get_sep ?k0 ?k1 ?k2 ?k3 ?k4 ?_; (case k0 => k_asm); (case k1 => k_asm); (case k2 => k_asm); (case k3 => k_asm); (case k4 => (first | omega | (simp only [depth_deeper, depth_in1, units_deeper, units_in1]; (try dsimp only); omega)))); intro t' h' tk' F' N'; (try k_sweep))
    | walk1
    | (dsimp only; walk1))
  all_goals
    rename News g L' _ _ => N9
    rename Fr g L' _ _ => F9
    rename ∀ p ∈ news, p.1 < _ => l9
    refine ⟨_, _, _, F9, N9, fun F N => ?_⟩
    have hq := fun D t1 t2 t3 tk' => hQ D t1 t2 t3 _ tk' F
    unfold rootF at hq
    simp only [*, if_true, if_false, Bool.false_eq_true] at hq
    exact hq _ _ _ _ _ N l9
theorem c_dirname {x : Str} {t : Tok}
    (F : Fr h₀ L s.heap m) (N : News h₀ L s.heap news) (X : (Mine.hd.heap_39 w.params).In h₀) (T : TopRead p loose mg mb h₀) (hd : A.depth + 20 < recursionLimit) (hx : x.length ≤ 1000)
    (hQ : ∀ t' h' tk', Fr h₀ L h' m → News h₀ L h' news → Q (.str (dirF x) t') { s with heap := h', toks := tk' }) :
    wpAny (model PySem.Challenge.rw_pd0100_01.row.prog w) A (call (.ref 129) [.str x t]) Q E s := by
  refine' enter (binds := [(Str.ofString "p", .str x t)]) F N X T ?k1 ?k2 ?k3 (BindsTo.of_eq ?k4) (locs ?k5) ?_ ?c1 ?c2 ?c3 ?c4
  (case k1 => k_is); (case k2 => k_is); (try (case k3 => omega)); (case k4 => exact rfl); (case k5 => exact rfl); (case c1 => exact rfl); (case c2 => exact rfl); (case c3 => exact rfl); (case c4 => decide)
  intro g L' h₁ tk hlt F' N' X' T'
  clear F N X T
  k_fold
  repeat' (first
    | (k_unfold; (try dsimp only))
    | ((with_reducible show wpAny _ _ (PySem.call (Value.ref 94) _ _) _ _ _); (refine' c_fspath ?k0 ?k1 ?k2 ?k3 ?k4 ?_; (case k0 => k_asm); (case k1 => k_asm); (case k2 => k_asm); (case k3 => k_asm); (case k4 => (first | omega | (simp only [depth_deeper, depth_in1, units_deeper, units_in1]; (try dsimp only); omega)))); intro h' tk' F' N'; (try k_sweep))
    | ((with_reducible show wpAny _ _ (PySem.call (Value.ref 108) _ _) _ _ _); (refine' c_get_sep ?k0 ?k1 ?k2 ?k3 ?k4 ?_; (case k0 => k_asm); (case k1 => k_asm); (case k2 => k_asm); (case k3 => k_asm); (case k4 => (first | omega | (simp only [depth_deeper, depth_in1, units_deeper, units_in1]; (try dsimp only); omega)))); intro t' h' tk' F' N'; (try k_sweep))
    | walk1
    | (dsimp only; walk1))
  all_goals
    rename News g L' _ _ => N9
    rename Fr g L' _ _ => F9
    refine ⟨_, _, _, F9, N9, fun F N => ?_⟩
    have hq := fun t' tk' => hQ t' _ tk' F N
    unfold dirF at hq
    simp only [*, if_true, if_false, Bool.false_eq_true] at hq
    exact hq _ _
end
end

section
-- part Plain1
theorem glued_len (sep : Str) (ys : List Str) : (Txt.join sep ys).length = (ys.map (·.length)).sum + (ys.length - 1) * sep.length := size_glued sep ys
theorem join_split' (x y : Str) : Txt.join y (Txt.split x y) = x := by
  show Builtin.Str.glued _ _ = _
  rw [StrLaws.glued_eq_join]; exact StrLaws.join_split x y
theorem slash_len : (Str.ofString "/").length = 1 := by decide
theorem split_size (x : Str) : ((Txt.split x (Str.ofString "/")).map (·.length)).sum + (Txt.split x (Str.ofString "/")).length ≤ x.length + 1 := by
  have h := glued_len (Str.ofString "/") (Txt.split x (Str.ofString "/"))
  rw [join_split', slash_len, Nat.mul_one] at h
  omega
theorem rootF_len1 (x : Str) : (rootF x).1.length ≤ x.length + 1 := by
  unfold rootF
  have e : (Str.ofString "").length = 0 := by decide
  have e1 := slash_len
  have e2 := Txt.slice_le x none (some 2)
  split
  · show (Str.ofString "").length ≤ _; omega
  · split
    · show (Str.ofString "/").length ≤ _; omega
    · split
      · show (Str.ofString "/").length ≤ _; omega
      · show (Txt.slice x none (some 2)).length ≤ _; omega
theorem rootF_len2 (x : Str) : (rootF x).2.length ≤ x.length := by
  unfold rootF
  have e1 := Txt.slice_le x (some 1) none
  have e2 := Txt.slice_le x (some 2) none
  split
  · exact Nat.le_refl _
  · split
    · exact e1
    · split
      · exact e1
      · exact e2
theorem slice_nil {x : Str} (h : x.length = 0) (l u : Option Int) : Txt.slice x l u = x := by
  have e := Txt.slice_le x l u
  have e1 : x.cps = #[] := Array.eq_empty_of_size_eq_zero h
  have e2 : (Txt.slice x l u).cps = #[] := Array.eq_empty_of_size_eq_zero (by show (Txt.slice x l u).length = 0; omega)
  exact Str.ext' (e2.trans e1.symm)
theorem rootF_nil {x : Str} (h : x.length = 0) : (rootF x).1.length = 0 := by
  unfold rootF
  rw [slice_nil h, if_pos]
  · show (Str.ofString "").length = 0; decide
  · rw [bne_iff_ne]; intro e; rw [e] at h; exact absurd h (by decide)
end

section
-- part F3
def joinF (x y : Str) : Str :=
  if Txt.startswith y (Str.ofString "/") = true then y
  else if (x.length : Int) = 0 then y
  else if Txt.endswith x (Str.ofString "/") = true then x ++ y
  else x ++ (Str.ofString "/" ++ y)
section
variable {w : World} {A : Around} {s : Shared} {h₀ : Heap} {L : Addr} {m : Str → Option Value} {news : List (Addr × Obj)} {p : Program} {loose : List Str} {mg mb : Str → Option Value} {Q E : Value → Shared → Prop}
theorem c_join {x y : Str} {t u : Tok}
    (F : Fr h₀ L s.heap m) (N : News h₀ L s.heap news) (X : (Mine.hd.heap_39 w.params).In h₀) (T : TopRead p loose mg mb h₀) (hh : A.handled = none) (hd : A.depth + 20 < recursionLimit) (hx : x.length ≤ 1000) (hy : y.length ≤ 1000)
    (hQ : ∀ t' h' tk', Fr h₀ L h' m → News h₀ L h' news → Q (.str (joinF x y) t') { s with heap := h', toks := tk' }) :
    wpAny (model PySem.Challenge.rw_pd0100_01.row.prog w) A (call (.ref 115) [.str x t, .str y u]) Q E s := by
  refine' enterRest (vs := [.str y u]) (binds := fun D => [(Str.ofString "a", .str x t), (Str.ofString "p", .ref D)]) F N X T ?k1 ?k2 ?k3 ?k4 (fun D => ?k5) (fun D => locs ?k6) ?_ ?c1 ?c2 ?c3 ?c4
  (case k1 => k_is)
  (case k2 => k_is)
  (case k3 => omega)
  (case k4 => exact rfl)
  (case k5 => exact rfl)
  (case k6 => exact rfl)
  (case c1 => exact rfl)
  (case c2 => exact rfl)
  (case c3 => exact rfl)
  (case c4 => decide)
  intro D g L' h₁ tk hl1 hl2 F' N' X' T'
  clear F N X T
  k_fold
  repeat' (first
    | (k_unfold; (try dsimp only))
    | ((with_reducible show wpAny _ _ (PySem.call (Value.ref 94) _ _) _ _ _); (refine' c_fspath ?k0 ?k1 ?k2 ?k3 ?k4 ?_; (case k0 => k_asm); (case k1 => k_asm); (case k2 => k_asm); (case k3 => k_asm); (case k4 => (first | omega | (simp only [depth_deeper, depth_in1, units_deeper, units_in1]; (try dsimp only); omega)))); intro h' tk' F' N'; (try k_sweep))
    | ((with_reducible show wpAny _ _ (PySem.call (Value.ref 108) _ _) _ _ _); (refine' c_get_sep ?k0 ?k1 ?k2 ?k3 ?k4 ?_; (case k0 => k_asm); (case k1 => k_asm); (case k2 => k_asm); (case k3 => k_asm); (case k4 => (first | omega | (simp only [depth_deeper, depth_in1, units_deeper, units_in1]; (try dsimp only); omega)))); intro t' h' tk' F' N'; (try k_sweep))
    | ((with_reducible show wpAny _ _ (exec (Stmt.For _ _ _ _ _) _) _ _ _); refine stop_of ?_)
    | walk1
    | (dsimp only; walk1))
  refine Stop.go ?_
  refine wpAny_mono (E := fun _ _ => False) ?_ (fun _ _ x => x) (fun _ _ x => x.elim)
  k_fold
  refine For_invV g rfl rfl ?_ (hE := PassesOwn.never)
  repeat' (first
    | (k_unfold; (try dsimp only))
    | ((with_reducible show wpAny _ _ (PySem.call (Value.ref 94) _ _) _ _ _); (refine' c_fspath ?k0 ?k1 ?k2 ?k3 ?k4 ?_; (case k0 => k_asm); (case k1 => k_asm); (case k2 => k_asm); (case k3 => k_asm); (case k4 => (first | omega | (simp only [depth_deeper, depth_in1, units_deeper, units_in1]; (try dsimp only); omega)))); intro h' tk' F' N'; (try k_sweep))
    | ((with_reducible show wpAny _ _ (PySem.call (Value.ref 108) _ _) _ _ _); (refine' c_get_sep ?k0 ?k1 ?k2 ?k3 ?k4 ?_; (case k0 => k_asm); (case k1 => k_asm); (case k2 => k_asm); (case k3 => k_asm); (case k4 => (first | omega | (simp only [depth_deeper, depth_in1, units_deeper, units_in1]; (try dsimp only); omega)))); intro t' h' tk' F' N'; (try k_sweep))
    | ((with_reducible show wpAny _ _ (exec (Stmt.For _ _ _ _ _) _) _ _ _); refine stop_of ?_)
    | walk1
    | (dsimp only; walk1))
  rename Fr g L' _ _ => F9
  rename News g L' _ _ => N9
  refine iter_tuple (vs := [.str y u]) (n := 0) (fun i m' news' => news' = (D, ({ cls := .type "tuple", data := .seq #[.str y u] } : Obj)) :: news ∧ (i = 0 → m' = _) ∧ (i = 1 → ∃ t', m' (Str.ofString "path") = some (.str (joinF x y) t'))) ?hA F9 N9 ?hl ⟨rfl, fun _ => rfl, fun h => by cases h⟩ ?turn ?done
  case hA => exact hh
  case hl => exact List.Mem.head _
  case turn =>
    intro I hlt i v m₁ news₁ h tk own hv hJ hoff hown F₁ N₁
    obtain ⟨rfl, hm, _⟩ := hJ
    cases i with
    | succ i => cases hv
    | zero =>
    cases hv
    obtain rfl := hm rfl
    clear F9 N9
    repeat' (first
    | (k_unfold; (try dsimp only))
    | ((with_reducible show wpAny _ _ (PySem.call (Value.ref 94) _ _) _ _ _); (refine' c_fspath ?k0 ?k1 ?k2 ?k3 ?k4 ?_; (case k0 => k_asm); (case k1 => k_asm); (case k2 => k_asm); (case k3 => k_asm); (case k4 => (first | omega | (simp only [depth_deeper, depth_in1, units_deeper, units_in1]; (try dsimp only); omega)))); intro h' tk' F' N'; (try k_sweep))
    | ((with_reducible show wpAny _ _ (PySem.call (Value.ref 108) _ _) _ _ _); (refine' c_get_sep ?k0 ?k1 ?k2 ?k3 ?k4 ?_; (case k0 => k_asm); (case k1 => k_asm); (case k2 => k_asm); (case k3 => k_asm); (case k4 => (first | omega | (simp only [depth_deeper, depth_in1, units_deeper, units_in1]; (try dsimp only); omega)))); intro t' h' tk' F' N'; (try k_sweep))
    | ((with_reducible show wpAny _ _ (exec (Stmt.For _ _ _ _ _) _) _ _ _); refine stop_of ?_)
    | walk1
    | (dsimp only; walk1))
    all_goals
      rename Fr g _ _ _ => F9
      rename News g _ _ _ => N9
      refine ⟨_, _, _, _, rfl, F9, N9, hoff, rfl, (fun h => by cases h), fun _ => ?_⟩
      generalize hz : joinF x y = z
      unfold joinF at hz
      simp only [*, if_true, if_false, Bool.false_eq_true] at hz
      subst hz
      exact ⟨_, rfl⟩
  case done =>
    intro m₁ news₁ h tk hJ F₁ N₁
    obtain ⟨rfl, _, hm⟩ := hJ
    obtain ⟨t', hm⟩ := hm rfl
    clear F9 N9
    repeat' (first
    | (k_unfold; (try dsimp only))
    | ((with_reducible show wpAny _ _ (PySem.call (Value.ref 94) _ _) _ _ _); (refine' c_fspath ?k0 ?k1 ?k2 ?k3 ?k4 ?_; (case k0 => k_asm); (case k1 => k_asm); (case k2 => k_asm); (case k3 => k_asm); (case k4 => (first | omega | (simp only [depth_deeper, depth_in1, units_deeper, units_in1]; (try dsimp only); omega)))); intro h' tk' F' N'; (try k_sweep))
    | ((with_reducible show wpAny _ _ (PySem.call (Value.ref 108) _ _) _ _ _); (refine' c_get_sep ?k0 ?k1 ?k2 ?k3 ?k4 ?_; (case k0 => k_asm); (case k1 => k_asm); (case k2 => k_asm); (case k3 => k_asm); (case k4 => (first | omega | (simp only [depth_deeper, depth_in1, units_deeper, units_in1]; (try dsimp only); omega)))); intro t' h' tk' F' N'; (try k_sweep))
    | ((with_reducible show wpAny _ _ (exec (Stmt.For _ _ _ _ _) _) _ _ _); refine stop_of ?_)
    | walk1
    | (dsimp only; walk1))
    refine ld F₁ hm ?_
    exact ⟨_, _, _, F₁, N₁, fun F N => hQ _ _ _ F fun q hq => N q (List.mem_cons_of_mem _ hq)⟩
end
end

section
-- part F4
/-- one piece of a path, upon the names so far (a path with a root) -/
def compF (acc : List Str) (c : Str) : List Str :=
  if c.length = 0 then acc else if c = Str.ofString "." then acc else if c = Str.ofString ".." then acc.dropLast else acc ++ [c]
/-- what normpath's loop keeps -/
structure NInv (acc : List Str) (ws : List Value) (k : Nat) : Prop where
  are : StrsAre ws acc
  dd : ∀ y ∈ acc, y ≠ Str.ofString ".."
  sz : (acc.map (·.length)).sum + acc.length ≤ k
section
variable {acc : List Str} {ws : List Value} {k : Nat} {c y : Str} {t : Tok} {v : Value}
theorem NInv.mono {k' : Nat} (h : NInv acc ws k) (hk : k ≤ k') : NInv acc ws k' := ⟨h.are, h.dd, Nat.le_trans h.sz hk⟩
theorem NInv.skip0 (h : NInv acc ws k) (hc : (c.length : Int) = 0) : NInv (compF acc c) ws (k + (c.length + 1)) := by
  unfold compF
  rw [if_pos (by omega)]
  exact h.mono (by omega)
theorem NInv.skip1 (h : NInv acc ws k) (hc : (c == Str.ofString ".") = true) : NInv (compF acc c) ws (k + (c.length + 1)) := by
  unfold compF
  split
  · exact h.mono (by omega)
  · rw [if_pos (eq_of_beq hc)]
    exact h.mono (by omega)
theorem NInv.add (h : NInv acc ws k) (h0 : (c.length : Int) ≠ 0) (h1 : (c == Str.ofString ".") = false) (h2 : (c != Str.ofString "..") = true) : NInv (compF acc c) (ws ++ [.str c t]) (k + (c.length + 1)) := by
  have h2' : c ≠ Str.ofString ".." := bne_iff_ne.mp h2
  unfold compF
  rw [if_neg (by omega), if_neg (fun e => by rw [e] at h1; exact absurd h1 (by decide)), if_neg h2']
  refine ⟨StrsAre.snoc h.are, fun y hy => ?_, ?_⟩
  · rcases List.mem_append.mp hy with hy | hy
    · exact h.dd y hy
    · rw [List.mem_singleton.mp hy]; exact h2'
  · have := h.sz
    simp only [List.map_append, List.sum_append, List.length_append, List.map_cons, List.map_nil, List.sum_cons, List.sum_nil, List.length_cons, List.length_nil]
    omega
theorem NInv.up0 (h : NInv [] [] k) (h0 : (c.length : Int) ≠ 0) (h1 : (c == Str.ofString ".") = false) (h2 : (c != Str.ofString "..") = false) : NInv (compF [] c) [] (k + (c.length + 1)) := by
  have h2' : c = Str.ofString ".." := by simpa using h2
  unfold compF
  rw [if_neg (by omega), if_neg (fun e => by rw [e] at h1; exact absurd h1 (by decide)), if_pos h2']
  exact h.mono (by omega)
theorem NInv.up (h : NInv (acc ++ [y]) (ws ++ [v]) k) (h0 : (c.length : Int) ≠ 0) (h1 : (c == Str.ofString ".") = false) (h2 : (c != Str.ofString "..") = false) : NInv (compF (acc ++ [y]) c) ws (k + (c.length + 1)) := by
  have h2' : c = Str.ofString ".." := by simpa using h2
  unfold compF
  rw [if_neg (by omega), if_neg (fun e => by rw [e] at h1; exact absurd h1 (by decide)), if_pos h2', List.dropLast_concat]
  obtain ⟨zs, z, tz, e, _, hz⟩ := StrsAre.unsnoc h.are
  obtain ⟨rfl, _⟩ := List.append_inj' e rfl
  refine ⟨hz, fun w hw => h.dd w (List.mem_append_left _ hw), ?_⟩
  have := h.sz
  simp only [List.map_append, List.sum_append, List.length_append, List.map_cons, List.map_nil, List.sum_cons, List.sum_nil, List.length_cons, List.length_nil] at this
  omega
end
def normF (x : Str) : Str := (rootF x).1 ++ Txt.join (Str.ofString "/") ((Txt.split (rootF x).2 (Str.ofString "/")).foldl compF [])
section
variable {w : World} {A : Around} {s : Shared} {h₀ : Heap} {L : Addr} {m : Str → Option Value} {news : List (Addr × Obj)} {p : Program} {loose : List Str} {mg mb : Str → Option Value} {Q E : Value → Shared → Prop}
theorem c_normpath {x : Str} {t : Tok}
    (F : Fr h₀ L s.heap m) (N : News h₀ L s.heap news) (X : (Mine.hd.heap_39 w.params).In h₀) (T : TopRead p loose mg mb h₀) (hh : A.handled = none) (hd : A.depth + 40 < recursionLimit) (hx : x.length ≤ 1000)
    (hr : (rootF x).1.length ≠ 0)
    (hQ : ∀ t' h' tk', Fr h₀ L h' m → News h₀ L h' news → Q (.str (normF x) t') { s with heap := h', toks := tk' }) :
    wpAny (model PySem.Challenge.rw_pd0100_01.row.prog w) A (call (.ref 136) [.str x t]) Q E s := by
  obtain ⟨ha, dp, fr, gd, un⟩ := A
  obtain rfl : ha = none := hh
  replace hd : dp + 40 < recursionLimit := hd
  have hr1 := rootF_len1 x
  have hr2 := rootF_len2 x
  have hx0 : x.length ≠ 0 := fun e => hr (rootF_nil e)
  have hxT : ((x.length : Int) != 0) = true := by rw [bne_iff_ne]; omega
  have hrT : (((rootF x).1.length : Int) != 0) = true := by rw [bne_iff_ne]; omega
  refine' enter (binds := [(Str.ofString "path", .str x t)]) F N X T ?k1 ?k2 ?k3 (BindsTo.of_eq ?k4) (locs ?k5) ?_ ?c1 ?c2 ?c3 ?c4
  (case k3 => exact Nat.lt_of_le_of_lt (Nat.le_add_right dp 40) hd)
  (case k1 => k_is); (case k2 => k_is); (try (case k3 => omega)); (case k4 => exact rfl); (case k5 => exact rfl); (case c1 => exact rfl); (case c2 => exact rfl); (case c3 => exact rfl); (case c4 => decide)
  intro g L' h₁ tk hlt F' N' X' T'
  clear F N X T
  k_fold
  repeat' (first
    | (k_unfold; (try dsimp only))
    | ((with_reducible show wpAny _ _ (PySem.call (Value.ref 94) _ _) _ _ _); (refine' c_fspath ?k0 ?k1 ?k2 ?k3 ?k4 ?_; (case k0 => k_asm); (case k1 => k_asm); (case k2 => k_asm); (case k3 => k_asm); (case k4 => (first | omega | (simp only [depth_deeper, depth_in1, units_deeper, units_in1]; (try dsimp only); omega)))); intro h' tk' F' N'; (try k_sweep))
    | ((with_reducible show wpAny _ _ (PySem.call (Value.ref 108) _ _) _ _ _); (refine' c_get_sep ?k0 ?k1 ?k2 ?k3 ?k4 ?_; (case k0 => k_asm); (case k1 => k_asm); (case k2 => k_asm); (case k3 => k_asm); (case k4 => (first | omega | (simp only [depth_deeper, depth_in1, units_deeper, units_in1]; (try dsimp only); omega)))); intro t' h' tk' F' N'; (try k_sweep))
    | ((with_reducible show wpAny _ _ (PySem.call (Value.ref 122) _ _) _ _ _); (refine' c_splitroot ?k0 ?k1 ?k2 ?k3 ?k4 ?k5 ?_; (case k0 => k_asm); (case k1 => k_asm); (case k2 => k_asm); (case k3 => k_asm); (case k4 => (first | omega | (simp only [depth_deeper, depth_in1, units_deeper, units_in1]; (try dsimp only); omega))); (case k5 => (first | with_reducible assumption | assumption))); intro D' t1' t2' t3' h' tk' F' N' l1; (try k_sweep))
    | ((with_reducible show wpAny _ _ (PySem.call (Value.builtin "str.split") _ _) _ _ _); (refine' r_split ?k0 ?k1 ?k2 ?_; (case k0 => k_asm); (case k1 => k_asm); (case k2 => omega)); intro D' vs' h' k' a' F' N' l1; (try k_sweep))
    | ((with_reducible show wpAny _ _ (PySem.call (Value.builtin "list.append") _ _) _ _ _); (refine' r_append ?k0 ?k1 ?k2 ?k3 ?_; (case k0 => k_asm); (case k1 => k_asm); (case k2 => (first | with_reducible assumption | assumption)); (case k3 => (first | omega | (simp only [List.length_append, List.length_cons, List.length_nil]; omega)))); intro h' F' N'; (try k_sweep))
    | ((with_reducible show wpAny _ _ (PySem.call (Value.builtin "list.pop") _ _) _ _ _); (refine' r_pop ?k0 ?k1 ?k2 ?k3 ?_; (case k0 => k_asm); (case k1 => k_asm); (case k2 => (first | with_reducible assumption | assumption)); (case k3 => omega)); intro h' F' N'; (try k_sweep))
    | ((with_reducible show wpAny _ _ (PySem.call (Value.builtin "str.join") _ _) _ _ _); (refine' r_join ?k0 ?k1 ?k2 ?k3 ?_; (case k0 => k_asm); (case k1 => k_mem); (case k2 => (first | with_reducible assumption | assumption)); (case k3 => (have e1 := slash_len; rw [e1]; omega))); intro t' k' hj'; (try k_sweep))
    | ((with_reducible show wpAny _ _ (truthy (Value.ref _)) _ _ _); (refine' r_truthy ?k0 ?k1 ?k2 ?_; (case k0 => k_asm); (case k1 => k_mem); (case k2 => (first | omega | (simp only [List.length_append, List.length_cons, List.length_nil]; omega)))))
    | ((with_reducible show wpAny _ _ (subscriptTail _ _ (Value.ref _) (Value.int (-1) _)) _ _ _); (refine' r_last ?k0 ?k1 ?_ ?k2; (case k0 => k_asm); (case k1 => k_mem); (case k2 => with_unfolding_all rfl)))
    | ((with_reducible show wpAny _ _ (exec (Stmt.For _ _ _ _ _) _) _ _ _); refine stop_of ?_)
    | walk1
    | (dsimp only; walk1))
  refine Stop.go ?_
  refine For_invV g rfl rfl ?_ (hE := PassesOwn.never)
  repeat' (first
    | (k_unfold; (try dsimp only))
    | ((with_reducible show wpAny _ _ (PySem.call (Value.ref 94) _ _) _ _ _); (refine' c_fspath ?k0 ?k1 ?k2 ?k3 ?k4 ?_; (case k0 => k_asm); (case k1 => k_asm); (case k2 => k_asm); (case k3 => k_asm); (case k4 => (first | omega | (simp only [depth_deeper, depth_in1, units_deeper, units_in1]; (try dsimp only); omega)))); intro h' tk' F' N'; (try k_sweep))
    | ((with_reducible show wpAny _ _ (PySem.call (Value.ref 108) _ _) _ _ _); (refine' c_get_sep ?k0 ?k1 ?k2 ?k3 ?k4 ?_; (case k0 => k_asm); (case k1 => k_asm); (case k2 => k_asm); (case k3 => k_asm); (case k4 => (first | omega | (simp only [depth_deeper, depth_in1, units_deeper, units_in1]; (try dsimp only); omega)))); intro t' h' tk' F' N'; (try k_sweep))
    | ((with_reducible show wpAny _ _ (PySem.call (Value.ref 122) _ _) _ _ _); (refine' c_splitroot ?k0 ?k1 ?k2 ?k3 ?k4 ?k5 ?_; (case k0 => k_asm); (case k1 => k_asm); (case k2 => k_asm); (case k3 => k_asm); (case k4 => (first | omega | (simp only [depth_deeper, depth_in1, units_deeper, units_in1]; (try dsimp only); omega))); (case k5 => (first | with_reducible assumption | assumption))); intro D' t1' t2' t3' h' tk' F' N' l1; (try k_sweep))
    | ((with_reducible show wpAny _ _ (PySem.call (Value.builtin "str.split") _ _) _ _ _); (refine' r_split ?k0 ?k1 ?k2 ?_; (case k0 => k_asm); (case k1 => k_asm); (case k2 => omega)); intro D' vs' h' k' a' F' N' l1; (try k_sweep))
    | ((with_reducible show wpAny _ _ (PySem.call (Value.builtin "list.append") _ _) _ _ _); (refine' r_append ?k0 ?k1 ?k2 ?k3 ?_; (case k0 => k_asm); (case k1 => k_asm); (case k2 => (first | with_reducible assumption | assumption)); (case k3 => (first | omega | (simp only [List.length_append, List.length_cons, List.length_nil]; omega)))); intro h' F' N'; (try k_sweep))
    | ((with_reducible show wpAny _ _ (PySem.call (Value.builtin "list.pop") _ _) _ _ _); (refine' r_pop ?k0 ?k1 ?k2 ?k3 ?_; (case k0 => k_asm); (case k1 => k_asm); (case k2 => (first | with_reducible assumption | assumption)); (case k3 => omega)); intro h' F' N'; (try k_sweep))
    | ((with_reducible show wpAny _ _ (PySem.call (Value.builtin "str.join") _ _) _ _ _); (refine' r_join ?k0 ?k1 ?k2 ?k3 ?_; (case k0 => k_asm); (case k1 => k_mem); (case k2 => (first | with_reducible assumption | assumption)); (case k3 => (have e1 := slash_len; rw [e1]; omega))); intro t' k' hj'; (try k_sweep))
    | ((with_reducible show wpAny _ _ (truthy (Value.ref _)) _ _ _); (refine' r_truthy ?k0 ?k1 ?k2 ?_; (case k0 => k_asm); (case k1 => k_mem); (case k2 => (first | omega | (simp only [List.length_append, List.length_cons, List.length_nil]; omega)))))
    | ((with_reducible show wpAny _ _ (subscriptTail _ _ (Value.ref _) (Value.int (-1) _)) _ _ _); (refine' r_last ?k0 ?k1 ?_ ?k2; (case k0 => k_asm); (case k1 => k_mem); (case k2 => with_unfolding_all rfl)))
    | ((with_reducible show wpAny _ _ (exec (Stmt.For _ _ _ _ _) _) _ _ _); refine stop_of ?_)
    | walk1
    | (dsimp only; walk1))
  rename Fr g L' _ _ => F9
  rename News g L' _ _ => N9
  rename StrsAre _ _ => hcs
  rename _ < _ ∧ _ < _ ∧ AllLt _ news => hlts
  rename_i D hA hB
  have hsz := split_size (rootF x).2
  generalize hcomps : Txt.split (rootF x).2 (Str.ofString "/") = comps at hcs hsz
  have hcl := StrsAre.len hcs
  refine for_list (adr := [D]) (mu₀ := [(D, listOf ([] : List Value).toArray 0)]) (z₀ := _ :: _ :: news) (vs := vs') (nl := 0)
    (fun m0 z0 i m' mu z => Upto [Str.ofString "comp"] m0 m' ∧ z = z0 ∧ ∃ ws n, mu = [(D, listOf ws.toArray n)] ∧ NInv ((comps.take i).foldl compF []) ws (((comps.take i).map (·.length)).sum + (comps.take i).length)) rfl F9 N9 ?hz ?hl ?hJ ?hj ?turn ?done
  case hz =>
    intro p hp hq
    have hq := List.mem_singleton.mp hq
    rcases List.mem_cons.mp hp with rfl | hp
    · exact Nat.ne_of_lt hlts.1 hq
    · rcases List.mem_cons.mp hp with rfl | hp
      · exact Nat.ne_of_lt hlts.2.1 hq
      · exact Nat.ne_of_lt (allLt_mem hlts.2.2 p hp) hq
  case hl => exact List.Mem.head _
  case hJ => rintro i m' mu z ⟨_, _, ws, n, rfl, _⟩; rfl
  case hj => exact ⟨Upto.refl _ _, rfl, [], 0, rfl, ⟨.nil, (fun y hy => (by cases hy)), Nat.le_refl _⟩⟩
  case turn =>
    rintro i v m₁ mu z yl h tk hv ⟨hU, rfl, ws, n, rfl, hNI⟩ hzy hyl F₁ N₁
    obtain ⟨c, tc, rfl, hc⟩ := StrsAre.at hcs hv
    rw [Upto.one hU] at F₁
    clear F9 N9
    have hfin : ∀ ws', NInv (compF ((comps.take i).foldl compF []) c) ws' (((comps.take i).map (·.length)).sum + (comps.take i).length + (c.length + 1)) → NInv ((comps.take (i + 1)).foldl compF []) ws' (((comps.take (i + 1)).map (·.length)).sum + (comps.take (i + 1)).length) := by
      intro ws' h
      rw [take_snoc hc, List.foldl_append, List.map_append, List.sum_append, List.length_append]
      exact NInv.mono h (by simp; omega)
    have hyl' : ∀ p ∈ yl, p.1 ≠ D := fun p hp e => hyl p hp (List.mem_singleton.mpr e)
    replace N₁ : News g L' h ((D, listOf ws.toArray n) :: yl) := N₁
    have hwl := StrsAre.len hNI.are
    have hrb : (rootF x).1.length ≤ 1001 := by omega
    have hal : ws.length ≤ 2002 := by
      have e := List.take_append_drop i comps
      have e2 : (comps.map (·.length)).sum = ((comps.take i).map (·.length)).sum + ((comps.drop i).map (·.length)).sum := by rw [← List.sum_append, ← List.map_append, e]
      have e3 := hNI.sz
      have e4 : (comps.take i).length ≤ comps.length := by rw [List.length_take]; omega
      omega
    have hcb : c.length ≤ 1001 := by
      have e3 : c ∈ comps := List.mem_of_getElem? hc
      have e4 := le_sum (List.mem_map.mpr ⟨c, e3, rfl⟩ : c.length ∈ comps.map (·.length))
      omega
    generalize (comps.take i).foldl compF [] = acc at hNI hfin hwl
    generalize ((comps.take i).map (·.length)).sum + (comps.take i).length = kk at hNI hfin
    clear hcl hsz hr1 hr2 hlts hzy hv hcs hc hwl
    rcases List.eq_nil_or_concat ws with rfl | ⟨ws', y, hwe⟩
    · obtain rfl : acc = [] := by cases hNI.are; rfl
      repeat' (first
    | (k_unfold; (try dsimp only))
    | ((with_reducible show wpAny _ _ (PySem.call (Value.ref 94) _ _) _ _ _); (refine' c_fspath ?k0 ?k1 ?k2 ?k3 ?k4 ?_; (case k0 => k_asm); (case k1 => k_asm); (case k2 => k_asm); (case k3 => k_asm); (case k4 => (first | omega | (simp only [depth_deeper, depth_in1, units_deeper, units_in1]; (try dsimp only); omega)))); intro h' tk' F' N'; (try k_sweep))
    | ((with_reducible show wpAny _ _ (PySem.call (Value.ref 108) _ _) _ _ _); (refine' c_get_sep ?k0 ?k1 ?k2 ?k3 ?k4 ?_; (case k0 => k_asm); (case k1 => k_asm); (case k2 => k_asm); (case k3 => k_asm); (case k4 => (first | omega | (simp only [depth_deeper, depth_in1, units_deeper, units_in1]; (try dsimp only); omega)))); intro t' h' tk' F' N'; (try k_sweep))
    | ((with_reducible show wpAny _ _ (PySem.call (Value.ref 122) _ _) _ _ _); (refine' c_splitroot ?k0 ?k1 ?k2 ?k3 ?k4 ?k5 ?_; (case k0 => k_asm); (case k1 => k_asm); (case k2 => k_asm); (case k3 => k_asm); (case k4 => (first | omega | (simp only [depth_deeper, depth_in1, units_deeper, units_in1]; (try dsimp only); omega))); (case k5 => (first | with_reducible assumption | assumption))); intro D' t1' t2' t3' h' tk' F' N' l1; (try k_sweep))
    | ((with_reducible show wpAny _ _ (PySem.call (Value.builtin "str.split") _ _) _ _ _); (refine' r_split ?k0 ?k1 ?k2 ?_; (case k0 => k_asm); (case k1 => k_asm); (case k2 => omega)); intro D' vs' h' k' a' F' N' l1; (try k_sweep))
    | ((with_reducible show wpAny _ _ (PySem.call (Value.builtin "list.append") _ _) _ _ _); (refine' r_append ?k0 ?k1 ?k2 ?k3 ?_; (case k0 => k_asm); (case k1 => k_asm); (case k2 => (first | with_reducible assumption | assumption)); (case k3 => (first | omega | (simp only [List.length_append, List.length_cons, List.length_nil]; omega)))); intro h' F' N'; (try k_sweep))
    | ((with_reducible show wpAny _ _ (PySem.call (Value.builtin "list.pop") _ _) _ _ _); (refine' r_pop ?k0 ?k1 ?k2 ?k3 ?_; (case k0 => k_asm); (case k1 => k_asm); (case k2 => (first | with_reducible assumption | assumption)); (case k3 => omega)); intro h' F' N'; (try k_sweep))
    | ((with_reducible show wpAny _ _ (PySem.call (Value.builtin "str.join") _ _) _ _ _); (refine' r_join ?k0 ?k1 ?k2 ?k3 ?_; (case k0 => k_asm); (case k1 => k_mem); (case k2 => (first | with_reducible assumption | assumption)); (case k3 => (have e1 := slash_len; rw [e1]; omega))); intro t' k' hj'; (try k_sweep))
    | ((with_reducible show wpAny _ _ (truthy (Value.ref _)) _ _ _); (refine' r_truthy ?k0 ?k1 ?k2 ?_; (case k0 => k_asm); (case k1 => k_mem); (case k2 => (first | omega | (simp only [List.length_append, List.length_cons, List.length_nil]; omega)))))
    | ((with_reducible show wpAny _ _ (subscriptTail _ _ (Value.ref _) (Value.int (-1) _)) _ _ _); (refine' r_last ?k0 ?k1 ?_ ?k2; (case k0 => k_asm); (case k1 => k_mem); (case k2 => with_unfolding_all rfl)))
    | ((with_reducible show wpAny _ _ (exec (Stmt.For _ _ _ _ _) _) _ _ _); refine stop_of ?_)
    | walk1
    | (dsimp only; walk1))
      all_goals
        rename Fr g _ _ _ => F9
        rename News g _ _ _ => N9
        refine ⟨_, _, _, [_], [], rfl, F9, N9, (fun _ _ _ hp => (by cases hp)), Upto.set (Upto.refl _ _) (List.Mem.head _), rfl, _, _, rfl, hfin _ ?_⟩
        first
          | exact NInv.skip0 hNI (by with_reducible assumption)
          | exact NInv.skip1 hNI (by with_reducible assumption)
          | exact NInv.add hNI (by with_reducible assumption) (by with_reducible assumption) (by with_reducible assumption)
          | exact NInv.up0 hNI (by with_reducible assumption) (by with_reducible assumption) (by with_reducible assumption)
    · rw [List.concat_eq_append] at hwe
      subst hwe
      obtain ⟨zs, y, ty, rfl, rfl, hzs⟩ := StrsAre.unsnoc hNI.are
      have hlast : (y == Str.ofString "..") = false := beq_eq_false_iff_ne.mpr (hNI.dd y (by simp))
      have hne : (!(ws' ++ [Value.str y ty]).isEmpty) = true := by simp
      have hwl2 : ws'.length ≤ 2002 := by simp at hal; omega
      repeat' (first
    | (k_unfold; (try dsimp only))
    | ((with_reducible show wpAny _ _ (PySem.call (Value.ref 94) _ _) _ _ _); (refine' c_fspath ?k0 ?k1 ?k2 ?k3 ?k4 ?_; (case k0 => k_asm); (case k1 => k_asm); (case k2 => k_asm); (case k3 => k_asm); (case k4 => (first | omega | (simp only [depth_deeper, depth_in1, units_deeper, units_in1]; (try dsimp only); omega)))); intro h' tk' F' N'; (try k_sweep))
    | ((with_reducible show wpAny _ _ (PySem.call (Value.ref 108) _ _) _ _ _); (refine' c_get_sep ?k0 ?k1 ?k2 ?k3 ?k4 ?_; (case k0 => k_asm); (case k1 => k_asm); (case k2 => k_asm); (case k3 => k_asm); (case k4 => (first | omega | (simp only [depth_deeper, depth_in1, units_deeper, units_in1]; (try dsimp only); omega)))); intro t' h' tk' F' N'; (try k_sweep))
    | ((with_reducible show wpAny _ _ (PySem.call (Value.ref 122) _ _) _ _ _); (refine' c_splitroot ?k0 ?k1 ?k2 ?k3 ?k4 ?k5 ?_; (case k0 => k_asm); (case k1 => k_asm); (case k2 => k_asm); (case k3 => k_asm); (case k4 => (first | omega | (simp only [depth_deeper, depth_in1, units_deeper, units_in1]; (try dsimp only); omega))); (case k5 => (first | with_reducible assumption | assumption))); intro D' t1' t2' t3' h' tk' F' N' l1; (try k_sweep))
    | ((with_reducible show wpAny _ _ (PySem.call (Value.builtin "str.split") _ _) _ _ _); (refine' r_split ?k0 ?k1 ?k2 ?_; (case k0 => k_asm); (case k1 => k_asm); (case k2 => omega)); intro D' vs' h' k' a' F' N' l1; (try k_sweep))
    | ((with_reducible show wpAny _ _ (PySem.call (Value.builtin "list.append") _ _) _ _ _); (refine' r_append ?k0 ?k1 ?k2 ?k3 ?_; (case k0 => k_asm); (case k1 => k_asm); (case k2 => (first | with_reducible assumption | assumption)); (case k3 => (first | omega | (simp only [List.length_append, List.length_cons, List.length_nil]; omega)))); intro h' F' N'; (try k_sweep))
    | ((with_reducible show wpAny _ _ (PySem.call (Value.builtin "list.pop") _ _) _ _ _); (refine' r_pop ?k0 ?k1 ?k2 ?k3 ?_; (case k0 => k_asm); (case k1 => k_asm); (case k2 => (first | with_reducible assumption | assumption)); (case k3 => omega)); intro h' F' N'; (try k_sweep))
    | ((with_reducible show wpAny _ _ (PySem.call (Value.builtin "str.join") _ _) _ _ _); (refine' r_join ?k0 ?k1 ?k2 ?k3 ?_; (case k0 => k_asm); (case k1 => k_mem); (case k2 => (first | with_reducible assumption | assumption)); (case k3 => (have e1 := slash_len; rw [e1]; omega))); intro t' k' hj'; (try k_sweep))
    | ((with_reducible show wpAny _ _ (truthy (Value.ref _)) _ _ _); (refine' r_truthy ?k0 ?k1 ?k2 ?_; (case k0 => k_asm); (case k1 => k_mem); (case k2 => (first | omega | (simp only [List.length_append, List.length_cons, List.length_nil]; omega)))))
    | ((with_reducible show wpAny _ _ (subscriptTail _ _ (Value.ref _) (Value.int (-1) _)) _ _ _); (refine' r_last ?k0 ?k1 ?_ ?k2; (case k0 => k_asm); (case k1 => k_mem); (case k2 => with_unfolding_all rfl)))
    | ((with_reducible show wpAny _ _ (exec (Stmt.For _ _ _ _ _) _) _ _ _); refine stop_of ?_)
    | walk1
    | (dsimp only; walk1))
      all_goals
        rename Fr g _ _ _ => F9
        rename News g _ _ _ => N9
        refine ⟨_, _, _, [_], [], rfl, F9, N9, (fun _ _ _ hp => (by cases hp)), Upto.set (Upto.refl _ _) (List.Mem.head _), rfl, _, _, rfl, hfin _ ?_⟩
        first
          | exact NInv.skip0 hNI (by with_reducible assumption)
          | exact NInv.skip1 hNI (by with_reducible assumption)
          | exact NInv.add hNI (by with_reducible assumption) (by with_reducible assumption) (by with_reducible assumption)
          | exact NInv.up hNI (by with_reducible assumption) (by with_reducible assumption) (by with_reducible assumption)
  case done =>
    rintro m₁ mu z h tk ⟨hU, rfl, ws, n, rfl, hNI⟩ F₁ N₁ hz
    clear F9 N9
    rw [Upto.eq1 hU] at F₁
    rw [hcl, List.take_length] at hNI
    replace N₁ : News g L' h ((D, listOf ws.toArray n) :: _) := N₁
    have hws := hNI.are
    have hsm := hNI.sz
    have hjl : (Txt.join (Str.ofString "/") (comps.foldl compF [])).length ≤ 3000 := by
      have e := glued_len (Str.ofString "/") (comps.foldl compF [])
      have e1 := slash_len
      rw [e1] at e
      omega
    repeat' (first
    | (k_unfold; (try dsimp only))
    | ((with_reducible show wpAny _ _ (PySem.call (Value.ref 94) _ _) _ _ _); (refine' c_fspath ?k0 ?k1 ?k2 ?k3 ?k4 ?_; (case k0 => k_asm); (case k1 => k_asm); (case k2 => k_asm); (case k3 => k_asm); (case k4 => (first | omega | (simp only [depth_deeper, depth_in1, units_deeper, units_in1]; (try dsimp only); omega)))); intro h' tk' F' N'; (try k_sweep))
    | ((with_reducible show wpAny _ _ (PySem.call (Value.ref 108) _ _) _ _ _); (refine' c_get_sep ?k0 ?k1 ?k2 ?k3 ?k4 ?_; (case k0 => k_asm); (case k1 => k_asm); (case k2 => k_asm); (case k3 => k_asm); (case k4 => (first | omega | (simp only [depth_deeper, depth_in1, units_deeper, units_in1]; (try dsimp only); omega)))); intro t' h' tk' F' N'; (try k_sweep))
    | ((with_reducible show wpAny _ _ (PySem.call (Value.ref 122) _ _) _ _ _); (refine' c_splitroot ?k0 ?k1 ?k2 ?k3 ?k4 ?k5 ?_; (case k0 => k_asm); (case k1 => k_asm); (case k2 => k_asm); (case k3 => k_asm); (case k4 => (first | omega | (simp only [depth_deeper, depth_in1, units_deeper, units_in1]; (try dsimp only); omega))); (case k5 => (first | with_reducible assumption | assumption))); intro D' t1' t2' t3' h' tk' F' N' l1; (try k_sweep))
    | ((with_reducible show wpAny _ _ (PySem.call (Value.builtin "str.split") _ _) _ _ _); (refine' r_split ?k0 ?k1 ?k2 ?_; (case k0 => k_asm); (case k1 => k_asm); (case k2 => omega)); intro D' vs' h' k' a' F' N' l1; (try k_sweep))
    | ((with_reducible show wpAny _ _ (PySem.call (Value.builtin "list.append") _ _) _ _ _); (refine' r_append ?k0 ?k1 ?k2 ?k3 ?_; (case k0 => k_asm); (case k1 => k_asm); (case k2 => (first | with_reducible assumption | assumption)); (case k3 => (first | omega | (simp only [List.length_append, List.length_cons, List.length_nil]; omega)))); intro h' F' N'; (try k_sweep))
    | ((with_reducible show wpAny _ _ (PySem.call (Value.builtin "list.pop") _ _) _ _ _); (refine' r_pop ?k0 ?k1 ?k2 ?k3 ?_; (case k0 => k_asm); (case k1 => k_asm); (case k2 => (first | with_reducible assumption | assumption)); (case k3 => omega)); intro h' F' N'; (try k_sweep))
    | ((with_reducible show wpAny _ _ (PySem.call (Value.builtin "str.join") _ _) _ _ _); (refine' r_join ?k0 ?k1 ?k2 ?k3 ?_; (case k0 => k_asm); (case k1 => k_mem); (case k2 => (first | with_reducible assumption | assumption)); (case k3 => (have e1 := slash_len; rw [e1]; omega))); intro t' k' hj'; (try k_sweep))
    | ((with_reducible show wpAny _ _ (truthy (Value.ref _)) _ _ _); (refine' r_truthy ?k0 ?k1 ?k2 ?_; (case k0 => k_asm); (case k1 => k_mem); (case k2 => (first | omega | (simp only [List.length_append, List.length_cons, List.length_nil]; omega)))))
    | ((with_reducible show wpAny _ _ (subscriptTail _ _ (Value.ref _) (Value.int (-1) _)) _ _ _); (refine' r_last ?k0 ?k1 ?_ ?k2; (case k0 => k_asm); (case k1 => k_mem); (case k2 => with_unfolding_all rfl)))
    | ((with_reducible show wpAny _ _ (exec (Stmt.For _ _ _ _ _) _) _ _ _); refine stop_of ?_)
    | walk1
    | (dsimp only; walk1))
    · rename Fr g L' _ _ => F8
      rename News g L' _ _ => N8
      refine ⟨_, _, _, F8, N8, fun F N => ?_⟩
      have hq := fun t' tk' => hQ t' _ tk' F (led_sub N fun p hp => List.mem_cons_of_mem _ (List.mem_cons_of_mem _ (List.mem_cons_of_mem _ hp)))
      unfold normF at hq
      rw [hcomps] at hq
      exact hq _ _
    · exfalso
      simp only [Str.length_append] at *
      omega
end
end

section
-- part F5
/-- what parse257 reads, sign by sign, up to a quote that is not doubled -/
def pl : List Nat → List Nat
  | [] => []
  | c :: r => if c = 34 then (match r with | d :: r' => if d = 34 then 34 :: pl r' else [] | [] => []) else c :: pl r
def parseF (x : Str) : Str := ⟨(pl (x.cps.toList.drop 5)).toArray⟩
section
variable {x : Str} {i : Nat} {acc R : List Nat}
theorem item_at (hi : (i : Int) < (x.length : Int)) : ∃ c, Txt.item x (i : Int) = ⟨#[c]⟩ ∧ x.cps.toList.drop i = c :: x.cps.toList.drop (i + 1) := by
  have hl : i < x.cps.size := by have e : x.length = x.cps.size := rfl; omega
  refine ⟨x.cps[i], item_meets (Int.natCast_nonneg i) (by simp [hl]), ?_⟩
  rw [List.drop_eq_getElem_cons (by simpa using hl)]
  simp
theorem item_at1 (hi : ¬ (x.length : Int) ≤ (i : Int) + 1) : ∃ c, Txt.item x ((i : Int) + 1) = ⟨#[c]⟩ ∧ x.cps.toList.drop (i + 1) = c :: x.cps.toList.drop (i + 2) := by
  have := item_at (x := x) (i := i + 1) (by omega)
  rwa [show ((i + 1 : Nat) : Int) = (i : Int) + 1 by omega] at this
theorem quote_is : Str.ofString "\"" = ⟨#[34]⟩ := by decide
theorem p_quote {c : Nat} (h : ((⟨#[c]⟩ : Str) == Str.ofString "\"") = true) : c = 34 := by
  rw [quote_is] at h
  have := eq_of_beq h
  simpa using this
theorem p_noquote {c : Nat} (h : ((⟨#[c]⟩ : Str) == Str.ofString "\"") = false) : c ≠ 34 := by
  rintro rfl
  rw [quote_is] at h
  exact absurd h (by decide)
theorem pl_ne {c : Nat} {r : List Nat} (h : c ≠ 34) : pl (c :: r) = c :: pl r := by
  cases r <;> simp [pl, h]
theorem p_end0 (h : acc ++ pl (x.cps.toList.drop i) = R) (hn : ¬ (i : Int) < (x.length : Int)) : acc = R := by
  have e : x.length = x.cps.size := rfl
  rw [List.drop_eq_nil_of_le (by rw [Array.length_toList]; omega)] at h
  simpa [pl] using h
theorem p_end1 (h : acc ++ pl (x.cps.toList.drop i) = R) (hi : (i : Int) < (x.length : Int)) (hq : (Txt.item x (i : Int) == Str.ofString "\"") = true) (he : (x.length : Int) ≤ (i : Int) + 1) : acc = R := by
  obtain ⟨c, h1, h2⟩ := item_at hi
  rw [h1] at hq
  obtain rfl := p_quote hq
  have e : x.length = x.cps.size := rfl
  rw [h2, List.drop_eq_nil_of_le (by rw [Array.length_toList]; omega)] at h
  simpa [pl] using h
theorem p_end2 (h : acc ++ pl (x.cps.toList.drop i) = R) (hi : (i : Int) < (x.length : Int)) (hq : (Txt.item x (i : Int) == Str.ofString "\"") = true) (he : ¬ (x.length : Int) ≤ (i : Int) + 1)
    (hq2 : (Txt.item x ((i : Int) + 1) != Str.ofString "\"") = true) : acc = R := by
  obtain ⟨c, h1, h2⟩ := item_at hi
  obtain ⟨d, h3, h4⟩ := item_at1 he
  rw [h1] at hq
  rw [h3] at hq2
  obtain rfl := p_quote hq
  have hd : d ≠ 34 := p_noquote (by simpa [bne] using hq2)
  rw [h2, h4] at h
  simpa [pl, hd] using h
theorem p_two (h : acc ++ pl (x.cps.toList.drop i) = R) (hi : (i : Int) < (x.length : Int)) (hq : (Txt.item x (i : Int) == Str.ofString "\"") = true) (he : ¬ (x.length : Int) ≤ (i : Int) + 1)
    (hq2 : (Txt.item x ((i : Int) + 1) != Str.ofString "\"") = false) : (⟨acc.toArray⟩ : Str) ++ Txt.item x (i : Int) = ⟨(acc ++ [34]).toArray⟩ ∧ (acc ++ [34]) ++ pl (x.cps.toList.drop (i + 2)) = R := by
  obtain ⟨c, h1, h2⟩ := item_at hi
  obtain ⟨d, h3, h4⟩ := item_at1 he
  rw [h1] at hq ⊢
  rw [h3] at hq2
  obtain rfl := p_quote hq
  obtain rfl : d = 34 := p_quote (by simpa [bne] using hq2)
  rw [h2, h4] at h
  refine ⟨Str.ext' (by simp [Str.cps_append]), ?_⟩
  simpa [pl] using h
theorem p_one (h : acc ++ pl (x.cps.toList.drop i) = R) (hi : (i : Int) < (x.length : Int)) (hq : (Txt.item x (i : Int) == Str.ofString "\"") = false) :
    ∃ c, (⟨acc.toArray⟩ : Str) ++ Txt.item x (i : Int) = ⟨(acc ++ [c]).toArray⟩ ∧ (acc ++ [c]) ++ pl (x.cps.toList.drop (i + 1)) = R := by
  obtain ⟨c, h1, h2⟩ := item_at hi
  rw [h1] at hq ⊢
  have hc := p_noquote hq
  rw [h2] at h
  refine ⟨c, Str.ext' (by simp [Str.cps_append]), ?_⟩
  rw [pl_ne hc] at h
  simpa using h
end
section
variable {w : World} {A : Around} {s : Shared} {h₀ : Heap} {L : Addr} {m : Str → Option Value} {news : List (Addr × Obj)} {p : Program} {loose : List Str} {mg mb : Str → Option Value} {Q E : Value → Shared → Prop}
theorem c_parse {x : Str} {t : Tok}
    (F : Fr h₀ L s.heap m) (N : News h₀ L s.heap news) (X : (Mine.hd.heap_39 w.params).In h₀) (T : TopRead p loose mg mb h₀) (hh : A.handled = none) (hd : A.depth + 10 < recursionLimit) (hx : x.length ≤ 5000)
    (hx3 : (Txt.slice x none (some 3) != Str.ofString "257") = false) (hx5 : (Txt.slice x (some 3) (some 5) != Str.ofString " \"") = false) (hxl : 5 ≤ x.length)
    (hQ : ∀ t' h' tk', Fr h₀ L h' m → News h₀ L h' news → Q (.str (parseF x) t') { s with heap := h', toks := tk' }) :
    wpAny (model PySem.Challenge.rw_pd0100_01.row.prog w) A (call (.ref 168) [.str x t]) Q E s := by
  obtain ⟨ha, dp, fr, gd, un⟩ := A
  obtain rfl : ha = none := hh
  replace hd : dp + 10 < recursionLimit := hd
  refine' enter (binds := [(Str.ofString "resp", .str x t)]) F N X T ?k1 ?k2 ?k3 (BindsTo.of_eq ?k4) (locs ?k5) ?_ ?c1 ?c2 ?c3 ?c4
  (case k3 => exact Nat.lt_of_le_of_lt (Nat.le_add_right dp 10) hd)
  (case k1 => k_is); (case k2 => k_is); (try (case k3 => omega)); (case k4 => exact rfl); (case k5 => exact rfl); (case c1 => exact rfl); (case c2 => exact rfl); (case c3 => exact rfl); (case c4 => decide)
  intro g L' h₁ tk hlt F' N' X' T'
  clear F N X T
  k_fold
  repeat' (first
    | (k_unfold; (try dsimp only))
    | ((with_reducible show wpAny _ _ (exec (Stmt.While _ _ _ _) _) _ _ _); refine stop_of ?_)
    | walk1
    | (dsimp only; walk1))
  refine Stop.go ?_
  rename Fr g L' _ _ => F9
  rename News g L' _ _ => N9
  have hn0 : x.cps.toList.length = x.length := by simp [Str.length]
  refine While_inv2 (n₀ := x.length - 5) (fun k m' news' => news' = news ∧ Upto [Str.ofString "dirname", Str.ofString "i", Str.ofString "c"] _ m' ∧
    ∃ (i : Nat) (acc : List Nat) (ta ti : Tok), m' (Str.ofString "dirname") = some (.str ⟨acc.toArray⟩ ta) ∧ m' (Str.ofString "i") = some (.int i ti) ∧ i ≤ x.length ∧ k = x.length - i ∧ acc.length ≤ i ∧ acc ++ pl (x.cps.toList.drop i) = pl (x.cps.toList.drop 5)) F9 N9
    ⟨rfl, Upto.refl _ _, 5, [], _, _, rfl, rfl, hxl, rfl, by decide, rfl⟩ ?turn PassesOwn.never
  case turn =>
    rintro k m₁ news₁ h tk F₁ N₁ ⟨rfl, hU, i, acc, ta, ti, hm1, hm2, hi, rfl, hal, hacc⟩
    rw [Upto.eq3 hU hm1 hm2] at F₁
    clear F9 N9
    repeat' (first
    | (k_unfold; (try dsimp only))
    | ((with_reducible show wpAny _ _ (exec (Stmt.While _ _ _ _) _) _ _ _); refine stop_of ?_)
    | walk1
    | (dsimp only; walk1))
    · obtain rfl := p_end1 hacc (by assumption) (by assumption) (by assumption)
      dsimp only
      unfold WhileStep2
      dsimp only
      repeat' (first
    | (k_unfold; (try dsimp only))
    | ((with_reducible show wpAny _ _ (exec (Stmt.While _ _ _ _) _) _ _ _); refine stop_of ?_)
    | walk1
    | (dsimp only; walk1))
      rename Fr g L' _ _ => F9
      rename News g L' _ _ => N9
      exact ⟨_, _, _, F9, N9, fun F N => hQ _ _ _ F N⟩
    · obtain rfl := p_end2 hacc (by assumption) (by assumption) (by assumption) (by assumption)
      dsimp only
      unfold WhileStep2
      dsimp only
      repeat' (first
    | (k_unfold; (try dsimp only))
    | ((with_reducible show wpAny _ _ (exec (Stmt.While _ _ _ _) _) _ _ _); refine stop_of ?_)
    | walk1
    | (dsimp only; walk1))
      rename Fr g L' _ _ => F9
      rename News g L' _ _ => N9
      exact ⟨_, _, _, F9, N9, fun F N => hQ _ _ _ F N⟩
    · obtain ⟨e1, e2⟩ := p_two hacc (by assumption) (by assumption) (by assumption) (by assumption)
      rename Fr g L' _ _ => F9
      rename News g L' _ _ => N9
      refine ⟨_, _, _, _, _, rfl, F9, N9, ?_, rfl, ?_, i + 2, acc ++ [34], _, _, (by rw [← e1]; rfl), rfl, ?_, rfl, ?_, e2⟩
      · omega
      · refine Upto.set (Upto.set (Upto.set (Upto.set (Upto.set (Upto.set (Upto.set (Upto.refl _ _) ?_) ?_) ?_) ?_) ?_) ?_) ?_ <;> k_mem
      · omega
      · simp; omega
    · obtain ⟨c, e1, e2⟩ := p_one hacc (by assumption) (by assumption)
      rename Fr g L' _ _ => F9
      rename News g L' _ _ => N9
      refine ⟨_, _, _, _, _, rfl, F9, N9, ?_, rfl, ?_, i + 1, acc ++ [c], _, _, (by rw [← e1]; rfl), rfl, ?_, rfl, ?_, e2⟩
      · omega
      · refine Upto.set (Upto.set (Upto.set (Upto.set (Upto.set (Upto.set (Upto.refl _ _) ?_) ?_) ?_) ?_) ?_) ?_ <;> k_mem
      · omega
      · simp; omega
    · obtain rfl := p_end0 hacc (by assumption)
      repeat' (first
    | (k_unfold; (try dsimp only))
    | ((with_reducible show wpAny _ _ (exec (Stmt.While _ _ _ _) _) _ _ _); refine stop_of ?_)
    | walk1
    | (dsimp only; walk1))
      rename Fr g L' _ _ => F9
      rename News g L' _ _ => N9
      exact ⟨_, _, _, F9, N9, fun F N => hQ _ _ _ F N⟩
end
end

section
-- part E1
section
variable {prog : Program} {w : World} {A : Around} {E : Value → Shared → Prop} {s : Shared} {K : Frag} {C e t0 : Addr} {oe : Obj} {vs : Array Value} {msg : Str} {tk : Tok}
theorem bexcArgs_own {M : Model} {items : List Value} {Q : Value × List Value → Shared → Prop} (ho : s.heap.get? e = some oe) (hd : oe.data = .fields vs) (h0 : vs[0]? = some (.ref t0)) (ht : s.heap.TupAt t0 items) (hq : Q (.ref t0, items) s) :
    wpAny M A (Builtin.BaseException.bexcArgs (.ref e)) Q E s := by
  obtain ⟨ot, k, hto, _, htd⟩ := ht
  unfold Builtin.BaseException.bexcArgs
  refine wpAny_bind (wpAny_field ho hd h0 (wpAny_bind (wpAny_seqItems hto htd ?_)))
  have : items.toArray.toList = items := by simp
  show wpAny M A (pure (Value.ref t0, items.toArray.toList)) Q E s
  rw [this]; exact wpAny_pure hq
theorem str_own_entry {Q : Fin → Shared → Prop} (hx : s.heap.get? e = some oe) (hd : oe.data = .fields vs) (h0 : vs[0]? = some (.ref t0)) (ht : s.heap.TupAt t0 [.str msg tk]) (hq : Q (.done (.ret (.str msg tk))) s) :
    wpAny (model prog w) A (Builtin.«BaseException.__str__» ⟨[.ref e], []⟩) Q E s := by
  unfold Builtin.«BaseException.__str__»
  repeat (first | with_reducible refine bexcArgs_own hx hd h0 ht ?_ | wp_step)
  exact hq
theorem str_own_code {R : Result → Shared → Prop} (X : K.In s.heap) (hsub : subIn K (.ref C) (.type "BaseException") = some true) (hx : s.heap.get? e = some oe) (hc : oe.cls = .ref C) (hd : oe.data = .fields vs) (h0 : vs[0]? = some (.ref t0)) (ht : s.heap.TupAt t0 [.str msg tk])
    (hq : R (.ok (.ret (.str msg tk))) s) : codeAny (model prog w) A (.call (.builtin "BaseException.__str__") ⟨[.ref e], []⟩) R s := by
  have FX := F.excStr_Exception
  refine codeAny_call_builtin FX.str.plain F.entry_bexc_str ?_
  have hk : builtinKind "BaseException.__str__" = some .slot := by decide +kernel
  have hsplit : splitId "BaseException.__str__" = some ("BaseException", "__str__") := by decide +kernel
  have ha := F.args_bexc_str (.ref e)
  obtain ⟨h, g, d, t, os⟩ := s
  simp only [checkBuiltinCall, hk, hsplit]
  refine wpAny_bind ?_
  unfold isInstance
  repeat (first | with_reducible refine str_own_entry hx hd h0 ht ?_ | (with_reducible refine wpAny_loadPart_at hx ?_; rw [hc]) | (with_reducible refine (looks_subIn X hsub).at ?_) | wp_step)
  exact hq
theorem str_own_of {Q : Value → Shared → Prop} (hu : A.units < cLine) (X : K.In s.heap) (hsub : subIn K (.ref C) (.type "BaseException") = some true) (hf : findIn K (.ref C) "__str__" = some (some (.builtin "BaseException.__str__"))) (hx : s.heap.get? e = some oe) (hc : oe.cls = .ref C) (hd : oe.data = .fields vs) (h0 : vs[0]? = some (.ref t0)) (ht : s.heap.TupAt t0 [.str msg tk])
    (hq : Q (.str msg tk) s) : wpAny (model prog w) A (Builtin.Str.strOf (.ref e)) Q E s := by
  have fb := F.excStr_Exception.str.bind (.ref e)
  obtain ⟨h, g, d, t, os⟩ := s
  unfold Builtin.Str.strOf
  repeat (first | with_reducible refine wpAny_cRoomFor hu ?_ | (with_reducible refine wpAny_loadPart_at hx ?_; rw [hc]) | (with_reducible refine (looks_findIn X hf).at ?_) | wp_step)
  refine str_own_code X hsub hx hc hd h0 ht ?_
  repeat wp_step
  exact hq
theorem str_own {Q : Value → Shared → Prop} (hu : A.units + 2 < cLine) (X : K.In s.heap) (hsub : subIn K (.ref C) (.type "BaseException") = some true) (hf : findIn K (.ref C) "__str__" = some (some (.builtin "BaseException.__str__"))) (hx : s.heap.get? e = some oe) (hc : oe.cls = .ref C) (hd : oe.data = .fields vs) (h0 : vs[0]? = some (.ref t0)) (ht : s.heap.TupAt t0 [.str msg tk])
    (h : Q (.str msg tk) s) : wpAny (model prog w) A (call (.type "str") [.ref e]) Q E s :=
  callType_new F.called_str (by decide) (F.typeCall_str_1 _) (F.newCall_str_1 _) (fun obj => F.args_object_init_2 obj _) F.entry_str_new
    (meets_str_new (S := fun A' R s' => A'.units + 1 < cLine ∧ K.In s'.heap ∧ s'.heap.get? e = some oe ∧ s'.heap.TupAt t0 [.str msg tk] ∧ R (.ok (.ret (.str msg tk))) s')
      fun _ _ A' _ _ hq => str_own_of (A := A'.in1) hq.1 hq.2.1 hsub hf hq.2.2.1 hc hd h0 hq.2.2.2.1 hq.2.2.2.2)
    ⟨(show A.units + 1 + 1 < cLine from hu), X, hx, ht, typeIs_str _ _ _, h⟩
end
end

section
-- part E2
section
variable {prog : Program} {w : World} {A : Around} {s : Shared} {h₀ : Heap} {L : Addr} {m : Str → Option Value} {news : List (Addr × Obj)} {K : Frag}
  {name qual : Str} {params : Arguments} {body : List Stmt} {scope : Scope} {dV kV doc pm cdv ct oc : Value} {an od : Option Addr} {osl : Array (Option Value)} {f : Addr} {pos : List Value} {kw : List (Str × Value)} {binds : List (Str × Value)}
  {p : Program} {loose : List Str} {mg mb : Str → Option Value} {Q E : Value → Shared → Prop}
theorem enterE (X : K.In s.heap) (T : TopRead p loose mg mb s.heap)
    (ho : K.lookup f = some ⟨oc, od, .func (fnOf name qual params body scope dV kV doc pm an cdv ct), osl⟩) (hcd : codeIn K cdv qual = true) (hroom : A.depth < recursionLimit)
    (hbind : BindsTo s (fnOf name qual params body scope dV kV doc pm an cdv ct) ⟨pos, kw⟩ binds) (hloc : ∀ y ∈ binds, scope.names.lookup y.1 = some .local)
    (h : ∀ L' h₁ tk, L' = s.heap.objs.size → Fr s.heap L' h₁ (fun y => binds.reverse.lookup y) →
      wpAny (model prog w) (A.deeper (envOf qual scope L' f cdv)) (execs body (envOf qual scope L' f cdv))
        (fun fl s' => Q (match fl with | .ret v => v | _ => .none) s')
        (fun e s' => wpAny (model prog w) (A.deeper (envOf qual scope L' f cdv)) (leaving (envOf qual scope L' f cdv) e) (fun _ s'' => E e s'') (fun e' s'' => E e' s'') s')
        { s with heap := h₁, toks := tk })
    (hco : scope.isCoroutine = false := by rfl) (hgen : scope.isGenerator = false := by rfl) (hk : scope.kind = .function := by rfl)
    (hcell : ∀ x ∈ scope.names, x.2 ≠ .cell := by decide) : wpAny (model prog w) A (call (.ref f) pos kw) Q E s := by
  refine wpAny_call (codeAny_call_def (fd := fnOf name qual params body scope dV kV doc pm an cdv ct) (body := body) (binds := binds) hroom (X _ _ ho) rfl T.nolimit (codeRec_of X hcd) rfl hbind hcell hloc (fun h₁ hns hk₁ => ?_) hco hgen hk)
  exact h s.heap.objs.size h₁ (s.toks + binds.length) rfl ⟨hns, hk₁, Nat.le_refl _⟩

/-- as Back, the caller's own frame carried in the ledger (a raise may mark it) -/
def BackH (h₀ : Heap) (L : Addr) (m : Str → Option Value) (g : Heap) (oL : Obj) (Q : Value → Shared → Prop) (v : Value) (s' : Shared) : Prop :=
  ∃ L' m' news' oL', Fr g L' s'.heap m' ∧ News g L' s'.heap ((L, oL') :: news') ∧ oL'.data = oL.data ∧ (∀ p ∈ news', p.1 ≠ L) ∧ (Fr h₀ L s'.heap m → News h₀ L s'.heap news' → Q v s')

theorem BackH.intro {g : Heap} {L' : Addr} {oL oL' : Obj} {m' : Str → Option Value} {nw : List (Addr × Obj)} {v : Value} (F : Fr g L' s.heap m') (N : News g L' s.heap ((L, oL') :: nw)) (hd : oL'.data = oL.data) (hn : ∀ p ∈ nw, p.1 ≠ L) (k : Fr h₀ L s.heap m → News h₀ L s.heap nw → Q v s) : BackH h₀ L m g oL Q v s := ⟨L', m', nw, oL', F, N, hd, hn, k⟩
theorem enterH (F : Fr h₀ L s.heap m) (N : News h₀ L s.heap news) (X : K.In h₀) (T : TopRead p loose mg mb h₀)
    (ho : K.lookup f = some ⟨oc, od, .func (fnOf name qual params body scope dV kV doc pm an cdv ct), osl⟩) (hcd : codeIn K cdv qual = true) (hroom : A.depth < recursionLimit)
    (hbind : BindsTo s (fnOf name qual params body scope dV kV doc pm an cdv ct) ⟨pos, kw⟩ binds) (hloc : ∀ y ∈ binds, scope.names.lookup y.1 = some .local)
    (h : ∀ g L' h₁ tk oL, (∀ p ∈ (L, oL) :: news, p.1 < L') → (∀ p ∈ news, p.1 ≠ L) → (∀ ws, oL.data ≠ .fields ws) → Fr g L' h₁ (fun y => binds.reverse.lookup y) → News g L' h₁ ((L, oL) :: news) → K.In g → TopRead p loose mg mb g →
      wpAny (model prog w) (A.deeper (envOf qual scope L' f cdv)) (execs body (envOf qual scope L' f cdv))
        (fun fl s' => BackH h₀ L m g oL Q (match fl with | .ret v => v | _ => .none) s') (fun _ _ => False)
        { s with heap := h₁, toks := tk })
    (hco : scope.isCoroutine = false := by rfl) (hgen : scope.isGenerator = false := by rfl) (hk : scope.kind = .function := by rfl)
    (hcell : ∀ x ∈ scope.names, x.2 ≠ .cell := by decide) : wpAny (model prog w) A (call (.ref f) pos kw) Q E s := by
  obtain ⟨oL, es, ep, hL, hLd, hLk, hLf⟩ := F.ns
  have h0L : h₀.get? L = none := by
    cases q : h₀.get? L with
    | none => rfl
    | some o => exact absurd (Nat.lt_of_lt_of_le (Heap.lt_size q) F.above) (Nat.lt_irrefl _)
  have nm : ∀ b o, h₀.get? b = some o → b ∉ L :: news.map (·.1) := fun b o e q => by
    rcases List.mem_cons.mp q with rfl | q
    · rw [h0L] at e; cases e
    · obtain ⟨p, hp, rfl⟩ := List.mem_map.mp q
      rw [(N p hp).2.2] at e; cases e
  have st : h₀.StaysIn (hideAll s.heap (L :: news.map (·.1))) := fun b o e => hideAll_get _ (F.keep b o e) (nm b o e)
  refine wpAny_call (codeAny_call_def (fd := fnOf name qual params body scope dV kV doc pm an cdv ct) (body := body) (binds := binds) hroom ((X.keeps F.keep) _ _ ho) rfl (T.nolimit.keeps F.keep) (codeRec_of (X.keeps F.keep) hcd) rfl hbind hcell hloc (fun h₁ hns hk₁ => ?_) hco hgen hk)
  refine wpAny_mono (h (hideAll s.heap (L :: news.map (·.1))) s.heap.objs.size h₁ (s.toks + binds.length) oL (fun p hp => ?_) (fun p hp => (N p hp).2.1) (fun ws q => by rw [hLd] at q; cases q) ⟨hns, fun b o e => hk₁ b o (of_hideAll _ e), Nat.le_of_eq (hideAll_size _ _)⟩
    (fun p hp => ?_) (X.keeps st) (T.keeps st)) (fun fl s' hl => ?_) fun _ _ y => y.elim
  · rcases List.mem_cons.mp hp with rfl | hp
    · exact Heap.lt_size hL
    · exact Heap.lt_size (N p hp).1
  · rcases List.mem_cons.mp hp with rfl | hp
    · exact ⟨hk₁ _ _ hL, Nat.ne_of_lt (Heap.lt_size hL), hideAll_none _ (List.Mem.head _)⟩
    · exact ⟨hk₁ _ _ (N p hp).1, Nat.ne_of_lt (Heap.lt_size (N p hp).1), hideAll_none _ (List.mem_cons_of_mem _ (List.mem_map_of_mem hp))⟩
  · obtain ⟨L', m', news', oL', F', N', hd', hne, k⟩ := hl
    refine k ⟨⟨oL', es, ep, (N' _ (List.Mem.head _)).1, hd'.trans hLd, hLk, hLf⟩, fun b o e => F'.keep b o (st b o e), F.above⟩ fun p hp => ⟨(N' p (List.mem_cons_of_mem _ hp)).1, hne p hp, ?_⟩
    cases q : h₀.get? p.1 with
    | none => rfl
    | some o => have := (N' p (List.mem_cons_of_mem _ hp)).2.2; rw [st _ _ q] at this; cases this
end

section
variable {w : World} {A : Around} {s : Shared} {p : Program} {loose : List Str} {mg mb : Str → Option Value} {Q E : Value → Shared → Prop}
theorem c_parse_raise {base : Heap} {outer : List Env} {x : Str} {t : Tok} (hh : A.handled = none) (hfr : A.frames = some outer) (hd : A.depth + 10 < recursionLimit) (hx : x.length ≤ 5000)
    (hb : base.StaysIn s.heap) (hff : s.heap.FunFrames base outer) (X : (Mine.hd.heap_39 w.params).In s.heap) (T : TopRead p loose mg mb s.heap)
    (hx3 : (Txt.slice x none (some 3) != Str.ofString "257") = true)
    (hE : ∀ e a h' tk', Heap.FlyingW base outer e (.ref 159) (.ref a) h' → h'.TupAt a [.str x t] → base.get? a = none → s.heap.UpToSlots h' → E (.ref e) { s with heap := h', toks := tk' }) :
    wpAny (model PySem.Challenge.rw_pd0100_01.row.prog w) A (call (.ref 168) [.str x t]) Q E s := by
  obtain ⟨ha, dp, fr, gd, un⟩ := A
  obtain rfl : ha = none := hh
  replace hd : dp + 10 < recursionLimit := hd
  obtain rfl : fr = some outer := hfr
  refine' enterE (binds := [(Str.ofString "resp", .str x t)]) X T ?k1 ?k2 ?k3 (BindsTo.of_eq ?k4) (locs ?k5) ?_ ?c1 ?c2 ?c3 ?c4
  (case k3 => exact Nat.lt_of_le_of_lt (Nat.le_add_right dp 10) hd)
  (case k1 => k_is); (case k2 => k_is); (try (case k3 => omega)); (case k4 => exact rfl); (case k5 => exact rfl); (case c1 => exact rfl); (case c2 => exact rfl); (case c3 => exact rfl); (case c4 => decide)
  intro L' h₁ tk hL F'
  have N' : News s.heap L' h₁ [] := News.nil
  show wpAny _ _ _ _ _ _
  k_fold
  repeat' (first
    | (k_unfold; (try dsimp only))
    | walk1
    | (dsimp only; walk1))
  rename Heap.MadeExcOf _ _ _ _ _ => hx9
  rename Fr s.heap L' _ _ => F9
  obtain ⟨oL, es, ep, hL1, hL2, _, _⟩ := F9.ns
  refine wpAny_leaves_madeW (base := base) (outer := outer) rfl rfl (fun b o q => F9.keep b o (hb b o q)) ⟨(show ScopeKind.function ≠ ScopeKind.module by decide), ⟨L', oL, rfl, hL ▸ hb.fresh, hL1, fun vs q => by rw [hL2] at q; cases q⟩, hff.of_keeps fun b o ho _ => ⟨o, F9.keep b o ho, rfl⟩⟩ hx9 fun h' a x1 x2 x3 x4 => ?_
  exact hE _ a h' _ x1 x2 x3 (((Heap.UpToSlots.of_keeps F9.keep).trans (Heap.UpToSlots.of_keeps hx9.keeps)).trans x4)
end

section
variable {w : World} {prog : Program} {A : Around} {E : Value → Shared → Prop} {s : Shared} {g B : Heap} {outer : List Env} {L a e t C : Addr} {m : Str → Option Value} {name : Str} {scope : Scope} {cd : Value}
  {vs : List Value} {n : Str} {b₀ : Stmt} {suite : List Stmt} {pos np : Pos} {rest : List ExceptHandler} {Q : Flow → Shared → Prop} {K : Frag}
  {p : Program} {loose : List Str} {mg mb : Str → Option Value} {x : Str}
theorem caught (hfr : A.frames = some (envOf name scope L a cd :: outer)) (hfl : Heap.FlyingW B (envOf name scope L a cd :: outer) e (.ref C) (.ref t) s.heap) (htup : s.heap.TupAt t vs) (F : Fr g L s.heap m) (gB : g.StaysIn B) (hL : B.get? L = none)
    (X : K.In g) (T : TopRead p loose mg mb g) (ex : nsIn K mainGlobals x = some (some (.ref C))) (q : ktsIn K C "BaseException" = true)
    (k : ∀ h' tk oe ws, B.StaysIn h' → (∀ b o, s.heap.get? b = some o → (∀ vs, o.data ≠ .fields vs) → b ≠ L → ∃ sl, h'.get? b = some { o with slots := sl }) → Fr g L h' (fun y => if y = n then some (.ref e) else m y) →
      h'.get? e = some oe → oe.cls = .ref C → oe.data = .fields ws → ws[0]? = some (.ref t) → h'.TupAt t vs → B.get? e = none →
      wpAny (model prog w) (A.mark (some (.ref e))) (execs (b₀ :: suite) (envOf name scope L a cd))
        (fun f s₄ => wpAny (model prog w) A (do bindName (envOf name scope L a cd) n .none; unbindBehindTheSuite (envOf name scope L a cd) n pos) (fun _ s₅ => Q f s₅) E s₄)
        (fun _ _ => False) { s with heap := h', toks := tk })
    (hk : scope.kind = .function := by rfl) (hlo : (envOf name scope L a cd).kindOf n = some .local := by rfl) (hx : (envOf name scope L a cd).kindOf x = some .globalImplicit := by rfl) (hd : (x == ("__debug__" : Str)) = false := by decide) :
    wpAny (model prog w) A (noteFrame (.ref e) (envOf name scope L a cd))
      (fun _ s₂ => wpAny (model prog w) A (setFlight (.ref e) none) (fun _ s₃ =>
        wpAny (model prog w) A (handleBy (.ref e) (envOf name scope L a cd) (.ExceptHandler (some (.Name x np)) (some n) (b₀ :: suite) pos :: rest)) Q E s₃) E s₂) E s := by
  refine wpAny_looks_onW hfr rfl hfl fun h₄ hheld₄ hsm₄ => ?_
  refine wpAny_landsW hheld₄ fun h₅ hheld hsm₅' => ?_
  have hsm₅ := hsm₄.trans hsm₅'
  have F₅ : Fr g L h₅ m := F.of_stays (fun b o q => hheld.1 b o (gB b o q)) hsm₅
  obtain ⟨ob, hob, hobc⟩ := hheld.there
  obtain ⟨nm, q', N, bs, bm, hdct, sn, sub, ab, col, dd, k0, k1, k2, k3, k5, newId, hC, hbase, hbT⟩ := kts_cls X q
  have hC₅ := F₅.keep _ _ hC
  refine wpAny_handleBy_cons (codeAny_handlers_test (name_K F₅ X T ex ?_ hk hx hd)) (by intro q; cases q)
  refine wpAny_excMatches_sub_self hC₅ hob hobc hbase (codeAny_handlers_suite_as ?_)
  refine lands_againW hheld fun h₆ hfl₆ hsm₆ => ?_
  have F₆ : Fr g L h₆ m := F.of_stays (fun b o q => hfl₆.1 b o (gB b o q)) (hsm₅.trans hsm₆)
  obtain ⟨oe, ws, hoe, hoec, hoed, hoe0⟩ := hfl₆.first
  have ht₆ := (htup.of_slots hsm₅).of_slots hsm₆
  have heL : e ≠ L := fun q => by
    obtain ⟨oL, es, ep, hL1, hL2, _, _⟩ := F₆.ns
    rw [q, hL1] at hoe; cases hoe; rw [hL2] at hoed; cases hoed
  have htL : t ≠ L := fun q => by
    obtain ⟨oL, es, ep, hL1, hL2, _, _⟩ := F₆.ns
    obtain ⟨o, n, ho, _, hod⟩ := ht₆
    rw [q, hL1] at ho; cases ho; rw [hL2] at hod; cases hod
  refine wpAny_storeName_local hlo F₆.ns (fun h₇ hn hs => ?_) (by show (scope.kind == .class || (scope.kind == .module && L != mainGlobals)) = false; rw [hk]; rfl)
  refine wpAny_mono (k h₇ _ oe ws (fun b o q => (hs.2 b fun z => by have z' : b = L := z; rw [z', hL] at q; cases q).trans (hfl₆.1 b o q)) (fun b o ho hno hbL => ?_) (F₆.set hn hs) ((hs.2 e heL).trans hoe) hoec hoed hoe0 ?_ hfl₆.2.1) (fun _ _ z => z) fun _ _ z => z.elim
  · obtain ⟨sl, hsl⟩ := (hsm₅.trans hsm₆) b o ho hno
    exact ⟨sl, (hs.2 b hbL).trans hsl⟩
  · obtain ⟨o, n, ho, hoc, hod⟩ := ht₆
    exact ⟨o, n, (hs.2 t htL).trans ho, hoc, hod⟩
end
end

section
-- part E3
section
variable {w : World} {A : Around} {E : Value → Shared → Prop} {s : Shared} {g : Heap} {L a Lc : Addr} {m : Str → Option Value} {name : Str} {scope : Scope} {cd : Value} {envc : Env} {oc : Obj} {news : List (Addr × Obj)}
  {n : Str} {b₀ : Stmt} {suite : List Stmt} {pos np : Pos} {rest : List ExceptHandler} {Q : Flow → Shared → Prop} {Qc : Value → Shared → Prop}
  {p : Program} {loose : List Str} {mg mb : Str → Option Value} {x : Str} {t : Tok}
theorem fr_none {h : Heap} (F : Fr g L h m) : g.get? L = none := by
  cases q : g.get? L with
  | none => rfl
  | some o => exact absurd (Nat.lt_of_lt_of_le (Heap.lt_size q) F.above) (Nat.lt_irrefl _)
theorem try_raise (hh : A.handled = none) (hfr : A.frames = some [envOf name scope L a cd, envc]) (hcf : envc.frame = some Lc) (hck : envc.scope.kind ≠ .module) (hd : A.depth + 10 < recursionLimit)
    (F : Fr g L s.heap m) (N : News g L s.heap ((Lc, oc) :: news)) (hne : ∀ p ∈ news, p.1 ≠ Lc) (hocd : ∀ ws, oc.data ≠ .fields ws) (X : (Mine.hd.heap_39 w.params).In g) (T : TopRead p loose mg mb g)
    (hx : x.length ≤ 5000) (hx3 : (Txt.slice x none (some 3) != Str.ofString "257") = true)
    (k : ∀ e u h' tk' oc' oe ot ws nt, Fr g L h' (fun y => if y = n then some (.ref e) else m y) → News g L h' ((e, oe) :: (u, ot) :: (Lc, oc') :: news) → oc'.data = oc.data → oe.cls = .ref 159 → oe.data = .fields ws → ws[0]? = some (.ref u) → ot.cls = .type "tuple" → ot.data = .seq [Value.str x t].toArray nt →
      wpAny (model PySem.Challenge.rw_pd0100_01.row.prog w) (A.mark (some (.ref e))) (execs (b₀ :: suite) (envOf name scope L a cd))
        (fun f s₄ => wpAny (model PySem.Challenge.rw_pd0100_01.row.prog w) A (do bindName (envOf name scope L a cd) n .none; unbindBehindTheSuite (envOf name scope L a cd) n pos) (fun _ s₅ => Q f s₅) E s₄)
        (fun _ _ => False) { s with heap := h', toks := tk' })
    (hk : scope.kind = .function := by rfl) (hlo : (envOf name scope L a cd).kindOf n = some .local := by rfl) (hxk : (envOf name scope L a cd).kindOf (Str.ofString "error_reply") = some .globalImplicit := by rfl) :
    wpAny (model PySem.Challenge.rw_pd0100_01.row.prog w) A (call (.ref 168) [.str x t]) Qc
      (fun e s₁ => wpAny (model PySem.Challenge.rw_pd0100_01.row.prog w) A (noteFrame e (envOf name scope L a cd)) (fun _ s₂ => wpAny (model PySem.Challenge.rw_pd0100_01.row.prog w) A (setFlight e none) (fun _ s₃ =>
        wpAny (model PySem.Challenge.rw_pd0100_01.row.prog w) A (handleBy e (envOf name scope L a cd) (.ExceptHandler (some (.Name (Str.ofString "error_reply") np)) (some n) (b₀ :: suite) pos :: rest)) Q E s₃) E s₂) E s₁) s := by
  obtain ⟨oL, es, ep, hL1, hL2, hLr⟩ := F.ns
  have hgL := fr_none F
  have hN0 := N _ (List.Mem.head _)
  have gB : g.StaysIn (hideAll s.heap [L, Lc]) := fun b o q => hideAll_get _ (F.keep b o q) fun hm => by
    rcases List.mem_cons.mp hm with z | hm
    · rw [z, hgL] at q; cases q
    · rw [List.mem_singleton.mp hm, hN0.2.2] at q; cases q
  have hBL : (hideAll s.heap [L, Lc]).get? L = none := hideAll_none _ (List.Mem.head _)
  have hBc : (hideAll s.heap [L, Lc]).get? Lc = none := hideAll_none _ (List.Mem.tail _ (List.Mem.head _))
  have nB : ∀ b, (hideAll s.heap [L, Lc]).get? b = none → g.get? b = none := fun b hb => by
    cases q : g.get? b with
    | none => rfl
    | some o => rw [gB b o q] at hb; cases hb
  refine c_parse_raise (base := hideAll s.heap [L, Lc]) (outer := [envOf name scope L a cd, envc]) hh hfr hd hx (fun b o q => of_hideAll _ q)
    ⟨(show scope.kind ≠ .module by rw [hk]; decide), ⟨L, oL, rfl, hBL, hL1, fun vs q => by rw [hL2] at q; cases q⟩, hck, ⟨Lc, oc, hcf, hBc, hN0.1, hocd⟩, trivial⟩ (X.keeps F.keep) (T.keeps F.keep) hx3 ?_
  intro e u h' tk' hfl htup hu hup
  have F' : Fr g L h' m := F.of_stays (fun b o q => hfl.1 b o (gB b o q)) hup
  refine caught (s := { s with heap := h', toks := tk' }) hfr hfl htup F' gB hBL X T (by k_is) (by kernel_rfl) ?_ hk hlo hxk (by decide)
  intro h'' tk'' oe ws hst hsl F₂ hoe hoec hoed hoe0 htup₂ heB
  obtain ⟨ot, nt, hot, hotc, hotd⟩ := htup₂
  obtain ⟨sl, hc1⟩ := hup Lc oc hN0.1 hocd
  obtain ⟨sl', hc2⟩ := hsl Lc _ hc1 hocd (fun z => hN0.2.1 z)
  refine k e u h'' tk'' { oc with slots := sl' } oe ot ws nt F₂ ?_ rfl hoec hoed hoe0 hotc hotd
  have dictL : ∀ b o, h''.get? b = some o → (∀ es n, o.data ≠ .dict es n) → b ≠ L := fun b o hb ho z => by
    obtain ⟨oL', es', ep', hL1', hL2', _⟩ := F₂.ns
    rw [z, hL1'] at hb; cases hb; exact ho _ _ hL2'
  intro q hq
  rcases List.mem_cons.mp hq with rfl | hq
  · exact ⟨hoe, dictL _ _ hoe (fun _ _ z => by rw [hoed] at z; cases z), nB _ heB⟩
  · rcases List.mem_cons.mp hq with rfl | hq
    · exact ⟨hot, dictL _ _ hot (fun _ _ z => by rw [hotd] at z; cases z), nB _ hu⟩
    · rcases List.mem_cons.mp hq with rfl | hq
      · exact ⟨hc2, hN0.2.1, hN0.2.2⟩
      · have hq' := N q (List.mem_cons_of_mem _ hq)
        refine ⟨hst _ _ (hideAll_get _ hq'.1 fun hm => ?_), hq'.2⟩
        rcases List.mem_cons.mp hm with z | hm
        · exact hq'.2.1 z
        · exact hne q hq (List.mem_singleton.mp hm)
end
end

section
-- part F6
def answerF (code : Str) (names : List Str) (words : Str) : Str :=
  code ++ Str.ofString " \"/" ++ Txt.replace (Txt.join (Str.ofString "/") names) (Str.ofString "\"") (Str.ofString "\"\"") ++ Str.ofString "\"" ++ words
section
variable {prog : Program} {w : World} {A : Around} {E : Value → Shared → Prop} {s : Shared} {h₀ : Heap} {L D : Addr} {news : List (Addr × Obj)} {n : Nat} {vs : List Value} {x : Str} {t : Tok} {Q : Value → Shared → Prop}
theorem r_joinT {ys : List Str} (N : News h₀ L s.heap news) (hm : (D, listOf vs.toArray n) ∈ news) (hi : StrsAre vs ys) (hs : (ys.map (·.length)).sum + ys.length * x.length ≤ 16777216)
    (h : ∀ t' k, (Txt.join x ys).length ≤ (ys.map (·.length)).sum + ys.length * x.length → s.toks ≤ k → Q (.str (Txt.join x ys) t') { s with toks := k }) : wpAny (model prog w) A (call (.builtin "str.join") [.str x t, .ref D]) Q E s :=
  wpAny_with_toks (Nat.le_refl s.toks) (r_join N hm hi hs fun t' k hl hk => h t' k hl hk)
end
theorem rep_eq (x z : Str) (c : Nat) : Txt.replace x ⟨#[c]⟩ z = Txt.join z (Txt.split x ⟨#[c]⟩) := by
  rw [StrLaws.replace_one]
  show _ = Builtin.Str.glued _ _
  rw [StrLaws.glued_eq_join]
theorem rep_len (x z : Str) (c : Nat) (hz : z.length = 2) : (Txt.replace x ⟨#[c]⟩ z).length ≤ 2 * x.length := by
  have h1 := glued_len ⟨#[c]⟩ (Txt.split x ⟨#[c]⟩)
  have h2 := glued_len z (Txt.split x ⟨#[c]⟩)
  have e : (⟨#[c]⟩ : Str).length = 1 := rfl
  rw [join_split', e] at h1
  rw [← rep_eq, hz] at h2
  omega
section
variable {w : World} {A : Around} {s : Shared} {h₀ : Heap} {L : Addr} {m : Str → Option Value} {news : List (Addr × Obj)} {p : Program} {loose : List Str} {mg mb : Str → Option Value} {Q E : Value → Shared → Prop}
theorem c_answer {code words : Str} {t u : Tok} {D : Addr} {vs : List Value} {n : Nat} {ys : List Str}
    (F : Fr h₀ L s.heap m) (N : News h₀ L s.heap news) (X : (Mine.hd.heap_39 w.params).In h₀) (T : TopRead p loose mg mb h₀) (hh : A.handled = none) (hd : A.depth + 10 < recursionLimit) (hm : (D, listOf vs.toArray n) ∈ news) (hi : StrsAre vs ys) (hs : (ys.map (·.length)).sum + ys.length ≤ 1000) (hc : code.length ≤ 10) (hwd : words.length ≤ 20)
    (hQ : ∀ t' h' tk', Fr h₀ L h' m → News h₀ L h' news → Q (.str (answerF code ys words) t') { s with heap := h', toks := tk' }) :
    wpAny (model PySem.Challenge.rw_pd0100_01.row.prog w) A (call (.ref 180) [.str code t, .ref D, .str words u]) Q E s := by
  obtain ⟨ha, dp, fr, gd, un⟩ := A
  obtain rfl : ha = none := hh
  replace hd : dp + 10 < recursionLimit := hd
  refine' enter (binds := [(Str.ofString "code", .str code t), (Str.ofString "names", .ref D), (Str.ofString "words", .str words u)]) F N X T ?k1 ?k2 ?k3 (BindsTo.of_eq ?k4) (locs ?k5) ?_ ?c1 ?c2 ?c3 ?c4
  (case k3 => exact Nat.lt_of_le_of_lt (Nat.le_add_right dp 10) hd)
  (case k1 => k_is); (case k2 => k_is); (try (case k3 => omega)); (case k4 => exact rfl); (case k5 => exact rfl); (case c1 => exact rfl); (case c2 => exact rfl); (case c3 => exact rfl); (case c4 => decide)
  intro g L' h₁ tk hlt F' N' X' T'
  clear F N X T
  have hjl : (Txt.join (Str.ofString "/") ys).length ≤ 1000 := by
    have e := glued_len (Str.ofString "/") ys
    have e1 := slash_len
    rw [e1] at e
    omega
  have hrl : (Txt.replace (Txt.join (Str.ofString "/") ys) (Str.ofString "\"") (Str.ofString "\"\"")).length ≤ 2 * (Txt.join (Str.ofString "/") ys).length := by
    rw [quote_is]; exact rep_len _ _ _ (by decide)
  show wpAny _ _ _ _ _ _
  k_fold
  repeat' (first
    | (k_unfold; (try dsimp only))
    | ((with_reducible show wpAny _ _ (PySem.call (Value.builtin "str.join") _ _) _ _ _); (refine' r_joinT ?k0 ?k1 ?k2 ?k3 ?_; (case k0 => k_asm); (case k1 => (first | with_reducible assumption | assumption)); (case k2 => (first | with_reducible assumption | assumption)); (case k3 => (have e1 := slash_len; rw [e1]; omega))); intro t' k' hj' hk'; (dsimp only at hk'); (try k_sweep))
    | ((with_reducible show wpAny _ _ (PySem.call (Value.builtin "str.replace") _ _) _ _ _); (refine' SC.replaceW ?k0 ?k1 ?k2 ?k3 ?k4 ?k5 ?_; (case k0 => (show @Ne Nat _ _; omega)); (case k1 => (show @Ne Nat _ _; omega)); (case k2 => (show @Ne Nat _ _; omega)); (case k3 => (exact of_decide_eq_true rfl)); (case k4 => omega); (case k5 => (exact Nat.le_of_ble_eq_true rfl))); intro t' k'; (try k_sweep))
    | walk1
    | (dsimp only; walk1))
  rename Fr g L' _ _ => F9
  rename News g L' _ _ => N9
  exact ⟨_, _, _, F9, N9, fun F N => hQ _ _ _ F N⟩
end
end

section
-- part Comp
open PyProof.Rows.LCt PyProof.Rows.LCg
section
variable {prog : Program} {w : World} {A : Around} {s : Shared} {h₀ : Heap} {L : Addr} {m : Str → Option Value} {env : Env} {ct elt : Expr} {x : Str} {scope : Scope} {cl : List (Str × Addr)} {S : List (Addr × Obj) → Prop} {P : Nat → Value → Prop} {Fin : List Value → List (Addr × Obj) → Prop} {n : Nat} {news : List (Addr × Obj)}
theorem comp_invT (J : Nat → List Value → List (Addr × Obj) → Prop) (hj : J 0 [] news)
    (turn : ∀ i ys nw v I oI C oC D m₂ h tk (E' : Value → Shared → Prop), i < n → P i v → J i ys nw → NsObj oC m₂ → m₂ x = some v → Fr h₀ L h m → News h₀ L h ((I, oI) :: (C, oC) :: (D, lst ys) :: nw) → Off3 I C D nw → ((@Ne Nat I C) ∧ (@Ne Nat I D) ∧ (@Ne Nat C D)) →
      wpAny (model prog w) A (isTrue ct (compEnvC scope cl C env) (eval ct (compEnvC scope cl C env))) (fun ok s' => if ok = true then
        wpAny (model prog w) A (eval elt (compEnvC scope cl C env)) (CompEnd h₀ L m { s with heap := h, toks := tk } I oI C oC D (lst ys) S (fun y news' => J (i + 1) (ys ++ [y]) news')) E' s'
        else CompEnd h₀ L m { s with heap := h, toks := tk } I oI C oC D (lst ys) S (fun _ news' => J (i + 1) ys news') Value.none s') E' { s with heap := h, toks := tk })
    (fin : ∀ ys nw, J n ys nw → Fin ys nw) : CompRestT prog w A h₀ L m env ct elt x scope cl s S P Fin n 0 [] news := by
  have key : ∀ j i ys nw, i + j = n → J i ys nw → CompRestT prog w A h₀ L m env ct elt x scope cl s S P Fin j i ys nw := by
    intro j
    induction j with
    | zero => intro i ys nw hi hJ; obtain rfl : i = n := by omega
              exact fin _ _ hJ
    | succ j ih =>
      intro i ys nw hi hJ
      refine CompRestT.succ fun v I oI C oC D m₂ h tk E' hv hC hx F N off ne => ?_
      refine wpAny_mono (turn i ys nw v I oI C oC D m₂ h tk E' (by omega) hv hJ hC hx F N off ne) (fun ok s' hq => ?_) fun _ _ e => e
      cases ok with
      | true =>
        simp only [if_true] at hq ⊢
        refine wpAny_mono hq (fun y s₅ h₅ => ?_) fun _ _ e => e
        obtain ⟨h₄, tk₄, news₄, e, F₄, N₄, off₄, hS₄, R₄⟩ := h₅
        exact ⟨h₄, tk₄, news₄, e, F₄, N₄, off₄, hS₄, ih _ _ _ (by omega) R₄⟩
      | false =>
        simp only [Bool.false_eq_true, if_false] at hq ⊢
        obtain ⟨h₄, tk₄, news₄, e, F₄, N₄, off₄, hS₄, R₄⟩ := hq
        exact ⟨h₄, tk₄, news₄, e, F₄, N₄, off₄, hS₄, ih _ _ _ (by omega) R₄⟩
  exact key n 0 [] news (by omega) hj
theorem comp_invU (J : Nat → List Value → List (Addr × Obj) → Prop) (hj : J 0 [] news)
    (turn : ∀ i ys nw v I oI C oC D m₂ h tk (E' : Value → Shared → Prop), i < n → P i v → J i ys nw → NsObj oC m₂ → m₂ x = some v → Fr h₀ L h m → News h₀ L h ((I, oI) :: (C, oC) :: (D, lst ys) :: nw) → Off3 I C D nw → ((@Ne Nat I C) ∧ (@Ne Nat I D) ∧ (@Ne Nat C D)) →
        wpAny (model prog w) A (eval elt (compEnvC scope cl C env)) (CompEnd h₀ L m { s with heap := h, toks := tk } I oI C oC D (lst ys) S (fun y news' => J (i + 1) (ys ++ [y]) news')) E' { s with heap := h, toks := tk })
    (fin : ∀ ys nw, J n ys nw → Fin ys nw) : CompRest prog w A h₀ L m env elt x scope cl s S P Fin n 0 [] news := by
  have key : ∀ j i ys nw, i + j = n → J i ys nw → CompRest prog w A h₀ L m env elt x scope cl s S P Fin j i ys nw := by
    intro j
    induction j with
    | zero => intro i ys nw hi hJ; obtain rfl : i = n := by omega
              exact fin _ _ hJ
    | succ j ih =>
      intro i ys nw hi hJ
      refine CompRest.succ fun v I oI C oC D m₂ h tk E' hv hC hx F N off ne => ?_
      refine wpAny_mono (turn i ys nw v I oI C oC D m₂ h tk E' (by omega) hv hJ hC hx F N off ne) (fun y s₅ h₅ => ?_) fun _ _ e => e
      obtain ⟨h₄, tk₄, news₄, e, F₄, N₄, off₄, hS₄, R₄⟩ := h₅
      exact ⟨h₄, tk₄, news₄, e, F₄, N₄, off₄, hS₄, ih _ _ _ (by omega) R₄⟩
  exact key n 0 [] news (by omega) hj
end
theorem off1_mem {D : Addr} : ∀ {l : List (Addr × Obj)}, Off1 D l → ∀ p ∈ l, p.1 ≠ D
  | [], _, _, h => nomatch h
  | _ :: _, x, p, h => by
    rcases List.mem_cons.mp h with rfl | h
    · exact x.1
    · exact off1_mem x.2 p h
def strsD (ys : List Str) : Dat := .list (ys.map .str)
theorem StrsAre.dat {nw : List (Addr × Obj)} {vs : List Value} {ys : List Str} (h : StrsAre vs ys) : DatAll nw vs (ys.map .str) := by
  induction h with
  | nil => exact .nil
  | cons y t r ih => exact .cons (.str y t) ih
theorem strsD_inj {a b : List Str} : strsD a = strsD b ↔ a = b := by
  unfold strsD
  rw [Dat.list.injEq]
  constructor
  · intro h
    exact (List.map_inj_right (fun x y e => by cases e; rfl)).mp h
  · rintro rfl; rfl
theorem strsD_mem {a : List Str} {bs : List (List Str)} : strsD a ∈ bs.map strsD ↔ a ∈ bs := by
  rw [List.mem_map]
  constructor
  · rintro ⟨b, hb, e⟩; exact strsD_inj.mp e ▸ hb
  · intro h; exact ⟨a, h, rfl⟩
/-- texts of signs that there are -/
def OkS (x : Str) : Prop := PyData.strOk x = true
def OkL (ys : List Str) : Prop := ∀ y ∈ ys, OkS y
theorem OkL.kqd {ys : List Str} (h : OkL ys) (n : Nat) : kqdOk (n + 1) (strsD ys) = true := by
  unfold strsD
  rw [kqdOk, List.all_eq_true]
  intro d hd
  obtain ⟨y, hy, rfl⟩ := List.mem_map.mp hd
  rw [kqdOk]
  exact h y hy
  all_goals (intros; first | rfl | contradiction)
theorem okS_iff {x : Str} : OkS x ↔ ∀ c ∈ x.cps.toList, c < 0x110000 := by
  unfold OkS PyData.strOk
  rw [Array.all_eq_true']
  simp
section
variable {prog : Program} {w : World} {A : Around} {E : Value → Shared → Prop} {s : Shared} {h₀ : Heap} {L D B : Addr} {news n₁ : List (Addr × Obj)} {n k : Nat} {ts vs us : List Value} {there : List (List Str)} {ys zs : List Str} {Q : Value → Shared → Prop}
theorem kqd_map (h : ∀ a ∈ there, OkL a) : ∀ d ∈ there.map strsD, kqdOk 8 d = true := by
  intro d hd
  obtain ⟨a, ha, rfl⟩ := List.mem_map.mp hd
  exact OkL.kqd (h a ha) 7
theorem kqd_strs (h : OkL ys) : ∀ d ∈ ys.map Dat.str, kqdOk 8 d = true := by
  intro d hd
  obtain ⟨a, ha, rfl⟩ := List.mem_map.mp hd
  have := h a ha
  unfold OkS at this
  simpa [kqdOk] using this
theorem r_in (N : News h₀ L s.heap news) (mT : (D, listOf ts.toArray n) ∈ news) (mX : (B, listOf vs.toArray k) ∈ news) (Da : DatAll n₁ ts (there.map strsD)) (sa : ∀ p ∈ n₁, p ∈ news) (hi : StrsAre vs ys)
    (ho : ∀ a ∈ there, OkL a) (hy : OkL ys) (hu : A.units + 64 < cLine) (h : ∀ b : Bool, (b = true ↔ ys ∈ there) → Q (.bool b) s) : wpAny (model prog w) A (compareOp .In (.ref B) (.ref D)) Q E s :=
  kqd_isIn (d := strsD ys) N mT rfl rfl Da sa (.list mX (StrsAre.dat hi)) (fun _ h => h) (kqd_map ho) (OkL.kqd hy 7) hu (h _ (by simp only [decide_eq_true_eq]; exact strsD_mem))
theorem r_notin (N : News h₀ L s.heap news) (mT : (D, listOf ts.toArray n) ∈ news) (mX : (B, listOf vs.toArray k) ∈ news) (Da : DatAll n₁ ts (there.map strsD)) (sa : ∀ p ∈ n₁, p ∈ news) (hi : StrsAre vs ys)
    (ho : ∀ a ∈ there, OkL a) (hy : OkL ys) (hu : A.units + 64 < cLine) (h : ∀ b : Bool, (b = true ↔ ys ∉ there) → Q (.bool b) s) : wpAny (model prog w) A (compareOp .NotIn (.ref B) (.ref D)) Q E s :=
  kqd_notIn (d := strsD ys) N mT rfl rfl Da sa (.list mX (StrsAre.dat hi)) (fun _ h => h) (kqd_map ho) (OkL.kqd hy 7) hu (h _ (by
    rw [Bool.not_eq_true', decide_eq_false_iff_not]; exact not_congr strsD_mem))
theorem r_nes (N : News h₀ L s.heap news) (mA : (D, listOf us.toArray n) ∈ news) (mB : (B, listOf vs.toArray k) ∈ news) (ha : StrsAre us ys) (hb : StrsAre vs zs)
    (oa : OkL ys) (ob : OkL zs) (hu : A.units + 64 < cLine) (h : ∀ b : Bool, (b = true ↔ ys ≠ zs) → Q (.bool b) s) : wpAny (model prog w) A (compareOp .NotEq (.ref D) (.ref B)) Q E s :=
  kqd_ne N mA rfl rfl (StrsAre.dat (nw := []) ha) (fun _ h => nomatch h) mB rfl rfl (StrsAre.dat (nw := []) hb) (fun _ h => nomatch h) (kqd_strs oa) (kqd_strs ob) hu (h _ (by
    rw [Bool.not_eq_true', decide_eq_false_iff_not]
    refine not_congr ?_
    constructor
    · intro e; exact (List.map_inj_right (fun x y e => by cases e; rfl)).mp e
    · rintro rfl; rfl))
theorem r_eqs (N : News h₀ L s.heap news) (mA : (D, listOf us.toArray n) ∈ news) (mB : (B, listOf vs.toArray k) ∈ news) (ha : StrsAre us ys) (hb : StrsAre vs zs)
    (oa : OkL ys) (ob : OkL zs) (hu : A.units + 64 < cLine) (h : ∀ b : Bool, (b = true ↔ ys = zs) → Q (.bool b) s) : wpAny (model prog w) A (compareOp .Eq (.ref D) (.ref B)) Q E s :=
  kqd_eq N mA rfl rfl (StrsAre.dat (nw := []) ha) (fun _ h => nomatch h) mB rfl rfl (StrsAre.dat (nw := []) hb) (fun _ h => nomatch h) (kqd_strs oa) (kqd_strs ob) hu (h _ (by
    simp only [decide_eq_true_eq]
    constructor
    · intro e; exact (List.map_inj_right (fun x y e => by cases e; rfl)).mp e
    · rintro rfl; rfl))
end
end

section
-- part Slices
theorem StrsAre.take {vs : List Value} {ys : List Str} (h : StrsAre vs ys) : ∀ k, StrsAre (vs.take k) (ys.take k) := by
  induction h with
  | nil => intro k; cases k <;> exact .nil
  | cons y t r ih =>
    intro k
    cases k with
    | zero => exact .nil
    | succ k => exact .cons y t (ih k)
theorem StrsAre.init {vs : List Value} {ys : List Str} (h : StrsAre vs ys) : StrsAre vs.dropLast ys.dropLast := by
  rw [List.dropLast_eq_take, List.dropLast_eq_take, StrsAre.len h]
  exact StrsAre.take h _
theorem StrsAre.app {vs us : List Value} {ys zs : List Str} (h : StrsAre vs ys) (k : StrsAre us zs) : StrsAre (vs ++ us) (ys ++ zs) := by
  induction h with
  | nil => exact k
  | cons y t r ih => exact .cons y t ih
theorem StrsAre.rev {vs : List Value} {ys : List Str} (h : StrsAre vs ys) : StrsAre vs.reverse ys.reverse := by
  induction h with
  | nil => exact .nil
  | cons y t r ih => rw [List.reverse_cons, List.reverse_cons]; exact StrsAre.snoc ih
theorem pick_take (vs : List Value) (k : Nat) : (slicePick vs.toArray none (some (k : Int)) none).toList = vs.take k := by
  have e : sliceBounds none (some (k : Int)) none vs.toArray.size = (((0 : Nat) : Int), ((min k vs.toArray.size : Nat) : Int), 1) := by
    simp only [sliceBounds, Option.getD_none, show (1 : Int) > 0 by decide, if_true, if_neg (show ¬ ((k : Int) < 0) by omega)]
    congr 1
    congr 1
    omega
  rw [kmk_pick_nat _ e]
  show ((vs.drop 0).take (min k vs.toArray.size - 0)) = _
  rw [List.drop_zero, Nat.sub_zero, List.size_toArray, kmk_take_min]
theorem pick_init (vs : List Value) : (slicePick vs.toArray none (some (-1)) none).toList = vs.dropLast := by
  have e : sliceBounds none (some (-1)) none vs.toArray.size = (((0 : Nat) : Int), ((vs.toArray.size - 1 : Nat) : Int), 1) := by
    simp only [sliceBounds, Option.getD_none, show (1 : Int) > 0 by decide, if_true, if_pos (show (-1 : Int) < 0 by decide)]
    congr 1
    congr 1
    omega
  rw [kmk_pick_nat _ e]
  show ((vs.drop 0).take (vs.toArray.size - 1 - 0)) = _
  rw [List.drop_zero, Nat.sub_zero, List.size_toArray, List.dropLast_eq_take]
theorem pick_down (vs : List Value) : (slicePick vs.toArray none (some 0) (some (-1))).toList = (vs.drop 1).reverse := by
  cases vs with
  | nil => rfl
  | cons v r =>
    have e : sliceBounds none (some 0) (some (-1)) (v :: r).toArray.size = ((r.length : Int), 0, -1) := by
      rw [List.size_toArray, List.length_cons]
      simp [sliceBounds]
      omega
    unfold slicePick
    rw [e]
    show (sliceRange (r.length : Int) 0 (-1)).filterMap ((v :: r).toArray[·]?) = r.reverse
    have e2 : sliceRange (r.length : Int) 0 (-1) = (List.range r.length).map fun k => r.length - 1 - k + 1 := by
      unfold sliceRange
      have h1 : ¬ ((-1 : Int) > 0) := by decide
      by_cases h : (r.length : Int) > 0
      · have e : ((r.length : Int) - 0 - -1 - 1) / (- -1) = (r.length : Int) := by
          rw [show (- -1 : Int) = 1 by decide, Int.ediv_one]
          omega
        simp only [h1, if_false, h, if_true, e, Int.toNat_natCast]
        apply List.map_congr_left
        intro k hk
        have := List.mem_range.mp hk
        omega
      · have e : r.length = 0 := by omega
        rw [e]
        simp
    rw [e2, List.filterMap_map]
    have e3 : ((fun x => (v :: r).toArray[x]?) ∘ fun k => r.length - 1 - k + 1) = (fun x => r.toArray[x]?) ∘ fun k => r.length - 1 - k := by
      funext k
      simp
    rw [e3, ← List.filterMap_map, krv_range, List.filterMap_reverse]
    have := krv_all r.toArray
    rw [List.size_toArray] at this
    rw [this]
section
variable {prog : Program} {w : World} {A : Around} {E : Value → Shared → Prop} {s : Shared} {h₀ : Heap} {L D : Addr} {m : Str → Option Value} {news news' : List (Addr × Obj)} {n : Nat} {vs : List Value} {Q : Value → Shared → Prop}
theorem r_appendU {v : Value} (F : Fr h₀ L s.heap m) (N : News h₀ L s.heap news) (U : Upd D (listOf vs.toArray n) (listOf (vs ++ [v]).toArray (n + 1)) news news') (hs : vs.length ≤ 10000)
    (h : ∀ h', Fr h₀ L h' m → News h₀ L h' news' → Q .none { s with heap := h' }) : wpAny (model prog w) A (call (.builtin "list.append") [.ref D, v]) Q E s := by
  refine append_K (its := vs.toArray) (n := n) F N (by simpa using U) (fun h1 F1 N1 => h h1 F1 N1) (by rw [List.size_toArray, sizeLine_eq]; omega)
end
section
variable {prog : Program} {w : World} {A : Around} {E : Value → Shared → Prop} {s : Shared} {h₀ : Heap} {L D B : Addr} {m : Str → Option Value} {news : List (Addr × Obj)} {n k : Nat} {vs us : List Value} {Q : Value → Shared → Prop}
theorem r_at {value slice : Expr} {v : Value} {i : Int} {u : Tok} (N : News h₀ L s.heap news) (hm : (D, listOf vs.toArray n) ∈ news) (h0 : 0 ≤ i) (hf : i < 1000) (hv : vs[i.toNat]? = some v) (h : Q v s)
    (hs : subscripted slice false (.ref D) (.int i u) = operate [.ref D, .int i u] (getItem (.ref D) (.int i u)) := by with_unfolding_all rfl) :
    wpAny (model prog w) A (subscriptTail value slice (.ref D) (.int i u)) Q E s := by
  have hl : s.heap.IsList D vs.toArray := ⟨_, (N _ hm).1, rfl, _, rfl⟩
  exact tail_any hl.typeIs slot_list_getitem.lookup (wpAny_getItem_list hl h0 (by omega) (by simpa using hv) h) hs
theorem r_cat (F : Fr h₀ L s.heap m) (N : News h₀ L s.heap news) (hm : (D, listOf vs.toArray n) ∈ news) (hk : (B, listOf us.toArray k) ∈ news) (hz : vs.length + us.length ≤ 10000)
    (h : ∀ C h', Fr h₀ L h' m → News h₀ L h' ((C, listOf (vs ++ us).toArray 0) :: news) → (∀ p ∈ news, p.1 < C) → Q (.ref C) { s with heap := h' }) : wpAny (model prog w) A (binaryOp .Add (.ref D) (.ref B)) Q E s := by
  refine kmk_add_lit F N (News.isList N hm) (News.isList N hk) (zs := vs ++ us) (by simp) (fun C h' F' N' l => h C h' F' N' l) (by simp; rw [sizeLine_eq]; omega)
end
theorem mid {α : Type} {Mo : Model} {A : Around} {t : Sem α} {Q : α → Shared → Prop} {E : Value → Shared → Prop} {s : Shared} {g : Heap} {L : Addr} {m : Str → Option Value} (P : (Str → Option Value) → α → Shared → Prop) (_ : Fr g L s.heap m) (h1 : wpAny Mo A t (fun v s1 => Stop (P m v s1)) E s) (h2 : ∀ v s', P m v s' → Q v s') : wpAny Mo A t Q E s := wpAny_mono h1 h2 (fun _ _ e => e)
end

section
-- part F7
def nonE (y : Str) : Bool := y != Str.ofString ""
def namesF (path : Str) : List Str := (Txt.split path (Str.ofString "/")).filter nonE
def serverF (there : List (List Str)) (path : Str) : List (List Str) × Str :=
  if namesF path ∈ there then (there, answerF (Str.ofString "250") (namesF path) (Str.ofString " is there"))
  else if namesF path ≠ [] ∧ (namesF path).dropLast ∉ there then (there, answerF (Str.ofString "550") (namesF path) (Str.ofString " has no place"))
  else (there ++ [namesF path], answerF (Str.ofString "257") (namesF path) (Str.ofString " is made"))
theorem iff_no {b : Bool} {P : Prop} (h : b = true ↔ P) (e : b = false) : ¬ P := fun p => by rw [h.mpr p] at e; cases e
theorem names_size (path : Str) : ((namesF path).map (·.length)).sum + (namesF path).length ≤ path.length + 1 := by
  refine Nat.le_trans ?_ (split_size path)
  unfold namesF
  generalize Txt.split path (Str.ofString "/") = l
  induction l with
  | nil => exact Nat.le_refl _
  | cons y r ih =>
    rw [List.filter_cons]
    split <;> simp only [List.map_cons, List.sum_cons, List.length_cons] <;> omega
section
variable {w : World} {A : Around} {s : Shared} {h₀ : Heap} {L : Addr} {m : Str → Option Value} {news : List (Addr × Obj)} {p : Program} {loose : List Str} {mg mb : Str → Option Value} {Q E : Value → Shared → Prop}
theorem c_server {path : Str} {t : Tok} {D : Addr} {ts : List Value} {n : Nat} {there : List (List Str)} {n₁ : List (Addr × Obj)}
    (F : Fr h₀ L s.heap m) (N : News h₀ L s.heap ((D, listOf ts.toArray n) :: news)) (X : (Mine.hd.heap_39 w.params).In h₀) (T : TopRead p loose mg mb h₀)
    (hh : A.handled = none) (hd : A.depth + 20 < recursionLimit) (hu : A.units + 100 < cLine) (hne : ∀ p ∈ news, p.1 ≠ D) (ht0 : DatAll n₁ ts (there.map strsD)) (hsub : ∀ p ∈ n₁, p ∈ news) (htl : there.length ≤ 1000)
    (hok : ∀ a ∈ there, OkL a) (hp : OkL (namesF path)) (hx : path.length ≤ 900)
    (hQ : ∀ t' h' tk' add ts' n', Fr h₀ L h' m → News h₀ L h' ((D, listOf ts'.toArray n') :: (add ++ news)) → (∀ q ∈ (D, listOf ts.toArray n) :: news, ∀ p ∈ add, q.1 ≠ p.1) → DatAll (add ++ n₁) ts' ((serverF there path).1.map strsD) → Q (.str (serverF there path).2 t') { s with heap := h', toks := tk' }) :
    wpAny (model PySem.Challenge.rw_pd0100_01.row.prog w) A (call (.ref 185) [.ref D, .str path t]) Q E s := by
  obtain ⟨ha, dp, fr, gd, un⟩ := A
  obtain rfl : ha = none := hh
  replace hd : dp + 20 < recursionLimit := hd
  replace hu : un + 100 < cLine := hu
  have ht := ht0.mono hsub
  refine' enter (binds := [(Str.ofString "there", .ref D), (Str.ofString "path", .str path t)]) F N X T ?k1 ?k2 ?k3 (BindsTo.of_eq ?k4) (locs ?k5) ?_ ?c1 ?c2 ?c3 ?c4
  (case k3 => exact Nat.lt_of_le_of_lt (Nat.le_add_right dp 20) hd)
  (case k1 => k_is); (case k2 => k_is); (try (case k3 => omega)); (case k4 => exact rfl); (case k5 => exact rfl); (case c1 => exact rfl); (case c2 => exact rfl); (case c3 => exact rfl); (case c4 => decide)
  intro g L' h₁ tk hlt F' N' X' T'
  clear F N X T
  k_fold
  repeat' (first
    | (k_unfold; (try dsimp only))
    | ((with_reducible show wpAny _ _ (exec (Stmt.Assign _ (Expr.ListComp _ _ _ _) _) _) _ _ _); refine stop_of ?_)
    | walk1
    | (dsimp only; walk1))
  refine Stop.go ?_
  refine LCt.Assign_ListComp_T (F₀ := by k_asm) (by rfl) (by with_unfolding_all rfl) (by with_unfolding_all rfl) (by decide) (by rfl) (by decide) (by rfl) (by rfl) (by rfl) ?_
  repeat' (first
    | (k_unfold; (try dsimp only))
    | ((with_reducible show wpAny _ _ (PySem.call (Value.builtin "str.split") _ _) _ _ _); (refine' r_split ?k0 ?k1 ?k2 ?_; (case k0 => k_asm); (case k1 => k_asm); (case k2 => omega)); intro D' vs' h' k' a' F' N' l1; (try k_sweep))
    | ((with_reducible show LCt.CompSrcT _ _ _ _ _ _ _ _ _ _ _ _ _ _ _); refine stop_of ?_)
    | walk1
    | (dsimp only; walk1))
  refine Stop.go ?_
  rename Fr g L' _ _ => F9
  rename News g L' _ _ => N9
  have hps := split_size path
  dsimp only
  refine LCt.CompSrcT.ledger rfl F9 N9 (List.Mem.head _) (by rw [List.size_toArray, StrsAre.len a', sizeLine_eq]; omega) ?_
  intro g'
  refine comp_invT (fun i ys nw => nw = ((D', listOf vs'.toArray 0) :: (D, listOf ts.toArray n) :: news) ∧ StrsAre ys (((Txt.split path (Str.ofString "/")).take i).filter nonE)) ⟨rfl, .nil⟩ ?turn ?fin
  case turn =>
    rintro i ys nw v I oI C oC E1 m₂ h tk1 E' hi hP ⟨rfl, hs⟩ hC hx1 F1 N1 off ne
    obtain ⟨y, ty, rfl, hy⟩ := StrsAre.at a' (by simpa using hP)
    clear F9 N9
    repeat' (first
    | (k_unfold; (try dsimp only))
    | ((with_reducible show LCg.CompEnd _ _ _ _ _ _ _ _ _ _ _ _ _ _); refine stop_of ?_)
    | walk1
    | (dsimp only; walk1))
    · rename (y != Str.ofString "") = true => hb
      refine Stop.go ⟨_, _, _, rfl, F1, N1, off, .inr ⟨_, List.Mem.head _, rfl, _, rfl⟩, rfl, ?_⟩
      rw [take_snoc hy, List.filter_append, List.filter_cons, if_pos (show nonE y = true from hb)]
      exact StrsAre.snoc hs
    · rename (y != Str.ofString "") = false => hb
      refine Stop.go ⟨_, _, _, rfl, F1, N1, off, .inr ⟨_, List.Mem.head _, rfl, _, rfl⟩, rfl, ?_⟩
      rw [take_snoc hy, List.filter_append, List.filter_cons, if_neg (show ¬ nonE y = true from by rw [show nonE y = false from hb]; decide), List.filter_nil, List.append_nil]
      exact hs
  rintro ys nw ⟨rfl, hs⟩ D1 h2 tk2 F2 N2 o1
  rw [List.take_of_length_le (by rw [List.size_toArray, StrsAre.len a']; exact Nat.le_refl _)] at hs
  replace hs : StrsAre ys (namesF path) := hs
  have hlt1 : ∀ q ∈ (D, listOf ts.toArray n) :: news, q.1 ≠ D1 := fun q hq => off1_mem o1 q (List.mem_cons_of_mem _ hq)
  have hsz : ((namesF path).map (·.length)).sum + (namesF path).length ≤ 1000 := by have := names_size path; omega
  have hsI := StrsAre.init hs
  have hpI : OkL (namesF path).dropLast := fun y hy => hp y (List.dropLast_subset _ hy)
  have hyl : ys.length ≤ 1000 := by rw [StrsAre.len hs]; omega
  replace N2 : News g L' h2 ((D, listOf ts.toArray n) :: (D1, listOf ys.toArray ys.length) :: (D', listOf vs'.toArray 0) :: news) := led_sub N2 fun q hq => (by
    rcases List.mem_cons.mp hq with rfl | hq
    · exact List.mem_cons_of_mem _ (List.mem_cons_of_mem _ (List.Mem.head _))
    · rcases List.mem_cons.mp hq with rfl | hq
      · exact List.Mem.head _
      · rcases List.mem_cons.mp hq with rfl | hq
        · exact List.mem_cons_of_mem _ (List.Mem.head _)
        · exact List.mem_cons_of_mem _ (List.mem_cons_of_mem _ (List.mem_cons_of_mem _ hq)))
  clear F9 N9
  have hD1 : @Ne Nat D1 D := fun e => hlt1 _ (List.Mem.head _) e.symm
  have hD2 : @Ne Nat D' D := fun e => Nat.lt_irrefl _ (Nat.lt_of_lt_of_eq (l1 _ (List.Mem.head _)) e)
  have htl1 : ts.length ≤ 1000 := by rw [ht.length, List.length_map]; exact htl
  have fin0 : ∀ {h' m' nw t' tk' ans}, Fr g L' h' m' → News g L' h' nw → (∀ p ∈ (D, listOf ts.toArray n) :: news, p ∈ nw) → serverF there path = (there, ans) → Back h₀ L m g Q (.str ans t') { s with heap := h', toks := tk' } := by
    intro h' m' nw t' tk' ans F9 N9 hs1 e
    refine ⟨L', m', _, F9, led_sub N9 hs1, fun F N => ?_⟩
    have := hQ t' h' tk' [] ts n F N (fun _ _ _ h => nomatch h) (by rw [e]; exact ht0)
    rwa [e] at this
  have fin1 : ∀ {h' m' nw t' tk' ans}, Fr g L' h' m' → News g L' h' nw → (∀ p ∈ (D, listOf (ts ++ [Value.ref D1]).toArray (n + 1)) :: (D1, listOf ys.toArray ys.length) :: news, p ∈ nw) → serverF there path = (there ++ [namesF path], ans) → Back h₀ L m g Q (.str ans t') { s with heap := h', toks := tk' } := by
    intro h' m' nw t' tk' ans F9 N9 hs1 e
    refine ⟨L', m', _, F9, led_sub N9 hs1, fun F N => ?_⟩
    have := hQ t' h' tk' [(D1, listOf ys.toArray ys.length)] _ _ F N (fun q hq p hp => by rw [List.mem_singleton.mp hp]; exact hlt1 q hq) (by
      rw [e, List.map_append]
      exact DatAll.append (ht0.mono fun p hp => List.mem_cons_of_mem _ hp) (.one (.list (List.Mem.head _) (StrsAre.dat hs))))
    rwa [e] at this
  dsimp only
  repeat' (first
    | (k_unfold; (try dsimp only))
    | ((with_reducible show wpAny _ _ (compareOp CmpOp.In (Value.ref _) (Value.ref _)) _ _ _); (refine' r_in ?k0 ?k1 ?k2 ?k3 ?k4 ?k5 ?k6 ?k7 ?k8 ?_; (case k0 => k_asm); (case k1 => k_mem); (case k2 => k_mem); (case k3 => (first | with_reducible assumption | assumption)); (case k4 => (intro p9 h9; (repeat (first | exact h9 | apply List.mem_cons_of_mem)))); (case k5 => (first | with_reducible assumption | assumption)); (case k6 => (first | with_reducible assumption | assumption)); (case k7 => (first | with_reducible assumption | assumption)); (case k8 => (first | omega | (simp only [units_deeper, units_in1]; (try dsimp only); omega)))); intro b' hb')
    | ((with_reducible show wpAny _ _ (compareOp CmpOp.NotIn (Value.ref _) (Value.ref _)) _ _ _); (refine' r_notin ?k0 ?k1 ?k2 ?k3 ?k4 ?k5 ?k6 ?k7 ?k8 ?_; (case k0 => k_asm); (case k1 => k_mem); (case k2 => k_mem); (case k3 => (first | with_reducible assumption | assumption)); (case k4 => (intro p9 h9; (repeat (first | exact h9 | apply List.mem_cons_of_mem)))); (case k5 => (first | assumption | exact StrsAre.nil)); (case k6 => (first | with_reducible assumption | assumption)); (case k7 => (first | with_reducible assumption | assumption)); (case k8 => (first | omega | (simp only [units_deeper, units_in1]; (try dsimp only); omega)))); intro b' hb')
    | ((with_reducible show wpAny _ _ (compareOp CmpOp.NotEq (Value.ref _) (Value.ref _)) _ _ _); (refine' r_nes ?k0 ?k1 ?k2 ?k3 ?k4 ?k5 ?k6 ?k7 ?_; (case k0 => k_asm); (case k1 => k_mem); (case k2 => k_mem); (case k3 => (first | with_reducible assumption | assumption)); (case k4 => exact StrsAre.nil); (case k5 => (first | with_reducible assumption | assumption)); (case k6 => exact (fun _ h => nomatch h)); (case k7 => (first | omega | (simp only [units_deeper, units_in1]; (try dsimp only); omega)))); intro b' hb')
    | ((with_reducible show wpAny _ _ (PySem.call (Value.ref 180) _ _) _ _ _); (refine' c_answer ?k0 ?k1 ?k2 ?k3 ?k4 ?k5 ?k6 ?k7 ?k8 ?k9 ?k10 ?_; (case k0 => k_asm); (case k1 => k_asm); (case k2 => k_asm); (case k3 => k_asm); (case k4 => exact rfl); (case k5 => (first | omega | (simp only [depth_deeper, depth_in1, units_deeper, units_in1]; (try dsimp only); omega))); (case k6 => k_mem); (case k7 => (first | with_reducible assumption | assumption)); (case k8 => (first | with_reducible assumption | assumption)); (case k9 => (exact Nat.le_of_ble_eq_true rfl)); (case k10 => (exact Nat.le_of_ble_eq_true rfl))); intro t' h' tk' F' N'; (try k_sweep))
    | ((with_reducible show wpAny _ _ (subscriptTail _ (Expr.Slice _ _ _ _) (Value.ref _) (Value.ref _)) _ _ _); (refine' kmk_slice_lit ?zF ?zN ?zl ?zp ?zq  (e := pick_init _) ?_ ?zs ?zt ?zz; (case zF => k_asm); (case zN => k_asm); (case zl => exact News.isList (by k_asm) (by k_mem)); (case zp => kmk_part); (case zq => kmk_part); (case zs => with_unfolding_all rfl); (case zt => kmk_pure); (case zz => (rw [List.size_toArray, sizeLine_eq]; omega))); intro D' h' F' N' l1; (try k_lt l1); (try k_sweep))
    | ((with_reducible show wpAny _ _ (PySem.call (Value.builtin "list.append") _ _) _ _ _); (refine' r_appendU ?k0 ?k1 ?k2 ?k3 ?_; (case k0 => k_asm); (case k1 => k_asm); (case k2 => (first | (refine' Upd.head ?zu6; (case zu6 => (repeat' (first | assumption | (exact List.forall_mem_nil _) | k_ne | (refine' List.forall_mem_cons.mpr ⟨?_, ?_⟩))))) | (refine' Upd.tail ?zv6 ?zw6; (case zv6 => first | k_ne | assumption); (case zw6 => (first | (refine' Upd.head ?zu5; (case zu5 => (repeat' (first | assumption | (exact List.forall_mem_nil _) | k_ne | (refine' List.forall_mem_cons.mpr ⟨?_, ?_⟩))))) | (refine' Upd.tail ?zv5 ?zw5; (case zv5 => first | k_ne | assumption); (case zw5 => (first | (refine' Upd.head ?zu4; (case zu4 => (repeat' (first | assumption | (exact List.forall_mem_nil _) | k_ne | (refine' List.forall_mem_cons.mpr ⟨?_, ?_⟩))))) | (refine' Upd.tail ?zv4 ?zw4; (case zv4 => first | k_ne | assumption); (case zw4 => (first | (refine' Upd.head ?zu3; (case zu3 => (repeat' (first | assumption | (exact List.forall_mem_nil _) | k_ne | (refine' List.forall_mem_cons.mpr ⟨?_, ?_⟩))))) | (refine' Upd.tail ?zv3 ?zw3; (case zv3 => first | k_ne | assumption); (case zw3 => (first | (refine' Upd.head ?zu2; (case zu2 => (repeat' (first | assumption | (exact List.forall_mem_nil _) | k_ne | (refine' List.forall_mem_cons.mpr ⟨?_, ?_⟩))))) | (refine' Upd.tail ?zv2 ?zw2; (case zv2 => first | k_ne | assumption); (case zw2 => (first | (refine' Upd.head ?zu1; (case zu1 => (repeat' (first | assumption | (exact List.forall_mem_nil _) | k_ne | (refine' List.forall_mem_cons.mpr ⟨?_, ?_⟩))))) | (refine' Upd.tail ?zv1 ?zw1; (case zv1 => first | k_ne | assumption); (case zw1 => (refine' Upd.head ?zu0; (case zu0 => (repeat' (first | assumption | (exact List.forall_mem_nil _) | k_ne | (refine' List.forall_mem_cons.mpr ⟨?_, ?_⟩)))))))))))))))))))))))); (case k3 => (first | omega | (simp only [List.length_append, List.length_cons, List.length_nil]; omega)))); intro h' F' N'; (try k_sweep))
    | walk1
    | (dsimp only; walk1))
  all_goals rename News g L' _ _ => N9
  all_goals rename Fr g L' _ _ => F9
  · rename (_ = true ↔ namesF path ∈ there) => hb1
    have e := hb1.mp (by assumption)
    exact fin0 F9 N9 (List.forall_mem_cons.mpr ⟨by k_mem, fun p h9 => (by repeat (first | exact h9 | apply List.mem_cons_of_mem))⟩) (by unfold serverF; rw [if_pos e])
  · rename (_ = true ↔ namesF path ∈ there) => hb1
    rename (_ = true ↔ namesF path ≠ []) => hb2
    rename (_ = true ↔ ¬ (namesF path).dropLast ∈ there) => hb3
    exact fin0 F9 N9 (List.forall_mem_cons.mpr ⟨by k_mem, fun p h9 => (by repeat (first | exact h9 | apply List.mem_cons_of_mem))⟩) (by unfold serverF; rw [if_neg (iff_no hb1 (by assumption)), if_pos ⟨hb2.mp (by assumption), hb3.mp (by assumption)⟩])
  · rename (_ = true ↔ namesF path ∈ there) => hb1
    rename (_ = true ↔ ¬ (namesF path).dropLast ∈ there) => hb3
    exact fin1 F9 N9 (List.forall_mem_cons.mpr ⟨by k_mem, List.forall_mem_cons.mpr ⟨by k_mem, fun p h9 => (by repeat (first | exact h9 | apply List.mem_cons_of_mem))⟩⟩) (by unfold serverF; rw [if_neg (iff_no hb1 (by assumption)), if_neg (fun h => iff_no hb3 (by assumption) h.2)])
  · rename (_ = true ↔ namesF path ∈ there) => hb1
    rename (_ = true ↔ namesF path ≠ []) => hb2
    exact fin1 F9 N9 (List.forall_mem_cons.mpr ⟨by k_mem, List.forall_mem_cons.mpr ⟨by k_mem, fun p h9 => (by repeat (first | exact h9 | apply List.mem_cons_of_mem))⟩⟩) (by unfold serverF; rw [if_neg (iff_no hb1 (by assumption)), if_neg (fun h => iff_no hb2 (by assumption) h.1)])
end
end

section
-- part F8
def stepP (st : List Str × Nat) (y : Str) : List Str × Nat :=
  if y = Str.ofString ".." then (st.1, st.2 + 1)
  else if y = Str.ofString "" ∨ y = Str.ofString "." then st
  else if st.2 > 0 then (st.1, st.2 - 1)
  else (y :: st.1, st.2)
def baseF (place pieces : List Str) : List Str := if pieces.head? = some (Str.ofString "") then pieces else place ++ pieces
def placeF (place pieces : List Str) : List Str := ((baseF place pieces).reverse.foldl stepP ([], 0)).1
theorem baseF_len {place pieces : List Str} (h : place.length ≤ 100) (k : pieces.length ≤ 100) : (baseF place pieces).length ≤ 200 := by
  unfold baseF
  split
  · omega
  · rw [List.length_append]; omega
theorem stepP_up {st : List Str × Nat} {y : Str} (h : (y == Str.ofString "..") = true) : stepP st y = (st.1, st.2 + 1) := if_pos (eq_of_beq h)
theorem no_beq {y z : Str} (h : (y == z) = false) : ¬ y = z := fun e => by rw [e, beq_self_eq_true] at h; cases h
theorem stepP_skip {st : List Str × Nat} {y : Str} (h : (y == Str.ofString "..") = false) (k : ([Str.ofString "", Str.ofString "."].any fun x => x == y) = true) : stepP st y = st := by
  unfold stepP
  rw [if_neg (no_beq h), if_pos]
  simp only [List.any_cons, List.any_nil, Bool.or_false, Bool.or_eq_true, beq_iff_eq] at k
  exact k.imp Eq.symm Eq.symm
theorem stepP_no {y : Str} (k : ([Str.ofString "", Str.ofString "."].any fun x => x == y) = false) : ¬ (y = Str.ofString "" ∨ y = Str.ofString ".") := by
  intro h
  simp only [List.any_cons, List.any_nil, Bool.or_false, Bool.or_eq_false_iff] at k
  rcases h with h | h
  · exact no_beq k.1 h.symm
  · exact no_beq k.2 h.symm
theorem stepP_pay {st : List Str × Nat} {y : Str} (h : (y == Str.ofString "..") = false) (k : ([Str.ofString "", Str.ofString "."].any fun x => x == y) = false) (hp : 0 < (st.2 : Int)) : stepP st y = (st.1, st.2 - 1) := by
  unfold stepP
  rw [if_neg (no_beq h), if_neg (stepP_no k), if_pos (by omega)]
theorem stepP_push {st : List Str × Nat} {y : Str} (h : (y == Str.ofString "..") = false) (k : ([Str.ofString "", Str.ofString "."].any fun x => x == y) = false) (hp : ¬ 0 < (st.2 : Int)) : stepP st y = (y :: st.1, st.2) := by
  unfold stepP
  rw [if_neg (no_beq h), if_neg (stepP_no k), if_neg (by omega)]
def PlaceJ (news : List (Addr × Obj)) (bs : List Str) (m0 : Str → Option Value) (i : Nat) (m' : Str → Option Value) (mu z : List (Addr × Obj)) : Prop :=
  mu = [] ∧ (∀ p ∈ news, p ∈ z) ∧ Upto [Str.ofString "names", Str.ofString "debts", Str.ofString "piece"] m0 m' ∧
    ∃ C1 vs1 n1 td st, (bs.take i).foldl stepP ([], 0) = st ∧ m' (Str.ofString "names") = some (.ref C1) ∧ (C1, listOf (List.toArray vs1) n1) ∈ z ∧ (∀ p ∈ news, p.1 ≠ C1) ∧ StrsAre vs1 st.1 ∧ vs1.length ≤ i ∧ m' (Str.ofString "debts") = some (.int (st.2 : Nat) td)
theorem PlaceJ.intro {news : List (Addr × Obj)} {bs : List Str} {m0 : Str → Option Value} {i : Nat} {m' : Str → Option Value} {z : List (Addr × Obj)} {C1 : Addr} {vs1 : List Value} {n1 : Nat} {td : Tok} (st : List Str × Nat) (e : (bs.take i).foldl stepP ([], 0) = st)
    (h1 : ∀ p ∈ news, p ∈ z) (h2 : Upto [Str.ofString "names", Str.ofString "debts", Str.ofString "piece"] m0 m') (h3 : m' (Str.ofString "names") = some (.ref C1)) (h4 : (C1, listOf vs1.toArray n1) ∈ z) (h5 : ∀ p ∈ news, p.1 ≠ C1) (h6 : StrsAre vs1 st.1) (h7 : vs1.length ≤ i)
    (h8 : m' (Str.ofString "debts") = some (.int (st.2 : Nat) td)) : PlaceJ news bs m0 i m' [] z := ⟨rfl, h1, h2, C1, vs1, n1, td, st, e, h3, h4, h5, h6, h7, h8⟩
theorem PlaceJ.elim {news : List (Addr × Obj)} {bs : List Str} {m0 : Str → Option Value} {i : Nat} {m' : Str → Option Value} {mu z : List (Addr × Obj)} {P : Prop} (h : PlaceJ news bs m0 i m' mu z)
    (k : ∀ C1 vs1 n1 td st, (bs.take i).foldl stepP ([], 0) = st → mu = [] → (∀ p ∈ news, p ∈ z) → Upto [Str.ofString "names", Str.ofString "debts", Str.ofString "piece"] m0 m' → m' (Str.ofString "names") = some (.ref C1) → (C1, listOf vs1.toArray n1) ∈ z → (∀ p ∈ news, p.1 ≠ C1) → StrsAre vs1 st.1 → vs1.length ≤ i →
      m' (Str.ofString "debts") = some (.int (st.2 : Nat) td) → P) : P := by
  obtain ⟨h0, h1, h2, C1, vs1, n1, td, st, e, h3, h4, h5, h6, h7, h8⟩ := h
  exact k C1 vs1 n1 td st e h0 h1 h2 h3 h4 h5 h6 h7 h8
theorem foldl_next {bs : List Str} {i : Nat} {y : Str} {st st' : List Str × Nat} (hy : bs[i]? = some y) (e : (bs.take i).foldl stepP ([], 0) = st) (h : stepP st y = st') : (bs.take (i + 1)).foldl stepP ([], 0) = st' := by
  rw [take_snoc hy, List.foldl_append, e]; exact h
section
variable {w : World} {A : Around} {s : Shared} {h₀ : Heap} {L : Addr} {m : Str → Option Value} {news : List (Addr × Obj)} {p : Program} {loose : List Str} {mg mb : Str → Option Value} {Q E : Value → Shared → Prop}
theorem c_place {D B : Addr} {vs us : List Value} {n k : Nat} {place pieces : List Str}
    (F : Fr h₀ L s.heap m) (N : News h₀ L s.heap news) (X : (Mine.hd.heap_39 w.params).In h₀) (T : TopRead p loose mg mb h₀) (hh : A.handled = none) (hd : A.depth + 20 < recursionLimit) (hu : A.units + 100 < cLine) (mD : (D, listOf vs.toArray n) ∈ news) (mB : (B, listOf us.toArray k) ∈ news) (hD : StrsAre vs place) (hB : StrsAre us pieces)
    (hl1 : place.length ≤ 100) (hl2 : pieces.length ≤ 100) (hne : pieces ≠ [])
    (hQ : ∀ C ws j h' tk' , Fr h₀ L h' m → News h₀ L h' ((C, listOf ws.toArray j) :: news) → (∀ p ∈ news, p.1 ≠ C) → StrsAre ws (placeF place pieces) → Q (.ref C) { s with heap := h', toks := tk' }) :
    wpAny (model PySem.Challenge.rw_pd0100_01.row.prog w) A (call (.ref 199) [.ref D, .ref B]) Q E s := by
  obtain ⟨hp0, gn, dr, tk0, os0⟩ := s
  obtain ⟨ha, dp, fr, gd, un⟩ := A
  obtain rfl : ha = none := hh
  replace hd : dp + 20 < recursionLimit := hd
  replace hu : un + 100 < cLine := hu
  refine' enter (binds := [(Str.ofString "place", .ref D), (Str.ofString "pieces", .ref B)]) F N X T ?k1 ?k2 ?k3 (BindsTo.of_eq ?k4) (locs ?k5) ?_ ?c1 ?c2 ?c3 ?c4
  (case k3 => exact Nat.lt_of_le_of_lt (Nat.le_add_right dp 20) hd)
  (case k1 => k_is); (case k2 => k_is); (try (case k3 => omega)); (case k4 => exact rfl); (case k5 => exact rfl); (case c1 => exact rfl); (case c2 => exact rfl); (case c3 => exact rfl); (case c4 => decide)
  intro g L' h₁ tk hlt F' N' X' T'
  clear F N X T
  k_fold
  repeat' (first
    | (k_unfold; (try dsimp only))
    | ((with_reducible show wpAny _ _ (exec (Stmt.For _ _ _ _ _) _) _ _ _); refine stop_of ?_)
    | walk1
    | (dsimp only; walk1))
  refine Stop.go ?_
  refine For_invV g rfl rfl ?_ (hE := PassesOwn.never)
  rename Fr g L' _ _ => F9
  rename News g L' _ _ => N9
  rename_i C h1 hlC h2 h3
  have hvl : vs.length ≤ 100 := by rw [StrsAre.len hD]; exact hl1
  have hul : us.length ≤ 100 := by rw [StrsAre.len hB]; exact hl2
  refine mid (fun M v s' => ∃ D1 ws h' tk', v = .ref D1 ∧ s' = ⟨h', gn, dr, tk', os0⟩ ∧ Fr g L' h' M ∧ News g L' h' ((D1, listOf ws.toArray 0) :: (C, listOf #[] 0) :: news) ∧ (∀ p ∈ (C, listOf #[] 0) :: news, p.1 ≠ D1) ∧ StrsAre ws (baseF place pieces).reverse) F9 ?_ ?_
  · cases hB with
    | nil => exact absurd rfl hne
    | cons y0 t0 r0 =>
      rename_i us zs
      rw [List.length_cons] at hul
      repeat' (first
    | (k_unfold; (try dsimp only))
    | ((with_reducible show wpAny _ _ (subscriptTail _ _ (Value.ref _) (Value.int _ _)) _ _ _); (refine' r_at ?zn ?zm ?z0 ?zf ?zv ?_ ?zs; (case zn => k_asm); (case zm => (first | k_mem | (repeat (first | assumption | apply List.mem_cons_of_mem)))); (case z0 => (first | decide | omega)); (case zf => (first | decide | omega)); (case zv => (first | assumption | exact rfl)); (case zs => with_unfolding_all rfl)))
    | ((with_reducible show wpAny _ _ (binaryOp Operator.Add (Value.ref _) (Value.ref _)) _ _ _); (refine' r_cat ?zb0 ?zb1 ?zb2 ?zb3 ?zb4 ?_; (case zb0 => k_asm); (case zb1 => k_asm); (case zb2 => (first | k_mem | (repeat (first | assumption | apply List.mem_cons_of_mem)))); (case zb3 => (first | k_mem | (repeat (first | assumption | apply List.mem_cons_of_mem)))); (case zb4 => (first | omega | (simp only [List.length_append, List.length_cons, List.length_nil]; omega)))); intro D' h' F' N' l1; (try k_lt l1); (try k_sweep))
    | ((with_reducible show wpAny _ _ (subscriptTail _ (Expr.Slice none none (some _) _) (Value.ref _) (Value.ref _)) _ _ _); (refine' krv_lit ?zF ?zN ?zl ?zk (e := rfl) ?_ ?zs ?zt ?zz; (case zF => k_asm); (case zN => k_asm); (case zl => exact News.isList (by k_asm) (by (first | k_mem | (repeat (first | assumption | apply List.mem_cons_of_mem))))); (case zk => exact IsPart.int _ _); (case zs => with_unfolding_all rfl); (case zt => kmk_pure); (case zz => (rw [List.size_toArray, sizeLine_eq]; (first | omega | (simp only [List.length_append, List.length_cons, List.length_nil]; omega))))); intro D' h' F' N' l1; (try k_lt l1); (try k_sweep))
    | walk1
    | (dsimp only; walk1))
      · rename (y0 == Str.ofString "") = true => hb
        rename Fr g L' _ _ => F9
        rename News g L' _ _ => N9
        refine Stop.go ⟨_, _, _, _, rfl, rfl, F9, N9, fun p hp => Nat.ne_of_lt (allLt_mem (l := (_, listOf #[] 0) :: news) l1 p hp), ?_⟩
        have e : baseF place (y0 :: zs) = y0 :: zs := if_pos (by rw [eq_of_beq hb]; rfl)
        rw [e]
        exact StrsAre.rev (.cons y0 t0 r0)
      · rename (y0 == Str.ofString "") = false => hb
        rename Fr g L' _ _ => F9
        rename News g L' _ _ => N9
        refine Stop.go ⟨D', (vs ++ Value.str y0 t0 :: us).reverse, _, _, rfl, rfl, F9, led_sub N9 ?_, fun p hp => Nat.ne_of_lt (allLt_mem (l := (_, listOf #[] 0) :: news) l1.2 p hp), ?_⟩
        · exact List.forall_mem_cons.mpr ⟨by k_mem, fun p h9 => List.mem_cons_of_mem _ (List.mem_cons_of_mem _ h9)⟩
        have e : baseF place (y0 :: zs) = place ++ y0 :: zs := if_neg (fun h => by
          rw [List.head?_cons, Option.some.injEq] at h
          rw [h] at hb
          exact absurd hb (by decide))
        rw [e]
        exact StrsAre.rev (StrsAre.app hD (.cons y0 t0 r0))
  rintro v s' ⟨D1, ws, h', tk', rfl, rfl, F1, N1, hn1, hw⟩
  clear F9 N9
  refine for_list (adr := []) (mu₀ := []) (z₀ := (D1, listOf ws.toArray 0) :: (C, listOf #[] 0) :: news) (vs := ws) (fun m0 z0 i m' mu z => PlaceJ news (baseF place pieces).reverse m0 i m' mu z)
    rfl F1 N1 (fun _ _ h => nomatch h) (List.Mem.head _) ?hJ ?hj ?turn ?done
  case hJ => intro i m1 mu z h; rw [h.1]; rfl
  case hj => exact PlaceJ.intro ([], 0) rfl (fun p hp => List.mem_cons_of_mem _ (List.mem_cons_of_mem _ hp)) (Upto.refl _ _) rfl (vs1 := []) (List.mem_cons_of_mem _ (List.Mem.head _)) (fun p hp => Nat.ne_of_lt (hlC p hp)) .nil (Nat.le_refl _) rfl
  case turn =>
    intro i v m1 mu z yl h2 tk2 hv hJ hsub _ F2 N2
    refine hJ.elim fun C1 vs1 n1 td st e hmu hzs hU hm1 hmem hneC hs1 hl1' hm2 => ?_
    obtain ⟨y, ty, rfl, hy⟩ := StrsAre.at hw hv
    have hil : i < 200 := by
      have h1 : i < ws.length := (List.getElem?_eq_some_iff.mp hv).1
      rw [StrsAre.len hw, List.length_reverse] at h1
      exact Nat.lt_of_lt_of_le h1 (baseF_len hl1 hl2)
    have F2 : Fr g L' h2 _ := Upto.eq3 hU hm1 hm2 ▸ F2
    have N2 : News g L' h2 yl := led_sub N2 fun p hp => List.mem_append_right _ hp
    clear F1 N1
    have hmy := hsub _ hmem
    show wpAny _ _ _ _ _ _
    k_fold
    repeat' (first
    | (k_unfold; (try dsimp only))
    | ((with_reducible show wpAny _ _ (binaryOp Operator.Add (Value.ref _) (Value.ref _)) _ _ _); (refine' r_cat ?zb0 ?zb1 ?zb2 ?zb3 ?zb4 ?_; (case zb0 => k_asm); (case zb1 => k_asm); (case zb2 => (first | k_mem | (repeat (first | assumption | apply List.mem_cons_of_mem)))); (case zb3 => (first | k_mem | (repeat (first | assumption | apply List.mem_cons_of_mem)))); (case zb4 => (first | omega | (simp only [List.length_append, List.length_cons, List.length_nil]; omega)))); intro D' h' F' N' l1; (try k_lt l1); (try k_sweep))
    | walk1
    | (dsimp only; walk1))
    all_goals rename Fr g L' _ _ => F9
    all_goals rename News g L' _ _ => N9
    · rename (y == Str.ofString "..") = true => hb
      refine LoopPost.nx [] [] F9 N9 (fun _ _ _ h => nomatch h) (PlaceJ.intro _ (foldl_next hy e (stepP_up hb)) hzs ?_ rfl hmem hneC hs1 (Nat.le_succ_of_le hl1') rfl)
      refine Upto.set (Upto.set (Upto.set (Upto.set (Upto.set (Upto.refl _ _) ?_) ?_) ?_) ?_) ?_ <;> k_mem
    · rename (y == Str.ofString "..") = false => hb
      rename (List.any _ _) = true => hb2
      refine LoopPost.nx [] [] F9 (led_sub N9 (fun p h9 => List.mem_cons_of_mem _ (List.mem_cons_of_mem _ h9))) (fun _ _ _ h => nomatch h) (PlaceJ.intro _ (foldl_next hy e (stepP_skip hb hb2)) hzs ?_ rfl hmem hneC hs1 (Nat.le_succ_of_le hl1') rfl)
      refine Upto.set (Upto.set (Upto.set (Upto.set (Upto.refl _ _) ?_) ?_) ?_) ?_ <;> k_mem
    · rename (y == Str.ofString "..") = false => hb
      rename (List.any _ _) = false => hb2
      rename 0 < (st.2 : Int) => hb3
      refine LoopPost.nx [] [] F9 (led_sub N9 (fun p h9 => List.mem_cons_of_mem _ h9)) (fun _ _ _ h => nomatch h) (PlaceJ.intro _ (foldl_next hy e (stepP_pay hb hb2 hb3)) hzs ?_ rfl hmem hneC hs1 (Nat.le_succ_of_le hl1') (congrArg (fun z => some (Value.int z _)) (show (st.2 : Int) - 1 = ((st.2 - 1 : Nat) : Int) by omega)))
      refine Upto.set (Upto.set (Upto.set (Upto.set (Upto.set (Upto.refl _ _) ?_) ?_) ?_) ?_) ?_ <;> k_mem
    · rename (y == Str.ofString "..") = false => hb
      rename (List.any _ _) = false => hb2
      rename ¬ 0 < (st.2 : Int) => hb3
      rename _ ∧ _ ∧ _ ∧ AllLt D' yl => hl9
      have hlt9 := allLt_mem hl9.2.2.2
      refine LoopPost.nx [] [(D', listOf ([Value.str y ty] ++ vs1).toArray 0)] F9 (led_sub N9 (List.forall_mem_cons.mpr ⟨List.Mem.head _, (fun p h9 => List.mem_cons_of_mem _ (List.mem_cons_of_mem _ (List.mem_cons_of_mem _ (List.mem_cons_of_mem _ h9))))⟩)) (fun q hq p hp => by rw [hmu] at hq; rw [List.mem_singleton.mp hp]; exact Nat.ne_of_lt (hlt9 q hq))
        (PlaceJ.intro _ (foldl_next hy e (stepP_push hb hb2 hb3)) (fun p hp => List.mem_cons_of_mem _ (hzs p hp)) ?_ rfl (List.Mem.head _) (fun p hp => Nat.ne_of_lt (hlt9 p (hsub p (hzs p hp)))) (.cons y ty hs1) (Nat.succ_le_succ hl1') rfl)
      refine Upto.set (Upto.set (Upto.set (Upto.set (Upto.set (Upto.refl _ _) ?_) ?_) ?_) ?_) ?_ <;> k_mem
  case done =>
    intro m1 mu z h2 tk2 hJ F2 N2 _
    refine hJ.elim fun C1 vs1 n1 td st e hmu hzs hU hm1 hmem hneC hs1 hl1' hm2 => ?_
    rw [List.take_of_length_le (by rw [StrsAre.len hw]; exact Nat.le_refl _)] at e
    have F2 : Fr g L' h2 _ := Upto.eq3 hU hm1 hm2 ▸ F2
    have N2 : News g L' h2 z := led_sub N2 fun p hp => List.mem_append_right _ hp
    clear F1 N1
    repeat' (first
    | (k_unfold; (try dsimp only))
    | ((with_reducible show wpAny _ _ (binaryOp Operator.Add (Value.ref _) (Value.ref _)) _ _ _); (refine' r_cat ?zb0 ?zb1 ?zb2 ?zb3 ?zb4 ?_; (case zb0 => k_asm); (case zb1 => k_asm); (case zb2 => (first | k_mem | (repeat (first | assumption | apply List.mem_cons_of_mem)))); (case zb3 => (first | k_mem | (repeat (first | assumption | apply List.mem_cons_of_mem)))); (case zb4 => (first | omega | (simp only [List.length_append, List.length_cons, List.length_nil]; omega)))); intro D' h' F' N' l1; (try k_lt l1); (try k_sweep))
    | walk1
    | (dsimp only; walk1))
    rename Fr g L' _ _ => F9
    exact Back.intro F9 (led_sub N2 (List.forall_mem_cons.mpr ⟨hmem, hzs⟩)) fun F N => hQ _ _ _ _ _ F N hneC (show StrsAre vs1 (placeF place pieces) by unfold placeF; rw [e]; exact hs1)
end
end

section
-- part F9
/-- a piece of a way -/
def WP (y : Str) : Prop := 47 ∉ y.cps.toList ∧ y.length ≤ 4 ∧ OkS y
theorem wp_a : WP (Str.ofString "a") := ⟨by decide, by decide, by unfold OkS; decide +kernel⟩
theorem wp_sign {d : Nat} (h : d < 1114112) (k : ((⟨#[d]⟩ : Str) == Str.ofString "/") = false) : WP ⟨#[d]⟩ := by
  refine ⟨fun hm => ?_, Nat.le_of_ble_eq_true rfl, okS_iff.mpr fun c hc => ?_⟩
  · have e : d = 47 := by simpa using (show 47 = d by simpa using hm).symm
    rw [e] at k
    exact absurd k (by decide)
  · have e : c = d := by simpa using hc
    omega
theorem wp_marks {z : Str} (h : WP z) : ∀ y ∈ [Str.ofString "", Str.ofString "a", Str.ofString "\"", Str.ofString "..", Str.ofString "a\" b", Str.ofString ".", Str.ofString "..", z], WP y := by
  intro y hy
  simp only [List.mem_cons, List.not_mem_nil, or_false] at hy
  rcases hy with rfl | rfl | rfl | rfl | rfl | rfl | rfl | rfl
  · exact ⟨by decide, by decide, by unfold OkS; decide +kernel⟩
  · exact wp_a
  · exact ⟨by decide, by decide, by unfold OkS; decide +kernel⟩
  · exact ⟨by decide, by decide, by unfold OkS; decide +kernel⟩
  · exact ⟨by decide, by decide, by unfold OkS; decide +kernel⟩
  · exact ⟨by decide, by decide, by unfold OkS; decide +kernel⟩
  · exact ⟨by decide, by decide, by unfold OkS; decide +kernel⟩
  · exact h
section
variable {w : World} {A : Around} {s : Shared} {h₀ : Heap} {L : Addr} {m : Str → Option Value} {news : List (Addr × Obj)} {p : Program} {loose : List Str} {mg mb : Str → Option Value} {Q E : Value → Shared → Prop}
theorem c_way {x : Int} {t : Tok}
    (F : Fr h₀ L s.heap m) (N : News h₀ L s.heap news) (X : (Mine.hd.heap_39 w.params).In h₀) (T : TopRead p loose mg mb h₀) (hh : A.handled = none) (hd : A.depth + 20 < recursionLimit) (hu : A.units + 100 < cLine)
    (hQ : ∀ pcs t' h' tk', Fr h₀ L h' m → News h₀ L h' news → pcs.length = 4 → (∀ y ∈ pcs, WP y) → 1 ≤ tk' → Q (.str (Txt.join (Str.ofString "/") pcs) t') { s with heap := h', toks := tk' }) :
    wpAny (model PySem.Challenge.rw_pd0100_01.row.prog w) A (call (.ref 173) [.int x t]) Q E s := by
  obtain ⟨ha, dp, fr, gd, un⟩ := A
  obtain rfl : ha = none := hh
  replace hd : dp + 20 < recursionLimit := hd
  replace hu : un + 100 < cLine := hu
  refine' enterC (binds := [(Str.ofString "x", .int x t)]) F N X T ?k1 ?k2 ?k3 (BindsTo.of_eq ?k4) ?k5 ?k6 ?_ ?c1 ?c2 ?c3
  (case k3 => exact Nat.lt_of_le_of_lt (Nat.le_add_right dp 20) hd)
  (case k1 => k_is)
  (case k2 => k_is)
  (case k4 => exact rfl)
  (case k5 => exact rfl)
  (case k6 => decide +kernel)
  (case c1 => exact rfl)
  (case c2 => exact rfl)
  (case c3 => exact rfl)
  intro g L' h₁ tk cells hlt F' N' C' X' T'
  clear F N X T
  k_cells C'
  simp only [List.cons_append, List.nil_append] at N'
  show wpAny _ _ _ _ _ _
  k_fold
  have hl2 : ∀ p ∈ news, p.1 ≠ L' + 1 + 1 := fun p hp => Nat.ne_of_lt (Nat.lt_succ_of_lt (Nat.lt_succ_of_lt (hlt p hp)))
  repeat' (first
    | (k_unfold; (try dsimp only))
    | ((with_reducible show wpAny _ _ (exec (Stmt.Assign _ _ _) _) _ _ _); refine stop_of ?_)
    | walk1
    | (dsimp only; walk1))
  refine Stop.go ?_
  rename Fr g L' _ _ => F9
  rename News g L' _ _ => N9
  rename_i om ox dm dx
  refine mid (fun M f s' => ∃ c tc h' tk', f = .next ∧ s' = { s with heap := h', toks := tk' } ∧ Fr g L' h' (fun y => if y = Str.ofString "code" then some (.int c tc) else M y) ∧ News g L' h' ((L' + 1 + 1, om) :: (L' + 1, ox) :: news) ∧ 0 ≤ c ∧ c < 1112064) F9 ?_ ?_
  · repeat' (first
    | (k_unfold; (try dsimp only))
    | walk1
    | (dsimp only; walk1))
    rename Fr g L' _ _ => F9
    rename News g L' _ _ => N9
    exact Stop.go ⟨_, _, _, _, rfl, rfl, F9, N9, Int.fmod_nonneg_of_pos _ (by decide), Int.fmod_lt_of_pos _ (by decide)⟩
  rintro f s' ⟨c, tc, h', tk', rfl, rfl, F1, N1, hc0, hc1⟩
  clear F9 N9
  dsimp only
  repeat' (first
    | (k_unfold; (try dsimp only))
    | ((with_reducible show wpAny _ _ (exec (Stmt.Assign _ _ _) _) _ _ _); refine stop_of ?_)
    | walk1
    | (dsimp only; walk1))
  refine Stop.go ?_
  refine mid (fun M f s' => ∃ c tc h' tk', f = .next ∧ s' = { s with heap := h', toks := tk' } ∧ Fr g L' h' (fun y => if y = Str.ofString "sign" then some (.str ⟨#[c]⟩ tc) else M y) ∧ News g L' h' ((L' + 1 + 1, om) :: (L' + 1, ox) :: news) ∧ c < 1114112) F1 ?_ ?_
  · repeat' (first
    | (k_unfold; (try dsimp only))
    | walk1
    | (dsimp only; walk1))
    · rename Fr g L' _ _ => F9
      rename News g L' _ _ => N9
      exact Stop.go ⟨_, _, _, _, (by first | exact rfl | exact True.intro), rfl, F9, N9, by omega⟩
    · rename Fr g L' _ _ => F9
      rename News g L' _ _ => N9
      exact Stop.go ⟨_, _, _, _, (by first | exact rfl | exact True.intro), rfl, F9, N9, by omega⟩
  rintro f s' ⟨d, td, h2, tk2, rfl, rfl, F2, N2, hd1⟩
  clear F1 N1
  dsimp only
  repeat' (first
    | (k_unfold; (try dsimp only))
    | ((with_reducible show wpAny _ _ (exec (Stmt.Assign _ _ _) _) _ _ _); refine stop_of ?_)
    | walk1
    | (dsimp only; walk1))
  refine Stop.go ?_
  refine mid (fun M f s' => ∃ l vs ms om' h' tk', f = .next ∧ s' = { s with heap := h', toks := tk' } ∧ Fr g L' h' M ∧ News g L' h' ((l, listOf (List.toArray vs) 0) :: (L' + 1 + 1, om') :: (L' + 1, ox) :: news) ∧ (∀ p ∈ (L' + 1 + 1, om') :: (L' + 1, ox) :: news, p.1 < l) ∧ om'.data = .cell (some (.ref l)) ∧ StrsAre vs ms ∧ ms.length = 8 ∧ ∀ y ∈ ms, WP y) F2 ?_ ?_
  · repeat' (first
    | (k_unfold; (try dsimp only))
    | ((with_reducible show wpAny _ _ (storeName _ _ _) _ _ _); (refine' storeX_C ?zF ?zN ?zc ?zU ?zd ?_ ?za ?zb; (case za => rfl); (case zb => rfl); (case zF => k_asm); (case zN => k_asm); (case zc => rfl); (case zU => (first | (refine' UpdF.head ?zu4; (case zu4 => (repeat' (first | assumption | (exact List.forall_mem_nil _) | k_ne | (refine' List.forall_mem_cons.mpr ⟨?_, ?_⟩))))) | (refine' UpdF.tail ?zv4 ?zw4; (case zv4 => first | k_ne | assumption); (case zw4 => (first | (refine' UpdF.head ?zu3; (case zu3 => (repeat' (first | assumption | (exact List.forall_mem_nil _) | k_ne | (refine' List.forall_mem_cons.mpr ⟨?_, ?_⟩))))) | (refine' UpdF.tail ?zv3 ?zw3; (case zv3 => first | k_ne | assumption); (case zw3 => (first | (refine' UpdF.head ?zu2; (case zu2 => (repeat' (first | assumption | (exact List.forall_mem_nil _) | k_ne | (refine' List.forall_mem_cons.mpr ⟨?_, ?_⟩))))) | (refine' UpdF.tail ?zv2 ?zw2; (case zv2 => first | k_ne | assumption); (case zw2 => (first | (refine' UpdF.head ?zu1; (case zu1 => (repeat' (first | assumption | (exact List.forall_mem_nil _) | k_ne | (refine' List.forall_mem_cons.mpr ⟨?_, ?_⟩))))) | (refine' UpdF.tail ?zv1 ?zw1; (case zv1 => first | k_ne | assumption); (case zw1 => (refine' UpdF.head ?zu0; (case zu0 => (repeat' (first | assumption | (exact List.forall_mem_nil _) | k_ne | (refine' List.forall_mem_cons.mpr ⟨?_, ?_⟩)))))))))))))))))); (case zd => k_asm)); intro h' o' F' N' d'; (try dsimp only at N'); (try k_sweep))
    | walk1
    | (dsimp only; walk1))
    · rename Fr g L' _ _ => F9
      rename News g L' _ _ => N9
      rename _ ∧ _ ∧ AllLt _ news => hl9
      exact Stop.go ⟨_, _, _, _, _, _, (by first | exact rfl | exact True.intro), rfl, F9, N9, allLt_mem (l := (_, o') :: (_, ox) :: news) hl9, d', .cons _ _ (.cons _ _ (.cons _ _ (.cons _ _ (.cons _ _ (.cons _ _ (.cons _ _ (.cons _ _ .nil))))))), rfl, wp_marks wp_a⟩
    · rename Fr g L' _ _ => F9
      rename News g L' _ _ => N9
      rename _ ∧ _ ∧ AllLt _ news => hl9
      rename (_ == Str.ofString "/") = false => hb
      exact Stop.go ⟨_, _, _, _, _, _, (by first | exact rfl | exact True.intro), rfl, F9, N9, allLt_mem (l := (_, o') :: (_, ox) :: news) hl9, d', .cons _ _ (.cons _ _ (.cons _ _ (.cons _ _ (.cons _ _ (.cons _ _ (.cons _ _ (.cons _ _ .nil))))))), rfl, wp_marks (wp_sign hd1 hb)⟩
  rintro f s' ⟨l, vs, ms, om', h3, tk3, rfl, rfl, F3, N3, hl3, hom, hvs, hml, hmw⟩
  clear F2 N2
  dsimp only
  repeat' (first
    | (k_unfold; (try dsimp only))
    | ((with_reducible show wpAny _ _ (eval (Expr.ListComp _ _ _ _) _) _ _ _); refine stop_of ?_)
    | walk1
    | (dsimp only; walk1))
  refine Stop.go ?_
  refine wpAny_with_toks (n := 1) (Nat.le_add_left 1 _) ?_
  refine LCg.ListComp_U (F₀ := by k_asm) (by with_unfolding_all rfl) (by decide) (by rfl) (by decide) (by rfl) ?_
  repeat' (first
    | (k_unfold; (try dsimp only))
    | ((with_reducible show LCg.CompSrc _ _ _ _ _ _ _ _ _ _ _ _ _ _); refine stop_of ?_)
    | walk1
    | (dsimp only; walk1))
  refine Stop.go ?_
  rename Fr g L' _ _ => F9
  rename News g L' _ _ => N9
  rename_i l4 _ hl4
  refine LCg.CompSrc.ledger rfl F9 N9 (List.Mem.head _) (by exact Nat.le_of_ble_eq_true rfl) ?_
  intro g'
  refine comp_invU (fun i ys nw => nw = ((l4, _) :: (l, listOf vs.toArray 0) :: (L' + 1 + 1, om') :: (L' + 1, ox) :: news) ∧ ∃ pcs, StrsAre ys pcs ∧ pcs.length = i ∧ ∀ y ∈ pcs, WP y) ⟨rfl, [], .nil, rfl, fun _ h => nomatch h⟩ ?turn ?fin
  case turn =>
    rintro i ys nw v I oI C oC E1 m₂ h tk1 E' hi hP ⟨rfl, pcs, hs, hpl, hpw⟩ hC hx1 Fa Na off ne
    obtain ⟨k, tk0, rfl, hk, hk2⟩ : ∃ k t, v = Value.int k t ∧ 0 < k ∧ k ≤ 512 := by
      have hm := Array.mem_of_getElem? hP
      simp only [List.mem_toArray, List.mem_cons, List.not_mem_nil, or_false] at hm
      rcases hm with rfl | rfl | rfl | rfl <;> exact ⟨_, _, rfl, by decide, by decide⟩
    clear F9 N9
    have h0 : 0 ≤ (x.fdiv k).fmod 8 := Int.fmod_nonneg_of_pos _ (by decide)
    have h8 : (x.fdiv k).fmod 8 < 8 := Int.fmod_lt_of_pos _ (by decide)
    have hvl : ((x.fdiv k).fmod 8).toNat < vs.length := by rw [StrsAre.len hvs, hml]; omega
    obtain ⟨y, ty, ey, hy⟩ := StrsAre.at hvs (List.getElem?_eq_getElem hvl)
    have hv : vs[((x.fdiv k).fmod 8).toNat]? = some (Value.str y ty) := by rw [List.getElem?_eq_getElem hvl, ey]
    have hyw := hmw y (List.mem_of_getElem? hy)
    repeat' (first
    | (k_unfold; (try dsimp only))
    | ((with_reducible show wpAny _ _ (binaryOp Operator.FloorDiv (Value.int _ _) (Value.int _ _)) _ _ _); (refine' floordiv_int ?zb ?_ (Or.inl (PyProof.noPylong_small ?zp)); (case zb => omega); (case zp => omega)))
    | ((with_reducible show wpAny _ _ (subscriptTail _ _ (Value.ref _) (Value.int _ _)) _ _ _); (refine' r_at ?zn ?zm ?z0 ?zf ?zv ?_ ?zs; (case zn => k_asm); (case zm => (first | k_mem | (repeat (first | assumption | apply List.mem_cons_of_mem)))); (case z0 => (first | decide | omega)); (case zf => (first | decide | omega)); (case zv => (first | assumption | exact rfl)); (case zs => with_unfolding_all rfl)))
    | ((with_reducible show LCg.CompEnd _ _ _ _ _ _ _ _ _ _ _ _ _ _); refine stop_of ?_)
    | walk1
    | (dsimp only; walk1))
    refine Stop.go ⟨_, _, _, rfl, Fa, Na, off, .inr ⟨_, List.Mem.head _, rfl, _, rfl⟩, rfl, pcs ++ [y], StrsAre.snoc hs, by simp [hpl], fun z hz => ?_⟩
    rcases List.mem_append.mp hz with hz | hz
    · exact hpw z hz
    · rw [List.mem_singleton.mp hz]; exact hyw
  case fin =>
    rintro ys nw ⟨rfl, pcs, hs, hpl, hpw⟩ D1 h4 tk4 F4 N4 o4
    clear F9 N9
    replace hpl : pcs.length = 4 := hpl
    replace N4 : News g L' h4 ((D1, listOf ys.toArray ys.length) :: _) := N4
    have hsz : (pcs.map (·.length)).sum ≤ 16 := by
      have key : ∀ l : List Str, (∀ y ∈ l, WP y) → (l.map (·.length)).sum ≤ 4 * l.length := by
        intro l
        induction l with
        | nil => intro _; exact Nat.le_refl _
        | cons y r ih =>
          intro h
          have h1 := (h y (List.Mem.head _)).2.1
          have h2 := ih fun z hz => h z (List.mem_cons_of_mem _ hz)
          simp only [List.map_cons, List.sum_cons, List.length_cons]
          omega
      have := key pcs hpw
      omega
    dsimp only
    intro htk4
    repeat' (first
    | (k_unfold; (try dsimp only))
    | ((with_reducible show wpAny _ _ (PySem.call (Value.builtin "str.join") _ _) _ _ _); (refine' r_joinT ?k0 ?k1 ?k2 ?k3 ?_; (case k0 => k_asm); (case k1 => (exact List.Mem.head _)); (case k2 => (first | with_reducible assumption | assumption)); (case k3 => (have e1 := slash_len; rw [e1]; omega))); intro t' k' hj' hk'; (dsimp only at hk'); (try k_sweep))
    | walk1
    | (dsimp only; walk1))
    rename Fr g L' _ _ => F9
    rename News g L' _ _ => N9
    exact ⟨_, _, _, F9, led_sub N9 (fun p h9 => (by repeat (first | exact h9 | apply List.mem_cons_of_mem))), fun F N => hQ pcs _ _ _ F N hpl hpw (by omega)⟩
end
end

section
-- part D10
def frontsF (there : List (List Str)) (place : List Str) : List (List Str) := ((List.range (place.length + 1)).map place.take).filter fun f => !decide (f ∈ there)
def pathF (root : Str) (f : List Str) : Str := root ++ Txt.join (Str.ofString "//") f
def noF (root : Str) (f : List Str) : Str × Str × Str := (pathF root f, Str.ofString "refused", answerF (Str.ofString "550") f (Str.ofString " has no place"))
def yesF (root : Str) (f : List Str) : Str × Str × Str := (pathF root f, Str.ofString "told", Str.ofString "/" ++ Txt.join (Str.ofString "/") f)
def dueF (there : List (List Str)) (root : Str) (place : List Str) : List (Str × Str × Str) :=
  if frontsF there place = [] then [(pathF root place, Str.ofString "refused", answerF (Str.ofString "250") place (Str.ofString " is there"))]
  else ((frontsF there place).drop 1).reverse.map (noF root) ++ (frontsF there place).map (yesF root)
def entD (e : Str × Str × Str) : Dat := .tuple [.str e.1, .str e.2.1, .str e.2.2]
end

section
-- part F10
theorem dat_strs {nw : List (Addr × Obj)} {v : Value} {f : List Str} (h : DatIn nw v (strsD f)) : ∃ a vs n, v = .ref a ∧ (a, listOf vs.toArray n) ∈ nw ∧ StrsAre vs f := by
  unfold strsD at h
  cases h with
  | list hm r =>
    refine ⟨_, _, _, rfl, hm, ?_⟩
    clear hm
    rename_i vs n
    induction f generalizing vs with
    | nil => cases r; exact .nil
    | cons y f ih =>
      cases r with
      | cons h r => cases h; exact .cons _ _ (ih r)
def FrJ (base : List (Addr × Obj)) (there : List (List Str)) (place : List Str) (i : Nat) (ys : List Value) (nw : List (Addr × Obj)) : Prop :=
  ∃ add, nw = add ++ base ∧ (∀ q ∈ base, ∀ p ∈ add, q.1 ≠ p.1) ∧ DatAll add ys ((((List.range i).map place.take).filter fun f => !decide (f ∈ there)).map strsD)
theorem fronts_succ {there : List (List Str)} {place : List Str} {i : Nat} : ((List.range (i + 1)).map place.take).filter (fun f => !decide (f ∈ there)) = ((List.range i).map place.take).filter (fun f => !decide (f ∈ there)) ++ (if place.take i ∈ there then [] else [place.take i]) := by
  rw [List.range_succ, List.map_append, List.filter_append]
  congr 1
  by_cases h : place.take i ∈ there <;> simp [h]
theorem FrJ.zero {base : List (Addr × Obj)} {there : List (List Str)} {place : List Str} : FrJ base there place 0 [] base := ⟨[], rfl, (fun _ _ _ h => by cases h), .nil⟩
theorem FrJ.no {base : List (Addr × Obj)} {there : List (List Str)} {place : List Str} {i : Nat} {ys : List Value} {nw : List (Addr × Obj)} (h : FrJ base there place i ys nw) (hm : place.take i ∈ there) : FrJ base there place (i + 1) ys nw := by
  obtain ⟨add, e, h1, h2⟩ := h
  refine ⟨add, e, h1, ?_⟩
  rw [fronts_succ, if_pos hm, List.append_nil]; exact h2
theorem FrJ.yes {base : List (Addr × Obj)} {there : List (List Str)} {place : List Str} {i : Nat} {ys : List Value} {nw : List (Addr × Obj)} {C : Addr} {us : List Value} {n : Nat} (h : FrJ base there place i ys nw) (hm : place.take i ∉ there) (hs : StrsAre us (place.take i)) (hn : ∀ q ∈ nw, q.1 ≠ C) :
    FrJ base there place (i + 1) (ys ++ [.ref C]) ((C, listOf us.toArray n) :: nw) := by
  obtain ⟨add, rfl, h1, h2⟩ := h
  refine ⟨(C, listOf us.toArray n) :: add, rfl, fun q hq p hp => ?_, ?_⟩
  · rcases List.mem_cons.mp hp with rfl | hp
    · exact hn q (List.mem_append_right _ hq)
    · exact h1 q hq p hp
  · rw [fronts_succ, if_neg hm, List.map_append]
    exact DatAll.append (h2.mono fun p hp => List.mem_cons_of_mem _ hp) (.one (.list (List.Mem.head _) (StrsAre.dat hs)))
theorem FrJ.sub {base : List (Addr × Obj)} {there : List (List Str)} {place : List Str} {i : Nat} {ys : List Value} {nw : List (Addr × Obj)} (h : FrJ base there place i ys nw) : ∀ p ∈ base, p ∈ nw := by
  obtain ⟨add, rfl, _⟩ := h
  exact fun p hp => List.mem_append_right _ hp
theorem up3 {a b c p : Addr × Obj} {l : List (Addr × Obj)} (h : p ∈ l) : p ∈ a :: b :: c :: l := List.mem_cons_of_mem _ (List.mem_cons_of_mem _ (List.mem_cons_of_mem _ h))
theorem fronts_ok {there : List (List Str)} {place : List Str} (h : OkL place) : ∀ a ∈ frontsF there place, OkL a := by
  intro a ha y hy
  obtain ⟨i, _, rfl⟩ := List.mem_map.mp (List.mem_filter.mp ha).1
  exact h y (List.mem_of_mem_take hy)
section
variable {prog : Program} {w : World} {A : Around} {E : Value → Shared → Prop} {s : Shared} {h₀ : Heap} {L D B : Addr} {news n₁ : List (Addr × Obj)} {n k : Nat} {us : List Value} {fs : List (List Str)} {Q : Value → Shared → Prop}
theorem r_eqe (N : News h₀ L s.heap news) (mA : (D, listOf us.toArray n) ∈ news) (mB : (B, listOf #[] k) ∈ news) (ha : DatAll n₁ us (fs.map strsD)) (sa : ∀ p ∈ n₁, p ∈ news)
    (oa : ∀ a ∈ fs, OkL a) (hu : A.units + 64 < cLine) (h : ∀ b : Bool, (b = true ↔ fs = []) → Q (.bool b) s) : wpAny (model prog w) A (compareOp .Eq (.ref D) (.ref B)) Q E s :=
  kqd_eq (es := []) (n₂ := []) (ys := []) N mA rfl rfl ha sa mB rfl rfl .nil (fun _ h => nomatch h) (kqd_map oa) (fun _ h => nomatch h) hu (h _ (by simp only [decide_eq_true_eq, List.map_eq_nil_iff]))
end
theorem joinD_len {f : List Str} (h : (f.map (·.length)).sum + f.length ≤ 400) : (Txt.join (Str.ofString "//") f).length ≤ 1000 := by
  have e := glued_len (Str.ofString "//") f
  have e1 : (Str.ofString "//").length = 2 := by decide
  rw [e1] at e
  omega
theorem joinS_len {f : List Str} (h : (f.map (·.length)).sum + f.length ≤ 400) : (Txt.join (Str.ofString "/") f).length ≤ 1000 := by
  have e := glued_len (Str.ofString "/") f
  have e1 := slash_len
  rw [e1] at e
  omega
theorem sum_take (f : List Str) : ∀ i, ((f.take i).map (·.length)).sum + (f.take i).length ≤ (f.map (·.length)).sum + f.length := by
  induction f with
  | nil => intro i; simp
  | cons y f ih =>
    intro i
    cases i with
    | zero => simp
    | succ i =>
      have := ih i
      simp only [List.take_succ_cons, List.map_cons, List.sum_cons, List.length_cons]
      omega
theorem fronts_sz {there : List (List Str)} {place f : List Str} (h : (place.map (·.length)).sum + place.length ≤ 400) (hf : f ∈ frontsF there place) : (f.map (·.length)).sum + f.length ≤ 400 := by
  obtain ⟨i, _, rfl⟩ := List.mem_map.mp (List.mem_filter.mp hf).1
  exact Nat.le_trans (sum_take place i) h
theorem fronts_len {there : List (List Str)} {place : List Str} : (frontsF there place).length ≤ place.length + 1 := by
  unfold frontsF
  refine Nat.le_trans (List.length_filter_le _ _) ?_
  simp
theorem dat_at {nw : List (Addr × Obj)} {ys : List Value} {fs : List (List Str)} {i : Nat} {v : Value} (h : DatAll nw ys (fs.map strsD)) (hv : ys[i]? = some v) : ∃ f, fs[i]? = some f ∧ ∃ a vs n, v = .ref a ∧ (a, listOf vs.toArray n) ∈ nw ∧ StrsAre vs f := by
  have hi := (List.getElem?_eq_some_iff.mp hv).1
  rw [h.length] at hi
  obtain ⟨u, hu, hd⟩ := h.get hi
  obtain rfl : v = u := Option.some.inj (hv.symm.trans hu)
  rw [List.getElem_map] at hd
  rw [List.length_map] at hi
  exact ⟨fs[i], List.getElem?_eq_getElem hi, dat_strs hd⟩
theorem dat_rev {nw : List (Addr × Obj)} : ∀ {ys : List Value} {ds : List Dat}, DatAll nw ys ds → DatAll nw ys.reverse ds.reverse
  | _, _, .nil => .nil
  | _, _, .cons h r => by rw [List.reverse_cons, List.reverse_cons]; exact DatAll.append (dat_rev r) (.one h)
theorem dat_drop {nw : List (Addr × Obj)} {ys : List Value} {ds : List Dat} (h : DatAll nw ys ds) : DatAll nw (ys.drop 1) (ds.drop 1) := by
  cases h with
  | nil => exact .nil
  | cons _ r => exact r
theorem dat_down {nw : List (Addr × Obj)} {ys : List Value} {fs : List (List Str)} (h : DatAll nw ys (fs.map strsD)) : DatAll nw (ys.drop 1).reverse ((fs.drop 1).reverse.map strsD) := by
  rw [List.map_reverse, List.map_drop]; exact dat_rev (dat_drop h)
def tup3 (x y z : Value) : Obj := { cls := .type "tuple", data := .seq #[x, y, z] }
def DueJ (base : List (Addr × Obj)) (Du : Addr) (m0 : Str → Option Value) (dn : List (Str × Str × Str)) (m' : Str → Option Value) (mu z : List (Addr × Obj)) : Prop :=
  Upto [Str.ofString "front"] m0 m' ∧ ∃ add rs nn, z = add ++ base ∧ mu = [(Du, listOf (List.toArray rs) nn)] ∧ DatAll add rs (dn.map entD) ∧ ∀ q ∈ base, ∀ p ∈ add, q.1 ≠ p.1
section
variable {base add z mu : List (Addr × Obj)} {Du T : Addr} {m0 m' : Str → Option Value} {dn : List (Str × Str × Str)} {rs : List Value} {nn : Nat} {P : Prop} {x y u : Str} {tx ty tu : Tok}
theorem DueJ.intro (hU : Upto [Str.ofString "front"] m0 m') (hd : DatAll add rs (dn.map entD)) (hs : ∀ q ∈ base, ∀ p ∈ add, q.1 ≠ p.1) : DueJ base Du m0 dn m' [(Du, listOf rs.toArray nn)] (add ++ base) := ⟨hU, add, rs, nn, rfl, rfl, hd, hs⟩
theorem DueJ.elim (h : DueJ base Du m0 dn m' mu z) (k : ∀ add rs nn, z = add ++ base → mu = [(Du, listOf rs.toArray nn)] → DatAll add rs (dn.map entD) → (∀ q ∈ base, ∀ p ∈ add, q.1 ≠ p.1) → Upto [Str.ofString "front"] m0 m' → P) : P := by
  obtain ⟨hU, add, rs, nn, h1, h2, h3, h4⟩ := h
  exact k add rs nn h1 h2 h3 h4 hU
theorem DueJ.snoc (hz : z = add ++ base) (hU : Upto [Str.ofString "front"] m0 m') (hd : DatAll add rs (dn.map entD)) (hs : ∀ q ∈ base, ∀ p ∈ add, q.1 ≠ p.1) (hT : ∀ q ∈ base, q.1 ≠ T) :
    DueJ base Du m0 (dn ++ [(x, y, u)]) m' [(Du, listOf (rs ++ [Value.ref T]).toArray nn)] ([(T, tup3 (.str x tx) (.str y ty) (.str u tu))] ++ z) := by
  subst hz
  refine ⟨hU, _ :: add, _, _, rfl, rfl, ?_, fun q hq p hp => ?_⟩
  · rw [List.map_append]
    exact DatAll.append (hd.mono fun p hp => List.mem_cons_of_mem _ hp) (.one (.tuple (vs := [.str x tx, .str y ty, .str u tu]) (n := 0) (List.Mem.head _) (.cons (.str _ _) (.cons (.str _ _) (.cons (.str _ _) .nil)))))
  · rcases List.mem_cons.mp hp with rfl | hp
    · exact hT q hq
    · exact hs q hq p hp
theorem DueJ.turn {g h' : Heap} {L a : Addr} {oa : Obj} {v : Option Value} {yl : List (Addr × Obj)} {s : Shared} {Q : Flow → Shared → Prop} {tk' : Nat} (F : Fr g L h' (fun y => if y = Str.ofString "front" then v else m0 y))
    (N : News g L h' ((T, tup3 (.str x tx) (.str y ty) (.str u tu)) :: (Du, listOf (rs ++ [Value.ref T]).toArray (nn + 1)) :: (a, oa) :: yl)) (l1 : Du < T ∧ a < T ∧ AllLt T yl) (hzy : ∀ p ∈ z, p ∈ yl) (hz : z = add ++ base) (hd : DatAll add rs (dn.map entD)) (hs : ∀ q ∈ base, ∀ p ∈ add, q.1 ≠ p.1) :
    LoopPost g L [(Du, listOf rs.toArray nn)] yl z (fun m' mu z => DueJ base Du m0 (dn ++ [(x, y, u)]) m' mu z) s Q .next { s with heap := h', toks := tk' } := by
  have hlt := allLt_mem l1.2.2
  refine LoopPost.nx [(Du, listOf (rs ++ [Value.ref T]).toArray (nn + 1))] [(T, tup3 (.str x tx) (.str y ty) (.str u tu))] F (led_sub N ?_) (fun q hq p hp => ?_) (DueJ.snoc hz (Upto.set (Upto.refl _ _) (List.Mem.head _)) hd hs fun q hq => Nat.ne_of_lt (hlt q (hzy q (hz ▸ List.mem_append_right _ hq))))
  · exact List.forall_mem_cons.mpr ⟨List.mem_cons_of_mem _ (List.Mem.head _), List.forall_mem_cons.mpr ⟨List.Mem.head _, fun p hp => List.mem_cons_of_mem _ (List.mem_cons_of_mem _ (List.mem_cons_of_mem _ hp))⟩⟩
  · rw [List.mem_singleton.mp hp]
    rcases List.mem_cons.mp hq with rfl | hq
    · exact Nat.ne_of_lt l1.1
    · exact Nat.ne_of_lt (hlt q hq)
end
theorem off3_cons {I C D a : Addr} {o : Obj} {l : List (Addr × Obj)} (h1 : @Ne Nat a I) (h2 : @Ne Nat a C) (h3 : @Ne Nat a D) (h : LCg.Off3 I C D l) : LCg.Off3 I C D ((a, o) :: l) := ⟨⟨h1, h2, h3⟩, h⟩
section
variable {w : World} {A : Around} {s : Shared} {h₀ : Heap} {L : Addr} {m : Str → Option Value} {news : List (Addr × Obj)} {p : Program} {loose : List Str} {mg mb : Str → Option Value} {Q E : Value → Shared → Prop}
theorem c_due {D B : Addr} {ts vs : List Value} {n k : Nat} {root : Str} {t : Tok} {there : List (List Str)} {place : List Str} {n₁ : List (Addr × Obj)}
    (F : Fr h₀ L s.heap m) (N : News h₀ L s.heap news) (X : (Mine.hd.heap_39 w.params).In h₀) (T : TopRead p loose mg mb h₀) (hh : A.handled = none) (hd : A.depth + 20 < recursionLimit) (hu : A.units + 100 < cLine) (mD : (D, listOf ts.toArray n) ∈ news) (mB : (B, listOf vs.toArray k) ∈ news) (hT : DatAll n₁ ts (there.map strsD)) (hsub : ∀ p ∈ n₁, p ∈ news) (hB : StrsAre vs place)
    (hok : ∀ a ∈ there, OkL a) (hp : OkL place) (hsz : (place.map (·.length)).sum + place.length ≤ 400) (hr : root.length ≤ 10)
    (hQ : ∀ C ws j add h' tk' , Fr h₀ L h' m → News h₀ L h' ((C, listOf ws.toArray j) :: (add ++ news)) → (∀ q ∈ news, q.1 ≠ C) → (∀ q ∈ news, ∀ p ∈ add, q.1 ≠ p.1) → DatAll add ws ((dueF there root place).map entD) → Q (.ref C) { s with heap := h', toks := tk' }) :
    wpAny (model PySem.Challenge.rw_pd0100_01.row.prog w) A (call (.ref 204) [.ref D, .str root t, .ref B]) Q E s := by
  obtain ⟨hp0, gn, dr, tk0, os0⟩ := s
  obtain ⟨ha, dp, fr, gd, un⟩ := A
  obtain rfl : ha = none := hh
  replace hd : dp + 20 < recursionLimit := hd
  replace hu : un + 100 < cLine := hu
  refine' enterC (binds := [(Str.ofString "there", .ref D), (Str.ofString "root", .str root t), (Str.ofString "place", .ref B)]) F N X T ?k1 ?k2 ?k3 (BindsTo.of_eq ?k4) ?k5 ?k6 ?_ ?c1 ?c2 ?c3
  (case k3 => exact Nat.lt_of_le_of_lt (Nat.le_add_right dp 20) hd)
  (case k1 => k_is)
  (case k2 => k_is)
  (case k4 => exact rfl)
  (case k5 => exact rfl)
  (case k6 => decide +kernel)
  (case c1 => exact rfl)
  (case c2 => exact rfl)
  (case c3 => exact rfl)
  intro g L' h₁ tk cells hlt F' N' C' X' T'
  clear F N X T
  k_cells C'
  rename_i om ox dm dx
  simp only [List.cons_append, List.nil_append] at N'
  show wpAny _ _ _ _ _ _
  k_fold
  repeat' (first
    | (k_unfold; (try dsimp only))
    | ((with_reducible show wpAny _ _ (exec (Stmt.Assign _ (Expr.ListComp _ _ _ _) _) _) _ _ _); refine stop_of ?_)
    | walk1
    | (dsimp only; walk1))
  refine Stop.go ?_
  refine LCt.Assign_ListComp_T (F₀ := by k_asm) (by rfl) (by with_unfolding_all rfl) (by with_unfolding_all rfl) (by decide) (by rfl) (by decide) (by rfl) (by rfl) (by rfl) ?_
  have hvl : vs.length ≤ 400 := by rw [StrsAre.len hB]; omega
  show wpAny _ _ _ _ _ _
  repeat' (first
    | (k_unfold; (try dsimp only))
    | ((with_reducible show wpAny _ _ (PySem.call (Value.builtin "len") _ _) _ _ _); (refine' KM.len_K ?zN ?zm ?ze ?zf ?_; (case zN => k_asm); (case zm => (first | k_mem | (repeat (first | assumption | apply List.mem_cons_of_mem)))); (case ze => exact List.size_toArray); (case zf => omega)))
    | ((with_reducible show LCt.CompSrcT _ _ _ _ _ _ _ _ _ _ _ _ _ _ _); refine stop_of ?_)
    | walk1
    | (dsimp only; walk1))
  refine Stop.go ?_
  rename Fr g L' _ _ => F9
  rename News g L' _ _ => N9
  rename IsRange _ _ _ _ _ _ _ _ => hR
  refine LCt.CompSrcT.range rfl F9 N9 hR (small_one (by decide) (by decide) (by omega) (by omega)) (rangeSize_nat _ _) (by rw [sizeLine_eq]; omega) ?_
  intro g'
  refine comp_invT (FrJ ((L' + 1 + 1, om) :: (L' + 1, ox) :: news) there place) FrJ.zero ?turn ?fin
  case turn =>
    rintro i ys nw v I oI C oC E1 m₂ h tk1 E' hi ⟨tv, rfl⟩ hJ hC hx1 F1 N1 off ne
    rw [Int.zero_add] at hx1
    have hin := hJ.sub
    replace hT := hT.mono fun p hp => hin p (List.mem_cons_of_mem _ (List.mem_cons_of_mem _ (hsub p hp)))
    have mD := hin _ (List.mem_cons_of_mem _ (List.mem_cons_of_mem _ mD))
    have mB := hin _ (List.mem_cons_of_mem _ (List.mem_cons_of_mem _ mB))
    have mo := hin _ (List.Mem.head _)
    have mx := hin _ (List.mem_cons_of_mem _ (List.Mem.head _))
    clear F9 N9
    have htk := StrsAre.take hB i
    have hpt : OkL (place.take i) := fun y hy => hp y (List.mem_of_mem_take hy)
    replace N1 : News g L' h ((L' + 1 + 1, om) :: (L' + 1, ox) :: (D, listOf ts.toArray n) :: (B, listOf vs.toArray k) :: (I, oI) :: (C, oC) :: (E1, LCg.lst ys) :: nw) := led_sub N1 (List.forall_mem_cons.mpr ⟨up3 mo, List.forall_mem_cons.mpr ⟨up3 mx, List.forall_mem_cons.mpr ⟨up3 mD, List.forall_mem_cons.mpr ⟨up3 mB, fun _ h => h⟩⟩⟩⟩)
    repeat' (first
    | (k_unfold; (try dsimp only))
    | ((with_reducible show wpAny _ _ (subscriptTail _ (Expr.Slice _ _ _ _) (Value.ref _) (Value.ref _)) _ _ _); (refine' kmk_slice_lit ?zF ?zN ?zl ?zp ?zq  (e := pick_take _ _) ?_ ?zs ?zt ?zz; (case zF => k_asm); (case zN => k_asm); (case zl => exact News.isList (by k_asm) (by k_mem)); (case zp => kmk_part); (case zq => kmk_part); (case zs => with_unfolding_all rfl); (case zt => kmk_pure); (case zz => (rw [List.size_toArray, sizeLine_eq]; omega))); intro D' h' F' N' l1; (try k_lt l1); (try k_sweep))
    | ((with_reducible show wpAny _ _ (compareOp CmpOp.NotIn (Value.ref _) (Value.ref _)) _ _ _); (refine' r_notin ?k0 ?k1 ?k2 ?k3 ?k4 ?k5 ?k6 ?k7 ?k8 ?_; (case k0 => k_asm); (case k1 => k_mem); (case k2 => k_mem); (case k3 => (first | with_reducible assumption | assumption)); (case k4 => (intro p9 h9; (repeat (first | exact h9 | apply List.mem_cons_of_mem)))); (case k5 => (first | assumption | exact StrsAre.nil)); (case k6 => (first | with_reducible assumption | assumption)); (case k7 => (first | with_reducible assumption | assumption)); (case k8 => (first | omega | (simp only [units_deeper, units_in1]; (try dsimp only); omega)))); intro b' hb')
    | ((with_reducible show LCg.CompEnd _ _ _ _ _ _ _ _ _ _ _ _ _ _); refine stop_of ?_)
    | walk1
    | (dsimp only; walk1))
    · rename (_ = true ↔ ¬ place.take i ∈ there) => hb
      rename Fr g L' _ _ => F9
      rename News g L' _ _ => N9
      have l9 := allLt_mem l1.2.2.2.2.2.2.2.2
      exact Stop.go (LCg.CompEnd.intro F9 N9 ((D', listOf (vs.take i).toArray 0) :: nw) (List.forall_mem_cons.mpr ⟨by k_mem, List.forall_mem_cons.mpr ⟨by k_mem, List.forall_mem_cons.mpr ⟨by k_mem, List.forall_mem_cons.mpr ⟨by k_mem, (fun p h9 => (by repeat (first | exact h9 | apply List.mem_cons_of_mem)))⟩⟩⟩⟩)
        (off3_cons (Nat.ne_of_gt l1.2.2.2.2.2.1) (Nat.ne_of_gt l1.2.2.2.2.2.2.1) (Nat.ne_of_gt l1.2.2.2.2.2.2.2.1) off) True.intro (hJ.yes (hb.mp (by assumption)) htk fun q hq => Nat.ne_of_lt (l9 q hq)))
    · rename (_ = true ↔ ¬ place.take i ∈ there) => hb
      rename Fr g L' _ _ => F9
      rename News g L' _ _ => N9
      exact Stop.go (LCg.CompEnd.intro F9 N9 nw (List.forall_mem_cons.mpr ⟨by k_mem, List.forall_mem_cons.mpr ⟨by k_mem, List.forall_mem_cons.mpr ⟨by k_mem, (fun p h9 => (by repeat (first | exact h9 | apply List.mem_cons_of_mem)))⟩⟩⟩) off True.intro (hJ.no (Classical.byContradiction (iff_no hb (by assumption)))))
  case fin =>
    intro ys nw hJ D2 h2 tk2 F2 N2 o2
    clear F9 N9
    rw [show ((vs.length : Int) + 1 - 0).toNat = place.length + 1 by rw [StrsAre.len hB]; omega] at hJ
    obtain ⟨add, rfl, hadd, hdat⟩ := hJ
    replace hdat : DatAll add ys ((frontsF there place).map strsD) := hdat
    have hok2 := fronts_ok (there := there) hp
    have hD2 := off1_mem o2
    replace N2 : News g L' h2 ((D2, listOf ys.toArray ys.length) :: (L' + 1 + 1, om) :: (L' + 1, ox) :: (D, listOf ts.toArray n) :: (B, listOf vs.toArray k) :: (add ++ news)) := led_sub N2 (List.forall_mem_cons.mpr ⟨List.Mem.head _, List.forall_mem_cons.mpr ⟨List.mem_cons_of_mem _ (List.mem_append_right _ (List.Mem.head _)), List.forall_mem_cons.mpr ⟨List.mem_cons_of_mem _ (List.mem_append_right _ (List.mem_cons_of_mem _ (List.Mem.head _))),
      List.forall_mem_cons.mpr ⟨List.mem_cons_of_mem _ (List.mem_append_right _ (List.mem_cons_of_mem _ (List.mem_cons_of_mem _ mD))), List.forall_mem_cons.mpr ⟨List.mem_cons_of_mem _ (List.mem_append_right _ (List.mem_cons_of_mem _ (List.mem_cons_of_mem _ mB))), fun p hp => List.mem_cons_of_mem _ ((List.mem_append.mp hp).elim (List.mem_append_left _) fun h => List.mem_append_right _ (List.mem_cons_of_mem _ (List.mem_cons_of_mem _ h)))⟩⟩⟩⟩⟩)
    have hjd := joinD_len hsz
    have hyl : ys.length ≤ 401 := by rw [hdat.length, List.length_map]; exact Nat.le_trans fronts_len (by omega)
    dsimp only
    repeat' (first
    | (k_unfold; (try dsimp only))
    | ((with_reducible show wpAny _ _ (compareOp CmpOp.Eq (Value.ref _) (Value.ref _)) _ _ _); (refine' r_eqe ?k0 ?k1 ?k2 ?k3 ?k4 ?k5 ?k6 ?_; (case k0 => k_asm); (case k1 => k_mem); (case k2 => k_mem); (case k3 => (first | with_reducible assumption | assumption)); (case k4 => (intro p9 h9; (repeat (first | exact h9 | exact List.mem_append_left _ h9 | apply List.mem_cons_of_mem)))); (case k5 => (first | with_reducible assumption | assumption)); (case k6 => (first | omega | (simp only [units_deeper, units_in1]; (try dsimp only); omega)))); intro b' hb')
    | ((with_reducible show wpAny _ _ (PySem.call (Value.builtin "str.join") _ _) _ _ _); (refine' r_joinT ?k0 ?k1 ?k2 ?k3 ?_; (case k0 => k_asm); (case k1 => k_mem); (case k2 => (first | with_reducible assumption | assumption)); (case k3 => ((have e1 : (Str.ofString "//").length = 2 := by decide); (have e2 := slash_len); (first | rw [e1] | rw [e2]); omega))); intro t' k' hj' hk'; (dsimp only at hk'); (try k_sweep))
    | ((with_reducible show wpAny _ _ (PySem.call (Value.ref 180) _ _) _ _ _); (refine' c_answer ?k0 ?k1 ?k2 ?k3 ?k4 ?k5 ?k6 ?k7 ?k8 ?k9 ?k10 ?_; (case k0 => k_asm); (case k1 => k_asm); (case k2 => k_asm); (case k3 => k_asm); (case k4 => exact rfl); (case k5 => (first | omega | (simp only [depth_deeper, depth_in1, units_deeper, units_in1]; (try dsimp only); omega))); (case k6 => k_mem); (case k7 => (first | with_reducible assumption | assumption)); (case k8 => omega); (case k9 => (exact Nat.le_of_ble_eq_true rfl)); (case k10 => (exact Nat.le_of_ble_eq_true rfl))); intro t' h' tk' F' N'; (try k_sweep))
    | ((with_reducible show wpAny _ _ (exec (Stmt.For _ _ _ _ _) _) _ _ _); refine stop_of ?_)
    | walk1
    | (dsimp only; walk1))
    · rename Fr g L' _ _ => F9
      rename News g L' _ _ => N9
      rename _ ∧ _ ∧ _ ∧ _ ∧ _ ∧ _ ∧ _ ∧ AllLt _ _ => hl8
      rename _ ∧ _ ∧ _ ∧ _ ∧ _ ∧ _ ∧ AllLt _ _ => hl7
      refine Back.intro F9 (led_sub N9 (List.forall_mem_cons.mpr ⟨List.Mem.head _, List.forall_mem_cons.mpr ⟨List.mem_cons_of_mem _ (List.Mem.head _), fun p h9 => (by repeat (first | exact List.mem_append_right _ h9 | apply List.mem_cons_of_mem))⟩⟩)) fun F N => hQ _ _ _ [_] _ _ F N
        (fun q hq => Nat.ne_of_lt (allLt_mem hl8.2.2.2.2.2.2.2 q (List.mem_append_right _ hq))) (fun q hq p hp => by rw [List.mem_singleton.mp hp]; exact Nat.ne_of_lt (allLt_mem hl7.2.2.2.2.2.2 q (List.mem_append_right _ hq))) ?_
      rw [show dueF there root place = _ from if_pos (hb'.mp (by assumption))]
      exact .one (.tuple (List.Mem.head _) (.cons (.str _ _) (.cons (.str _ _) (.cons (.str _ _) .nil))))
    refine Stop.go ?_
    refine For_invV g rfl rfl ?_ (hE := PassesOwn.never)
    repeat' (first
    | (k_unfold; (try dsimp only))
    | ((with_reducible show wpAny _ _ (subscriptTail _ (Expr.Slice none (some _) (some _) _) (Value.ref _) (Value.ref _)) _ _ _); (refine' kmk_slice3_lit ?zF ?zN ?zl ?zp ?zq ?zk ?zo (e := pick_down _) ?_ ?zs ?zt ?zz; (case zF => k_asm); (case zN => k_asm); (case zl => exact News.isList (by k_asm) (by k_mem)); (case zp => kmk_part); (case zq => kmk_part); (case zk => kmk_part); (case zo => decide); (case zs => with_unfolding_all rfl); (case zt => kmk_pure); (case zz => (rw [List.size_toArray, sizeLine_eq]; omega))); intro D' h' F' N' l1; (try k_lt l1); (try k_sweep))
    | ((with_reducible show wpAny _ _ (pyIter _) _ _ _); refine stop_of ?_)
    | walk1
    | (dsimp only; walk1))
    refine Stop.go ?_
    rename Fr g L' _ _ => F9
    rename News g L' _ _ => N9
    rename_i Du hh1 hl7 hh2
    have hn1 : ∀ p ∈ add ++ news, p.1 ≠ Du := fun p hp => Nat.ne_of_lt (allLt_mem hl7.2.2.2.2.2.2 p hp)
    obtain ⟨base, hb1, hb2, hb3, hzz, N10⟩ : ∃ base, (D', listOf (ys.drop 1).reverse.toArray 0) ∈ base ∧ (D2, listOf ys.toArray ys.length) ∈ base ∧ (∀ p ∈ add ++ news, p ∈ base) ∧ (∀ p ∈ base, p.1 ∉ [Du]) ∧ News g L' h' ([(Du, listOf ([] : List Value).toArray 0)] ++ base) :=
      ⟨(D', listOf (ys.drop 1).reverse.toArray 0) :: (D2, listOf ys.toArray ys.length) :: (add ++ news), List.Mem.head _, List.mem_cons_of_mem _ (List.Mem.head _), fun p hp => List.mem_cons_of_mem _ (List.mem_cons_of_mem _ hp),
        List.forall_mem_cons.mpr ⟨fun hq => Nat.ne_of_gt l1.1 (List.mem_singleton.mp hq), List.forall_mem_cons.mpr ⟨fun hq => Nat.ne_of_lt hl7.2.1 (List.mem_singleton.mp hq), fun p hp hq => hn1 p hp (List.mem_singleton.mp hq)⟩⟩,
        led_sub N9 (List.forall_mem_cons.mpr ⟨List.mem_cons_of_mem _ (List.Mem.head _), List.forall_mem_cons.mpr ⟨List.Mem.head _, List.forall_mem_cons.mpr ⟨by k_mem, fun p h9 => (by repeat (first | exact h9 | apply List.mem_cons_of_mem))⟩⟩⟩)⟩
    clear N9
    refine for_list (adr := [Du]) (mu₀ := [(Du, listOf ([] : List Value).toArray 0)]) (z₀ := base) (vs := (ys.drop 1).reverse) (nl := 0)
      (fun m0 _ i m' mu z => DueJ base Du m0 ((((frontsF there place).drop 1).reverse.take i).map (noF root)) m' mu z) rfl F9 N10 hzz hb1 ?hJ ?hj ?turn ?done
    case hJ => intro i m1 mu z h; exact h.elim fun add1 rs nn hz hmu hd1 hsep hU => by rw [hmu]; rfl
    case hj => exact DueJ.intro (add := []) (Upto.refl _ _) .nil (fun _ _ _ h => nomatch h)
    case turn =>
      intro i v m1 mu z yl h3 tk3 hv hJ hsub hyl F3 N3
      refine hJ.elim fun add1 rs nn hz hmu hd1 hsep hU => ?_
      obtain ⟨f, hf, a, us, n1, rfl, ha, hs1⟩ := dat_at (dat_down hdat) hv
      rw [Upto.one hU] at F3
      have hfm : f ∈ frontsF there place := List.mem_of_mem_drop (List.mem_reverse.mp (List.mem_of_getElem? hf))
      have hfz := fronts_sz hsz hfm
      have hjd := joinD_len hfz
      have hay : (a, listOf us.toArray n1) ∈ yl := hsub _ (hz ▸ List.mem_append_right _ (hb3 _ (List.mem_append_left _ ha)))
      have hyD : ∀ p ∈ yl, p.1 ≠ Du := fun p hp e => hyl p hp (List.mem_singleton.mpr e)
      have haD : @Ne Nat a Du := hyD _ hay
      subst hmu
      replace F3 : Fr g L' h3 _ := F3
      replace N3 : News g L' h3 ((Du, listOf rs.toArray nn) :: (a, listOf us.toArray n1) :: yl) := led_sub N3 (List.forall_mem_cons.mpr ⟨List.Mem.head _, List.forall_mem_cons.mpr ⟨List.mem_cons_of_mem _ hay, fun p hp => List.mem_cons_of_mem _ hp⟩⟩)
      have hrl : rs.length ≤ 1000 := by
        rw [hd1.length, List.length_map, List.length_map]
        refine Nat.le_trans (List.length_take_le _ _) ?_
        exact Nat.le_trans (Nat.le_of_lt (List.getElem?_eq_some_iff.mp hv).1) (by rw [List.length_reverse]; exact Nat.le_trans (by rw [List.length_drop]; exact Nat.sub_le _ _) (Nat.le_trans (by assumption) (by decide)))
      clear F9 N10 hB
      show wpAny _ _ _ _ _ _
      k_fold
      repeat' (first
    | (k_unfold; (try dsimp only))
    | ((with_reducible show wpAny _ _ (PySem.call (Value.builtin "str.join") _ _) _ _ _); (refine' r_joinT ?k0 ?k1 ?k2 ?k3 ?_; (case k0 => k_asm); (case k1 => k_mem); (case k2 => (first | with_reducible assumption | assumption)); (case k3 => ((have e1 : (Str.ofString "//").length = 2 := by decide); (have e2 := slash_len); (first | rw [e1] | rw [e2]); omega))); intro t' k' hj' hk'; (dsimp only at hk'); (try k_sweep))
    | ((with_reducible show wpAny _ _ (PySem.call (Value.ref 180) _ _) _ _ _); (refine' c_answer ?k0 ?k1 ?k2 ?k3 ?k4 ?k5 ?k6 ?k7 ?k8 ?k9 ?k10 ?_; (case k0 => k_asm); (case k1 => k_asm); (case k2 => k_asm); (case k3 => k_asm); (case k4 => exact rfl); (case k5 => (first | omega | (simp only [depth_deeper, depth_in1, units_deeper, units_in1]; (try dsimp only); omega))); (case k6 => k_mem); (case k7 => (first | with_reducible assumption | assumption)); (case k8 => omega); (case k9 => (exact Nat.le_of_ble_eq_true rfl)); (case k10 => (exact Nat.le_of_ble_eq_true rfl))); intro t' h' tk' F' N'; (try k_sweep))
    | ((with_reducible show wpAny _ _ (PySem.call (Value.builtin "list.append") _ _) _ _ _); (refine' r_appendU ?k0 ?k1 ?k2 ?k3 ?_; (case k0 => k_asm); (case k1 => k_asm); (case k2 => (first | (refine' Upd.head ?zu6; (case zu6 => (repeat' (first | assumption | (exact List.forall_mem_nil _) | k_ne | (refine' List.forall_mem_cons.mpr ⟨?_, ?_⟩))))) | (refine' Upd.tail ?zv6 ?zw6; (case zv6 => first | k_ne | assumption); (case zw6 => (first | (refine' Upd.head ?zu5; (case zu5 => (repeat' (first | assumption | (exact List.forall_mem_nil _) | k_ne | (refine' List.forall_mem_cons.mpr ⟨?_, ?_⟩))))) | (refine' Upd.tail ?zv5 ?zw5; (case zv5 => first | k_ne | assumption); (case zw5 => (first | (refine' Upd.head ?zu4; (case zu4 => (repeat' (first | assumption | (exact List.forall_mem_nil _) | k_ne | (refine' List.forall_mem_cons.mpr ⟨?_, ?_⟩))))) | (refine' Upd.tail ?zv4 ?zw4; (case zv4 => first | k_ne | assumption); (case zw4 => (first | (refine' Upd.head ?zu3; (case zu3 => (repeat' (first | assumption | (exact List.forall_mem_nil _) | k_ne | (refine' List.forall_mem_cons.mpr ⟨?_, ?_⟩))))) | (refine' Upd.tail ?zv3 ?zw3; (case zv3 => first | k_ne | assumption); (case zw3 => (first | (refine' Upd.head ?zu2; (case zu2 => (repeat' (first | assumption | (exact List.forall_mem_nil _) | k_ne | (refine' List.forall_mem_cons.mpr ⟨?_, ?_⟩))))) | (refine' Upd.tail ?zv2 ?zw2; (case zv2 => first | k_ne | assumption); (case zw2 => (first | (refine' Upd.head ?zu1; (case zu1 => (repeat' (first | assumption | (exact List.forall_mem_nil _) | k_ne | (refine' List.forall_mem_cons.mpr ⟨?_, ?_⟩))))) | (refine' Upd.tail ?zv1 ?zw1; (case zv1 => first | k_ne | assumption); (case zw1 => (refine' Upd.head ?zu0; (case zu0 => (repeat' (first | assumption | (exact List.forall_mem_nil _) | k_ne | (refine' List.forall_mem_cons.mpr ⟨?_, ?_⟩)))))))))))))))))))))))); (case k3 => (first | omega | (simp only [List.length_append, List.length_cons, List.length_nil]; omega)))); intro h' F' N'; (try k_sweep))
    | walk1
    | (dsimp only; walk1))
      rename Fr g _ _ _ => F9
      rename News g _ _ _ => N9
      rename _ ∧ _ ∧ AllLt _ yl => hl3
      have e : ((((frontsF there place).drop 1).reverse.take (i + 1)).map (noF root)) = (((frontsF there place).drop 1).reverse.take i).map (noF root) ++ [noF root f] := by rw [take_snoc hf, List.map_append]; rfl
      rw [e]
      exact DueJ.turn F9 N9 hl3 hsub hz hd1 hsep
    case done =>
      intro m1 mu z h3 tk3 hJ F3 N3 hz3
      refine hJ.elim fun add1 rs nn hz hmu hd1 hsep hU => ?_
      rw [List.take_of_length_le (by rw [List.length_reverse, List.length_reverse, List.length_drop, List.length_drop, hdat.length, List.length_map]; exact Nat.le_refl _)] at hd1
      subst hmu
      have F3 : Fr g L' h3 _ := Upto.eq1 hU ▸ F3
      clear F9 N10
      show wpAny _ _ _ _ _ _
      repeat' (first
    | (k_unfold; (try dsimp only))
    | ((with_reducible show wpAny _ _ (exec (Stmt.For _ _ _ _ _) _) _ _ _); refine stop_of ?_)
    | walk1
    | (dsimp only; walk1))
      refine Stop.go ?_
      refine For_invV g rfl rfl ?_ (hE := PassesOwn.never)
      repeat' (first
    | (k_unfold; (try dsimp only))
    | ((with_reducible show wpAny _ _ (pyIter _) _ _ _); refine stop_of ?_)
    | walk1
    | (dsimp only; walk1))
      refine Stop.go ?_
      rename Fr g _ _ _ => F9
      rename News g _ _ _ => N9
      refine for_list (adr := [Du]) (mu₀ := [(Du, listOf rs.toArray nn)]) (z₀ := z) (vs := ys) (nl := ys.length)
        (fun m0 _ i m' mu z => DueJ base Du m0 (((frontsF there place).drop 1).reverse.map (noF root) ++ ((frontsF there place).take i).map (yesF root)) m' mu z) rfl F9 N9 hz3 (hz ▸ List.mem_append_right _ hb2) ?hJ ?hj ?turn ?done
      case hJ => intro i m1 mu z h; exact h.elim fun add1 rs nn hz hmu hd1 hsep hU => by rw [hmu]; rfl
      case hj => rw [hz]; exact DueJ.intro (Upto.refl _ _) (by rw [List.take_zero, List.map_nil, List.append_nil]; exact hd1) hsep
      case turn =>
        clear hU
        intro i v m1 mu z yl h4 tk4 hv hJ hsub hyl F4 N4
        refine hJ.elim fun add2 rs2 nn2 hz2 hmu hd2 hsep2 hU => ?_
        obtain ⟨f, hf, a, us, n1, rfl, ha, hs1⟩ := dat_at hdat hv
        rw [Upto.one hU] at F4
        have hfz := fronts_sz hsz (List.mem_of_getElem? hf)
        have hjd := joinD_len hfz
        have hjs := joinS_len hfz
        have hay : (a, listOf us.toArray n1) ∈ yl := hsub _ (hz2 ▸ List.mem_append_right _ (hb3 _ (List.mem_append_left _ ha)))
        have hyD : ∀ p ∈ yl, p.1 ≠ Du := fun p hp e => hyl p hp (List.mem_singleton.mpr e)
        have haD : @Ne Nat a Du := hyD _ hay
        subst hmu
        replace F4 : Fr g L' h4 _ := F4
        replace N4 : News g L' h4 ((Du, listOf rs2.toArray nn2) :: (a, listOf us.toArray n1) :: yl) := led_sub N4 (List.forall_mem_cons.mpr ⟨List.Mem.head _, List.forall_mem_cons.mpr ⟨List.mem_cons_of_mem _ hay, fun p hp => List.mem_cons_of_mem _ hp⟩⟩)
        have hrl : rs2.length ≤ 1000 := by
          have h1 := fronts_len (there := there) (place := place)
          rw [hd2.length, List.length_map, List.length_append, List.length_map, List.length_map, List.length_reverse, List.length_drop, List.length_take]
          omega
        clear F9 N9 hB
        show wpAny _ _ _ _ _ _
        k_fold
        repeat' (first
    | (k_unfold; (try dsimp only))
    | ((with_reducible show wpAny _ _ (PySem.call (Value.builtin "str.join") _ _) _ _ _); (refine' r_joinT ?k0 ?k1 ?k2 ?k3 ?_; (case k0 => k_asm); (case k1 => k_mem); (case k2 => (first | with_reducible assumption | assumption)); (case k3 => ((have e1 : (Str.ofString "//").length = 2 := by decide); (have e2 := slash_len); (first | rw [e1] | rw [e2]); omega))); intro t' k' hj' hk'; (dsimp only at hk'); (try k_sweep))
    | ((with_reducible show wpAny _ _ (PySem.call (Value.builtin "list.append") _ _) _ _ _); (refine' r_appendU ?k0 ?k1 ?k2 ?k3 ?_; (case k0 => k_asm); (case k1 => k_asm); (case k2 => (first | (refine' Upd.head ?zu6; (case zu6 => (repeat' (first | assumption | (exact List.forall_mem_nil _) | k_ne | (refine' List.forall_mem_cons.mpr ⟨?_, ?_⟩))))) | (refine' Upd.tail ?zv6 ?zw6; (case zv6 => first | k_ne | assumption); (case zw6 => (first | (refine' Upd.head ?zu5; (case zu5 => (repeat' (first | assumption | (exact List.forall_mem_nil _) | k_ne | (refine' List.forall_mem_cons.mpr ⟨?_, ?_⟩))))) | (refine' Upd.tail ?zv5 ?zw5; (case zv5 => first | k_ne | assumption); (case zw5 => (first | (refine' Upd.head ?zu4; (case zu4 => (repeat' (first | assumption | (exact List.forall_mem_nil _) | k_ne | (refine' List.forall_mem_cons.mpr ⟨?_, ?_⟩))))) | (refine' Upd.tail ?zv4 ?zw4; (case zv4 => first | k_ne | assumption); (case zw4 => (first | (refine' Upd.head ?zu3; (case zu3 => (repeat' (first | assumption | (exact List.forall_mem_nil _) | k_ne | (refine' List.forall_mem_cons.mpr ⟨?_, ?_⟩))))) | (refine' Upd.tail ?zv3 ?zw3; (case zv3 => first | k_ne | assumption); (case zw3 => (first | (refine' Upd.head ?zu2; (case zu2 => (repeat' (first | assumption | (exact List.forall_mem_nil _) | k_ne | (refine' List.forall_mem_cons.mpr ⟨?_, ?_⟩))))) | (refine' Upd.tail ?zv2 ?zw2; (case zv2 => first | k_ne | assumption); (case zw2 => (first | (refine' Upd.head ?zu1; (case zu1 => (repeat' (first | assumption | (exact List.forall_mem_nil _) | k_ne | (refine' List.forall_mem_cons.mpr ⟨?_, ?_⟩))))) | (refine' Upd.tail ?zv1 ?zw1; (case zv1 => first | k_ne | assumption); (case zw1 => (refine' Upd.head ?zu0; (case zu0 => (repeat' (first | assumption | (exact List.forall_mem_nil _) | k_ne | (refine' List.forall_mem_cons.mpr ⟨?_, ?_⟩)))))))))))))))))))))))); (case k3 => (first | omega | (simp only [List.length_append, List.length_cons, List.length_nil]; omega)))); intro h' F' N'; (try k_sweep))
    | walk1
    | (dsimp only; walk1))
        rename Fr g _ _ _ => F9
        rename News g _ _ _ => N9
        rename _ ∧ _ ∧ AllLt _ yl => hl3
        have e : (((frontsF there place).take (i + 1)).map (yesF root)) = ((frontsF there place).take i).map (yesF root) ++ [yesF root f] := by rw [take_snoc hf, List.map_append]; rfl
        rw [e, ← List.append_assoc]
        exact DueJ.turn F9 N9 hl3 hsub hz2 hd2 hsep2
      case done =>
        clear hU
        intro m1 mu z h4 tk4 hJ F4 N4 hz4
        refine hJ.elim fun add2 rs2 nn2 hz2 hmu hd2 hsep2 hU => ?_
        rw [List.take_of_length_le (by rw [hdat.length, List.length_map]; exact Nat.le_refl _)] at hd2
        subst hmu
        subst hz2
        have F4 : Fr g L' h4 _ := Upto.eq1 hU ▸ F4
        clear F9 N9
        show wpAny _ _ _ _ _ _
        repeat' (first
    | (k_unfold; (try dsimp only))
    | walk1
    | (dsimp only; walk1))
        rename Fr g _ _ _ => F9
        rename News g _ h4 _ => N9
        replace N9 : News g L' h4 ((Du, listOf rs2.toArray nn2) :: (add2 ++ base)) := N9
        refine Back.intro (nw := (Du, listOf rs2.toArray nn2) :: (add2 ++ news)) F9 (led_sub N9 (List.forall_mem_cons.mpr ⟨List.Mem.head _, fun p hp => List.mem_cons_of_mem _ ((List.mem_append.mp hp).elim (List.mem_append_left _) fun h => List.mem_append_right _ (hb3 p (List.mem_append_right _ h)))⟩)) fun F N => hQ _ _ _ add2 _ _ F N
          (fun q hq => hn1 q (List.mem_append_right _ hq)) (fun q hq => hsep2 q (hb3 q (List.mem_append_right _ hq))) ?_
        rw [show dueF there root place = _ from if_neg (iff_no hb' (by assumption))]
        exact hd2
end
end

section
-- part P1
open PySem.Builtin.Str
theorem tj (s : Str) (ps : List Str) : Txt.join s ps = Str.join s ps := by
  show Builtin.Str.glued _ _ = _
  exact StrLaws.glued_eq_join s ps
/-- a text's signs -/
def cl (x : Str) : List Nat := x.cps.toList
theorem cl_inj {x y : Str} (h : cl x = cl y) : x = y := Str.ext' (Array.toList_inj.mp h)
theorem cl_app (x y : Str) : cl (x ++ y) = cl x ++ cl y := by simp [cl, Str.cps_append]
theorem cl_len (x : Str) : (cl x).length = x.length := by simp [cl, Str.length]
theorem cl_s : cl (Str.ofString "/") = [47] := by decide
theorem cl_ss : cl (Str.ofString "//") = [47, 47] := by decide
theorem cl_ssss : cl (Str.ofString "////") = [47, 47, 47, 47] := by decide
theorem cl_e : cl (Str.ofString "") = [] := by decide
theorem s_is : Str.ofString "/" = ⟨#[47]⟩ := by decide
def Free (x : Str) : Prop := 47 ∉ cl x
theorem cut_uniq {c : Nat} : ∀ {a b r t : List Nat}, c ∉ a → c ∉ b → a ++ c :: r = b ++ c :: t → a = b ∧ r = t
  | [], [], r, t, _, _, h => ⟨rfl, by simpa using h⟩
  | [], x :: b, r, t, _, hb, h => by
    have e := (List.cons.inj h).1
    exact absurd (e ▸ List.Mem.head _) hb
  | x :: a, [], r, t, ha, _, h => by
    have e := (List.cons.inj h).1
    exact absurd (e ▸ List.Mem.head _) ha
  | x :: a, y :: b, r, t, ha, hb, h => by
    obtain ⟨e1, e2⟩ := List.cons.inj h
    obtain ⟨e3, e4⟩ := cut_uniq (fun m => ha (List.mem_cons_of_mem _ m)) (fun m => hb (List.mem_cons_of_mem _ m)) e2
    exact ⟨by rw [e1, e3], e4⟩
theorem cl_join2 (s p q : Str) (r : List Str) : cl (Str.join s (p :: q :: r)) = cl p ++ (cl s ++ cl (Str.join s (q :: r))) := by
  rw [show Str.join s (p :: q :: r) = p ++ s ++ Str.join s (q :: r) from rfl, cl_app, cl_app, List.append_assoc]
theorem join_uniq : ∀ (ps qs : List Str), ps ≠ [] → qs ≠ [] → (∀ p ∈ ps, Free p) → (∀ q ∈ qs, Free q) → cl (Str.join ⟨#[47]⟩ ps) = cl (Str.join ⟨#[47]⟩ qs) → ps = qs
  | [], _, h, _, _, _, _ => absurd rfl h
  | _, [], _, h, _, _, _ => absurd rfl h
  | [p], [q], _, _, _, _, h => by rw [cl_inj (x := p) (y := q) h]
  | [p], q :: q' :: r, _, _, hp, _, h => by
    rw [cl_join2] at h
    exact absurd (show 47 ∈ cl p by rw [show cl p = _ from h]; simp [cl]) (hp p (List.Mem.head _))
  | p :: p' :: r, [q], _, _, _, hq, h => by
    rw [cl_join2] at h
    exact absurd (show 47 ∈ cl q by rw [show cl q = _ from h.symm]; simp [cl]) (hq q (List.Mem.head _))
  | p :: p' :: r, q :: q' :: t, _, _, hp, hq, h => by
    rw [cl_join2, cl_join2] at h
    obtain ⟨e1, e2⟩ := cut_uniq (hp p (List.Mem.head _)) (hq q (List.Mem.head _)) h
    rw [cl_inj e1, join_uniq (p' :: r) (q' :: t) (by simp) (by simp) (fun y hy => hp y (List.mem_cons_of_mem _ hy)) (fun y hy => hq y (List.mem_cons_of_mem _ hy)) e2]
theorem split_ne (x : Str) : Txt.split x (Str.ofString "/") ≠ [] := by
  unfold Txt.split
  split
  · simp
  · split
    · simp
    · rw [StrLaws.partsBetween_eq]
      obtain ⟨p, r, e⟩ := StrLaws.partsFrom_ne x (Str.ofString "/").length 0 (occurrences x (Str.ofString "/") 0 x.length (x.length + 1))
      rw [e]; simp
theorem split_frees (x : Str) : ∀ p ∈ Txt.split x (Str.ofString "/"), Free p := by rw [s_is]; exact StrLaws.split_free x 47
theorem split_of {x : Str} {ps : List Str} (h0 : ps ≠ []) (hf : ∀ p ∈ ps, Free p) (e : x = Txt.join (Str.ofString "/") ps) : Txt.split x (Str.ofString "/") = ps := by
  refine join_uniq _ _ (split_ne x) h0 (split_frees x) hf ?_
  rw [← s_is, StrLaws.join_split, e, tj]
theorem join_cons {s p : Str} {r : List Str} (h : r ≠ []) : Txt.join s (p :: r) = p ++ (s ++ Txt.join s r) := by
  cases r with
  | nil => exact absurd rfl h
  | cons q r => rw [tj, tj]; exact cl_inj (by rw [cl_join2, cl_app, cl_app])
theorem join_one {s p : Str} : Txt.join s [p] = p := by rw [tj]; rfl
theorem join_nil {s : Str} : Txt.join s [] = Str.ofString "" := by rw [tj]; rfl
theorem split_cons {y x : Str} (hy : Free y) : Txt.split (y ++ (Str.ofString "/" ++ x)) (Str.ofString "/") = y :: Txt.split x (Str.ofString "/") :=
  split_of (by simp) (fun p hp => by
    rcases List.mem_cons.mp hp with rfl | hp
    · exact hy
    · exact split_frees x p hp) (by rw [join_cons (split_ne x), join_split'])
theorem names_cons {y x : Str} (hy : Free y) : namesF (y ++ (Str.ofString "/" ++ x)) = (if nonE y = true then [y] else []) ++ namesF x := by
  unfold namesF
  rw [split_cons hy, List.filter_cons]
  split <;> simp
theorem names_free {y : Str} (hy : Free y) : namesF y = if nonE y = true then [y] else [] := by
  unfold namesF
  rw [split_of (ps := [y]) (by simp) (fun p hp => by rw [List.mem_singleton.mp hp]; exact hy) join_one.symm, List.filter_cons]
  rfl
theorem free_e : Free (Str.ofString "") := by unfold Free; rw [cl_e]; simp
theorem e_app (x : Str) : Str.ofString "" ++ x = x := cl_inj (by rw [cl_app, cl_e]; rfl)
theorem names_sl (x : Str) : namesF (Str.ofString "/" ++ x) = namesF x := by
  have := names_cons (x := x) free_e
  rwa [e_app, if_neg (by decide)] at this
/-- names: no slash in them, and not nothing -/
def Nm (f : List Str) : Prop := ∀ y ∈ f, Free y ∧ y ≠ Str.ofString ""
theorem nonE_of {y : Str} (h : y ≠ Str.ofString "") : nonE y = true := by unfold nonE; rw [bne_iff_ne]; exact h
theorem ss_is (x : Str) : Str.ofString "//" ++ x = Str.ofString "/" ++ (Str.ofString "/" ++ x) := cl_inj (by simp only [cl_app, cl_s, cl_ss]; rfl)
theorem ssss_is (x : Str) : Str.ofString "////" ++ x = Str.ofString "//" ++ (Str.ofString "//" ++ x) := cl_inj (by simp only [cl_app, cl_ss, cl_ssss]; rfl)
theorem names_joinD : ∀ {f : List Str}, Nm f → namesF (Txt.join (Str.ofString "//") f) = f
  | [], _ => by rw [join_nil, names_free free_e]; decide
  | [y], h => by
    obtain ⟨h1, h2⟩ := h y (List.Mem.head _)
    rw [join_one, names_free h1, if_pos (nonE_of h2)]
  | y :: z :: r, h => by
    obtain ⟨h1, h2⟩ := h y (List.Mem.head _)
    rw [join_cons (by simp), ss_is, names_cons h1, if_pos (nonE_of h2), names_sl, names_joinD fun a ha => h a (List.mem_cons_of_mem _ ha)]
    rfl
def Rt (root : Str) : Prop := root = Str.ofString "//" ∨ root = Str.ofString "////"
theorem names_path {root : Str} {f : List Str} (hr : Rt root) (h : Nm f) : namesF (pathF root f) = f := by
  unfold pathF
  rcases hr with rfl | rfl
  · rw [ss_is, names_sl, names_sl, names_joinD h]
  · rw [ssss_is, ss_is, names_sl, names_sl, ss_is, names_sl, names_sl, names_joinD h]
theorem Rt.len {root : Str} (h : Rt root) : root.length ≤ 10 := by rcases h with rfl | rfl <;> decide
-- slices
theorem slice_to (x : Str) (n : Nat) : cl (Txt.slice x none (some (n : Int))) = (cl x).take n := by
  rw [eq_of_beq (slice_to_min_closes (x := x) (n := n) (by omega) rfl)]
  show (List.take _ (List.drop 0 x.cps.toList)) = _
  rw [List.drop_zero]
  have hl : x.cps.toList.length = x.length := cl_len x
  by_cases h : (x.length : Int) < n
  · rw [if_pos h, List.take_of_length_le (by omega)]
    exact (List.take_of_length_le (by show x.cps.toList.length ≤ _; omega)).symm
  · rw [if_neg h]
    congr 1
theorem slice_from (x : Str) (n : Nat) : cl (Txt.slice x (some (n : Int)) none) = (cl x).drop n := by
  have hl : x.cps.toList.length = x.length := cl_len x
  by_cases h : (x.length : Int) ≤ n
  · rw [slice_from_beyond h]
    exact (List.drop_eq_nil_of_le (by show x.cps.toList.length ≤ _; omega)).symm
  · rw [slice_from_eq (b := x.length) (by omega) (by omega) rfl]
    show List.take _ (List.drop _ x.cps.toList) = _
    rw [Int.toNat_natCast, List.take_of_length_le (by rw [List.length_drop]; omega)]
    rfl
end

section
-- part D11
/-- the client's state: the server's folders, what is asked, the talk -/
abbrev TSt := List (List Str) × List Str × List (Str × Str × Str)
def entryF (path ans : Str) : Str × Str × Str := if (Txt.slice ans none (some 3) != Str.ofString "257") = true then (path, Str.ofString "refused", ans) else (path, Str.ofString "told", parseF ans)
def nextF (asked : List Str) (path x : Str) : List Str := if (Txt.slice x none (some 3) == Str.ofString "550") = true then asked ++ [dirF path] else asked.dropLast
def askF (st : TSt) : TSt := match st.2.1.getLast? with
  | none => st
  | some path => ((serverF st.1 path).1, nextF st.2.1 path (entryF path (serverF st.1 path).2).2.2, st.2.2 ++ [entryF path (serverF st.1 path).2])
def askR : Nat → TSt → TSt
  | 0, st => st
  | n + 1, st => askF (askR n st)
@[irreducible] def askN (n : Nat) (st : TSt) : TSt := askR n st
theorem askN_zero (st : TSt) : askN 0 st = st := by unfold askN; rfl
theorem askN_succ (n : Nat) (st : TSt) : askN (n + 1) st = askF (askN n st) := by unfold askN; rfl
theorem askF_nil {st : TSt} (h : st.2.1 = []) : askF st = st := by unfold askF; rw [h]; rfl
theorem askF_snoc {st : TSt} {as : List Str} {path : Str} (h : st.2.1 = as ++ [path]) :
    askF st = ((serverF st.1 path).1, nextF (as ++ [path]) path (entryF path (serverF st.1 path).2).2.2, st.2.2 ++ [entryF path (serverF st.1 path).2]) := by
  unfold askF
  rw [h, List.getLast?_append]
  rfl
theorem askN_stop {st : TSt} {i : Nat} (h : (askN i st).2.1 = []) : ∀ k, askN (i + k) st = askN i st
  | 0 => rfl
  | k + 1 => by
    rw [← Nat.add_assoc, askN_succ, askN_stop h k, askF_nil h]
theorem askN_end {st : TSt} {i n : Nat} (hi : i ≤ n) (h : (askN i st).2.1 = []) : askN n st = askN i st := by
  have := askN_stop h (n - i)
  rwa [show i + (n - i) = n by omega] at this
-- signs
theorem okS_sub {x y : Str} (h : ∀ c ∈ cl x, c ∈ cl y) (k : OkS y) : OkS x := okS_iff.mpr fun c hc => okS_iff.mp k c (h c hc)
theorem cl_join_mem {s y : Str} : ∀ {ys : List Str}, y ∈ ys → ∀ c ∈ cl y, c ∈ cl (Txt.join s ys)
  | [a], hy, c, hc => by rw [List.mem_singleton.mp hy] at hc; rw [join_one]; exact hc
  | a :: b :: r, hy, c, hc => by
    rw [join_cons (by simp), cl_app, cl_app]
    rcases List.mem_cons.mp hy with rfl | hy
    · exact List.mem_append_left _ hc
    · exact List.mem_append_right _ (List.mem_append_right _ (cl_join_mem hy c hc))
theorem okL_names {x : Str} (h : OkS x) : OkL (namesF x) := by
  intro y hy
  refine okS_sub (fun c hc => ?_) h
  have := cl_join_mem (s := Str.ofString "/") (List.mem_filter.mp hy).1 c hc
  rwa [join_split'] at this
theorem rfind_nat (x y : Str) : ∃ n : Nat, Txt.rfind x y + 1 = (n : Int) := by
  unfold Txt.rfind
  split
  · exact ⟨_ + 1, rfl⟩
  · exact ⟨0, rfl⟩
theorem cl_sub (x : Str) (a b : Nat) : cl (PySem.Builtin.Str.strSub x a b) = ((cl x).drop a).take (b - a) := by
  show (x.cps.extract a b).toList = _
  rw [Array.toList_extract]
  simp [cl, List.extract]
theorem dir_sub (x : Str) : ∀ c ∈ cl (dirF x), c ∈ cl x := by
  obtain ⟨n, hn⟩ := rfind_nat x (Str.ofString "/")
  have h1 : ∀ c ∈ cl (Txt.slice x none (some (Txt.rfind x (Str.ofString "/") + 1))), c ∈ cl x := by
    rw [hn, slice_to]
    exact fun c hc => List.mem_of_mem_take hc
  intro c hc
  unfold dirF at hc
  dsimp only at hc
  split at hc
  · exact h1 c hc
  · split at hc
    · obtain ⟨j, _, e⟩ := rstripChars_is_prefix (Txt.slice x none (some (Txt.rfind x (Str.ofString "/") + 1))) (Str.ofString "/")
      rw [e, cl_sub] at hc
      exact h1 c (List.mem_of_mem_drop (List.mem_of_mem_take hc))
    · exact h1 c hc
theorem dir_len (x : Str) : (dirF x).length ≤ x.length := by
  have h1 := Txt.slice_le x none (some (Txt.rfind x (Str.ofString "/") + 1))
  have h2 := len_rstripChars (Txt.slice x none (some (Txt.rfind x (Str.ofString "/") + 1))) (Str.ofString "/")
  unfold dirF
  dsimp only
  split
  · exact h1
  · split
    · exact Nat.le_trans h2 h1
    · exact h1
structure TGood (i : Nat) (st : TSt) : Prop where
  paths : ∀ p ∈ st.2.1, OkS p ∧ p.length ≤ 900
  ok : ∀ a ∈ st.1, OkL a
  n1 : st.1.length ≤ 900 + i
  n2 : st.2.1.length ≤ 1 + i
  n3 : st.2.2.length ≤ i
theorem server_ok {there : List (List Str)} {path : Str} (h : ∀ a ∈ there, OkL a) (hp : OkS path) : (∀ a ∈ (serverF there path).1, OkL a) ∧ (serverF there path).1.length ≤ there.length + 1 := by
  unfold serverF
  split
  · exact ⟨h, Nat.le_succ _⟩
  · split
    · exact ⟨h, Nat.le_succ _⟩
    · refine ⟨fun a ha => ?_, by simp⟩
      rcases List.mem_append.mp ha with ha | ha
      · exact h a ha
      · rw [List.mem_singleton.mp ha]; exact okL_names hp
theorem next_len (as : List Str) (path x : Str) : (nextF as path x).length ≤ as.length + 1 := by
  unfold nextF
  split
  · rw [List.length_append]; exact Nat.le_refl _
  · rw [List.length_dropLast]; omega
theorem TGood.next {i : Nat} {st : TSt} (h : TGood i st) : TGood (i + 1) (askF st) := by
  rcases List.eq_nil_or_concat st.2.1 with e | ⟨as, path, e⟩
  · rw [askF_nil e]
    exact ⟨h.paths, h.ok, Nat.le_succ_of_le h.n1, Nat.le_succ_of_le h.n2, Nat.le_succ_of_le h.n3⟩
  · rw [List.concat_eq_append] at e
    have hp := h.paths path (by rw [e]; simp)
    obtain ⟨h1, h2⟩ := server_ok (path := path) h.ok hp.1
    have n1 := h.n1
    have n2 := h.n2
    have n3 := h.n3
    rw [askF_snoc e]
    rw [e] at n2
    refine ⟨fun p hp' => ?_, h1, Nat.le_trans h2 (by omega), ?_, by simp; omega⟩
    · unfold nextF at hp'
      dsimp only at hp'
      split at hp'
      · rcases List.mem_append.mp hp' with hp' | hp'
        · exact h.paths p (by rw [e]; exact hp')
        · rw [List.mem_singleton.mp hp']
          exact ⟨okS_sub (dir_sub path) hp.1, Nat.le_trans (dir_len path) hp.2⟩
      · exact h.paths p (by rw [e]; exact List.dropLast_subset _ hp')
    · dsimp only
      have := next_len (as ++ [path]) path (entryF path (serverF st.1 path).2).2.2
      omega
theorem TGood.all {st : TSt} (h : TGood 0 st) : ∀ i, TGood i (askN i st)
  | 0 => by rw [askN_zero]; exact h
  | i + 1 => by rw [askN_succ]; exact (TGood.all h i).next
-- the answers
theorem cl_ans (c : Str) (names : List Str) (w : Str) : cl (answerF c names w) = cl c ++ ([32, 34, 47] ++ (cl (Txt.replace (Txt.join (Str.ofString "/") names) (Str.ofString "\"") (Str.ofString "\"\"")) ++ (34 :: cl w))) := by
  unfold answerF
  rw [cl_app, cl_app, cl_app, cl_app, show cl (Str.ofString " \"/") = [32, 34, 47] by decide, show cl (Str.ofString "\"") = [34] by decide]
  simp
theorem ans_slice3 {c : Str} {names : List Str} {w : Str} (hc : c.length = 3) : Txt.slice (answerF c names w) none (some 3) = c := by
  refine cl_inj ?_
  rw [show (3 : Int) = ((3 : Nat) : Int) from rfl, slice_to, cl_ans, List.take_append_of_le_length (by rw [cl_len]; omega), List.take_of_length_le (by rw [cl_len]; omega)]
theorem ans_len5 {c : Str} {names : List Str} {w : Str} (hc : c.length = 3) : 5 ≤ (answerF c names w).length := by
  have e2 := congrArg List.length (cl_ans c names w)
  simp only [List.length_append, List.length_cons, List.length_nil, cl_len] at e2
  omega
theorem ans_slice5 {c : Str} {names : List Str} {w : Str} (hc : c.length = 3) : Txt.slice (answerF c names w) (some 3) (some 5) = Str.ofString " \"" := by
  have h5 := ans_len5 (names := names) (w := w) hc
  rw [beq_iff_eq.mp (slice_closesL (x := answerF c names w) (i := 3) (j := 5) (by decide) (by decide) (by omega))]
  refine cl_inj ?_
  have key : ∀ l : List Nat, cl ⟨((l.drop (3 : Int).toNat).take ((5 : Int) - 3).toNat).toArray⟩ = (l.drop 3).take 2 := fun l => rfl
  refine (key (answerF c names w).cps.toList).trans ?_
  rw [show (answerF c names w).cps.toList = cl (answerF c names w) from rfl, cl_ans, List.drop_append_of_le_length (by rw [cl_len]; omega), List.drop_of_length_le (by rw [cl_len]; omega)]
  exact (show cl (Str.ofString " \"") = [32, 34] by decide).symm
theorem ans_len {c : Str} {names : List Str} {w : Str} (hc : c.length ≤ 10) (hw : w.length ≤ 20) (hs : (names.map (·.length)).sum + names.length ≤ 1000) : (answerF c names w).length ≤ 3000 := by
  have e := glued_len (Str.ofString "/") names
  have e1 := slash_len
  rw [e1] at e
  have hrl : (Txt.replace (Txt.join (Str.ofString "/") names) (Str.ofString "\"") (Str.ofString "\"\"")).length ≤ 2 * (Txt.join (Str.ofString "/") names).length := by
    rw [quote_is]; exact rep_len _ _ _ (by decide)
  have e2 := congrArg List.length (cl_ans c names w)
  simp only [List.length_append, List.length_cons, List.length_nil, cl_len] at e2
  omega
theorem server_ans (there : List (List Str)) (path : Str) : ∃ c w, (serverF there path).2 = answerF c (namesF path) w ∧ c.length = 3 ∧ w.length ≤ 20 := by
  unfold serverF
  split
  · exact ⟨_, _, rfl, by decide, by decide⟩
  · split
    · exact ⟨_, _, rfl, by decide, by decide⟩
    · exact ⟨_, _, rfl, by decide, by decide⟩
theorem server_told {there : List (List Str)} {path : Str} (hx : path.length ≤ 900) : (Txt.slice (serverF there path).2 (some 3) (some 5) != Str.ofString " \"") = false ∧ 5 ≤ (serverF there path).2.length ∧ (serverF there path).2.length ≤ 5000 := by
  obtain ⟨c, w, e, hc, hw⟩ := server_ans there path
  have hs := names_size path
  rw [e, ans_slice5 hc]
  exact ⟨by rw [bne_self_eq_false], ans_len5 hc, Nat.le_trans (ans_len (by omega) hw (by omega)) (by decide)⟩
theorem pl_len : ∀ l : List Nat, (pl l).length ≤ l.length
  | [] => Nat.le_refl _
  | [c] => by
    unfold pl
    split
    · exact Nat.zero_le _
    · unfold pl; exact Nat.le_refl _
  | c :: d :: r => by
    have h1 := pl_len r
    have h2 := pl_len (d :: r)
    rw [pl]
    split
    · split
      · simp only [List.length_cons]; omega
      · exact Nat.zero_le _
    · simp only [List.length_cons] at h2 ⊢; omega
theorem parseF_len (x : Str) : (parseF x).length ≤ x.length := by
  have h0 : (pl (x.cps.toList.drop 5)).length ≤ x.cps.toList.length - 5 := by rw [← List.length_drop]; exact pl_len _
  exact Nat.le_trans (Nat.le_of_eq (List.size_toArray ..)) (Nat.le_trans h0 (Nat.le_trans (Nat.sub_le _ _) (Nat.le_of_eq Array.length_toList)))
theorem entry_len {there : List (List Str)} {path : Str} (hx : path.length ≤ 900) : (entryF path (serverF there path).2).2.2.length ≤ 5000 := by
  have h := (server_told (there := there) hx).2.2
  have h2 := parseF_len (serverF there path).2
  unfold entryF
  split
  · exact h
  · exact Nat.le_trans h2 h
end

section
-- part F11
section
variable {prog : Program} {w : World} {A : Around} {E : Value → Shared → Prop} {s : Shared} {h₀ : Heap} {L D B : Addr} {m : Str → Option Value} {news news' : List (Addr × Obj)} {n k : Nat} {vs us : List Value} {ys : List Str} {Q : Value → Shared → Prop}
theorem r_eqt (N : News h₀ L s.heap news) (mA : (D, listOf (List.toArray ([] : List Value)) n) ∈ news) (mB : (B, listOf (List.toArray ([] : List Value)) k) ∈ news) (hu : A.units + 64 < cLine) (h : Q (.bool true) s) : wpAny (model prog w) A (compareOp .Eq (.ref D) (.ref B)) Q E s :=
  r_eqs N mA mB .nil .nil (fun _ h => nomatch h) (fun _ h => nomatch h) hu fun b hb => by rw [hb.mpr rfl]; exact h
theorem r_eqf (N : News h₀ L s.heap news) (mA : (D, listOf us.toArray n) ∈ news) (mB : (B, listOf (List.toArray ([] : List Value)) k) ∈ news) (ha : StrsAre us ys) (hy : ys ≠ []) (oa : OkL ys) (hu : A.units + 64 < cLine) (h : Q (.bool false) s) : wpAny (model prog w) A (compareOp .Eq (.ref D) (.ref B)) Q E s :=
  r_eqs N mA mB ha .nil oa (fun _ h => nomatch h) hu fun b hb => by
    cases b with
    | true => exact absurd (hb.mp rfl) hy
    | false => exact h
theorem r_popU {v : Value} (F : Fr h₀ L s.heap m) (N : News h₀ L s.heap news) (U : Upd D (listOf (vs ++ [v]).toArray n) (listOf vs.toArray (n + 1)) news news') (hs : vs.length ≤ 10000)
    (h : ∀ h', Fr h₀ L h' m → News h₀ L h' news' → Q v { s with heap := h' }) : wpAny (model prog w) A (call (.builtin "list.pop") [.ref D]) Q E s := by
  refine kl_pop F N (p := vs) (y := v) (by simpa using kpa_last v vs) U (by simp; rw [sizeLine_eq]; omega) fun h' F' N' => h h' F' N'
end
theorem Upto.three {x1 x2 x3 : Str} {m₀ m : Str → Option Value} (h : Upto [x1, x2, x3] m₀ m) : m = (fun y => if y = x1 then m x1 else if y = x2 then m x2 else if y = x3 then m x3 else m₀ y) := Upto.eq3 h rfl rfl
theorem Upto.sub {xs ys : List Str} {m₀ m : Str → Option Value} (h : Upto xs m₀ m) (hs : ∀ x ∈ xs, x ∈ ys) : Upto ys m₀ m := fun y hy => h y fun hx => hy (hs y hx)
theorem Upto.trans {xs : List Str} {m₀ m m' : Str → Option Value} (h : Upto xs m₀ m) (k : Upto xs m m') : Upto xs m₀ m' := fun y hy => (k y hy).trans (h y hy)
abbrev TNames : List Str := [Str.ofString "turn", Str.ofString "path", Str.ofString "fault"]
def TalkMu (Lc D Ak Tk : Addr) (oc : Obj) (ts as rs : List Value) (n na nt : Nat) : List (Addr × Obj) := [(Lc, oc), (D, listOf ts.toArray n), (Ak, listOf as.toArray na), (Tk, listOf rs.toArray nt)]
def TalkJ (base news : List (Addr × Obj)) (Lc D Ak Tk : Addr) (oL : Obj) (st : TSt) (m0 m' : Str → Option Value) (mu z : List (Addr × Obj)) : Prop :=
  Upto TNames m0 m' ∧ ∃ oc ts as rs n na nt add, z = add ++ base ∧ mu = TalkMu Lc D Ak Tk oc ts as rs n na nt ∧ oc.data = oL.data ∧ DatAll (add ++ news) ts (st.1.map strsD) ∧ StrsAre as st.2.1 ∧ DatAll add rs (st.2.2.map entD) ∧ ∀ q ∈ base, ∀ p ∈ add, q.1 ≠ p.1
section
variable {base news add z mu : List (Addr × Obj)} {Lc D Ak Tk T : Addr} {oL oc : Obj} {st : TSt} {m0 m' : Str → Option Value} {ts as rs : List Value} {n na nt : Nat} {P : Prop}
theorem TalkJ.intro (hU : Upto TNames m0 m') (ho : oc.data = oL.data) (h1 : DatAll (add ++ news) ts (st.1.map strsD)) (h2 : StrsAre as st.2.1) (h3 : DatAll add rs (st.2.2.map entD)) (h4 : ∀ q ∈ base, ∀ p ∈ add, q.1 ≠ p.1) :
    TalkJ base news Lc D Ak Tk oL st m0 m' (TalkMu Lc D Ak Tk oc ts as rs n na nt) (add ++ base) := ⟨hU, oc, ts, as, rs, n, na, nt, add, rfl, rfl, ho, h1, h2, h3, h4⟩
theorem TalkJ.elim (h : TalkJ base news Lc D Ak Tk oL st m0 m' mu z) (k : ∀ oc ts as rs n na nt add, z = add ++ base → mu = TalkMu Lc D Ak Tk oc ts as rs n na nt → oc.data = oL.data → DatAll (add ++ news) ts (st.1.map strsD) → StrsAre as st.2.1 → DatAll add rs (st.2.2.map entD) → (∀ q ∈ base, ∀ p ∈ add, q.1 ≠ p.1) → Upto TNames m0 m' → P) : P := by
  obtain ⟨hU, oc, ts, as, rs, n, na, nt, add, h1, h2, h3, h4, h5, h6, h7⟩ := h
  exact k oc ts as rs n na nt add h1 h2 h3 h4 h5 h6 h7 hU
end
/-- a made object lies apart from the loop's own and from what lay there -/
def Apart (Lc D Ak Tk : Addr) (yl : List (Addr × Obj)) (p : Addr × Obj) : Prop := @Ne Nat Lc p.1 ∧ @Ne Nat D p.1 ∧ @Ne Nat Ak p.1 ∧ @Ne Nat Tk p.1 ∧ ∀ q ∈ yl, q.1 ≠ p.1
/-- behind the try of a turn -/
def TryPost (g : Heap) (L Lc D Ak Tk : Addr) (oL : Obj) (as rs : List Value) (na nt : Nat) (yl dz : List (Addr × Obj)) (there : List (List Str)) (path : Str) (e : Str × Str × Str) (s : Shared) (M : Str → Option Value) (f : Flow) (s' : Shared) : Prop :=
  ∃ T oc add ts n h' tk' M' tx ty tu, f = .next ∧ s' = { s with heap := h', toks := tk' } ∧ Fr g L h' M' ∧ Upto [Str.ofString "fault"] M M' ∧
    News g L h' ((T, tup3 (.str path tx) (.str e.2.1 ty) (.str e.2.2 tu)) :: (Lc, oc) :: (D, listOf (List.toArray ts) n) :: (Ak, listOf as.toArray na) :: (Tk, listOf (rs ++ [Value.ref T]).toArray (nt + 1)) :: (add ++ yl)) ∧ oc.data = oL.data ∧
    (∀ p ∈ (T, tup3 (.str path tx) (.str e.2.1 ty) (.str e.2.2 tu)) :: add, Apart Lc D Ak Tk yl p) ∧ DatAll (add ++ dz) ts ((serverF there path).1.map strsD)
theorem TryPost.intro {g h' hp0 : Heap} {gn : Array GenState} {dr : Drawn} {tk0 tk' : Nat} {os0 : OsState} {L Lc D Ak Tk T : Addr} {oL oc : Obj} {as rs ts : List Value} {n na nt : Nat} {yl dz add : List (Addr × Obj)} {there : List (List Str)} {path : Str} {e : Str × Str × Str} {M M' : Str → Option Value} {tx ty tu : Tok}
    (F : Fr g L h' M') (hU : Upto [Str.ofString "fault"] M M') (N : News g L h' ((T, tup3 (.str path tx) (.str e.2.1 ty) (.str e.2.2 tu)) :: (Lc, oc) :: (D, listOf (List.toArray ts) n) :: (Ak, listOf as.toArray na) :: (Tk, listOf (rs ++ [Value.ref T]).toArray (nt + 1)) :: (add ++ yl))) (ho : oc.data = oL.data)
    (ha : ∀ p ∈ (T, tup3 (.str path tx) (.str e.2.1 ty) (.str e.2.2 tu)) :: add, Apart Lc D Ak Tk yl p) (hd : DatAll (add ++ dz) ts ((serverF there path).1.map strsD)) :
    TryPost g L Lc D Ak Tk oL as rs na nt yl dz there path e ⟨hp0, gn, dr, tk0, os0⟩ M .next ⟨h', gn, dr, tk', os0⟩ := ⟨T, oc, add, ts, n, h', tk', M', tx, ty, tu, rfl, rfl, F, hU, N, ho, ha, hd⟩
theorem talk_mem {α : Type} {a b c d t : α} {l1 l2 : List α} : ∀ p ∈ [a, b, c, d] ++ (t :: l1 ++ l2), p ∈ t :: a :: b :: c :: d :: (l1 ++ l2) := by
  intro p hp
  simp only [List.cons_append, List.nil_append, List.mem_cons, List.mem_append] at hp ⊢
  rcases hp with h | h | h | h | h | h
  · exact .inr (.inl h)
  · exact .inr (.inr (.inl h))
  · exact .inr (.inr (.inr (.inl h)))
  · exact .inr (.inr (.inr (.inr (.inl h))))
  · exact .inl h
  · exact .inr (.inr (.inr (.inr (.inr h))))
theorem entryF_fst (path ans : Str) : (entryF path ans).1 = path := by unfold entryF; split <;> rfl
section
variable {g h' : Heap} {L Lc D Ak Tk T : Addr} {oL oc oc2 : Obj} {news dn add add2 yl z nw : List (Addr × Obj)} {st : TSt} {m0 m' : Str → Option Value} {ts ts2 as as2 rs : List Value} {n n2 na na2 nt tk' : Nat} {asked : List Str} {path : Str} {e : Str × Str × Str} {tx ty tu : Tok} {s : Shared} {Q : Flow → Shared → Prop}
theorem talk_next (F : Fr g L h' m') (N : News g L h' nw) (hm : ∀ p ∈ TalkMu Lc D Ak Tk oc2 ts2 as2 (rs ++ [Value.ref T]) n2 na2 (nt + 1) ++ ((T, tup3 (.str path tx) (.str e.2.1 ty) (.str e.2.2 tu)) :: add2 ++ yl), p ∈ nw)
    (hU : Upto TNames m0 m') (ho : oc2.data = oL.data) (hz : z = add ++ news) (hzy : ∀ p ∈ z, p ∈ yl) (ha : ∀ p ∈ (T, tup3 (.str path tx) (.str e.2.1 ty) (.str e.2.2 tu)) :: add2, Apart Lc D Ak Tk yl p) (hd : DatAll (add2 ++ (add ++ dn)) ts2 ((serverF st.1 path).1.map strsD))
    (hst : st.2.1 = asked ++ [path]) (hs : StrsAre as2 (nextF (asked ++ [path]) path e.2.2)) (hd2 : DatAll add rs (st.2.2.map entD)) (hsep : ∀ q ∈ news, ∀ p ∈ add, q.1 ≠ p.1) (he : entryF path (serverF st.1 path).2 = e) :
    LoopPost g L (TalkMu Lc D Ak Tk oc ts as rs n na nt) yl z (fun m' mu z => TalkJ news dn Lc D Ak Tk oL (askF st) m0 m' mu z) s Q .next { s with heap := h', toks := tk' } := by
  refine LoopPost.nx (TalkMu Lc D Ak Tk oc2 ts2 as2 (rs ++ [Value.ref T]) n2 na2 (nt + 1)) ((T, tup3 (.str path tx) (.str e.2.1 ty) (.str e.2.2 tu)) :: add2) F (led_sub N hm) (fun q hq p hp => ?_) ?_
  · obtain ⟨a1, a2, a3, a4, a5⟩ := ha p hp
    rcases List.mem_append.mp hq with hq | hq
    · unfold TalkMu at hq
      simp only [List.mem_cons, List.not_mem_nil, or_false] at hq
      rcases hq with rfl | rfl | rfl | rfl
      · exact a1
      · exact a2
      · exact a3
      · exact a4
    · exact a5 q hq
  · rw [hz, ← List.append_assoc]
    refine TalkJ.intro hU ho ?_ ?_ ?_ ?_
    · rw [askF_snoc hst]
      exact hd.mono fun p hp => by
        rcases List.mem_append.mp hp with hp | hp
        · exact List.mem_append_left _ (List.mem_append_left _ (List.mem_cons_of_mem _ hp))
        · rcases List.mem_append.mp hp with hp | hp
          · exact List.mem_append_left _ (List.mem_append_right _ hp)
          · exact List.mem_append_right _ hp
    · rw [askF_snoc hst, he]; exact hs
    · rw [askF_snoc hst, he]
      show DatAll _ _ ((st.2.2 ++ [e]).map entD)
      rw [List.map_append]
      refine DatAll.append (hd2.mono fun p hp => List.mem_append_right _ hp) (.one ?_)
      have e1 : path = e.1 := by rw [← he, entryF_fst]
      unfold entD
      rw [← e1]
      exact .tuple (vs := [.str path tx, .str e.2.1 ty, .str e.2.2 tu]) (n := 0) (List.mem_append_left _ (List.Mem.head _)) (.cons (.str _ _) (.cons (.str _ _) (.cons (.str _ _) .nil)))
    · intro q hq p hp
      rcases List.mem_append.mp hp with hp | hp
      · exact (ha p hp).2.2.2.2 q (hzy q (hz ▸ List.mem_append_right _ hq))
      · exact hsep q hq p hp
end
section
variable {w : World} {A : Around} {s : Shared} {h₀ : Heap} {L : Addr} {m : Str → Option Value} {news : List (Addr × Obj)} {p : Program} {loose : List Str} {mg mb : Str → Option Value} {Q E : Value → Shared → Prop}
theorem c_talk {D : Addr} {ts : List Value} {n : Nat} {goal : Str} {t : Tok} {there : List (List Str)} {envc : Env} {n₁ : List (Addr × Obj)}
    (F : Fr h₀ L s.heap m) (N : News h₀ L s.heap ((D, listOf ts.toArray n) :: news)) (X : (Mine.hd.heap_39 w.params).In h₀) (T : TopRead p loose mg mb h₀)
    (hh : A.handled = none) (hfr : A.frames = some [envc]) (hcf : envc.frame = some L) (hck : envc.scope.kind ≠ .module) (hd : A.depth + 60 < recursionLimit) (hu : A.units + 200 < cLine) (hne : ∀ p ∈ news, p.1 ≠ D) (ht : DatAll n₁ ts (there.map strsD)) (hns : ∀ p ∈ n₁, p ∈ news) (hg : TGood 0 (there, [goal], []))
    (hQ : ∀ C ws j add h' tk' ts' n', Fr h₀ L h' m → News h₀ L h' ((C, listOf ws.toArray j) :: (D, listOf ts'.toArray n') :: (add ++ news)) → (∀ q ∈ (D, listOf ts'.toArray n') :: news, ∀ p ∈ (C, listOf ws.toArray j) :: add, q.1 ≠ p.1) → DatAll (add ++ n₁) ts' ((askN 9 (there, [goal], [])).1.map strsD) → DatAll add ws ((askN 9 (there, [goal], [])).2.2.map entD) → Q (.ref C) { s with heap := h', toks := tk' }) :
    wpAny (model PySem.Challenge.rw_pd0100_01.row.prog w) A (call (.ref 192) [.ref D, .str goal t]) Q E s := by
  obtain ⟨hp0, gn, dr, tk0, os0⟩ := s
  obtain ⟨ha, dp, fr, gd, un⟩ := A
  obtain rfl : ha = none := hh
  obtain rfl : fr = some [envc] := hfr
  replace hd : dp + 60 < recursionLimit := hd
  replace hu : un + 200 < cLine := hu
  refine' enterH (binds := [(Str.ofString "there", .ref D), (Str.ofString "goal", .str goal t)]) F N X T ?k1 ?k2 ?k3 (BindsTo.of_eq ?k4) (locs ?k5) ?_ ?c1 ?c2 ?c3 ?c4
  (case k3 => exact Nat.lt_of_le_of_lt (Nat.le_add_right dp 60) hd)
  (case k1 => k_is); (case k2 => k_is); (try (case k3 => omega)); (case k4 => exact rfl); (case k5 => exact rfl); (case c1 => exact rfl); (case c2 => exact rfl); (case c3 => exact rfl); (case c4 => decide)
  intro g L' h₁ tk oL hlt hnL hoL F' N' X' T'
  clear F N X T
  show wpAny _ _ _ _ _ _
  k_fold
  repeat' (first
    | (k_unfold; (try dsimp only))
    | ((with_reducible show wpAny _ _ (exec (Stmt.For _ _ _ _ _) _) _ _ _); refine stop_of ?_)
    | walk1
    | (dsimp only; walk1))
  refine Stop.go ?_
  refine For_invV g rfl rfl ?_ (hE := PassesOwn.never)
  repeat' (first
    | (k_unfold; (try dsimp only))
    | ((with_reducible show wpAny _ _ (pyIter _) _ _ _); refine stop_of ?_)
    | walk1
    | (dsimp only; walk1))
  refine Stop.go ?_
  rename Fr g L' _ _ => F9
  rename News g L' _ _ => N9
  rename_i _ Ak _ lA _ _ Tk _ lT _ _ _ _ _ _ _ _ hR _
  have hLD : @Ne Nat L D := fun z => hnL _ (List.Mem.head _) z.symm
  have fin : ∀ {i : Nat} {s' : Shared} {mm : Str → Option Value} {nw add : List (Addr × Obj)} {oc : Obj} {ts1 rs : List Value} {n1 nt : Nat}, s'.gens = gn → s'.drawn = dr → s'.os = os0 → Fr g L' s'.heap mm → News g L' s'.heap nw → (∀ p ∈ (L, oc) :: (Tk, listOf rs.toArray nt) :: (D, listOf ts1.toArray n1) :: (add ++ news), p ∈ nw) →
      oc.data = oL.data → DatAll (add ++ n₁) ts1 ((askN i (there, [goal], [])).1.map strsD) → DatAll add rs ((askN i (there, [goal], [])).2.2.map entD) → (∀ q ∈ news, ∀ p ∈ add, q.1 ≠ p.1) → (∀ p ∈ add, @Ne Nat p.1 L ∧ @Ne Nat p.1 D) → askN 9 (there, [goal], []) = askN i (there, [goal], []) → BackH h₀ L m g oL Q (.ref Tk) s' := by
    intro i s' mm nw add oc ts1 rs n1 nt e1 e2 e3 F1 N1 hm ho hd1 hd2 hsep hsp e9
    obtain ⟨hp', gn', dr', tk', os'⟩ := s'
    dsimp only at e1 e2 e3
    subst e1 e2 e3
    refine BackH.intro F1 (led_sub N1 hm) ho (List.forall_mem_cons.mpr ⟨Nat.ne_of_gt lT.2.1, List.forall_mem_cons.mpr ⟨hLD.symm, fun p hp => (List.mem_append.mp hp).elim (fun h => (hsp p h).1) fun h => hnL p (List.mem_cons_of_mem _ h)⟩⟩) fun F N => hQ Tk rs nt add _ _ ts1 n1 F N (fun q hq p hp => ?_) (by rw [e9]; exact hd1) (by rw [e9]; exact hd2)
    rcases List.mem_cons.mp hp with rfl | hp
    · rcases List.mem_cons.mp hq with rfl | hq
      · exact Nat.ne_of_lt lT.2.2.1
      · exact Nat.ne_of_lt (allLt_mem lT.2.2.2 q hq)
    · rcases List.mem_cons.mp hq with rfl | hq
      · exact fun z => (hsp p hp).2 z.symm
      · exact hsep q hq p hp
  have hLA : @Ne Nat L Ak := Nat.ne_of_lt lA.1
  have hDA : @Ne Nat D Ak := Nat.ne_of_lt lA.2.1
  have hLT : @Ne Nat L Tk := Nat.ne_of_lt lT.2.1
  have hDT : @Ne Nat D Tk := Nat.ne_of_lt lT.2.2.1
  have hAT : @Ne Nat Ak Tk := Nat.ne_of_lt lT.1
  refine for_range (adr := [L, D, Ak, Tk]) (mu₀ := TalkMu L D Ak Tk oL ts [Value.str goal t] [] n 0 0) (z₀ := news) (k := 9) (fun m0 _ i m' mu z => TalkJ news n₁ L D Ak Tk oL (askN i (there, [goal], [])) m0 m' mu z) rfl F9
    (led_sub N9 (List.forall_mem_cons.mpr ⟨by k_mem, List.forall_mem_cons.mpr ⟨by k_mem, List.forall_mem_cons.mpr ⟨by k_mem, List.forall_mem_cons.mpr ⟨by k_mem, fun p h9 => (by repeat (first | exact h9 | apply List.mem_cons_of_mem))⟩⟩⟩⟩)) ?hz hR (by decide) (by rfl) ?hJ ?hj ?turn ?done
  case hz =>
    intro p hp hq
    simp only [List.mem_cons, List.not_mem_nil, or_false] at hq
    rcases hq with e | e | e | e
    · exact hnL p (List.mem_cons_of_mem _ hp) e
    · exact hne p hp e
    · exact Nat.ne_of_lt (allLt_mem lA.2.2 p hp) e
    · exact Nat.ne_of_lt (allLt_mem lT.2.2.2 p hp) e
  case hJ => intro i m1 mu z h; exact h.elim fun oc ts1 as rs n1 na nt add hz hmu hoc hd1 hs1 hd2 hsep hU => by rw [hmu]; rfl
  case hj => rw [askN_zero]; exact TalkJ.intro (add := []) (Upto.refl _ _) rfl ht (.cons goal t .nil) .nil (fun _ _ _ h => nomatch h)
  case turn =>
    intro i tr m1 mu z yl h3 tk3 hi hJ hsub hyl F3 N3
    refine hJ.elim fun oc ts1 as rs n1 na nt add hz hmu hoc hd1 hs1 hd2 hsep hU => ?_
    subst hmu
    have hgd := hg.all i
    have fin1 := @fin i
    have e9 := askN_end (st := (there, [goal], [])) (i := i) (n := 9) (by omega)
    clear fin hJ
    rw [askN_succ]
    generalize askN i (there, [goal], []) = st at *
    have F3 : Fr g L' h3 _ := Upto.three hU ▸ F3
    replace N3 : News g L' h3 ((L, oc) :: (D, listOf ts1.toArray n1) :: (Ak, listOf as.toArray na) :: (Tk, listOf rs.toArray nt) :: yl) := N3
    have hyL : ∀ p ∈ yl, p.1 ≠ L := fun p hp e => hyl p hp (by rw [e]; exact List.Mem.head _)
    have hyD : ∀ p ∈ yl, p.1 ≠ D := fun p hp e => hyl p hp (by rw [e]; exact List.mem_cons_of_mem _ (List.Mem.head _))
    have hyA : ∀ p ∈ yl, p.1 ≠ Ak := fun p hp e => hyl p hp (by rw [e]; exact List.mem_cons_of_mem _ (List.mem_cons_of_mem _ (List.Mem.head _)))
    have hyT : ∀ p ∈ yl, p.1 ≠ Tk := fun p hp e => hyl p hp (by rw [e]; exact List.mem_cons_of_mem _ (List.mem_cons_of_mem _ (List.mem_cons_of_mem _ (List.Mem.head _))))
    have hsy : ∀ p ∈ add ++ news, p ∈ yl := fun p hp => hsub p (hz ▸ hp)
    have hsn : ∀ p ∈ add ++ n₁, p ∈ yl := fun p hp => hsy p ((List.mem_append.mp hp).elim (List.mem_append_left _) fun h => List.mem_append_right _ (hns p h))
    have hrl : rs.length ≤ 1000 := by rw [hd2.length, List.length_map]; have := hgd.n3; omega
    have hal : as.length ≤ 1000 := by rw [StrsAre.len hs1]; have := hgd.n2; omega
    clear F9 N9
    rcases List.eq_nil_or_concat as with rfl | ⟨as', v, hwe⟩
    · have h0 : st.2.1 = [] := by cases e : st.2.1 with
        | nil => rfl
        | cons y r => rw [e] at hs1; cases hs1
      show wpAny _ _ _ _ _ _
      repeat' (first
    | (k_unfold; (try dsimp only))
    | ((with_reducible show wpAny _ _ (compareOp CmpOp.Eq (Value.ref _) (Value.ref _)) _ _ _); (refine' r_eqt ?k0 ?k1 ?k2 ?k3 ?_; (case k0 => k_asm); (case k1 => k_mem); (case k2 => k_mem); (case k3 => (first | omega | (simp only [units_deeper, units_in1]; (try dsimp only); omega)))))
    | walk1
    | (dsimp only; walk1))
      rename Fr g _ _ _ => F9
      rename News g _ _ _ => N9
      exact fin1 rfl rfl rfl F9 N9 (List.forall_mem_cons.mpr ⟨by k_mem, List.forall_mem_cons.mpr ⟨by k_mem, List.forall_mem_cons.mpr ⟨by k_mem, fun p h9 => (by repeat (first | exact hsy p h9 | apply List.mem_cons_of_mem))⟩⟩⟩) hoc hd1 hd2 hsep (fun p hp => ⟨hyL p (hsy p (List.mem_append_left _ hp)), hyD p (hsy p (List.mem_append_left _ hp))⟩) (e9 h0)
    · rw [List.concat_eq_append] at hwe
      subst hwe
      obtain ⟨asked, path, tp, hst, rfl, hs0⟩ := StrsAre.unsnoc hs1
      rw [hst] at hs1
      have hpa := hgd.paths path (by rw [hst]; simp)
      have hask : asked ++ [path] ≠ [] := by simp
      have hokA : OkL (asked ++ [path]) := fun y hy => (hgd.paths y (by rw [hst]; exact hy)).1
      have hal' : as'.length ≤ 1000 := by rw [List.length_append] at hal; exact Nat.le_trans (Nat.le_add_right _ _) hal
      clear fin1 e9
      show wpAny _ _ _ _ _ _
      repeat' (first
    | (k_unfold; (try dsimp only))
    | ((with_reducible show wpAny _ _ (compareOp CmpOp.Eq (Value.ref _) (Value.ref _)) _ _ _); (refine' r_eqf ?k0 ?k1 ?k2 ?k3 ?k4 ?k5 ?k6 ?_; (case k0 => k_asm); (case k1 => k_mem); (case k2 => k_mem); (case k3 => assumption); (case k4 => assumption); (case k5 => assumption); (case k6 => (first | omega | (simp only [units_deeper, units_in1]; (try dsimp only); omega)))))
    | ((with_reducible show wpAny _ _ (subscriptTail _ _ (Value.ref _) (Value.int (-1) _)) _ _ _); (refine' r_last ?k0 ?k1 ?_ ?k2; (case k0 => k_asm); (case k1 => k_mem); (case k2 => with_unfolding_all rfl)))
    | ((with_reducible show wpAny _ _ (exec (Stmt.Try _ _ _ _ _) _) _ _ _); refine stop_of ?_)
    | walk1
    | (dsimp only; walk1))
      refine Stop.go ?_
      rename Fr g _ _ _ => F9
      rename News g _ _ _ => N9
      have hel := entry_len (there := st.1) (path := path) hpa.2
      generalize he : entryF path (serverF st.1 path).2 = e at hel
      refine mid (fun M f s' => TryPost g L' L D Ak Tk oL (as' ++ [Value.str path tp]) rs na nt yl (add ++ n₁) st.1 path e ⟨hp0, gn, dr, tk0, os0⟩ M f s') F9 ?tr ?rest
      case tr =>
        repeat' (first
    | (k_unfold; (try dsimp only))
    | ((with_reducible show wpAny _ _ (PySem.call (Value.ref 185) _ _) _ _ _); refine stop_of ?_)
    | walk1
    | (dsimp only; walk1))
        refine Stop.go ?_
        rename Fr g _ _ _ => F9
        rename News g _ _ _ => N9
        refine c_server (n := n1) (news := (L, oc) :: (Ak, listOf (as' ++ [Value.str path tp]).toArray na) :: (Tk, listOf rs.toArray nt) :: yl) (n₁ := add ++ n₁) F9 (led_sub N9 ?m0) X' T' rfl ?m1 ?m2 ?m3 hd1 ?m4 ?m5 hgd.ok (okL_names hpa.1) hpa.2 ?_
        case m0 => exact List.forall_mem_cons.mpr ⟨by k_mem, List.forall_mem_cons.mpr ⟨by k_mem, List.forall_mem_cons.mpr ⟨by k_mem, List.forall_mem_cons.mpr ⟨by k_mem, fun p h9 => (by repeat (first | exact h9 | apply List.mem_cons_of_mem))⟩⟩⟩⟩
        case m1 => (first | omega | (simp only [depth_deeper, depth_in1, units_deeper, units_in1]; (try dsimp only); omega))
        case m2 => (first | omega | (simp only [depth_deeper, depth_in1, units_deeper, units_in1]; (try dsimp only); omega))
        case m3 => exact List.forall_mem_cons.mpr ⟨hLD, List.forall_mem_cons.mpr ⟨hDA.symm, List.forall_mem_cons.mpr ⟨hDT.symm, hyD⟩⟩⟩
        case m4 => exact fun p hp => List.mem_cons_of_mem _ (List.mem_cons_of_mem _ (List.mem_cons_of_mem _ (hsn p hp)))
        case m5 => have := hgd.n1; omega
        intro t2 h4 tk4 add2 ts2 n2 F4 N4 hs2 hd4
        have ha2 : ∀ p ∈ add2, Apart L D Ak Tk yl p := fun p hp => ⟨hs2 (L, oc) (by k_mem) p hp, hs2 _ (List.Mem.head _) p hp, hs2 (Ak, listOf (as' ++ [Value.str path tp]).toArray na) (by k_mem) p hp, hs2 (Tk, listOf rs.toArray nt) (by k_mem) p hp, fun q hq => hs2 q (List.mem_cons_of_mem _ (List.mem_cons_of_mem _ (List.mem_cons_of_mem _ (List.mem_cons_of_mem _ hq)))) p hp⟩
        replace N4 : News g L' h4 ((L, oc) :: (D, listOf ts2.toArray n2) :: (Ak, listOf (as' ++ [Value.str path tp]).toArray na) :: (Tk, listOf rs.toArray nt) :: (add2 ++ yl)) := led_sub N4 (by
          intro p hp
          simp only [List.mem_cons, List.mem_append] at hp ⊢
          rcases hp with h | h | h | h | h | h
          · exact .inr (.inr (.inl h))
          · exact .inl h
          · exact .inr (.inr (.inr (.inl h)))
          · exact .inr (.inr (.inr (.inr (.inl h))))
          · exact .inr (.inl h)
          · exact .inr (.inr (.inr (.inr (.inr h)))))
        have hzT : ∀ p ∈ add2 ++ yl, p.1 ≠ Tk := fun p hp => (List.mem_append.mp hp).elim (fun h => (ha2 p h).2.2.2.1.symm) (hyT p)
        have hzL : ∀ p ∈ add2 ++ yl, p.1 ≠ L := fun p hp => (List.mem_append.mp hp).elim (fun h => (ha2 p h).1.symm) (hyL p)
        clear F9 N9
        obtain ⟨hx5, hxl, hxx⟩ := server_told (there := st.1) (path := path) hpa.2
        generalize (serverF st.1 path).2 = ans at he hx5 hxl hxx ⊢
        dsimp only
        repeat' (first
    | (k_unfold; (try dsimp only))
    | ((with_reducible show wpAny _ _ (PySem.call (Value.ref 168) _ _) _ _ _); refine stop_of ?_)
    | walk1
    | (dsimp only; walk1))
        refine Stop.go ?_
        cases hx3 : (Txt.slice ans none (some 3) != Str.ofString "257") with
        | false =>
          obtain rfl : (path, Str.ofString "told", parseF ans) = e := by rw [← he]; unfold entryF; rw [if_neg (by rw [hx3]; decide)]
          refine c_parse F4 N4 X' T' rfl ?q1 hxx hx3 hx5 hxl ?_
          case q1 => (first | omega | (simp only [depth_deeper, depth_in1, units_deeper, units_in1]; (try dsimp only); omega))
          intro t5 h5 tk5 F5 N5
          clear F4 N4
          dsimp only
          repeat' (first
    | (k_unfold; (try dsimp only))
    | ((with_reducible show wpAny _ _ (PySem.call (Value.builtin "list.append") _ _) _ _ _); (refine' r_appendU ?k0 ?k1 ?k2 ?k3 ?_; (case k0 => k_asm); (case k1 => k_asm); (case k2 => (first | (refine' Upd.head ?zu6; (case zu6 => (repeat' (first | assumption | (exact List.forall_mem_nil _) | k_ne | (refine' List.forall_mem_cons.mpr ⟨?_, ?_⟩))))) | (refine' Upd.tail ?zv6 ?zw6; (case zv6 => first | k_ne | assumption); (case zw6 => (first | (refine' Upd.head ?zu5; (case zu5 => (repeat' (first | assumption | (exact List.forall_mem_nil _) | k_ne | (refine' List.forall_mem_cons.mpr ⟨?_, ?_⟩))))) | (refine' Upd.tail ?zv5 ?zw5; (case zv5 => first | k_ne | assumption); (case zw5 => (first | (refine' Upd.head ?zu4; (case zu4 => (repeat' (first | assumption | (exact List.forall_mem_nil _) | k_ne | (refine' List.forall_mem_cons.mpr ⟨?_, ?_⟩))))) | (refine' Upd.tail ?zv4 ?zw4; (case zv4 => first | k_ne | assumption); (case zw4 => (first | (refine' Upd.head ?zu3; (case zu3 => (repeat' (first | assumption | (exact List.forall_mem_nil _) | k_ne | (refine' List.forall_mem_cons.mpr ⟨?_, ?_⟩))))) | (refine' Upd.tail ?zv3 ?zw3; (case zv3 => first | k_ne | assumption); (case zw3 => (first | (refine' Upd.head ?zu2; (case zu2 => (repeat' (first | assumption | (exact List.forall_mem_nil _) | k_ne | (refine' List.forall_mem_cons.mpr ⟨?_, ?_⟩))))) | (refine' Upd.tail ?zv2 ?zw2; (case zv2 => first | k_ne | assumption); (case zw2 => (first | (refine' Upd.head ?zu1; (case zu1 => (repeat' (first | assumption | (exact List.forall_mem_nil _) | k_ne | (refine' List.forall_mem_cons.mpr ⟨?_, ?_⟩))))) | (refine' Upd.tail ?zv1 ?zw1; (case zv1 => first | k_ne | assumption); (case zw1 => (refine' Upd.head ?zu0; (case zu0 => (repeat' (first | assumption | (exact List.forall_mem_nil _) | k_ne | (refine' List.forall_mem_cons.mpr ⟨?_, ?_⟩)))))))))))))))))))))))); (case k3 => (first | omega | (simp only [List.length_append, List.length_cons, List.length_nil]; omega)))); intro h' F' N'; (try k_sweep))
    | walk1
    | (dsimp only; walk1))
          rename Fr g _ _ _ => F9
          rename News g _ _ _ => N9
          rename _ ∧ _ ∧ _ ∧ _ ∧ AllLt _ (add2 ++ yl) => hl5
          exact Stop.go (TryPost.intro F9 (Upto.refl _ _) N9 hoc (List.forall_mem_cons.mpr ⟨⟨Nat.ne_of_lt hl5.1, Nat.ne_of_lt hl5.2.1, Nat.ne_of_lt hl5.2.2.1, Nat.ne_of_lt hl5.2.2.2.1, fun q hq => Nat.ne_of_lt (allLt_mem hl5.2.2.2.2 q (List.mem_append_right _ hq))⟩, ha2⟩) hd4)
        | true =>
          obtain rfl : (path, Str.ofString "refused", ans) = e := by rw [← he]; unfold entryF; rw [if_pos hx3]
          refine try_raise rfl rfl hcf hck ?q1 F4 N4 (List.forall_mem_cons.mpr ⟨hLD.symm, List.forall_mem_cons.mpr ⟨hLA.symm, List.forall_mem_cons.mpr ⟨hLT.symm, hzL⟩⟩⟩) (fun ws q => hoL ws (hoc.symm.trans q)) X' T' hxx hx3 ?_ rfl rfl rfl
          case q1 => (first | omega | (simp only [depth_deeper, depth_in1, units_deeper, units_in1]; (try dsimp only); omega))
          intro er u h5 tk5 oc5 oe ot ws nt5 F5 N5 hoc5 he1 he2 he3 hot1 hot2
          clear F4 N4
          dsimp only
          repeat' (first
    | (k_unfold; (try dsimp only))
    | ((with_reducible show wpAny _ _ (PySem.call (Value.type "str") [Value.ref _] _) _ _ _); refine stop_of ?_)
    | walk1
    | (dsimp only; walk1))
          refine Stop.go ?_
          rename Fr g _ _ _ => F9
          rename News g _ _ _ => N9
          have hEr : @Ne Nat er Tk := fun z => by
            have h1 := (N9 (er, oe) (by k_mem)).1
            have h2 := (N9 (Tk, listOf rs.toArray nt) (by k_mem)).1
            dsimp only at h1 h2
            rw [show er = Tk from z, h2] at h1
            cases h1
            exact absurd (show Value.type "list" = Value.ref 159 from he1) (by decide)
          have hUr : @Ne Nat u Tk := fun z => by
            have h1 := (N9 (u, ot) (by k_mem)).1
            have h2 := (N9 (Tk, listOf rs.toArray nt) (by k_mem)).1
            dsimp only at h1 h2
            rw [show u = Tk from z, h2] at h1
            cases h1
            exact absurd (show Value.type "list" = Value.type "tuple" from hot1) (by decide)
          refine str_own (K := Mine.hd.heap_39 w.params) ?q1 (X'.keeps F9.keep) (by k_is) (by k_is) (N9 (er, oe) (by k_mem)).1 he1 he2 he3 ⟨ot, nt5, (N9 (u, ot) (by k_mem)).1, hot1, hot2⟩ ?_
          case q1 => exact (show un + 3 + 2 < cLine by omega)
          try dsimp only
          repeat' (first
    | (k_unfold; (try dsimp only))
    | ((with_reducible show wpAny _ _ (PySem.call (Value.builtin "list.append") _ _) _ _ _); (refine' r_appendU ?k0 ?k1 ?k2 ?k3 ?_; (case k0 => k_asm); (case k1 => k_asm); (case k2 => (first | (refine' Upd.head ?zu6; (case zu6 => (repeat' (first | assumption | (exact List.forall_mem_nil _) | k_ne | (refine' List.forall_mem_cons.mpr ⟨?_, ?_⟩))))) | (refine' Upd.tail ?zv6 ?zw6; (case zv6 => first | k_ne | assumption); (case zw6 => (first | (refine' Upd.head ?zu5; (case zu5 => (repeat' (first | assumption | (exact List.forall_mem_nil _) | k_ne | (refine' List.forall_mem_cons.mpr ⟨?_, ?_⟩))))) | (refine' Upd.tail ?zv5 ?zw5; (case zv5 => first | k_ne | assumption); (case zw5 => (first | (refine' Upd.head ?zu4; (case zu4 => (repeat' (first | assumption | (exact List.forall_mem_nil _) | k_ne | (refine' List.forall_mem_cons.mpr ⟨?_, ?_⟩))))) | (refine' Upd.tail ?zv4 ?zw4; (case zv4 => first | k_ne | assumption); (case zw4 => (first | (refine' Upd.head ?zu3; (case zu3 => (repeat' (first | assumption | (exact List.forall_mem_nil _) | k_ne | (refine' List.forall_mem_cons.mpr ⟨?_, ?_⟩))))) | (refine' Upd.tail ?zv3 ?zw3; (case zv3 => first | k_ne | assumption); (case zw3 => (first | (refine' Upd.head ?zu2; (case zu2 => (repeat' (first | assumption | (exact List.forall_mem_nil _) | k_ne | (refine' List.forall_mem_cons.mpr ⟨?_, ?_⟩))))) | (refine' Upd.tail ?zv2 ?zw2; (case zv2 => first | k_ne | assumption); (case zw2 => (first | (refine' Upd.head ?zu1; (case zu1 => (repeat' (first | assumption | (exact List.forall_mem_nil _) | k_ne | (refine' List.forall_mem_cons.mpr ⟨?_, ?_⟩))))) | (refine' Upd.tail ?zv1 ?zw1; (case zv1 => first | k_ne | assumption); (case zw1 => (refine' Upd.head ?zu0; (case zu0 => (repeat' (first | assumption | (exact List.forall_mem_nil _) | k_ne | (refine' List.forall_mem_cons.mpr ⟨?_, ?_⟩)))))))))))))))))))))))); (case k3 => (first | omega | (simp only [List.length_append, List.length_cons, List.length_nil]; omega)))); intro h' F' N'; (try k_sweep))
    | ((with_reducible show wpAny _ _ (do bindName (envOf _ _ _ _ _) _ Value.none; unbindBehindTheSuite (envOf _ _ _ _ _) _ _) _ _ _); (refine name_goes_keeps (by k_asm) (by k_asm) ?_); intro _ _ _ _)
    | walk1
    | (dsimp only; walk1))
          rename Fr g _ _ _ => F9
          rename News g _ _ _ => N9
          rename _ ∧ _ ∧ _ ∧ _ ∧ _ ∧ _ ∧ AllLt _ (add2 ++ yl) => hl5
          exact Stop.go (TryPost.intro F9 (Upto.set (Upto.set (Upto.refl _ _) (List.Mem.head _)) (List.Mem.head _)) (led_sub N9 (List.forall_mem_cons.mpr ⟨List.Mem.head _, fun p hp => List.mem_cons_of_mem _ (List.mem_cons_of_mem _ (List.mem_cons_of_mem _ hp))⟩)) (hoc5.trans hoc) (List.forall_mem_cons.mpr ⟨⟨Nat.ne_of_lt hl5.2.2.1, Nat.ne_of_lt hl5.2.2.2.1, Nat.ne_of_lt hl5.2.2.2.2.1, Nat.ne_of_lt hl5.2.2.2.2.2.1, fun q hq => Nat.ne_of_lt (allLt_mem hl5.2.2.2.2.2.2 q (List.mem_append_right _ hq))⟩, ha2⟩) hd4)
      case rest =>
        rintro f s' ⟨T, oc2, add2, ts2, n2, h5, tk5, M', tx, ty, tu, rfl, rfl, F5, hUf, N5, hoc2, ha2, hd5⟩
        have F5 : Fr g L' h5 _ := Upto.eq1 hUf ▸ F5
        have hpx : path.length ≤ 1000 := Nat.le_trans hpa.2 (by decide)
        obtain ⟨b1, b2, b3, b4, b5⟩ := ha2 _ (List.Mem.head _)
        have hTA : @Ne Nat T Ak := fun z => b3 z.symm
        have hzA : ∀ p ∈ add2 ++ yl, p.1 ≠ Ak := fun p hp => (List.mem_append.mp hp).elim (fun h => (ha2 p (List.mem_cons_of_mem _ h)).2.2.1.symm) (hyA p)
        have hTk : @Ne Nat Tk Ak := fun z => hAT z.symm
        clear F9 N9
        dsimp only
        repeat' (first
    | (k_unfold; (try dsimp only))
    | ((with_reducible show wpAny _ _ (subscriptTail _ _ (Value.ref _) (Value.int (-1) _)) _ _ _); (refine' r_last ?k0 ?k1 ?_ ?k2; (case k0 => k_asm); (case k1 => k_mem); (case k2 => with_unfolding_all rfl)))
    | ((with_reducible show wpAny _ _ (subscriptTail _ (Expr.Slice none (some _) none _) (Value.str _ _) (Value.ref _)) _ _ _); (refine slice_strN_ns (hsz := ?hsz) (s := ⟨_, _, _, _, _⟩) (by k_asm) (by k_asm) ?_); (case hsz => (rw [sizeLine_eq]; omega)); intro _ _ _ _ _)
    | ((with_reducible show wpAny _ _ (PySem.call (Value.ref 129) _ _) _ _ _); (refine' c_dirname ?k0 ?k1 ?k2 ?k3 ?k4 ?k5 ?_; (case k0 => k_asm); (case k1 => k_asm); (case k2 => k_asm); (case k3 => k_asm); (case k4 => (first | omega | (simp only [depth_deeper, depth_in1, units_deeper, units_in1]; (try dsimp only); omega))); (case k5 => (first | with_reducible assumption | assumption))); intro t' h' tk' F' N'; (try k_sweep))
    | ((with_reducible show wpAny _ _ (PySem.call (Value.builtin "list.append") _ _) _ _ _); (refine' r_appendU ?k0 ?k1 ?k2 ?k3 ?_; (case k0 => k_asm); (case k1 => k_asm); (case k2 => (first | (refine' Upd.head ?zu6; (case zu6 => (repeat' (first | assumption | (exact List.forall_mem_nil _) | k_ne | (refine' List.forall_mem_cons.mpr ⟨?_, ?_⟩))))) | (refine' Upd.tail ?zv6 ?zw6; (case zv6 => first | k_ne | assumption); (case zw6 => (first | (refine' Upd.head ?zu5; (case zu5 => (repeat' (first | assumption | (exact List.forall_mem_nil _) | k_ne | (refine' List.forall_mem_cons.mpr ⟨?_, ?_⟩))))) | (refine' Upd.tail ?zv5 ?zw5; (case zv5 => first | k_ne | assumption); (case zw5 => (first | (refine' Upd.head ?zu4; (case zu4 => (repeat' (first | assumption | (exact List.forall_mem_nil _) | k_ne | (refine' List.forall_mem_cons.mpr ⟨?_, ?_⟩))))) | (refine' Upd.tail ?zv4 ?zw4; (case zv4 => first | k_ne | assumption); (case zw4 => (first | (refine' Upd.head ?zu3; (case zu3 => (repeat' (first | assumption | (exact List.forall_mem_nil _) | k_ne | (refine' List.forall_mem_cons.mpr ⟨?_, ?_⟩))))) | (refine' Upd.tail ?zv3 ?zw3; (case zv3 => first | k_ne | assumption); (case zw3 => (first | (refine' Upd.head ?zu2; (case zu2 => (repeat' (first | assumption | (exact List.forall_mem_nil _) | k_ne | (refine' List.forall_mem_cons.mpr ⟨?_, ?_⟩))))) | (refine' Upd.tail ?zv2 ?zw2; (case zv2 => first | k_ne | assumption); (case zw2 => (first | (refine' Upd.head ?zu1; (case zu1 => (repeat' (first | assumption | (exact List.forall_mem_nil _) | k_ne | (refine' List.forall_mem_cons.mpr ⟨?_, ?_⟩))))) | (refine' Upd.tail ?zv1 ?zw1; (case zv1 => first | k_ne | assumption); (case zw1 => (refine' Upd.head ?zu0; (case zu0 => (repeat' (first | assumption | (exact List.forall_mem_nil _) | k_ne | (refine' List.forall_mem_cons.mpr ⟨?_, ?_⟩)))))))))))))))))))))))); (case k3 => (first | omega | (simp only [List.length_append, List.length_cons, List.length_nil]; omega)))); intro h' F' N'; (try k_sweep))
    | ((with_reducible show wpAny _ _ (PySem.call (Value.builtin "list.pop") _ _) _ _ _); (refine' r_popU ?k0 ?k1 ?k2 ?k3 ?_; (case k0 => k_asm); (case k1 => k_asm); (case k2 => (first | (refine' Upd.head ?zu6; (case zu6 => (repeat' (first | assumption | (exact List.forall_mem_nil _) | k_ne | (refine' List.forall_mem_cons.mpr ⟨?_, ?_⟩))))) | (refine' Upd.tail ?zv6 ?zw6; (case zv6 => first | k_ne | assumption); (case zw6 => (first | (refine' Upd.head ?zu5; (case zu5 => (repeat' (first | assumption | (exact List.forall_mem_nil _) | k_ne | (refine' List.forall_mem_cons.mpr ⟨?_, ?_⟩))))) | (refine' Upd.tail ?zv5 ?zw5; (case zv5 => first | k_ne | assumption); (case zw5 => (first | (refine' Upd.head ?zu4; (case zu4 => (repeat' (first | assumption | (exact List.forall_mem_nil _) | k_ne | (refine' List.forall_mem_cons.mpr ⟨?_, ?_⟩))))) | (refine' Upd.tail ?zv4 ?zw4; (case zv4 => first | k_ne | assumption); (case zw4 => (first | (refine' Upd.head ?zu3; (case zu3 => (repeat' (first | assumption | (exact List.forall_mem_nil _) | k_ne | (refine' List.forall_mem_cons.mpr ⟨?_, ?_⟩))))) | (refine' Upd.tail ?zv3 ?zw3; (case zv3 => first | k_ne | assumption); (case zw3 => (first | (refine' Upd.head ?zu2; (case zu2 => (repeat' (first | assumption | (exact List.forall_mem_nil _) | k_ne | (refine' List.forall_mem_cons.mpr ⟨?_, ?_⟩))))) | (refine' Upd.tail ?zv2 ?zw2; (case zv2 => first | k_ne | assumption); (case zw2 => (first | (refine' Upd.head ?zu1; (case zu1 => (repeat' (first | assumption | (exact List.forall_mem_nil _) | k_ne | (refine' List.forall_mem_cons.mpr ⟨?_, ?_⟩))))) | (refine' Upd.tail ?zv1 ?zw1; (case zv1 => first | k_ne | assumption); (case zw1 => (refine' Upd.head ?zu0; (case zu0 => (repeat' (first | assumption | (exact List.forall_mem_nil _) | k_ne | (refine' List.forall_mem_cons.mpr ⟨?_, ?_⟩)))))))))))))))))))))))); (case k3 => (first | omega | (simp only [List.length_append, List.length_cons, List.length_nil]; omega)))); intro h' F' N'; (try k_sweep))
    | walk1
    | (dsimp only; walk1))
        all_goals rename Fr g _ _ _ => F9
        all_goals rename News g _ _ _ => N9
        all_goals rename (_ == Str.ofString "550") = _ => hb
        · refine talk_next (as2 := as' ++ [Value.str path tp] ++ [Value.str (dirF path) t']) (na2 := na + 1) F9 N9 talk_mem ?_ hoc2 hz hsub ha2 hd5 hst (by unfold nextF; rw [if_pos hb]; exact StrsAre.snoc hs1) hd2 hsep he
          refine Upto.set (Upto.set (Upto.set (Upto.set (Upto.set (Upto.set (Upto.refl _ _) ?_) ?_) ?_) ?_) ?_) ?_ <;> k_mem
        · refine talk_next (as2 := as') (na2 := na + 1) F9 N9 talk_mem ?_ hoc2 hz hsub ha2 hd5 hst (by unfold nextF; rw [if_neg (by rw [hb]; decide), List.dropLast_concat]; exact hs0) hd2 hsep he
          refine Upto.set (Upto.set (Upto.set (Upto.set (Upto.set (Upto.set (Upto.refl _ _) ?_) ?_) ?_) ?_) ?_) ?_ <;> k_mem
  case done =>
    intro m1 mu z h3 tk3 hJ F3 N3 hz3
    refine hJ.elim fun oc ts1 as rs n1 na nt add hz hmu hoc hd1 hs1 hd2 hsep hU => ?_
    subst hmu
    have F3 : Fr g L' h3 _ := Upto.three hU ▸ F3
    replace N3 : News g L' h3 ((L, oc) :: (D, listOf ts1.toArray n1) :: (Ak, listOf as.toArray na) :: (Tk, listOf rs.toArray nt) :: z) := N3
    have hsp : ∀ p ∈ add, @Ne Nat p.1 L ∧ @Ne Nat p.1 D := fun p hp => ⟨fun e => hz3 p (hz ▸ List.mem_append_left _ hp) (by rw [e]; exact List.Mem.head _), fun e => hz3 p (hz ▸ List.mem_append_left _ hp) (by rw [e]; exact List.mem_cons_of_mem _ (List.Mem.head _))⟩
    subst hz
    clear F9 N9 hJ
    show wpAny _ _ _ _ _ _
    repeat' (first
    | (k_unfold; (try dsimp only))
    | walk1
    | (dsimp only; walk1))
    rename Fr g _ _ _ => F9
    rename News g _ _ _ => N9
    exact fin rfl rfl rfl F9 N9 (List.forall_mem_cons.mpr ⟨by k_mem, List.forall_mem_cons.mpr ⟨by k_mem, List.forall_mem_cons.mpr ⟨by k_mem, fun p h9 => (by repeat (first | exact h9 | apply List.mem_cons_of_mem))⟩⟩⟩) hoc hd1 hd2 hsep hsp rfl
end
end

section
-- part P2
theorem rev_ind {α : Type} {P : List α → Prop} (h0 : P []) (h1 : ∀ l y, P l → P (l ++ [y])) (l : List α) : P l := by
  have key : ∀ l : List α, P l.reverse := by
    intro l
    induction l with
    | nil => exact h0
    | cons y l ih => rw [List.reverse_cons]; exact h1 _ _ ih
  have := key l.reverse
  rwa [List.reverse_reverse] at this
-- the two readings of a way: names from the front, debts from the back
theorem compF_skip {acc : List Str} {y : Str} (h : y = Str.ofString "" ∨ y = Str.ofString ".") : compF acc y = acc := by
  unfold compF
  rcases h with rfl | rfl
  · rw [if_pos (by decide)]
  · rw [if_neg (by decide), if_pos rfl]
theorem len0 {y : Str} : y.length = 0 ↔ y = Str.ofString "" := by
  constructor
  · intro h
    refine cl_inj ?_
    rw [cl_e]
    exact List.eq_nil_of_length_eq_zero (by rw [cl_len]; exact h)
  · rintro rfl; decide
theorem dd_ne : Str.ofString ".." ≠ Str.ofString "" ∧ Str.ofString ".." ≠ Str.ofString "." := ⟨by decide, by decide⟩
theorem compF_up (acc : List Str) : compF acc (Str.ofString "..") = acc.dropLast := by
  unfold compF
  rw [if_neg (by decide), if_neg (by decide), if_pos rfl]
theorem compF_add {acc : List Str} {y : Str} (h1 : ¬ (y = Str.ofString "" ∨ y = Str.ofString ".")) (h2 : y ≠ Str.ofString "..") : compF acc y = acc ++ [y] := by
  unfold compF
  rw [if_neg (fun e => h1 (.inl (len0.mp e))), if_neg (fun e => h1 (.inr e)), if_neg h2]
theorem back_front : ∀ (l : List Str) (acc : List Str) (d : Nat), (l.reverse.foldl stepP (acc, d)).1 = (l.foldl compF []).take ((l.foldl compF []).length - d) ++ acc := by
  refine rev_ind (fun acc d => by simp) fun l y ih => ?_
  · intro acc d
    rw [List.reverse_append, List.reverse_singleton, List.singleton_append, List.foldl_cons, List.foldl_append, List.foldl_cons, List.foldl_nil]
    generalize List.foldl compF [] l = N at ih ⊢
    by_cases h2 : y = Str.ofString ".."
    · subst h2
      rw [compF_up, show stepP (acc, d) (Str.ofString "..") = (acc, d + 1) from if_pos rfl, ih, List.length_dropLast, List.dropLast_eq_take, List.take_take]
      congr 2
      omega
    · by_cases h1 : y = Str.ofString "" ∨ y = Str.ofString "."
      · rw [compF_skip h1, show stepP (acc, d) y = (acc, d) by unfold stepP; rw [if_neg h2, if_pos h1], ih]
      · rw [compF_add h1 h2]
        cases d with
        | zero =>
          rw [show stepP (acc, 0) y = (y :: acc, 0) by unfold stepP; rw [if_neg h2, if_neg h1, if_neg (by simp)], ih, Nat.sub_zero, Nat.sub_zero, List.take_length, List.take_length, List.append_assoc]
          rfl
        | succ d =>
          rw [show stepP (acc, d + 1) y = (acc, d) by unfold stepP; rw [if_neg h2, if_neg h1, if_pos (by simp)]; rfl, ih, List.length_append, List.length_singleton, show N.length + 1 - (d + 1) = N.length - d by omega, List.take_append_of_le_length (by omega)]
theorem place_is (place pieces : List Str) : placeF place pieces = (baseF place pieces).foldl compF [] := by
  unfold placeF
  rw [back_front, Nat.sub_zero, List.take_length, List.append_nil]
/-- a walk keeps some of the names that it begins with, and adds few -/
theorem comp_keeps : ∀ (l acc : List Str), ∃ k new, l.foldl compF acc = acc.take k ++ new ∧ new.length ≤ l.length ∧ ∀ y ∈ new, y ∈ l ∧ y ≠ Str.ofString "" ∧ y ≠ Str.ofString "." ∧ y ≠ Str.ofString ".." := by
  refine rev_ind (fun acc => ⟨acc.length, [], by simp, Nat.le_refl _, fun _ h => nomatch h⟩) fun l y ih => ?_
  · intro acc
    obtain ⟨k, new, e, hl, hn⟩ := ih acc
    rw [List.foldl_append, List.foldl_cons, List.foldl_nil, e]
    by_cases h2 : y = Str.ofString ".."
    · subst h2
      rw [compF_up]
      rcases List.eq_nil_or_concat new with rfl | ⟨nw, z, rfl⟩
      · refine ⟨(acc.take k).length - 1, [], ?_, Nat.zero_le _, fun _ h => nomatch h⟩
        rw [List.append_nil, List.append_nil, List.dropLast_eq_take, List.take_take]
        congr 1
        rw [List.length_take]; omega
      · refine ⟨k, nw, ?_, by simp at hl ⊢; omega, fun z' hz => ?_⟩
        · rw [List.concat_eq_append, ← List.append_assoc, List.dropLast_concat]
        · obtain ⟨a, b⟩ := hn z' (by rw [List.concat_eq_append]; exact List.mem_append_left _ hz)
          exact ⟨List.mem_append_left _ a, b⟩
    · by_cases h1 : y = Str.ofString "" ∨ y = Str.ofString "."
      · rw [compF_skip h1]
        exact ⟨k, new, rfl, by rw [List.length_append]; omega, fun z hz => ⟨List.mem_append_left _ (hn z hz).1, (hn z hz).2⟩⟩
      · rw [compF_add h1 h2]
        refine ⟨k, new ++ [y], by rw [List.append_assoc], by simp; omega, fun z hz => ?_⟩
        rcases List.mem_append.mp hz with hz | hz
        · exact ⟨List.mem_append_left _ (hn z hz).1, (hn z hz).2⟩
        · rw [List.mem_singleton.mp hz]
          exact ⟨List.mem_append_right _ (List.Mem.head _), fun e => h1 (.inl e), fun e => h1 (.inr e), h2⟩
def Plain (f : List Str) : Prop := ∀ y ∈ f, y ≠ Str.ofString "" ∧ y ≠ Str.ofString "." ∧ y ≠ Str.ofString ".."
theorem comp_plain : ∀ {f acc : List Str}, Plain f → f.foldl compF acc = acc ++ f
  | [], acc, _ => (List.append_nil acc).symm
  | y :: f, acc, h => by
    obtain ⟨h1, h2, h3⟩ := h y (List.Mem.head _)
    rw [List.foldl_cons, compF_add (fun e => e.elim h1 h2) h3, comp_plain fun z hz => h z (List.mem_cons_of_mem _ hz), List.append_assoc]
    rfl
end

section
-- part P3
open PySem.Builtin.Str
-- the answer read back
def dbl : List Nat → List Nat
  | [] => []
  | c :: r => if c = 34 then 34 :: 34 :: dbl r else c :: dbl r
theorem dbl_app : ∀ a b : List Nat, dbl (a ++ b) = dbl a ++ dbl b
  | [], _ => rfl
  | c :: a, b => by
    show (if c = 34 then 34 :: 34 :: dbl (a ++ b) else c :: dbl (a ++ b)) = (if c = 34 then 34 :: 34 :: dbl a else c :: dbl a) ++ dbl b
    rw [dbl_app a b]
    split <;> rfl
theorem dbl_free : ∀ {l : List Nat}, 34 ∉ l → dbl l = l
  | [], _ => rfl
  | c :: l, h => by
    show (if c = 34 then 34 :: 34 :: dbl l else c :: dbl l) = c :: l
    rw [if_neg (fun e => h (by rw [e]; exact List.Mem.head _)), dbl_free fun m => h (List.mem_cons_of_mem _ m)]
theorem dbl_join : ∀ {ps : List Str}, (∀ p ∈ ps, 34 ∉ cl p) → dbl (cl (Txt.join ⟨#[34]⟩ ps)) = cl (Txt.join ⟨#[34, 34]⟩ ps)
  | [], _ => by rw [join_nil, join_nil]; rfl
  | [p], h => by rw [join_one, join_one, dbl_free (h p (List.Mem.head _))]
  | p :: q :: r, h => by
    rw [join_cons (p := p) (r := q :: r) (by simp), join_cons (p := p) (r := q :: r) (by simp), cl_app, cl_app, cl_app, cl_app, dbl_app, dbl_app, dbl_free (h p (List.Mem.head _)), dbl_join fun y hy => h y (List.mem_cons_of_mem _ hy)]
    rfl
theorem rep_dbl (x : Str) : cl (Txt.replace x (Str.ofString "\"") (Str.ofString "\"\"")) = dbl (cl x) := by
  rw [quote_is, rep_eq, show Str.ofString "\"\"" = ⟨#[34, 34]⟩ by decide, ← dbl_join (fun p hp => StrLaws.split_free x 34 p hp), join_split']
theorem pl_dbl : ∀ {l r : List Nat}, (∀ d ∈ r.head?, d ≠ 34) → pl (dbl l ++ 34 :: r) = l
  | [], [], _ => rfl
  | [], d :: r, h => by
    show pl (34 :: d :: r) = []
    rw [pl, if_pos rfl]
    exact if_neg (h d rfl)
  | c :: l, r, h => by
    show pl ((if c = 34 then 34 :: 34 :: dbl l else c :: dbl l) ++ 34 :: r) = c :: l
    split
    · rename_i e
      show pl (34 :: 34 :: (dbl l ++ 34 :: r)) = c :: l
      rw [pl, if_pos rfl]
      show (if 34 = 34 then 34 :: pl (dbl l ++ 34 :: r) else []) = c :: l
      rw [if_pos rfl, pl_dbl h, e]
    · rename_i e
      show pl (c :: (dbl l ++ 34 :: r)) = c :: l
      rw [pl_ne e, pl_dbl h]
theorem parse_ans {c : Str} {f : List Str} {w : Str} (hc : c.length = 3) (hw : ∀ d ∈ (cl w).head?, d ≠ 34) : parseF (answerF c f w) = Str.ofString "/" ++ Txt.join (Str.ofString "/") f := by
  refine cl_inj ?_
  show (pl ((cl (answerF c f w)).drop 5)).toArray.toList = _
  rw [cl_ans, List.drop_append, cl_len, hc, List.drop_of_length_le (by rw [cl_len]; omega), rep_dbl, cl_app, cl_s]
  show pl (47 :: (dbl (cl (Txt.join (Str.ofString "/") f)) ++ 34 :: cl w)) = _
  rw [pl_ne (by decide), pl_dbl hw]
  rfl
theorem parse_made (f : List Str) : parseF (answerF (Str.ofString "257") f (Str.ofString " is made")) = Str.ofString "/" ++ Txt.join (Str.ofString "/") f := parse_ans (by decide) (by decide)
theorem parse_here (f : List Str) : parseF (answerF (Str.ofString "257") f (Str.ofString " is \"here\"")) = Str.ofString "/" ++ Txt.join (Str.ofString "/") f := parse_ans (by decide) (by decide)
-- slices
theorem slice_clip (x : Str) (a b : Nat) : Txt.slice x (some (a : Int)) (some (b : Int)) = Txt.slice x (some ((min a x.length : Nat) : Int)) (some ((min b x.length : Nat) : Int)) := by
  show StrLaws.sliceText x (some (a : Int)) (some (b : Int)) = StrLaws.sliceText x (some ((min a x.length : Nat) : Int)) (some ((min b x.length : Nat) : Int))
  have e : strSliceIndices (some (a : Int)) (some (b : Int)) 1 x.length = strSliceIndices (some ((min a x.length : Nat) : Int)) (some ((min b x.length : Nat) : Int)) 1 x.length := by
    have h1 : ¬ ((a : Int) < 0) := by omega
    have h2 : ¬ ((b : Int) < 0) := by omega
    have h3 : ¬ (((min a x.length : Nat) : Int) < 0) := by omega
    have h4 : ¬ (((min b x.length : Nat) : Int) < 0) := by omega
    have e1 : min (a : Int) (x.length : Int) = min ((min a x.length : Nat) : Int) (x.length : Int) := by omega
    have e2 : min (b : Int) (x.length : Int) = min ((min b x.length : Nat) : Int) (x.length : Int) := by omega
    simp only [strSliceIndices, h1, h2, h3, h4, if_false, show (1 : Int) > 0 by decide, if_true, e1, e2]
  unfold StrLaws.sliceText
  rw [e]
theorem slice_mid (x : Str) {a b : Nat} (hab : a ≤ b) : cl (Txt.slice x (some (a : Int)) (some (b : Int))) = ((cl x).drop a).take (b - a) := by
  have hl := cl_len x
  rw [slice_clip, beq_iff_eq.mp (slice_closesL (by omega) (by omega) (by omega))]
  show ((cl x).drop ((min a x.length : Nat) : Int).toNat).take (((min b x.length : Nat) : Int) - ((min a x.length : Nat) : Int)).toNat = _
  rw [Int.toNat_natCast, show (((min b x.length : Nat) : Int) - ((min a x.length : Nat) : Int)).toNat = min b x.length - min a x.length by omega]
  by_cases h : a ≤ x.length
  · rw [Nat.min_eq_left h]
    by_cases h2 : b ≤ x.length
    · rw [Nat.min_eq_left h2]
    · rw [Nat.min_eq_right (by omega), List.take_of_length_le (by rw [List.length_drop]; omega), List.take_of_length_le (by rw [List.length_drop]; omega)]
  · rw [Nat.min_eq_right (by omega : x.length ≤ a), List.drop_of_length_le (by omega), List.drop_of_length_le (by omega)]
    simp
-- the place above
theorem take1 {l : List Nat} {i c : Nat} : (l.drop i).take 1 = [c] ↔ l[i]? = some c := by
  have e : l[i]? = (l.drop i)[0]? := by rw [List.getElem?_drop]; rfl
  rw [e]
  cases l.drop i with
  | nil => simp
  | cons d r => simp
theorem subAt_s (x : Str) (i : Nat) : subAt x (Str.ofString "/") i = true ↔ (cl x)[i]? = some 47 := by
  unfold subAt
  rw [beq_iff_eq, ← Array.toList_inj, ← take1]
  show cl (strSub x i (i + (Str.ofString "/").length)) = _ ↔ _
  rw [cl_sub, slash_len, show i + 1 - i = 1 by omega]
  exact Iff.rfl
theorem rfind_end {x : Str} {b y : List Nat} (e : cl x = b ++ 47 :: y) (hy : 47 ∉ y) : Txt.rfind x (Str.ofString "/") + 1 = ((b.length + 1 : Nat) : Int) := by
  have hl : x.length = b.length + 1 + y.length := by rw [← cl_len, e]; simp; omega
  have hat : StrLaws.At x (Str.ofString "/") x.length b.length := ⟨by rw [slash_len]; omega, (subAt_s _ _).mpr (by rw [e]; simp)⟩
  unfold Txt.rfind
  rcases StrLaws.last_spec x (Str.ofString "/") with ⟨_, h⟩ | ⟨i, h, hi, hm⟩
  · exact absurd hat (h _)
  · rw [h]
    have h1 := (subAt_s _ _).mp hi.2
    have h2 : i = b.length := by
      rcases Nat.lt_trichotomy i b.length with q | q | q
      · exact absurd hat (hm _ q)
      · exact q
      · rw [e, List.getElem?_append_right (by omega)] at h1
        obtain ⟨j, hj⟩ : ∃ j, i - b.length = j + 1 := ⟨i - b.length - 1, by omega⟩
        rw [hj, List.getElem?_cons_succ] at h1
        exact absurd (List.mem_of_getElem? h1) hy
    rw [h2]
    rfl
theorem rstrip_s {x : Str} {c : List Nat} {d n : Nat} (e : cl x = c ++ d :: List.replicate n 47) (hd : d ≠ 47) : cl (Txt.rstripChars x (Str.ofString "/")) = c ++ [d] := by
  unfold Txt.rstripChars
  rw [PyProof.Rows.stripBy_eq, cl_sub]
  have hlo : stripLo (Str.ofString "/").cps.contains false x = 0 := rfl
  have hl : x.length = c.length + 1 + n := by rw [← cl_len, e]; simp; omega
  have hrev : ((cl x).drop 0).reverse = List.replicate n 47 ++ d :: c.reverse := by rw [List.drop_zero, e]; simp
  have hg : (Str.ofString "/").cps.contains 47 = true := by rw [show (Str.ofString "/").cps = #[47] by decide]; simp
  have hg2 : (Str.ofString "/").cps.contains d = false := by
    rw [show (Str.ofString "/").cps = #[47] by decide]
    simp [hd]
  have htw : ∀ k, (List.replicate k 47 ++ d :: c.reverse).takeWhile (Str.ofString "/").cps.contains = List.replicate k 47 := by
    intro k
    induction k with
    | zero => rw [List.replicate_zero, List.nil_append, List.takeWhile_cons, hg2]; rfl
    | succ k ih => rw [List.replicate_succ, List.cons_append, List.takeWhile_cons, if_pos hg, ih]
  have hhi : stripHi (Str.ofString "/").cps.contains true x 0 = c.length + 1 := by
    unfold stripHi
    rw [if_pos rfl]
    show x.length - (((cl x).drop 0).reverse.takeWhile _).length = _
    rw [hrev, htw, List.length_replicate]
    omega
  rw [hlo, hhi, e, List.drop_zero, Nat.sub_zero, List.take_append, List.take_of_length_le (by omega), show c.length + 1 - c.length = 1 by omega]
  rfl
theorem mul_s (n : Int) : ∀ c ∈ cl (Txt.mul (Str.ofString "/") n), c = 47 := by
  unfold Txt.mul
  split
  · intro c hc; exact nomatch (show c ∈ ([] : List Nat) from hc)
  · split
    · intro c hc; rw [cl_s] at hc; exact List.mem_singleton.mp hc
    · have key : ∀ (k : Nat) (a : Array Nat), (∀ c ∈ a.toList, c = 47) → ∀ c ∈ ((List.replicate k (Str.ofString "/").cps).foldl (· ++ ·) a).toList, c = 47 := by
        intro k
        induction k with
        | zero => intro a h; exact h
        | succ k ih =>
          intro a h
          rw [List.replicate_succ, List.foldl_cons]
          refine ih _ fun c hc => ?_
          rw [Array.toList_append] at hc
          rcases List.mem_append.mp hc with hc | hc
          · exact h c hc
          · rw [show (Str.ofString "/").cps.toList = [47] by decide] at hc
            exact List.mem_singleton.mp hc
      exact key _ #[] (fun c hc => nomatch (show c ∈ ([] : List Nat) from hc))
theorem join_snoc {s y : Str} : ∀ {f : List Str}, f ≠ [] → Txt.join s (f ++ [y]) = Txt.join s f ++ (s ++ y)
  | [], h => absurd rfl h
  | [z], _ => by rw [List.singleton_append, join_cons (by simp), join_one, join_one]
  | z :: u :: r, _ => by
    rw [List.cons_append, join_cons (by simp), join_snoc (f := u :: r) (by simp), join_cons (s := s) (p := z) (r := u :: r) (by simp)]
    exact cl_inj (by simp only [cl_app, List.append_assoc])
theorem last_of {y : Str} (h : y ≠ Str.ofString "") (hf : Free y) : ∃ c d, cl y = c ++ [d] ∧ d ≠ 47 := by
  rcases List.eq_nil_or_concat (cl y) with e | ⟨c, d, e⟩
  · exact absurd (cl_inj (by rw [e, cl_e])) h
  · rw [List.concat_eq_append] at e
    exact ⟨c, d, e, fun z => hf (by rw [e, z]; simp)⟩
theorem join_last {s : Str} {f : List Str} (h0 : f ≠ []) (h : Nm f) : ∃ c d, cl (Txt.join s f) = c ++ [d] ∧ d ≠ 47 := by
  rcases List.eq_nil_or_concat f with rfl | ⟨g, y, rfl⟩
  · exact absurd rfl h0
  · rw [List.concat_eq_append] at h ⊢
    obtain ⟨hf, hy⟩ := h y (by simp)
    obtain ⟨c, d, e, hd⟩ := last_of hy hf
    by_cases hg : g = []
    · subst hg
      exact ⟨c, d, by rw [List.nil_append, join_one, e], hd⟩
    · refine ⟨cl (Txt.join s g) ++ (cl s ++ c), d, ?_, hd⟩
      rw [join_snoc hg, cl_app, cl_app, e]
      simp
theorem dir_path {root : Str} {f : List Str} {y : Str} (hr : Rt root) (h : Nm (f ++ [y])) : dirF (pathF root (f ++ [y])) = pathF root f := by
  obtain ⟨hf, hy⟩ := h y (by simp)
  have hN : Nm f := fun z hz => h z (List.mem_append_left _ hz)
  by_cases h0 : f = []
  · subst h0
    have hd : ∀ n : Nat, cl root = List.replicate n 47 ++ [47] → cl (pathF root [y]) = List.replicate n 47 ++ 47 :: cl y := fun n e => by
      unfold pathF; rw [join_one, cl_app, e]; simp
    have go : ∀ n : Nat, cl root = List.replicate n 47 ++ [47] → root.length = n + 1 → (root != Txt.mul (Str.ofString "/") (root.length : Int)) = false → dirF (pathF root ([] ++ [y])) = pathF root [] := fun n e hl hm => by
      have hs : Txt.slice (pathF root [y]) none (some (Txt.rfind (pathF root [y]) (Str.ofString "/") + 1)) = root := by
        rw [rfind_end (hd n e) hf]
        refine cl_inj ?_
        rw [slice_to, hd n e, e, List.length_replicate, List.take_append, List.take_of_length_le (by simp), List.length_replicate, show n + 1 - n = 1 by omega]
        rfl
      rw [List.nil_append]
      unfold dirF
      dsimp only
      rw [hs, if_neg (by omega), hm]
      show root = root ++ Txt.join (Str.ofString "//") []
      rw [join_nil]
      exact cl_inj (by rw [cl_app, cl_e, List.append_nil])
    rcases hr with rfl | rfl
    · exact go 1 (by decide) (by decide) (by decide)
    · exact go 3 (by decide) (by decide) (by decide)
  · obtain ⟨c, d, e, hd⟩ := join_last (s := Str.ofString "//") h0 hN
    have e1 : cl (pathF root (f ++ [y])) = (cl root ++ c ++ [d] ++ [47]) ++ 47 :: cl y := by
      unfold pathF
      rw [join_snoc h0, cl_app, cl_app, cl_app, e, cl_ss]
      simp
    have hs : cl (Txt.slice (pathF root (f ++ [y])) none (some (Txt.rfind (pathF root (f ++ [y])) (Str.ofString "/") + 1))) = (cl root ++ c) ++ d :: List.replicate 2 47 := by
      rw [rfind_end e1 hf, slice_to, e1, List.take_append, List.take_of_length_le (by omega), show ∀ k : Nat, k + 1 - k = 1 from fun k => by omega]
      simp [List.replicate]
    unfold dirF
    dsimp only
    generalize Txt.slice (pathF root (f ++ [y])) none (some (Txt.rfind (pathF root (f ++ [y])) (Str.ofString "/") + 1)) = hd0 at hs
    have hlen : hd0.length ≠ 0 := by rw [← cl_len, hs]; simp
    rw [if_neg (by omega), if_pos]
    · refine cl_inj ?_
      rw [rstrip_s hs hd]
      unfold pathF
      rw [cl_app, e, List.append_assoc]
    · rw [bne_iff_ne]
      intro z
      have := mul_s (hd0.length : Int) d (by rw [← z, hs]; simp)
      exact hd this
end

section
-- part P4
-- one turn of the talk
theorem server_path {there : List (List Str)} {root : Str} {f : List Str} (hr : Rt root) (h : Nm f) : serverF there (pathF root f) =
    if f ∈ there then (there, answerF (Str.ofString "250") f (Str.ofString " is there"))
    else if f ≠ [] ∧ f.dropLast ∉ there then (there, answerF (Str.ofString "550") f (Str.ofString " has no place"))
    else (there ++ [f], answerF (Str.ofString "257") f (Str.ofString " is made")) := by
  unfold serverF
  rw [names_path hr h]
theorem entry_no {path : Str} {c : Str} {f : List Str} {w : Str} (hc : c.length = 3) (hn : (c != Str.ofString "257") = true) : entryF path (answerF c f w) = (path, Str.ofString "refused", answerF c f w) := by
  unfold entryF
  rw [ans_slice3 hc, if_pos hn]
theorem entry_yes {path : Str} {f : List Str} {w : Str} : entryF path (answerF (Str.ofString "257") f w) = (path, Str.ofString "told", parseF (answerF (Str.ofString "257") f w)) := by
  unfold entryF
  rw [ans_slice3 (by decide), if_neg (by decide)]
theorem told_550 (x : Str) : (Txt.slice (Str.ofString "/" ++ x) none (some 3) == Str.ofString "550") = false := by
  refine beq_eq_false_iff_ne.mpr fun e => ?_
  have h := congrArg cl e
  rw [show (3 : Int) = ((3 : Nat) : Int) from rfl, slice_to, cl_app, cl_s] at h
  exact absurd (show 47 ∈ cl (Str.ofString "550") by rw [← h]; exact List.Mem.head _) (by decide)
section
variable {there : List (List Str)} {root : Str} {f : List Str} {as : List Str} {talk : List (Str × Str × Str)}
theorem ask_there (hr : Rt root) (h : Nm f) (hm : f ∈ there) : askF (there, as ++ [pathF root f], talk) = (there, as, talk ++ [(pathF root f, Str.ofString "refused", answerF (Str.ofString "250") f (Str.ofString " is there"))]) := by
  rw [askF_snoc (as := as) (path := pathF root f) rfl]
  dsimp only
  rw [server_path hr h, if_pos hm, entry_no (by decide) (by decide)]
  unfold nextF
  rw [ans_slice3 (by decide), if_neg (by decide), List.dropLast_concat]
theorem ask_no (hr : Rt root) (h : Nm f) (hm : f ∉ there) (h0 : f ≠ []) (hd : f.dropLast ∉ there) : askF (there, as ++ [pathF root f], talk) = (there, as ++ [pathF root f] ++ [pathF root f.dropLast], talk ++ [noF root f]) := by
  rw [askF_snoc (as := as) (path := pathF root f) rfl]
  dsimp only
  rw [server_path hr h, if_neg hm, if_pos ⟨h0, hd⟩, entry_no (by decide) (by decide)]
  unfold nextF
  rw [ans_slice3 (by decide), if_pos (by decide)]
  obtain ⟨y, e⟩ : ∃ y, f = f.dropLast ++ [y] := ⟨f.getLast h0, (List.dropLast_concat_getLast h0).symm⟩
  have hp : dirF (pathF root f) = pathF root f.dropLast := by
    rw [e] at h
    have := dir_path hr h
    rwa [← e] at this
  rw [hp]
  rfl
theorem ask_yes (hr : Rt root) (h : Nm f) (hm : f ∉ there) (hd : f = [] ∨ f.dropLast ∈ there) : askF (there, as ++ [pathF root f], talk) = (there ++ [f], as, talk ++ [yesF root f]) := by
  rw [askF_snoc (as := as) (path := pathF root f) rfl]
  dsimp only
  rw [server_path hr h, if_neg hm, if_neg (fun q => hd.elim q.1 q.2), entry_yes, parse_made]
  unfold nextF
  dsimp only
  rw [told_550, if_neg (by decide), List.dropLast_concat]
  rfl
end
-- the fronts
/-- a row of folders, each above the next, the first's place there and none of themselves -/
structure FRow (there fs : List (List Str)) : Prop where
  nm : ∀ (i : Nat) (f : List Str), fs[i]? = some f → f ∉ there ∧ Nm f
  up : ∀ (i : Nat) (f g : List Str), fs[i]? = some f → fs[i + 1]? = some g → g ≠ [] ∧ g.dropLast = f
  top : ∀ (f : List Str), fs[0]? = some f → f = [] ∨ f.dropLast ∈ there
  ne : ∀ (i j : Nat) (f : List Str), i < j → fs[i]? = some f → fs[j]? = some f → False
section
variable {there fs : List (List Str)} {root : Str} {P : List Str}
theorem FRow.climb (R : FRow there fs) (hr : Rt root) (hP : fs[fs.length - 1]? = some P) : ∀ j, j < fs.length → askN j (there, [pathF root P], []) = (there, (fs.reverse.take (j + 1)).map (pathF root), (fs.reverse.take j).map (noF root)) := by
  have hget : ∀ j, j < fs.length → fs.reverse[j]? = fs[fs.length - 1 - j]? := fun j h => List.getElem?_reverse h
  intro j
  induction j with
  | zero =>
    intro h
    rw [askN_zero, take_snoc (i := 0) (c := P) (by rw [hget 0 h, Nat.sub_zero]; exact hP)]
    rfl
  | succ j ih =>
    intro h
    rw [askN_succ, ih (by omega)]
    obtain ⟨g, hg⟩ : ∃ g, fs[fs.length - 1 - j]? = some g := ⟨_, List.getElem?_eq_getElem (by omega)⟩
    obtain ⟨f, hf⟩ : ∃ f, fs[fs.length - 1 - (j + 1)]? = some f := ⟨_, List.getElem?_eq_getElem (by omega)⟩
    have h1 : fs.reverse[j]? = some g := by rw [hget j (by omega)]; exact hg
    have h2 : fs.reverse[j + 1]? = some f := by rw [hget (j + 1) h]; exact hf
    obtain ⟨u1, u2⟩ := R.up _ f g hf (by rw [show fs.length - 1 - (j + 1) + 1 = fs.length - 1 - j by omega]; exact hg)
    rw [take_snoc h1, List.map_append, List.map_singleton, ask_no hr (R.nm _ g hg).2 (R.nm _ g hg).1 u1 (by rw [u2]; exact (R.nm _ f hf).1), take_snoc h2, take_snoc h1, u2]
    simp only [List.map_append, List.map_singleton]
theorem FRow.down (R : FRow there fs) (hr : Rt root) {talk : List (Str × Str × Str)} {st : TSt} {n : Nat} (h0 : askN n st = (there, fs.reverse.map (pathF root), talk)) : ∀ i, i ≤ fs.length → askN (n + i) st = (there ++ fs.take i, (fs.drop i).reverse.map (pathF root), talk ++ (fs.take i).map (yesF root)) := by
  intro i
  induction i with
  | zero => intro _; rw [Nat.add_zero, h0]; simp
  | succ i ih =>
    intro h
    obtain ⟨f, hf⟩ : ∃ f, fs[i]? = some f := ⟨_, List.getElem?_eq_getElem (by omega)⟩
    have hd : fs.drop i = f :: fs.drop (i + 1) := by
      rw [List.drop_eq_getElem_cons (by omega)]
      rw [List.getElem?_eq_getElem (by omega)] at hf
      rw [Option.some.inj hf]
    rw [← Nat.add_assoc, askN_succ, ih (by omega), hd, List.reverse_cons, List.map_append, List.map_singleton, ask_yes hr (R.nm i f hf).2 ?_ ?_, take_snoc hf, List.map_append, List.append_assoc, List.append_assoc]
    · rfl
    · intro hm
      rcases List.mem_append.mp hm with hm | hm
      · exact (R.nm i f hf).1 hm
      · obtain ⟨j, hj⟩ := List.mem_iff_getElem?.mp hm
        rw [List.getElem?_take] at hj
        split at hj
        · rename_i hji
          exact R.ne j i f hji hj hf
        · cases hj
    · cases i with
      | zero =>
        rcases R.top f hf with h | h
        · exact .inl h
        · exact .inr (List.mem_append_left _ h)
      | succ i =>
        obtain ⟨g, hg⟩ : ∃ g, fs[i]? = some g := ⟨_, List.getElem?_eq_getElem (by omega)⟩
        obtain ⟨_, u2⟩ := R.up i g f hg hf
        refine .inr (List.mem_append_right _ ?_)
        rw [u2, take_snoc hg]
        simp
theorem FRow.talk (R : FRow there fs) (hr : Rt root) (hP : fs[fs.length - 1]? = some P) (h0 : fs ≠ []) (h5 : fs.length ≤ 5) : askN 9 (there, [pathF root P], []) = (there ++ fs, [], (fs.drop 1).reverse.map (noF root) ++ fs.map (yesF root)) := by
  have hl : 0 < fs.length := List.length_pos_iff.mpr h0
  have c := R.climb hr hP (fs.length - 1) (by omega)
  rw [show fs.length - 1 + 1 = fs.length by omega, List.take_of_length_le (by rw [List.length_reverse]; exact Nat.le_refl _), show fs.reverse.take (fs.length - 1) = (fs.drop 1).reverse by rw [List.take_reverse]; congr 2; omega] at c
  have d := R.down hr c fs.length (Nat.le_refl _)
  rw [List.take_length, List.drop_length] at d
  rw [askN_end (i := fs.length - 1 + fs.length) (by omega) (by rw [d]; rfl), d]
  rfl
end
theorem pc_take {there : List (List Str)} (pc : ∀ f ∈ there, f.dropLast ∈ there) {P : List Str} : ∀ d k, P.take (k + d) ∈ there → k + d ≤ P.length → P.take k ∈ there
  | 0, _, h, _ => h
  | d + 1, k, h, hl => by
    have h2 := pc _ h
    rw [List.dropLast_eq_take, List.take_take, List.length_take, show min (min (k + (d + 1)) P.length - 1) (k + (d + 1)) = k + d by omega] at h2
    exact pc_take pc d k h2 (by omega)
theorem k0_of {there : List (List Str)} (pc : ∀ f ∈ there, f.dropLast ∈ there) (P : List Str) : ∀ N, N ≤ P.length + 1 → ∃ k0, k0 ≤ N ∧ ∀ k, k < N → (P.take k ∈ there ↔ k < k0)
  | 0, _ => ⟨0, Nat.le_refl _, fun k h => absurd h (Nat.not_lt_zero _)⟩
  | N + 1, hN => by
    obtain ⟨k0, h1, h2⟩ := k0_of pc P N (by omega)
    by_cases hN' : P.take N ∈ there
    · refine ⟨N + 1, Nat.le_refl _, fun k h => ⟨fun _ => h, fun _ => pc_take pc (N - k) k (by rw [show k + (N - k) = N by omega]; exact hN') (by omega)⟩⟩
    · refine ⟨k0, by omega, fun k h => ?_⟩
      by_cases hk : k < N
      · exact h2 k hk
      · obtain rfl : k = N := by omega
        exact ⟨fun h => absurd h hN', fun h => absurd h (by omega)⟩
theorem range_filter (k0 : Nat) : ∀ N, k0 ≤ N → (List.range N).filter (fun k => !decide (k < k0)) = List.range' k0 (N - k0)
  | 0, h => by obtain rfl : k0 = 0 := by omega
               rfl
  | N + 1, h => by
    rw [List.range_succ, List.filter_append]
    by_cases hk : k0 ≤ N
    · rw [range_filter k0 N hk, show N + 1 - k0 = (N - k0) + 1 by omega, List.range'_concat, Nat.one_mul, show k0 + (N - k0) = N by omega, List.filter_cons, if_pos (by simp; omega), List.filter_nil]
    · obtain rfl : k0 = N + 1 := by omega
      have e : (List.range N).filter (fun k => !decide (k < N + 1)) = [] := by
        rw [List.filter_eq_nil_iff]
        intro k hk'
        have := List.mem_range.mp hk'
        simp; omega
      rw [e]
      simp
theorem fronts_is {there : List (List Str)} {P : List Str} {k0 : Nat} (h : k0 ≤ P.length + 1) (hk : ∀ k, k < P.length + 1 → (P.take k ∈ there ↔ k < k0)) : frontsF there P = (List.range' k0 (P.length + 1 - k0)).map P.take := by
  unfold frontsF
  rw [List.filter_map, ← range_filter k0 _ h]
  congr 1
  refine List.filter_congr fun k hk' => ?_
  have := hk k (List.mem_range.mp hk')
  show (!decide (P.take k ∈ there)) = !decide (k < k0)
  rw [Bool.not_inj_iff, decide_eq_decide]
  exact this
theorem fronts_row {there : List (List Str)} {P : List Str} {k0 : Nat} (hN : Nm P) (h : k0 ≤ P.length + 1) (hk : ∀ k, k < P.length + 1 → (P.take k ∈ there ↔ k < k0)) : FRow there ((List.range' k0 (P.length + 1 - k0)).map P.take) := by
  have get : ∀ i f, ((List.range' k0 (P.length + 1 - k0)).map P.take)[i]? = some f → i < P.length + 1 - k0 ∧ f = P.take (k0 + i) := by
    intro i f e
    by_cases hi : i < P.length + 1 - k0
    · rw [List.getElem?_map, List.getElem?_range' hi] at e
      simp only [Nat.one_mul, Option.map_some, Option.some.injEq] at e
      exact ⟨hi, e.symm⟩
    · rw [List.getElem?_eq_none (by rw [List.length_map, List.length_range']; omega)] at e
      cases e
  refine ⟨fun i f e => ?_, fun i f g e1 e2 => ?_, fun f e => ?_, fun i j f hij e1 e2 => ?_⟩
  · obtain ⟨hi, rfl⟩ := get i f e
    exact ⟨fun hm => absurd ((hk _ (by omega)).mp hm) (by omega), fun y hy => hN y (List.mem_of_mem_take hy)⟩
  · obtain ⟨hi, rfl⟩ := get i f e1
    obtain ⟨hj, rfl⟩ := get (i + 1) g e2
    refine ⟨fun z => ?_, ?_⟩
    · have := congrArg List.length z
      rw [List.length_take, List.length_nil] at this
      omega
    · rw [List.dropLast_eq_take, List.take_take, List.length_take]
      congr 1
      omega
  · obtain ⟨hi, rfl⟩ := get 0 f e
    rw [Nat.add_zero]
    by_cases h0 : k0 = 0
    · exact .inl (by rw [h0]; rfl)
    · refine .inr ?_
      rw [List.dropLast_eq_take, List.take_take, List.length_take]
      exact (hk _ (by omega)).mpr (by omega)
  · obtain ⟨hi, rfl⟩ := get i f e1
    obtain ⟨hj, e⟩ := get j _ e2
    have := congrArg List.length e
    rw [List.length_take, List.length_take] at this
    omega
theorem talk_due {there : List (List Str)} {P : List Str} {root : Str} (hr : Rt root) (hN : Nm P) (pc : ∀ f ∈ there, f.dropLast ∈ there) (h5 : (frontsF there P).length ≤ 5) :
    (askN 9 (there, [pathF root P], [])).1 = there ++ frontsF there P ∧ (askN 9 (there, [pathF root P], [])).2.2 = dueF there root P := by
  obtain ⟨k0, h1, h2⟩ := k0_of pc P (P.length + 1) (Nat.le_refl _)
  have e := fronts_is h1 h2
  have R := fronts_row hN h1 h2
  rw [← e] at R
  unfold dueF
  by_cases h0 : frontsF there P = []
  · rw [if_pos h0, h0]
    have hm : P ∈ there := by
      have hl := congrArg List.length (e.symm.trans h0)
      rw [List.length_map, List.length_range'] at hl
      have := (h2 P.length (by omega)).mpr (by simp at hl; omega)
      rwa [List.take_length] at this
    have c : askN 1 (there, [pathF root P], []) = (there, [], [(pathF root P, Str.ofString "refused", answerF (Str.ofString "250") P (Str.ofString " is there"))]) := by
      rw [askN_succ, askN_zero]
      exact ask_there (as := []) hr hN hm
    rw [askN_end (i := 1) (by decide) (by rw [c]), c]
    exact ⟨(List.append_nil _).symm, rfl⟩
  · rw [if_neg h0]
    have hl : (frontsF there P).length = P.length + 1 - k0 := by rw [e, List.length_map, List.length_range']
    have hpos : 0 < (frontsF there P).length := List.length_pos_iff.mpr h0
    have hP : (frontsF there P)[(frontsF there P).length - 1]? = some P := by
      rw [hl, e, List.getElem?_map, List.getElem?_range' (by omega)]
      simp only [Nat.one_mul, Option.map_some, Option.some.injEq]
      rw [show k0 + (P.length + 1 - k0 - 1) = P.length by omega, List.take_length]
    rw [R.talk hr hP h0 h5]
    exact ⟨rfl, rfl⟩
end

section
-- part P5
open PySem.Builtin.Str
theorem head_of {y : Str} (h : y ≠ Str.ofString "") (hf : Free y) : ∃ c t, cl y = c :: t ∧ c ≠ 47 := by
  cases e : cl y with
  | nil => exact absurd (cl_inj (by rw [e, cl_e])) h
  | cons c t => exact ⟨c, t, rfl, fun z => hf (by rw [e, z]; exact List.Mem.head _)⟩
theorem head_join {s p : Str} {r : List Str} (h : p ≠ Str.ofString "") (hf : Free p) : ∃ c t, cl (Txt.join s (p :: r)) = c :: t ∧ c ≠ 47 := by
  obtain ⟨c, t, e, hc⟩ := head_of h hf
  cases r with
  | nil => exact ⟨c, t, by rw [join_one, e], hc⟩
  | cons q r => exact ⟨c, t ++ (cl s ++ cl (Txt.join s (q :: r))), by rw [join_cons (by simp), cl_app, cl_app, e]; rfl, hc⟩
theorem starts_s (x : Str) : Txt.startswith x (Str.ofString "/") = true ↔ (cl x)[0]? = some 47 := by
  unfold Txt.startswith
  rw [Bool.and_eq_true, subAt_s, slash_len]
  constructor
  · exact fun h => h.2
  · intro h
    refine ⟨decide_eq_true ?_, h⟩
    have := (List.getElem?_eq_some_iff.mp h).1
    rw [cl_len] at this
    omega
theorem ends_s (x : Str) : Txt.endswith x (Str.ofString "/") = true ↔ (cl x)[(cl x).length - 1]? = some 47 := by
  unfold Txt.endswith
  rw [Bool.and_eq_true, subAt_s, slash_len, cl_len]
  constructor
  · exact fun h => h.2
  · intro h
    refine ⟨decide_eq_true ?_, h⟩
    have := (List.getElem?_eq_some_iff.mp h).1
    rw [cl_len] at this
    omega
section
variable {z : Str} {c : Nat} {t : List Nat}
theorem z1 (e : cl z = 47 :: t) : (Txt.slice z none (some 1) != Str.ofString "/") = false := by
  have h : cl (Txt.slice z none (some 1)) = (cl z).take 1 := slice_to z 1
  rw [cl_inj (x := Txt.slice z none (some 1)) (y := Str.ofString "/") (by rw [h, e, cl_s]; rfl)]
  exact bne_self_eq_false _
theorem z12 (i j : Nat) (hij : j = i + 1) (e : (cl z)[i]? = some c) (h : c ≠ 47) : (Txt.slice z (some (i : Int)) (some (j : Int)) == Str.ofString "/") = false := by
  subst hij
  refine beq_eq_false_iff_ne.mpr fun q => h ?_
  have := congrArg cl q
  rw [slice_mid z (Nat.le_succ i), show i + 1 - i = 1 by omega, cl_s, take1, e] at this
  exact Option.some.inj this
theorem z12' (i j : Nat) (hij : j = i + 1) (e : (cl z)[i]? = some 47) : (Txt.slice z (some (i : Int)) (some (j : Int)) == Str.ofString "/") = true := by
  subst hij
  refine beq_iff_eq.mpr (cl_inj ?_)
  rw [slice_mid z (Nat.le_succ i), show i + 1 - i = 1 by omega, cl_s, take1, e]
theorem root_one (e : cl z = 47 :: c :: t) (h : c ≠ 47) : (rootF z).1 = Str.ofString "/" ∧ cl (rootF z).2 = c :: t := by
  unfold rootF
  rw [if_neg (by rw [z1 e]; decide), if_pos (by show (!(Txt.slice z (some ((1 : Nat) : Int)) (some ((2 : Nat) : Int)) == Str.ofString "/")) = true; rw [z12 1 2 rfl (by rw [e]; rfl) h]; rfl)]
  refine ⟨rfl, ?_⟩
  show cl (Txt.slice z (some ((1 : Nat) : Int)) none) = _
  rw [slice_from, e]
  rfl
theorem root_three (e : cl z = 47 :: 47 :: 47 :: t) : (rootF z).1 = Str.ofString "/" ∧ cl (rootF z).2 = 47 :: 47 :: t := by
  unfold rootF
  rw [if_neg (by rw [z1 e]; decide), if_neg (by show ¬ (!(Txt.slice z (some ((1 : Nat) : Int)) (some ((2 : Nat) : Int)) == Str.ofString "/")) = true; rw [z12' 1 2 rfl (by rw [e]; rfl)]; decide), if_pos (show (Txt.slice z (some 2) (some 3) == Str.ofString "/") = true from z12' 2 3 rfl (by rw [e]; rfl))]
  refine ⟨rfl, ?_⟩
  show cl (Txt.slice z (some ((1 : Nat) : Int)) none) = _
  rw [slice_from, e]
  rfl
theorem root_two (e : cl z = 47 :: 47 :: c :: t) (h : c ≠ 47) : (rootF z).1 = Str.ofString "//" ∧ cl (rootF z).2 = c :: t := by
  unfold rootF
  rw [if_neg (by rw [z1 e]; decide), if_neg (by show ¬ (!(Txt.slice z (some ((1 : Nat) : Int)) (some ((2 : Nat) : Int)) == Str.ofString "/")) = true; rw [z12' 1 2 rfl (by rw [e]; rfl)]; decide), if_neg (by show ¬ (Txt.slice z (some ((2 : Nat) : Int)) (some ((3 : Nat) : Int)) == Str.ofString "/") = true; rw [z12 2 3 rfl (by rw [e]; rfl) h]; decide)]
  refine ⟨cl_inj ?_, ?_⟩
  · show cl (Txt.slice z none (some ((2 : Nat) : Int))) = _
    rw [slice_to, e, cl_ss]
    rfl
  · show cl (Txt.slice z (some ((2 : Nat) : Int)) none) = _
    rw [slice_from, e]
    rfl
end
def rootX (x : Str) : Str := if (Txt.slice x none (some 2) == Str.ofString "//") = true then (if (Txt.slice x (some 2) (some 3) != Str.ofString "/") = true then Str.ofString "////" else Str.ofString "//") else Str.ofString "//"
section
variable {x : Str} {c : Nat} {t : List Nat}
theorem x2 (h : (cl x).take 2 ≠ [47, 47]) : rootX x = Str.ofString "//" := by
  unfold rootX
  rw [if_neg]
  intro q
  have q2 : cl (Txt.slice x none (some 2)) = cl (Str.ofString "//") := congrArg cl (eq_of_beq q)
  rw [show cl (Txt.slice x none (some 2)) = (cl x).take 2 from slice_to x 2, cl_ss] at q2
  exact h q2
theorem x2pos (h : (cl x).take 2 = [47, 47]) : (Txt.slice x none (some 2) == Str.ofString "//") = true := beq_iff_eq.mpr (cl_inj (by
  rw [show cl (Txt.slice x none (some 2)) = (cl x).take 2 from slice_to x 2, cl_ss, h]))
theorem x3 (e : cl x = 47 :: 47 :: 47 :: t) : rootX x = Str.ofString "//" := by
  unfold rootX
  rw [if_pos (x2pos (by rw [e]; rfl)), if_neg]
  show ¬ (!(Txt.slice x (some ((2 : Nat) : Int)) (some ((3 : Nat) : Int)) == Str.ofString "/")) = true
  rw [z12' 2 3 rfl (by rw [e]; rfl)]
  decide
theorem x4 (e : cl x = 47 :: 47 :: c :: t) (h : c ≠ 47) : rootX x = Str.ofString "////" := by
  unfold rootX
  rw [if_pos (x2pos (by rw [e]; rfl)), if_pos]
  show (!(Txt.slice x (some ((2 : Nat) : Int)) (some ((3 : Nat) : Int)) == Str.ofString "/")) = true
  rw [z12 2 3 rfl (by rw [e]; rfl) h]
  rfl
end
theorem rep_join {ps : List Str} {z : Str} (h0 : ps ≠ []) (hf : ∀ p ∈ ps, Free p) : Txt.replace (Txt.join (Str.ofString "/") ps) (Str.ofString "/") z = Txt.join z ps := by
  have h := rep_eq (Txt.join (Str.ofString "/") ps) z 47
  rw [← s_is, split_of h0 hf rfl] at h
  exact h
theorem join_e {s : Str} {f : List Str} (h : f ≠ []) : Txt.join s (Str.ofString "" :: f) = s ++ Txt.join s f := by rw [join_cons h, e_app]
theorem app_e (x : Str) : x ++ Str.ofString "" = x := cl_inj (by rw [cl_app, cl_e, List.append_nil])
theorem join_e2 (s : Str) : Txt.join s [Str.ofString "", Str.ofString ""] = s := by rw [join_cons (by simp), join_one, app_e, e_app]
theorem join_e3 (s : Str) : Txt.join s [Str.ofString "", Str.ofString "", Str.ofString ""] = s ++ s := by rw [join_cons (p := Str.ofString "") (r := [Str.ofString "", Str.ofString ""]) (by simp), join_e2, e_app]
theorem free_cons {f : List Str} (hN : Nm f) : ∀ p ∈ Str.ofString "" :: f, Free p := fun p hp => by
  rcases List.mem_cons.mp hp with rfl | hp
  · exact free_e
  · exact (hN p hp).1
theorem rep1 {f : List Str} (hN : Nm f) : Txt.replace (Str.ofString "/" ++ Txt.join (Str.ofString "/") f) (Str.ofString "/") (Str.ofString "//") = pathF (Str.ofString "//") f := by
  unfold pathF
  by_cases h : f = []
  · subst h
    rw [join_nil, join_nil, app_e, app_e]
    have := rep_join (ps := [Str.ofString "", Str.ofString ""]) (z := Str.ofString "//") (by simp) (fun p hp => by
      rcases List.mem_cons.mp hp with rfl | hp
      · exact free_e
      · rw [List.mem_singleton.mp hp]; exact free_e)
    rwa [join_e2, join_e2] at this
  · have := rep_join (ps := Str.ofString "" :: f) (z := Str.ofString "//") (by simp) (free_cons hN)
    rwa [join_e h, join_e h] at this
theorem rep2 {f : List Str} (hN : Nm f) : Txt.replace (Str.ofString "//" ++ Txt.join (Str.ofString "/") f) (Str.ofString "/") (Str.ofString "//") = pathF (Str.ofString "////") f := by
  unfold pathF
  rw [ss_is, ssss_is]
  by_cases h : f = []
  · subst h
    rw [join_nil, join_nil, app_e, app_e]
    have := rep_join (ps := [Str.ofString "", Str.ofString "", Str.ofString ""]) (z := Str.ofString "//") (by simp) (fun p hp => by
      rcases List.mem_cons.mp hp with rfl | hp
      · exact free_e
      · rcases List.mem_cons.mp hp with rfl | hp
        · exact free_e
        · rw [List.mem_singleton.mp hp]; exact free_e)
    rwa [join_e3, join_e3] at this
  · have := rep_join (ps := Str.ofString "" :: Str.ofString "" :: f) (z := Str.ofString "//") (by simp) (fun p hp => by
      rcases List.mem_cons.mp hp with rfl | hp
      · exact free_e
      · exact free_cons hN p hp)
    rwa [join_e (f := Str.ofString "" :: f) (by simp), join_e (f := Str.ofString "" :: f) (by simp), join_e h, join_e h] at this
theorem norm_of {z sl : Str} {l : List Str} (h1 : (rootF z).1 = sl) (h2 : cl (rootF z).2 = cl (Txt.join (Str.ofString "/") l)) (h0 : l ≠ []) (hf : ∀ p ∈ l, Free p) : normF z = sl ++ Txt.join (Str.ofString "/") (l.foldl compF []) := by
  unfold normF
  rw [h1, split_of h0 hf (cl_inj h2)]
theorem comp_e (f : List Str) (acc : List Str) : (Str.ofString "" :: f).foldl compF acc = f.foldl compF acc := by rw [List.foldl_cons, compF_skip (.inl rfl)]
theorem wp_free {y : Str} (h : WP y) : Free y := h.1
theorem place_nm {place pcs : List Str} (hp : Nm place) (hw : ∀ y ∈ pcs, WP y) : Nm (placeF place pcs) := by
  rw [place_is]
  obtain ⟨k, new, e, _, hn⟩ := comp_keeps (baseF place pcs) []
  rw [e, List.take_nil, List.nil_append]
  intro y hy
  obtain ⟨h1, h2, _⟩ := hn y hy
  refine ⟨?_, h2⟩
  unfold baseF at h1
  split at h1
  · exact wp_free (hw y h1)
  · rcases List.mem_append.mp h1 with h1 | h1
    · exact (hp y h1).1
    · exact wp_free (hw y h1)
theorem join_app {s : Str} {b : List Str} (hb : b ≠ []) : ∀ {a : List Str}, a ≠ [] → Txt.join s (a ++ b) = Txt.join s a ++ (s ++ Txt.join s b)
  | [], h => absurd rfl h
  | [y], _ => by rw [List.singleton_append, join_cons hb, join_one]
  | y :: z :: r, _ => by
    rw [List.cons_append, join_cons (p := y) (r := z :: r ++ b) (by simp), join_app hb (a := z :: r) (by simp), join_cons (p := y) (r := z :: r) (by simp)]
    exact cl_inj (by simp only [cl_app, List.append_assoc])
theorem app_len {x y : Str} {n : Nat} (h : x.length ≤ n) : (x ++ y).length ≤ n + y.length := by
  rw [← cl_len, cl_app, List.length_append, cl_len, cl_len]
  omega
def hereS (place : List Str) : Str := Str.ofString "/" ++ Txt.join (Str.ofString "/") place
theorem goal_is {place pcs : List Str} (hp : Nm place) (hw : ∀ y ∈ pcs, WP y) (hl : pcs.length = 4) :
    Txt.replace (normF (joinF (hereS place) (Txt.join (Str.ofString "/") pcs))) (Str.ofString "/") (Str.ofString "//") = pathF (rootX (Txt.join (Str.ofString "/") pcs)) (placeF place pcs) ∧ Rt (rootX (Txt.join (Str.ofString "/") pcs)) ∧
      (rootF (joinF (hereS place) (Txt.join (Str.ofString "/") pcs))).1.length ≠ 0 ∧ (normF (joinF (hereS place) (Txt.join (Str.ofString "/") pcs))).length ≤ 2 + (Txt.join (Str.ofString "/") (placeF place pcs)).length := by
  have hN := place_nm hp hw
  have hfree : ∀ p ∈ pcs, Free p := fun p h => wp_free (hw p h)
  -- what is to be shown of the joined text
  have go : ∀ (z sl rt : Str) (l : List Str), (rootF z).1 = sl → cl (rootF z).2 = cl (Txt.join (Str.ofString "/") l) → l ≠ [] → (∀ p ∈ l, Free p) → l.foldl compF [] = placeF place pcs → rootX (Txt.join (Str.ofString "/") pcs) = rt → (sl = Str.ofString "/" ∧ rt = Str.ofString "//" ∨ sl = Str.ofString "//" ∧ rt = Str.ofString "////") →
      joinF (hereS place) (Txt.join (Str.ofString "/") pcs) = z → Txt.replace (normF (joinF (hereS place) (Txt.join (Str.ofString "/") pcs))) (Str.ofString "/") (Str.ofString "//") = pathF (rootX (Txt.join (Str.ofString "/") pcs)) (placeF place pcs) ∧ Rt (rootX (Txt.join (Str.ofString "/") pcs)) ∧
      (rootF (joinF (hereS place) (Txt.join (Str.ofString "/") pcs))).1.length ≠ 0 ∧ (normF (joinF (hereS place) (Txt.join (Str.ofString "/") pcs))).length ≤ 2 + (Txt.join (Str.ofString "/") (placeF place pcs)).length := by
    intro z sl rt l h1 h2 h3 h4 h5 h6 h7 h8
    rw [h8, norm_of h1 h2 h3 h4, h5, h6, h1]
    rcases h7 with ⟨rfl, rfl⟩ | ⟨rfl, rfl⟩
    · exact ⟨rep1 hN, .inl rfl, by decide, app_len (by decide)⟩
    · exact ⟨rep2 hN, .inr rfl, by decide, app_len (by decide)⟩
  obtain ⟨p0, p1, p2, p3, rfl⟩ : ∃ a b c d, pcs = [a, b, c, d] := by
    match pcs, hl with
    | [a, b, c, d], _ => exact ⟨a, b, c, d, rfl⟩
  have f1 := hfree p1 (by simp)
  have f2 := hfree p2 (by simp)
  by_cases h0 : p0 = Str.ofString ""
  · subst h0
    have ex : Txt.join (Str.ofString "/") [Str.ofString "", p1, p2, p3] = Str.ofString "/" ++ Txt.join (Str.ofString "/") [p1, p2, p3] := join_e (by simp)
    have hcl : cl (Txt.join (Str.ofString "/") [Str.ofString "", p1, p2, p3]) = 47 :: cl (Txt.join (Str.ofString "/") [p1, p2, p3]) := by rw [ex, cl_app, cl_s]; rfl
    have hj : joinF (hereS place) (Txt.join (Str.ofString "/") [Str.ofString "", p1, p2, p3]) = Txt.join (Str.ofString "/") [Str.ofString "", p1, p2, p3] := if_pos ((starts_s _).mpr (by rw [hcl]; rfl))
    have hP : [p1, p2, p3].foldl compF [] = placeF place [Str.ofString "", p1, p2, p3] := by
      rw [place_is, show baseF place [Str.ofString "", p1, p2, p3] = [Str.ofString "", p1, p2, p3] from if_pos rfl, comp_e]
    have hf3 : ∀ p ∈ [p1, p2, p3], Free p := fun p h => hfree p (List.mem_cons_of_mem _ h)
    by_cases h1 : p1 = Str.ofString ""
    · subst h1
      have hcl2 : cl (Txt.join (Str.ofString "/") [Str.ofString "", p2, p3]) = 47 :: cl (Txt.join (Str.ofString "/") [p2, p3]) := by rw [join_e (by simp), cl_app, cl_s]; rfl
      by_cases h2 : p2 = Str.ofString ""
      · subst h2
        have hcl3 : cl (Txt.join (Str.ofString "/") [Str.ofString "", p3]) = 47 :: cl p3 := by rw [join_e (by simp), cl_app, cl_s, join_one]; rfl
        have e3 : cl (Txt.join (Str.ofString "/") [Str.ofString "", Str.ofString "", Str.ofString "", p3]) = 47 :: 47 :: 47 :: cl p3 := by rw [hcl, hcl2, hcl3]
        obtain ⟨r1, r2⟩ := root_three e3
        exact go _ _ _ _ r1 (by rw [r2, hcl2, hcl3]) (by simp) hf3 hP (x3 e3) (.inl ⟨rfl, rfl⟩) hj
      · obtain ⟨c, t, e, hc⟩ := head_join (s := Str.ofString "/") (r := [p3]) h2 f2
        have e3 : cl (Txt.join (Str.ofString "/") [Str.ofString "", Str.ofString "", p2, p3]) = 47 :: 47 :: c :: t := by rw [hcl, hcl2, e]
        obtain ⟨r1, r2⟩ := root_two e3 hc
        exact go _ _ _ [p2, p3] r1 (by rw [r2, e]) (by simp) (fun p h => hf3 p (List.mem_cons_of_mem _ h)) (by rw [← hP, comp_e]) (x4 e3 hc) (.inr ⟨rfl, rfl⟩) hj
    · obtain ⟨c, t, e, hc⟩ := head_join (s := Str.ofString "/") (r := [p2, p3]) h1 f1
      have e3 : cl (Txt.join (Str.ofString "/") [Str.ofString "", p1, p2, p3]) = 47 :: c :: t := by rw [hcl, e]
      obtain ⟨r1, r2⟩ := root_one e3 hc
      exact go _ _ _ _ r1 (by rw [r2, e]) (by simp) hf3 hP (x2 (by rw [e3]; exact fun q => hc (List.cons.inj (List.cons.inj q).2).1)) (.inl ⟨rfl, rfl⟩) hj
  · have f0 := hfree p0 (by simp)
    obtain ⟨c, t, e, hc⟩ := head_join (s := Str.ofString "/") (r := [p1, p2, p3]) h0 f0
    have hns : ¬ Txt.startswith (Txt.join (Str.ofString "/") [p0, p1, p2, p3]) (Str.ofString "/") = true := fun q => by
      have := (starts_s _).mp q
      rw [e] at this
      exact hc (Option.some.inj this)
    have hrx : rootX (Txt.join (Str.ofString "/") [p0, p1, p2, p3]) = Str.ofString "//" := x2 (by rw [e]; exact fun q => hc (List.cons.inj q).1)
    have hbase : baseF place [p0, p1, p2, p3] = place ++ [p0, p1, p2, p3] := if_neg (fun q => h0 (Option.some.inj q))
    have hlen : ¬ ((hereS place).length : Int) = 0 := by
      have : (hereS place).length = 1 + (Txt.join (Str.ofString "/") place).length := by rw [← cl_len]; unfold hereS; rw [cl_app, List.length_append, cl_len, cl_len, slash_len]
      omega
    by_cases hpl : place = []
    · subst hpl
      have hj : joinF (hereS []) (Txt.join (Str.ofString "/") [p0, p1, p2, p3]) = Str.ofString "/" ++ Txt.join (Str.ofString "/") [p0, p1, p2, p3] := by
        unfold joinF
        rw [if_neg hns, if_neg hlen, if_pos]
        · unfold hereS; rw [join_nil, app_e]
        · rw [ends_s]; unfold hereS; rw [join_nil, app_e, cl_s]; rfl
      have e3 : cl (Str.ofString "/" ++ Txt.join (Str.ofString "/") [p0, p1, p2, p3]) = 47 :: c :: t := by rw [cl_app, cl_s, e]; rfl
      obtain ⟨r1, r2⟩ := root_one e3 hc
      exact go _ _ _ _ r1 (by rw [r2, e]) (by simp) hfree (by rw [place_is, hbase, List.nil_append]) hrx (.inl ⟨rfl, rfl⟩) hj
    · obtain ⟨y, r, rfl⟩ : ∃ y r, place = y :: r := by cases place with
        | nil => exact absurd rfl hpl
        | cons y r => exact ⟨y, r, rfl⟩
      have hne : ¬ Txt.endswith (hereS (y :: r)) (Str.ofString "/") = true := fun q => by
        have q := (ends_s _).mp q
        obtain ⟨c', d', e', hd'⟩ := join_last (s := Str.ofString "/") hpl hp
        have e2 : cl (hereS (y :: r)) = (47 :: c') ++ [d'] := by unfold hereS; rw [cl_app, cl_s, e']; rfl
        rw [e2, List.length_append, List.length_singleton, Nat.add_sub_cancel, List.getElem?_append_right (Nat.le_refl _), Nat.sub_self] at q
        exact hd' (Option.some.inj q)
      have hj : joinF (hereS (y :: r)) (Txt.join (Str.ofString "/") [p0, p1, p2, p3]) = Str.ofString "/" ++ Txt.join (Str.ofString "/") (y :: r ++ [p0, p1, p2, p3]) := by
        unfold joinF
        rw [if_neg hns, if_neg hlen, if_neg hne, join_app (by simp) (by simp)]
        unfold hereS
        exact cl_inj (by simp only [cl_app, List.append_assoc])
      obtain ⟨hy1, hy2⟩ := hp y (List.Mem.head _)
      obtain ⟨c', t', e', hc'⟩ := head_join (s := Str.ofString "/") (r := r ++ [p0, p1, p2, p3]) hy2 hy1
      replace e' : cl (Txt.join (Str.ofString "/") (y :: r ++ [p0, p1, p2, p3])) = c' :: t' := e'
      have e3 : cl (Str.ofString "/" ++ Txt.join (Str.ofString "/") (y :: r ++ [p0, p1, p2, p3])) = 47 :: c' :: t' := by rw [cl_app, cl_s, e']; rfl
      obtain ⟨r1, r2⟩ := root_one e3 hc'
      exact go _ _ _ (y :: r ++ [p0, p1, p2, p3]) r1 (by rw [r2, e']) (by simp) (fun p hp' => by
        rcases List.mem_append.mp hp' with h | h
        · exact (hp p h).1
        · exact hfree p h) (by rw [place_is, hbase]) hrx (.inl ⟨rfl, rfl⟩) hj
end

section
-- part P6
open PySem.Builtin.Str
/-- what holds between the ways: of the place, and of the server's folders -/
structure LInv (i : Nat) (place : List Str) (there : List (List Str)) : Prop where
  nm : Nm place
  pl : Plain place
  wp : ∀ y ∈ place, WP y
  n : place.length ≤ 4 * i
  st : (there = [] ∧ place = []) ∨ place ∈ there
  pc : ∀ f ∈ there, f.dropLast ∈ there
  ok : ∀ a ∈ there, OkL a
  nt : there.length ≤ 5 * i
theorem LInv.zero : LInv 0 [] [] := { nm := (by intro y h; cases h), pl := (by intro y h; cases h), wp := (by intro y h; cases h), n := Nat.le_refl _, st := .inl ⟨rfl, rfl⟩, pc := (by intro y h; cases h), ok := (by intro y h; cases h), nt := Nat.le_refl _ }
theorem fronts_mem {there : List (List Str)} {P : List Str} {j : Nat} (h : j ≤ P.length) : P.take j ∈ there ++ frontsF there P := by
  by_cases hm : P.take j ∈ there
  · exact List.mem_append_left _ hm
  · refine List.mem_append_right _ (List.mem_filter.mpr ⟨List.mem_map.mpr ⟨j, List.mem_range.mpr (by omega), rfl⟩, by simpa using hm⟩)
theorem LInv.step {i : Nat} {place pcs : List Str} {there : List (List Str)} (I : LInv i place there) (hw : ∀ y ∈ pcs, WP y) (hl : pcs.length = 4) : (frontsF there (placeF place pcs)).length ≤ 5 ∧ LInv (i + 1) (placeF place pcs) (there ++ frontsF there (placeF place pcs)) := by
  have hN := place_nm I.nm hw
  -- what the new place is made of
  obtain ⟨k, new, e, hnew, hn4⟩ : ∃ k new, placeF place pcs = place.take k ++ new ∧ (∀ y ∈ new, y ∈ pcs ∧ y ≠ Str.ofString "" ∧ y ≠ Str.ofString "." ∧ y ≠ Str.ofString "..") ∧ new.length ≤ 4 := by
    rw [place_is]
    unfold baseF
    split
    · obtain ⟨k, new, e, hn, hy⟩ := comp_keeps pcs []
      exact ⟨0, new, by rw [e, List.take_nil, List.take_zero], hy, by omega⟩
    · rw [List.foldl_append, comp_plain I.pl, List.nil_append]
      obtain ⟨k, new, e, hn, hy⟩ := comp_keeps pcs place
      exact ⟨k, new, e, hy, by omega⟩
  generalize placeF place pcs = P at hN e ⊢
  have hPn : P.length ≤ 4 * (i + 1) := by
    have := I.n
    rw [e, List.length_append, List.length_take]
    omega
  have hPw : ∀ y ∈ P, WP y := fun y hy => by
    rw [e] at hy
    rcases List.mem_append.mp hy with hy | hy
    · exact I.wp y (List.mem_of_mem_take hy)
    · exact hw y (hnew y hy).1
  have hPp : Plain P := fun y hy => by
    rw [e] at hy
    rcases List.mem_append.mp hy with hy | hy
    · exact I.pl y (List.mem_of_mem_take hy)
    · exact (hnew y hy).2
  have hPo : OkL P := fun y hy => (hPw y hy).2.2
  have h5 : (frontsF there P).length ≤ 5 := by
    rcases I.st with ⟨h1, h2⟩ | h
    · refine Nat.le_trans fronts_len ?_
      rw [e, h2, List.take_nil, List.nil_append]
      omega
    · obtain ⟨k0, h1, h2⟩ := k0_of I.pc P (P.length + 1) (Nat.le_refl _)
      have hk : place.take (min k place.length) ∈ there := pc_take I.pc (place.length - min k place.length) _ (by rw [show min k place.length + (place.length - min k place.length) = place.length by omega, List.take_length]; exact h) (by omega)
      have hPt : P.take (min k place.length) = place.take (min k place.length) := by
        rw [e, List.take_append_of_le_length (by rw [List.length_take]; omega), List.take_take]
        congr 1
        omega
      have hlen : P.length = min k place.length + new.length := by rw [e, List.length_append, List.length_take]
      have := (h2 (min k place.length) (by omega)).mp (by rw [hPt]; exact hk)
      rw [fronts_is h1 h2, List.length_map, List.length_range']
      omega
  refine ⟨h5, ⟨hN, hPp, hPw, hPn, .inr ?_, fun f hf => ?_, fun a ha => ?_, ?_⟩⟩
  · have := fronts_mem (there := there) (P := P) (Nat.le_refl P.length)
    rwa [List.take_length] at this
  · rcases List.mem_append.mp hf with hf | hf
    · exact List.mem_append_left _ (I.pc f hf)
    · obtain ⟨j, hj, rfl⟩ := List.mem_map.mp (List.mem_filter.mp hf).1
      have hj := List.mem_range.mp hj
      rw [List.dropLast_eq_take, List.take_take, List.length_take]
      exact fronts_mem (by omega)
  · rcases List.mem_append.mp ha with ha | ha
    · exact I.ok a ha
    · exact fronts_ok hPo a ha
  · have := I.nt
    rw [List.length_append]
    omega
-- sizes, and signs
theorem wp_sum : ∀ {l : List Str}, (∀ y ∈ l, WP y) → (l.map (·.length)).sum ≤ 4 * l.length
  | [], _ => Nat.le_refl _
  | y :: r, h => by
    have h1 := (h y (List.Mem.head _)).2.1
    have h2 := wp_sum fun z hz => h z (List.mem_cons_of_mem _ hz)
    simp only [List.map_cons, List.sum_cons, List.length_cons]
    omega
theorem LInv.sz {i : Nat} {place : List Str} {there : List (List Str)} (I : LInv i place there) (hi : i ≤ 4) : place.length ≤ 16 ∧ (place.map (·.length)).sum + place.length ≤ 80 := by
  have := wp_sum I.wp
  have := I.n
  omega
theorem okS_app {x y : Str} (h : OkS x) (k : OkS y) : OkS (x ++ y) := okS_iff.mpr fun c hc => by
  have hc : c ∈ cl (x ++ y) := hc
  rw [cl_app] at hc
  rcases List.mem_append.mp hc with hc | hc
  · exact okS_iff.mp h c hc
  · exact okS_iff.mp k c hc
theorem okS_join {s : Str} (hs : OkS s) : ∀ {f : List Str}, OkL f → OkS (Txt.join s f)
  | [], _ => by rw [join_nil]; exact okS_iff.mpr fun c hc => by cases (show c ∈ ([] : List Nat) from hc)
  | [y], h => by rw [join_one]; exact h y (List.Mem.head _)
  | y :: z :: r, h => by
    rw [join_cons (by simp)]
    exact okS_app (h y (List.Mem.head _)) (okS_app hs (okS_join hs fun a ha => h a (List.mem_cons_of_mem _ ha)))
theorem dbl_mem : ∀ {l : List Nat} {c : Nat}, c ∈ dbl l → c ∈ l
  | [], _, h => h
  | d :: l, c, h => by
    have h : c ∈ (if d = 34 then 34 :: 34 :: dbl l else d :: dbl l) := h
    split at h
    · rename_i e
      rcases List.mem_cons.mp h with h | h
      · rw [h, e]; exact List.Mem.head _
      · rcases List.mem_cons.mp h with h | h
        · rw [h, e]; exact List.Mem.head _
        · exact List.mem_cons_of_mem _ (dbl_mem h)
    · rcases List.mem_cons.mp h with h | h
      · rw [h]; exact List.Mem.head _
      · exact List.mem_cons_of_mem _ (dbl_mem h)
theorem okS_small {x : Str} (h : (cl x).all (· < 128) = true) : OkS x := okS_iff.mpr fun c hc => by
  have := List.all_eq_true.mp h c hc
  have := of_decide_eq_true this
  omega
theorem okS_ans {c w : Str} {f : List Str} (hc : OkS c) (hw : OkS w) (hf : OkL f) : OkS (answerF c f w) := by
  unfold answerF
  refine okS_app (okS_app (okS_app (okS_app hc (okS_small (by decide))) ?_) (okS_small (by decide))) hw
  refine okS_iff.mpr fun d hd => ?_
  have hd : d ∈ cl (Txt.replace (Txt.join (Str.ofString "/") f) (Str.ofString "\"") (Str.ofString "\"\"")) := hd
  rw [rep_dbl] at hd
  exact okS_iff.mp (okS_join (okS_small (by decide)) hf) d (dbl_mem hd)
theorem okS_path {root : Str} {f : List Str} (hr : Rt root) (hf : OkL f) : OkS (pathF root f) := by
  unfold pathF
  refine okS_app ?_ (okS_join (okS_small (by decide)) hf)
  rcases hr with rfl | rfl <;> exact okS_small (by decide)
theorem due_ok {there : List (List Str)} {root : Str} {P : List Str} (hr : Rt root) (hP : OkL P) : ∀ e ∈ dueF there root P, OkS e.1 ∧ OkS e.2.1 ∧ OkS e.2.2 := by
  intro e he
  unfold dueF at he
  split at he
  · rw [List.mem_singleton.mp he]
    exact ⟨okS_path hr hP, (show OkS (Str.ofString "refused") from okS_small (by decide)), okS_ans (okS_small (by decide)) (okS_small (by decide)) hP⟩
  · rcases List.mem_append.mp he with he | he
    · obtain ⟨f, hf, rfl⟩ := List.mem_map.mp he
      have ho := fronts_ok (there := there) hP f (List.mem_of_mem_drop (List.mem_reverse.mp hf))
      exact ⟨okS_path hr ho, (show OkS (Str.ofString "refused") from okS_small (by decide)), okS_ans (okS_small (by decide)) (okS_small (by decide)) ho⟩
    · obtain ⟨f, hf, rfl⟩ := List.mem_map.mp he
      have ho := fronts_ok (there := there) hP f hf
      exact ⟨okS_path hr ho, (show OkS (Str.ofString "told") from okS_small (by decide)), okS_app (okS_small (by decide)) (okS_join (okS_small (by decide)) ho)⟩
theorem path_len {root : Str} {f : List Str} (hr : Rt root) (h : (f.map (·.length)).sum + f.length ≤ 80) : (pathF root f).length ≤ 900 := by
  have e := glued_len (Str.ofString "//") f
  have e1 : (Str.ofString "//").length = 2 := by decide
  have e2 := hr.len
  rw [e1] at e
  rw [← cl_len]
  unfold pathF
  rw [cl_app, List.length_append, cl_len, cl_len]
  omega
theorem LInv.good {i : Nat} {place : List Str} {there : List (List Str)} {root : Str} {P : List Str} (I : LInv i place there) (hi : i ≤ 4) (hr : Rt root) (hP : OkL P) (hs : (P.map (·.length)).sum + P.length ≤ 80) : TGood 0 (there, [pathF root P], []) := by
  refine ⟨fun p hp => ?_, I.ok, ?_, Nat.le_refl _, Nat.le_refl _⟩
  · rw [List.mem_singleton.mp hp]
    exact ⟨okS_path hr hP, path_len hr hs⟩
  · have := I.nt
    show there.length ≤ 900 + 0
    omega
/-- a way, as the law builds it -/
def WayOk (x : Str) : Prop := ∃ pcs : List Str, x = Txt.join (Str.ofString "/") pcs ∧ pcs.length = 4 ∧ ∀ y ∈ pcs, WP y
theorem way_split {x : Str} {pcs : List Str} (e : x = Txt.join (Str.ofString "/") pcs) (hl : pcs.length = 4) (hw : ∀ y ∈ pcs, WP y) : Txt.split x (Str.ofString "/") = pcs :=
  split_of (fun z => by rw [z] at hl; cases hl) (fun p hp => wp_free (hw p hp)) e
/-- all that a turn of the law asks of the texts -/
theorem turn_law {i : Nat} {place : List Str} {there : List (List Str)} {x : Str} (I : LInv i place there) (hi : i < 4) (hx : WayOk x) :
    ∃ P root, placeF place (Txt.split x (Str.ofString "/")) = P ∧ rootX x = root ∧ Rt root ∧ Txt.replace (normF (joinF (hereS place) x)) (Str.ofString "/") (Str.ofString "//") = pathF root P ∧ (rootF (joinF (hereS place) x)).1.length ≠ 0 ∧ (normF (joinF (hereS place) x)).length ≤ 1000 ∧
      LInv (i + 1) P (askN 9 (there, [pathF root P], [])).1 ∧ (askN 9 (there, [pathF root P], [])).2.2 = dueF there root P ∧ TGood 0 (there, [pathF root P], []) ∧ OkL P ∧ (P.map (·.length)).sum + P.length ≤ 80 := by
  obtain ⟨pcs, e, hl, hw⟩ := hx
  have hs := way_split e hl hw
  obtain ⟨g1, g2, g3, g4⟩ := goal_is I.nm hw hl
  rw [← e] at g1 g2 g3 g4
  obtain ⟨h5, I'⟩ := I.step hw hl
  have hN := I'.nm
  have hsz := (I'.sz (by omega)).2
  have hP : OkL (placeF place pcs) := fun y hy => (I'.wp y hy).2.2
  have gl := glued_len (Str.ofString "/") (placeF place pcs)
  rw [slash_len] at gl
  obtain ⟨t1, t2⟩ := talk_due g2 hN I.pc h5
  exact ⟨placeF place pcs, rootX x, by rw [hs], rfl, g2, g1, g3, by omega, by rw [t1]; exact I', t2, I.good (by omega) g2 hP hsz, hP, hsz⟩
theorem here_len {place : List Str} (h : (place.map (·.length)).sum + place.length ≤ 80) : (hereS place).length ≤ 100 := by
  have gl := glued_len (Str.ofString "/") place
  rw [slash_len] at gl
  have := app_len (x := Str.ofString "/") (y := Txt.join (Str.ofString "/") place) (n := 1) (by decide)
  unfold hereS
  omega
theorem joinF_len {x y : Str} {n k : Nat} (hx : x.length ≤ n) (hy : y.length ≤ k) : (joinF x y).length ≤ n + 1 + k := by
  have h1 := app_len (x := x) (y := y) (Nat.le_refl _)
  have h2 := app_len (x := x) (y := Str.ofString "/" ++ y) (Nat.le_refl _)
  have h3 := app_len (x := Str.ofString "/") (y := y) (n := 1) (by decide)
  unfold joinF
  split
  · omega
  · split
    · omega
    · split <;> omega
theorem rootX_a {x : Str} (h1 : (Txt.slice x none (some 2) == Str.ofString "//") = true) (h2 : (Txt.slice x (some 2) (some 3) != Str.ofString "/") = true) : rootX x = Str.ofString "////" := by unfold rootX; rw [if_pos h1, if_pos h2]
theorem rootX_b {x : Str} (h1 : (Txt.slice x none (some 2) == Str.ofString "//") = true) (h2 : (Txt.slice x (some 2) (some 3) != Str.ofString "/") = false) : rootX x = Str.ofString "//" := by unfold rootX; rw [if_pos h1, if_neg (by rw [h2]; decide)]
theorem rootX_c {x : Str} (h1 : (Txt.slice x none (some 2) == Str.ofString "//") = false) : rootX x = Str.ofString "//" := by unfold rootX; rw [if_neg (by rw [h1]; decide)]
theorem here_ans {P : List Str} (h : (P.map (·.length)).sum + P.length ≤ 80) : (answerF (Str.ofString "257") P (Str.ofString " is \"here\"")).length ≤ 5000 ∧ (Txt.slice (answerF (Str.ofString "257") P (Str.ofString " is \"here\"")) none (some 3) != Str.ofString "257") = false ∧
    (Txt.slice (answerF (Str.ofString "257") P (Str.ofString " is \"here\"")) (some 3) (some 5) != Str.ofString " \"") = false ∧ 5 ≤ (answerF (Str.ofString "257") P (Str.ofString " is \"here\"")).length ∧
    (parseF (answerF (Str.ofString "257") P (Str.ofString " is \"here\"")) != Str.ofString "/" ++ Txt.join (Str.ofString "/") P) = false := by
  refine ⟨Nat.le_trans (ans_len (by decide) (by decide) (by omega)) (by decide), ?_, ?_, ans_len5 (by decide), ?_⟩
  · rw [ans_slice3 (by decide)]; exact bne_self_eq_false _
  · rw [ans_slice5 (by decide)]; exact bne_self_eq_false _
  · rw [parse_here]; exact bne_self_eq_false _
end

section
-- part L1
section
variable {w : World} {A : Around} {s : Shared} {h₀ : Heap} {L : Addr} {m : Str → Option Value} {news : List (Addr × Obj)} {p : Program} {loose : List Str} {mg mb : Str → Option Value} {Q E : Value → Shared → Prop}
theorem c_wayX {x : Int} {t : Tok}
    (F : Fr h₀ L s.heap m) (N : News h₀ L s.heap news) (X : (Mine.hd.heap_39 w.params).In h₀) (T : TopRead p loose mg mb h₀) (hh : A.handled = none) (hd : A.depth + 20 < recursionLimit) (hu : A.units + 100 < cLine)
    (hQ : ∀ y t' h' tk', Fr h₀ L h' m → News h₀ L h' news → y.length ≤ 19 → WayOk y → 1 ≤ tk' → Q (.str y t') { s with heap := h', toks := tk' }) :
    wpAny (model PySem.Challenge.rw_pd0100_01.row.prog w) A (call (.ref 173) [.int x t]) Q E s :=
  c_way F N X T hh hd hu fun pcs t' h' tk' F' N' hl hw hk => hQ _ t' h' tk' F' N' (by
    have h1 := wp_sum hw
    have h2 := glued_len (Str.ofString "/") pcs
    rw [slash_len, hl] at h2
    omega) ⟨pcs, rfl, hl, hw⟩ hk
end
theorem addL {prog : Program} {w : World} {A : Around} {E : Value → Shared → Prop} {s : Shared} {x y : Str} {t u : Tok} {Q : Value → Shared → Prop} (hs : x.length + y.length ≤ 16777216) (h : ∀ t' tk, Q (.str (x ++ y) t') { s with toks := tk }) : wpAny (model prog w) A (binaryOp .Add (.str x t) (.str y u)) Q E s :=
  PyProof.Rows.add_str (x := x) (y := y) h (by rw [sizeLine_eq]; exact hs)
theorem neL {prog : Program} {w : World} {A : Around} {E : Value → Shared → Prop} {s : Shared} {x y : Str} {t u : Tok} {Q : Value → Shared → Prop} (e : (x != y) = false) (h : Q (.bool false) s) : wpAny (model prog w) A (compareOp .NotEq (.str x t) (.str y u)) Q E s :=
  PyProof.Rows.ne_str (x := x) (y := y) (by rw [e]; exact h)
theorem storeT {M : Model} {A : Around} {E : Value → Shared → Prop} {s : Shared} {g : Heap} {L a : Addr} {m : Str → Option Value} {news : List (Addr × Obj)} {name n : Str} {scope : Scope} {cd v : Value} {Q : Unit → Shared → Prop}
    (F : Fr g L s.heap m) (N : News g L s.heap news) (h : ∀ h' tk', s.toks ≤ tk' → Fr g L h' (fun y => if y = n then some v else m y) → News g L h' news → Q () { s with heap := h', toks := tk' })
    (hk : scope.kind = .function := by rfl) (hlo : (envOf name scope L a cd).kindOf n = some .local := by rfl) : wpAny M A (storeName (envOf name scope L a cd) n v) Q E s := by
  refine wpAny_with_toks (Nat.le_refl s.toks) ?_
  refine wpAny_storeName_local hlo F.ns (fun h' hn hs => ?_) (by show (scope.kind == .class || (scope.kind == .module && L != mainGlobals)) = false; rw [hk]; rfl)
  exact fun hle => h h' _ hle (F.set hn hs) (N.set hs)
theorem split_cnt (x : Str) : (Txt.split x (Str.ofString "/")).length ≤ x.length + 1 := by
  have := split_size x
  omega
theorem kqd_ent {es : List (Str × Str × Str)} (h : ∀ e ∈ es, OkS e.1 ∧ OkS e.2.1 ∧ OkS e.2.2) : ∀ d ∈ es.map entD, kqdOk 8 d = true := by
  intro d hd
  obtain ⟨e, he, rfl⟩ := List.mem_map.mp hd
  obtain ⟨h1, h2, h3⟩ := h e he
  unfold OkS at h1 h2 h3
  unfold entD
  simp [kqdOk, h1, h2, h3]
section
variable {prog : Program} {w : World} {A : Around} {E : Value → Shared → Prop} {s : Shared} {h₀ : Heap} {L D B : Addr} {news n₁ n₂ : List (Addr × Obj)} {n k : Nat} {us vs : List Value} {es : List (Str × Str × Str)} {Q : Value → Shared → Prop}
theorem r_neE (N : News h₀ L s.heap news) (mA : (D, listOf us.toArray n) ∈ news) (mB : (B, listOf vs.toArray k) ∈ news) (ha : DatAll n₁ us (es.map entD)) (sa : ∀ p ∈ n₁, p ∈ news) (hb : DatAll n₂ vs (es.map entD)) (sb : ∀ p ∈ n₂, p ∈ news)
    (ok : ∀ e ∈ es, OkS e.1 ∧ OkS e.2.1 ∧ OkS e.2.2) (hu : A.units + 64 < cLine) (h : Q (.bool false) s) : wpAny (model prog w) A (compareOp .NotEq (.ref D) (.ref B)) Q E s :=
  kqd_ne N mA rfl rfl ha sa mB rfl rfl hb sb (kqd_ent ok) (kqd_ent ok) hu (by simpa using h)
end
theorem Upto.law {a b c d e f : Str} {m₀ m : Str → Option Value} {v1 v2 : Option Value} (h : Upto [a, b, c, d, e, f] m₀ m) (h1 : m a = v1) (h2 : m b = v2) :
    m = (fun y => if y = a then v1 else if y = b then v2 else if y = c then m c else if y = d then m d else if y = e then m e else if y = f then m f else m₀ y) := by
  funext y
  by_cases e1 : y = a
  · rw [if_pos e1, e1, h1]
  · rw [if_neg e1]
    by_cases e2 : y = b
    · rw [if_pos e2, e2, h2]
    · rw [if_neg e2]
      by_cases e3 : y = c
      · rw [if_pos e3, e3]
      · rw [if_neg e3]
        by_cases e4 : y = d
        · rw [if_pos e4, e4]
        · rw [if_neg e4]
          by_cases e5 : y = e
          · rw [if_pos e5, e5]
          · rw [if_neg e5]
            by_cases e6 : y = f
            · rw [if_pos e6, e6]
            · rw [if_neg e6]
              exact h y (by simp only [List.mem_cons, List.not_mem_nil, or_false]; exact fun q => by rcases q with q | q | q | q | q | q <;> contradiction)
abbrev LNames : List Str := [Str.ofString "here", Str.ofString "place", Str.ofString "x", Str.ofString "way", Str.ofString "root", Str.ofString "due"]
def LawJ (Dt : Addr) (i : Nat) (m0 m' : Str → Option Value) (mu z : List (Addr × Obj)) : Prop :=
  Upto LNames m0 m' ∧ ∃ ts n place there Pl vs np th, mu = [(Dt, listOf (List.toArray ts) n)] ∧ m' (Str.ofString "here") = some (.str (hereS place) th) ∧ m' (Str.ofString "place") = some (.ref Pl) ∧ (Pl, listOf (List.toArray vs) np) ∈ z ∧ StrsAre vs place ∧ DatAll z ts (there.map strsD) ∧ LInv i place there
section
variable {Dt Pl : Addr} {i n np : Nat} {m0 m' : Str → Option Value} {mu z : List (Addr × Obj)} {ts vs : List Value} {place : List Str} {there : List (List Str)} {th : Tok} {P : Prop}
theorem LawJ.intro (hU : Upto LNames m0 m') (h2 : m' (Str.ofString "here") = some (.str (hereS place) th)) (h3 : m' (Str.ofString "place") = some (.ref Pl)) (h4 : (Pl, listOf vs.toArray np) ∈ z) (h5 : StrsAre vs place) (h6 : DatAll z ts (there.map strsD)) (h7 : LInv i place there) :
    LawJ Dt i m0 m' [(Dt, listOf ts.toArray n)] z := ⟨hU, ts, n, place, there, Pl, vs, np, th, rfl, h2, h3, h4, h5, h6, h7⟩
theorem LawJ.elim (h : LawJ Dt i m0 m' mu z) (k : ∀ ts n place there Pl vs np th, mu = [(Dt, listOf (List.toArray ts) n)] → m' (Str.ofString "here") = some (.str (hereS place) th) → m' (Str.ofString "place") = some (.ref Pl) → (Pl, listOf (List.toArray vs) np) ∈ z → StrsAre vs place → DatAll z ts (there.map strsD) → LInv i place there → Upto LNames m0 m' → P) : P := by
  obtain ⟨hU, ts, n, place, there, Pl, vs, np, th, h1, h2, h3, h4, h5, h6, h7⟩ := h
  exact k ts n place there Pl vs np th h1 h2 h3 h4 h5 h6 h7 hU
end
/-- the list that the loop goes over -/
def SrcPost (h₀ : Heap) (L Pl Dt : Addr) (gn : Array GenState) (dr : Drawn) (os : OsState) (M : Str → Option Value) (v : Value) (s' : Shared) : Prop :=
  ∃ D1 vs h' tk', v = .ref D1 ∧ s' = ⟨h', gn, dr, tk', os⟩ ∧ Fr h₀ L h' M ∧ News h₀ L h' [(D1, listOf (List.toArray vs) 0), (Pl, listOf #[] 0), (Dt, listOf #[] 0)] ∧ Pl < D1 ∧ Dt < D1 ∧ vs.length ≤ 4 ∧ ∀ v ∈ vs, ∃ i t, v = .int i t
theorem SrcPost.intro {h₀ h' : Heap} {L Pl Dt D1 : Addr} {gn : Array GenState} {dr : Drawn} {os : OsState} {M : Str → Option Value} {tk' : Nat} {vs : List Value} (F : Fr h₀ L h' M) (N : News h₀ L h' [(D1, listOf (List.toArray vs) 0), (Pl, listOf #[] 0), (Dt, listOf #[] 0)]) (h1 : Pl < D1) (h2 : Dt < D1) (h3 : vs.length ≤ 4) (h4 : ∀ v ∈ vs, ∃ i t, v = .int i t) :
    SrcPost h₀ L Pl Dt gn dr os M (.ref D1) ⟨h', gn, dr, tk', os⟩ := ⟨D1, vs, h', tk', rfl, rfl, F, N, h1, h2, h3, h4⟩
def RootPost (h₀ : Heap) (L : Addr) (nw : List (Addr × Obj)) (x : Str) (gn : Array GenState) (dr : Drawn) (os : OsState) (M : Str → Option Value) (f : Flow) (s' : Shared) : Prop :=
  ∃ t h' tk', f = .next ∧ s' = ⟨h', gn, dr, tk', os⟩ ∧ Fr h₀ L h' (fun y => if y = Str.ofString "root" then some (.str (rootX x) t) else M y) ∧ News h₀ L h' nw
theorem RootPost.intro {h₀ h' : Heap} {L : Addr} {nw : List (Addr × Obj)} {x r : Str} {gn : Array GenState} {dr : Drawn} {os : OsState} {M : Str → Option Value} {tk' : Nat} {t : Tok} (e : rootX x = r) (F : Fr h₀ L h' (fun y => if y = Str.ofString "root" then some (.str r t) else M y)) (N : News h₀ L h' nw) :
    RootPost h₀ L nw x gn dr os M .next ⟨h', gn, dr, tk', os⟩ := ⟨t, h', tk', rfl, rfl, e ▸ F, N⟩
theorem ints_of {vs : List Value} {xs : List Int} (h : IntsAre vs xs) : ∀ v ∈ vs, ∃ i t, v = .int i t := by
  induction h with
  | nil => intro v hv; cases hv
  | cons i t r ih =>
    intro v hv
    rcases List.mem_cons.mp hv with rfl | hv
    · exact ⟨_, _, rfl⟩
    · exact ih v hv
theorem law_try : PySem.Challenge.rw_pd0100_01.Holds := by
  refine hd ?_
  unfold hd.lawRec
  dsimp only
  k_go0
  all_goals (try k_fold)
  show wpAny _ _ _ _ _ _
  repeat' (first
    | (k_unfold; (try dsimp only))
    | ((with_reducible show wpAny _ _ (exec (Stmt.For _ _ _ _ _) _) _ _ _); refine stop_of ?_)
    | walk1
    | (dsimp only; walk1))
  refine Stop.go ?_
  rename Fr _ _ _ _ => F9
  rename News _ _ _ _ => N9
  rename Shared => s1
  rename World => w1
  rename Top _ _ _ _ _ _ => T0
  have T9 := topRead_of T0
  rename Frag.In _ _ => X9
  rename _ < _ => hPD
  rename_i Dt _ _ _ _ _ Pl _ _
  refine wpAny_mono (E := fun _ _ => False) ?_ (fun _ _ x => x) (fun _ _ x => x.elim)
  refine For_invV s1.heap rfl rfl ?_ (hE := PassesOwn.never)
  refine mid (fun M v s' => SrcPost s1.heap s1.heap.objs.size Pl Dt s1.gens s1.drawn s1.os M v s') F9 ?src ?rest
  case src =>
    repeat' (first
    | (k_unfold; (try dsimp only))
    | walk1
    | (dsimp only; walk1))
    · rename IntsAre _ (List.take 4 _) => hI
      rename Fr _ _ _ _ => F9
      rename News _ _ _ _ => N9
      rename _ < _ ∧ _ < _ => hl
      refine Stop.go (SrcPost.intro F9 N9 hl.1 hl.2 ?_ (ints_of hI))
      rw [IntsAre.length hI, List.length_take]
      exact Nat.min_le_left _ _
    · rename Fr _ _ _ _ => F9
      rename News _ _ _ _ => N9
      rename _ < _ ∧ _ < _ ∧ _ < _ => hl
      exact Stop.go (SrcPost.intro (vs := [_, _, _, _]) F9 (led_sub N9 (List.forall_mem_cons.mpr ⟨List.Mem.head _, fun p hp => List.mem_cons_of_mem _ (List.mem_cons_of_mem _ hp)⟩)) hl.2.1 hl.2.2 (Nat.le_refl _) (by
        intro v hv
        simp only [List.mem_cons, List.not_mem_nil, or_false] at hv
        rcases hv with rfl | rfl | rfl | rfl <;> exact ⟨_, _, rfl⟩))
  case rest =>
    rintro v s' ⟨D1, vs, h', tk', rfl, rfl, F1, N1, hp1, hp2, hvl, hints⟩
    clear F9 N9
    refine for_list (adr := [Dt]) (mu₀ := [(Dt, listOf ([] : List Value).toArray 0)]) (z₀ := [(D1, listOf vs.toArray 0), (Pl, listOf #[] 0)]) (vs := vs) (nl := 0) (fun m0 _ i m' mu z => LawJ Dt i m0 m' mu z) rfl F1
      (led_sub N1 (List.forall_mem_cons.mpr ⟨by k_mem, List.forall_mem_cons.mpr ⟨by k_mem, List.forall_mem_cons.mpr ⟨by k_mem, List.forall_mem_nil _⟩⟩⟩)) ?hz (List.Mem.head _) ?hJ ?hj ?turn ?done
    case hz => exact List.forall_mem_cons.mpr ⟨fun hq => Nat.ne_of_gt hp2 (List.mem_singleton.mp hq), List.forall_mem_cons.mpr ⟨fun hq => Nat.ne_of_gt hPD (List.mem_singleton.mp hq), List.forall_mem_nil _⟩⟩
    case hJ => intro i m1 mu z h; exact h.elim fun ts n place there Pl1 vs1 np th hmu hh hpl hPm hps hdat hI hU => by rw [hmu]; rfl
    case hj => exact LawJ.intro (Upto.refl _ _) (by rfl) rfl (List.mem_cons_of_mem _ (List.Mem.head _)) .nil .nil LInv.zero
    case turn =>
      intro i v m1 mu z yl h3 tk3 hv hJ hsub hyl F3 N3
      refine hJ.elim fun ts n place there Pl1 vs1 np th hmu hh hpl hPm hps hdat hI hU => ?_
      subst hmu
      obtain ⟨x, tx, rfl⟩ := hints v (List.mem_of_getElem? hv)
      have hi4 : i < 4 := Nat.lt_of_lt_of_le (List.getElem?_eq_some_iff.mp hv).1 hvl
      have F3 : Fr s1.heap s1.heap.objs.size h3 _ := Upto.law hU hh hpl ▸ F3
      replace N3 : News s1.heap s1.heap.objs.size h3 ((Dt, listOf ts.toArray n) :: yl) := N3
      have hPy : (Pl1, listOf vs1.toArray np) ∈ yl := hsub _ hPm
      have hyD : ∀ p ∈ yl, p.1 ≠ Dt := fun p hp e => hyl p hp (List.mem_singleton.mpr e)
      clear F1 N1 hJ
      show wpAny _ _ _ _ _ _
      k_fold
      repeat' (first
    | (k_unfold; (try dsimp only))
    | ((with_reducible show wpAny _ _ (storeName (envOf _ _ _ _ _) _ _) _ _ _); (refine storeT (by k_asm) (by k_asm) ?_); intro h' tk' htk F' N'; (try dsimp only at htk); (try k_sweep))
    | ((with_reducible show wpAny _ _ (PySem.call (Value.ref 173) _ _) _ _ _); (refine' c_wayX ?k0 ?k1 ?k2 ?k3 ?k4 ?k5 ?k6 ?_; (case k0 => k_asm); (case k1 => k_asm); (case k2 => k_asm); (case k3 => k_asm); (case k4 => exact rfl); (case k5 => (first | (exact Nat.le_of_ble_eq_true rfl) | omega)); (case k6 => (first | (exact Nat.le_of_ble_eq_true rfl) | omega))); intro x1 t' h' tk' F' N' hxl hxw htk; (try k_sweep))
    | ((with_reducible show wpAny _ _ (exec (Stmt.Assign [Expr.Name (PySem.Str.ofString "place") _] (Expr.Call _ _ _ _) _) _) _ _ _); refine stop_of ?_)
    | walk1
    | (dsimp only; walk1))
      refine Stop.go ?_
      rename Fr _ _ _ _ => F9
      rename News _ _ _ _ => N9
      obtain ⟨hpl16, hps80⟩ := hI.sz (Nat.le_of_lt hi4)
      have hpl100 : place.length ≤ 100 := Nat.le_trans hpl16 (by decide)
      have hcnt : (Txt.split x1 (Str.ofString "/")).length ≤ 100 := Nat.le_trans (split_cnt x1) (by omega)
      have hx1000 : x1.length ≤ 1000 := Nat.le_trans hxl (by decide)
      have hh1000 : (hereS place).length ≤ 1000 := Nat.le_trans (here_len hps80) (by decide)
      have hj1000 : (joinF (hereS place) x1).length ≤ 1000 := Nat.le_trans (joinF_len (here_len hps80) hxl) (by decide)
      obtain ⟨P, root, hP, hroot, hrt, hgoal, hrz, hnl, hI2, htalk, hgood, hPo, hPs⟩ := turn_law hI hi4 hxw
      subst hroot
      obtain ⟨hl5, ha3, ha5, hal, hcmp⟩ := here_ans hPs
      have hPs400 : (P.map (·.length)).sum + P.length ≤ 400 := Nat.le_trans hPs (by decide)
      have hPs1000 : (P.map (·.length)).sum + P.length ≤ 1000 := Nat.le_trans hPs (by decide)
      repeat' (first
    | (k_unfold; (try dsimp only))
    | ((with_reducible show wpAny _ _ (storeName (envOf _ _ _ _ _) _ _) _ _ _); (refine storeT (by k_asm) (by k_asm) ?_); intro h' tk' htk F' N'; (try dsimp only at htk); (try k_sweep))
    | ((with_reducible show wpAny _ _ (PySem.call (Value.builtin "str.split") _ _) _ _ _); (refine wpAny_with_toks (n := 1) ?zt ?_); (case zt => (first | with_reducible assumption | ((try dsimp only); omega))); (refine' r_split ?k0 ?k1 ?k2 ?_; (case k0 => k_asm); (case k1 => k_asm); (case k2 => omega)); intro D' vs' h' k' a' F' N' l1 hts; (try k_sweep))
    | ((with_reducible show wpAny _ _ (PySem.call (Value.ref 199) _ _) _ _ _); refine stop_of ?_)
    | walk1
    | (dsimp only; walk1))
      refine Stop.go ?_
      rename Fr _ _ _ _ => F9
      rename News _ _ _ _ => N9
      replace hts : 1 ≤ k' := hts
      refine wpAny_with_toks (n := 1) (by first | exact hts | ((try dsimp only); omega)) ?_
      refine c_place (n := np) (k := 0) F9 N9 X9 T9 rfl (by (first | (exact Nat.le_of_ble_eq_true rfl) | omega)) (by (first | (exact Nat.le_of_ble_eq_true rfl) | omega)) ?mD ?mB hps a' hpl100 hcnt (split_ne _) ?_
      case mD => repeat (first | exact hPy | apply List.mem_cons_of_mem)
      case mB => exact List.Mem.head _
      intro Pn wn jn h4 tk4 F4 N4 hPn hwn htk4
      replace htk4 : 1 ≤ tk4 := htk4
      rw [hP] at hwn
      clear F9 N9
      dsimp only
      repeat' (first
    | (k_unfold; (try dsimp only))
    | ((with_reducible show wpAny _ _ (storeName (envOf _ _ _ _ _) _ _) _ _ _); (refine storeT (by k_asm) (by k_asm) ?_); intro h' tk' htk F' N'; (try dsimp only at htk); (try k_sweep))
    | ((with_reducible show wpAny _ _ (exec (Stmt.Assign _ (Expr.IfExp _ _ _ _) _) _) _ _ _); refine stop_of ?_)
    | walk1
    | (dsimp only; walk1))
      refine Stop.go ?_
      rename Fr _ _ _ _ => F9
      rename News _ _ _ _ => N9
      refine wpAny_with_toks (n := 1) (by first | exact htk4 | ((try dsimp only); omega)) ?_
      refine mid (fun M f s' => RootPost s1.heap s1.heap.objs.size ((Pn, listOf wn.toArray jn) :: (Dt, listOf ts.toArray n) :: yl) x1 s1.gens s1.drawn s1.os M f s') F9 ?rsrc ?rrest
      case rsrc =>
        repeat' (first
    | (k_unfold; (try dsimp only))
    | ((with_reducible show wpAny _ _ (storeName (envOf _ _ _ _ _) _ _) _ _ _); (refine storeT (by k_asm) (by k_asm) ?_); intro h' tk' htk F' N'; (try dsimp only at htk); (try k_sweep))
    | walk1
    | (dsimp only; walk1))
        all_goals rename Fr _ _ _ _ => F9
        all_goals rename News _ _ _ _ => N9
        all_goals refine Stop.go (RootPost.intro ?_ F9 (led_sub N9 (List.forall_mem_cons.mpr ⟨by k_mem, List.forall_mem_cons.mpr ⟨by k_mem, fun p h9 => (by repeat (first | exact h9 | apply List.mem_cons_of_mem))⟩⟩)))
        all_goals first
          | exact rootX_a (by with_reducible assumption) (by with_reducible assumption)
          | exact rootX_b (by with_reducible assumption) (by with_reducible assumption)
          | exact rootX_c (by with_reducible assumption)
      case rrest =>
        rintro f s' ⟨tr, h5, tk5, rfl, rfl, F5, N5⟩ htk5
        replace htk5 : 1 ≤ tk5 := htk5
        clear F9 N9
        dsimp only
        repeat' (first
    | (k_unfold; (try dsimp only))
    | ((with_reducible show wpAny _ _ (storeName (envOf _ _ _ _ _) _ _) _ _ _); (refine storeT (by k_asm) (by k_asm) ?_); intro h' tk' htk F' N'; (try dsimp only at htk); (try k_sweep))
    | ((with_reducible show wpAny _ _ (PySem.call (Value.ref 204) _ _) _ _ _); refine stop_of ?_)
    | walk1
    | (dsimp only; walk1))
        refine Stop.go ?_
        rename Fr _ _ _ _ => F9
        rename News _ _ _ _ => N9
        refine wpAny_with_toks (n := 1) (by first | exact htk5 | ((try dsimp only); omega)) ?_
        refine c_due (news := (Dt, listOf ts.toArray n) :: (Pn, listOf wn.toArray jn) :: yl) (n₁ := z) (there := there) (place := P) F9 (led_sub N9 ?m0) X9 T9 rfl (by (first | (exact Nat.le_of_ble_eq_true rfl) | omega)) (by (first | (exact Nat.le_of_ble_eq_true rfl) | omega)) (List.Mem.head _) (List.mem_cons_of_mem _ (List.Mem.head _)) hdat (fun p hp => List.mem_cons_of_mem _ (List.mem_cons_of_mem _ (hsub p hp))) hwn hI.ok hPo hPs400 hrt.len ?_
        case m0 => exact List.forall_mem_cons.mpr ⟨by k_mem, List.forall_mem_cons.mpr ⟨by k_mem, fun p h9 => (by repeat (first | exact h9 | apply List.mem_cons_of_mem))⟩⟩
        intro Du dw dj add1 h6 tk6 F6 N6 hDu hsep1 hdat1 htk6
        replace htk6 : 1 ≤ tk6 := htk6
        replace N6 : News s1.heap s1.heap.objs.size h6 ((Dt, listOf ts.toArray n) :: (Du, listOf dw.toArray dj) :: (Pn, listOf wn.toArray jn) :: (add1 ++ yl)) := led_sub N6 (by
          intro p hp
          simp only [List.mem_cons, List.mem_append] at hp ⊢
          rcases hp with h | h | h | h | h
          · exact .inr (.inr (.inl h))
          · exact .inl h
          · exact .inr (.inr (.inr (.inl h)))
          · exact .inr (.inl h)
          · exact .inr (.inr (.inr (.inr h))))
        clear F9 N9
        dsimp only
        repeat' (first
    | (k_unfold; (try dsimp only))
    | ((with_reducible show wpAny _ _ (storeName (envOf _ _ _ _ _) _ _) _ _ _); (refine storeT (by k_asm) (by k_asm) ?_); intro h' tk' htk F' N'; (try dsimp only at htk); (try k_sweep))
    | ((with_reducible show wpAny _ _ (PySem.call (Value.ref 115) _ _) _ _ _); (refine wpAny_with_toks (n := 1) ?zt ?_); (case zt => (first | with_reducible assumption | ((try dsimp only); omega))); (refine' c_join ?k0 ?k1 ?k2 ?k3 ?k4 ?k5 ?k6 ?k7 ?_; (case k0 => k_asm); (case k1 => k_asm); (case k2 => k_asm); (case k3 => k_asm); (case k4 => exact rfl); (case k5 => (first | (exact Nat.le_of_ble_eq_true rfl) | omega)); (case k6 => (first | with_reducible assumption | assumption)); (case k7 => (first | with_reducible assumption | assumption))); intro t' h' tk' F' N' htj; (try dsimp only at htj); (try k_sweep))
    | ((with_reducible show wpAny _ _ (PySem.call (Value.ref 136) _ _) _ _ _); (refine wpAny_with_toks (n := 1) ?zt ?_); (case zt => (first | with_reducible assumption | ((try dsimp only); omega))); (refine' c_normpath ?k0 ?k1 ?k2 ?k3 ?k4 ?k5 ?k6 ?k7 ?_; (case k0 => k_asm); (case k1 => k_asm); (case k2 => k_asm); (case k3 => k_asm); (case k4 => exact rfl); (case k5 => (first | (exact Nat.le_of_ble_eq_true rfl) | omega)); (case k6 => (first | with_reducible assumption | assumption)); (case k7 => (first | with_reducible assumption | assumption))); intro t' h' tk' F' N' htn; (try dsimp only at htn); (try k_sweep))
    | ((with_reducible show wpAny _ _ (PySem.call (Value.builtin "str.replace") _ _) _ _ _); (refine' SC.replaceW ?k0 ?k1 ?k2 ?k3 ?k4 ?k5 ?_; (case k0 => (show @Ne Nat _ _; omega)); (case k1 => (show @Ne Nat _ _; omega)); (case k2 => (show @Ne Nat _ _; omega)); (case k3 => (exact of_decide_eq_true rfl)); (case k4 => omega); (case k5 => (exact Nat.le_of_ble_eq_true rfl))); intro t' k'; (try k_sweep))
    | ((with_reducible show wpAny _ _ (PySem.call (Value.ref 192) _ _) _ _ _); refine stop_of ?_)
    | walk1
    | (dsimp only; walk1))
        refine Stop.go ?_
        rename Fr _ _ _ _ => F9
        rename News _ _ _ _ => N9
        rw [hgoal]
        refine c_talk (n := n) (news := (Du, listOf dw.toArray dj) :: (Pn, listOf wn.toArray jn) :: (add1 ++ yl)) (n₁ := z) (there := there) F9 (led_sub N9 ?m0) X9 T9 rfl rfl rfl (show ScopeKind.function ≠ ScopeKind.module by decide) (by (first | (exact Nat.le_of_ble_eq_true rfl) | omega)) (by (first | (exact Nat.le_of_ble_eq_true rfl) | omega)) ?m1 hdat ?m2 hgood ?_
        case m0 => exact List.forall_mem_cons.mpr ⟨by k_mem, List.forall_mem_cons.mpr ⟨by k_mem, List.forall_mem_cons.mpr ⟨by k_mem, fun p h9 => (by repeat (first | exact h9 | apply List.mem_cons_of_mem))⟩⟩⟩
        case m1 =>
          exact List.forall_mem_cons.mpr ⟨(hDu _ (List.Mem.head _)).symm, List.forall_mem_cons.mpr ⟨(hPn _ (List.mem_cons_of_mem _ (List.Mem.head _))).symm, fun p hp => (List.mem_append.mp hp).elim (fun h => (hsep1 _ (List.Mem.head _) p h).symm) (hyD p)⟩⟩
        case m2 => exact fun p hp => List.mem_cons_of_mem _ (List.mem_cons_of_mem _ (List.mem_append_right _ (hsub p hp)))
        intro Tw tw tj add2 h7 tk7 ts' n' F7 N7 hsep2 hdat2 hdat3
        rw [htalk] at hdat3
        replace N7 : News s1.heap s1.heap.objs.size h7 ((Dt, listOf ts'.toArray n') :: (Tw, listOf tw.toArray tj) :: (Du, listOf dw.toArray dj) :: (Pn, listOf wn.toArray jn) :: (add2 ++ (add1 ++ yl))) := led_sub N7 (by
          intro p hp
          simp only [List.mem_cons, List.mem_append] at hp ⊢
          rcases hp with h | h | h | h | h | h | h
          · exact .inr (.inl h)
          · exact .inl h
          · exact .inr (.inr (.inr (.inl h)))
          · exact .inr (.inr (.inr (.inr (.inl h))))
          · exact .inr (.inr (.inl h))
          · exact .inr (.inr (.inr (.inr (.inr (.inl h)))))
          · exact .inr (.inr (.inr (.inr (.inr (.inr h))))))
        clear F9 N9
        dsimp only
        repeat' (first
    | (k_unfold; (try dsimp only))
    | ((with_reducible show wpAny _ _ (compareOp CmpOp.NotEq (Value.ref _) (Value.ref _)) _ _ _); refine stop_of ?_)
    | walk1
    | (dsimp only; walk1))
        refine Stop.go ?_
        rename Fr _ _ _ _ => F9
        rename News _ _ _ _ => N9
        refine r_neE N9 (by k_mem) (by k_mem) hdat3 (fun p hp => by repeat (first | exact List.mem_append_left _ hp | apply List.mem_cons_of_mem)) hdat1 (fun p hp => by repeat (first | exact List.mem_append_right _ (List.mem_append_left _ hp) | apply List.mem_cons_of_mem)) (due_ok hrt hPo) (by (first | (exact Nat.le_of_ble_eq_true rfl) | omega)) ?_
        try dsimp only
        repeat' (first
    | (k_unfold; (try dsimp only))
    | ((with_reducible show wpAny _ _ (storeName (envOf _ _ _ _ _) _ _) _ _ _); (refine storeT (by k_asm) (by k_asm) ?_); intro h' tk' htk F' N'; (try dsimp only at htk); (try k_sweep))
    | ((with_reducible show wpAny _ _ (PySem.call (Value.ref 180) _ _) _ _ _); refine stop_of ?_)
    | walk1
    | (dsimp only; walk1))
        refine Stop.go ?_
        rename Fr _ _ _ _ => F9
        rename News _ _ _ _ => N9
        refine c_answer (n := jn) F9 N9 X9 T9 rfl (by (first | (exact Nat.le_of_ble_eq_true rfl) | omega)) (by k_mem) hwn hPs1000 (by (first | (exact Nat.le_of_ble_eq_true rfl) | omega)) (by (first | (exact Nat.le_of_ble_eq_true rfl) | omega)) ?_
        intro t8 h8 tk8 F8 N8
        have hpar := parse_here P
        generalize answerF (Str.ofString "257") P (Str.ofString " is \"here\"") = ans at hl5 ha3 ha5 hal hcmp hpar ⊢
        clear F9 N9
        try dsimp only
        repeat' (first
    | (k_unfold; (try dsimp only))
    | ((with_reducible show wpAny _ _ (storeName (envOf _ _ _ _ _) _ _) _ _ _); (refine storeT (by k_asm) (by k_asm) ?_); intro h' tk' htk F' N'; (try dsimp only at htk); (try k_sweep))
    | ((with_reducible show wpAny _ _ (PySem.call (Value.ref 168) _ _) _ _ _); refine stop_of ?_)
    | walk1
    | (dsimp only; walk1))
        refine Stop.go ?_
        rename Fr _ _ _ _ => F9
        rename News _ _ _ _ => N9
        refine c_parse F9 N9 X9 T9 rfl (by (first | (exact Nat.le_of_ble_eq_true rfl) | omega)) hl5 ha3 ha5 hal ?_
        intro t9 h9 tk9 F9' N9'
        rw [hpar] at hcmp ⊢
        replace hcmp : (hereS P != Str.ofString "/" ++ Txt.join (Str.ofString "/") P) = false := hcmp
        clear F9 N9
        show wpAny _ _ _ _ _ _
        repeat' (first
    | (k_unfold; (try dsimp only))
    | ((with_reducible show wpAny _ _ (storeName (envOf _ _ _ _ _) _ _) _ _ _); (refine storeT (by k_asm) (by k_asm) ?_); intro h' tk' htk F' N'; (try dsimp only at htk); (try k_sweep))
    | ((with_reducible show wpAny _ _ (PySem.call (Value.builtin "str.join") _ _) _ _ _); refine stop_of ?_)
    | walk1
    | (dsimp only; walk1))
        refine Stop.go ?_
        rename Fr _ _ _ _ => F9
        rename News _ _ _ _ => N9
        refine r_joinT (n := jn) N9 (by k_mem) hwn (by rw [slash_len]; omega) ?_
        intro t10 tk10 hj10 hk10
        rw [slash_len] at hj10
        try dsimp only at hk10
        show wpAny _ _ _ _ _ _
        repeat' (first
    | (k_unfold; (try dsimp only))
    | ((with_reducible show wpAny _ _ (storeName (envOf _ _ _ _ _) _ _) _ _ _); (refine storeT (by k_asm) (by k_asm) ?_); intro h' tk' htk F' N'; (try dsimp only at htk); (try k_sweep))
    | ((with_reducible show wpAny _ _ (binaryOp Operator.Add (Value.str _ _) (Value.str _ _)) _ _ _); refine stop_of ?_)
    | walk1
    | (dsimp only; walk1))
        refine Stop.go ?_
        refine addL (by rw [slash_len]; omega) ?_
        intro t11 tk11
        show wpAny _ _ _ _ _ _
        repeat' (first
    | (k_unfold; (try dsimp only))
    | ((with_reducible show wpAny _ _ (storeName (envOf _ _ _ _ _) _ _) _ _ _); (refine storeT (by k_asm) (by k_asm) ?_); intro h' tk' htk F' N'; (try dsimp only at htk); (try k_sweep))
    | ((with_reducible show wpAny _ _ (compareOp CmpOp.NotEq (Value.str _ _) (Value.str _ _)) _ _ _); refine stop_of ?_)
    | walk1
    | (dsimp only; walk1))
        refine Stop.go ?_
        refine neL hcmp ?_
        try dsimp only
        repeat' (first
    | (k_unfold; (try dsimp only))
    | ((with_reducible show wpAny _ _ (storeName (envOf _ _ _ _ _) _ _) _ _ _); (refine storeT (by k_asm) (by k_asm) ?_); intro h' tk' htk F' N'; (try dsimp only at htk); (try k_sweep))
    | walk1
    | (dsimp only; walk1))
        refine LoopPost.nx [(Dt, listOf ts'.toArray n')] ((Pn, listOf wn.toArray jn) :: add2) F9 (led_sub N9 ?l1) ?l2 (LawJ.intro ?l3 rfl rfl (List.mem_append_left _ (List.Mem.head _)) hwn (hdat2.mono fun p hp => List.mem_cons_of_mem _ hp) hI2)
        case l1 =>
          intro p hp
          simp only [List.mem_cons, List.mem_append, List.not_mem_nil, or_false] at hp ⊢
          rcases hp with h | (h | h) | h
          · exact .inl h
          · exact .inr (.inr (.inr (.inl h)))
          · exact .inr (.inr (.inr (.inr (.inl h))))
          · exact .inr (.inr (.inr (.inr (.inr (.inr h)))))
        case l2 =>
          intro q hq p hp
          rcases List.mem_append.mp hq with hq | hq
          · rw [List.mem_singleton.mp hq]
            rcases List.mem_cons.mp hp with rfl | hp
            · exact hPn (Dt, listOf ts.toArray n) (List.mem_cons_of_mem _ (List.Mem.head _))
            · exact hsep2 _ (List.Mem.head _) p (List.mem_cons_of_mem _ hp)
          · rcases List.mem_cons.mp hp with rfl | hp
            · exact hPn q (List.mem_cons_of_mem _ (List.mem_cons_of_mem _ hq))
            · exact hsep2 q (List.mem_cons_of_mem _ (List.mem_cons_of_mem _ (List.mem_cons_of_mem _ (List.mem_append_right _ hq)))) p (List.mem_cons_of_mem _ hp)
        case l3 =>
          refine Upto.set (Upto.set (Upto.set (Upto.set (Upto.set (Upto.set (Upto.set (Upto.set (Upto.set (Upto.set (Upto.set (Upto.set (Upto.refl _ _) ?_) ?_) ?_) ?_) ?_) ?_) ?_) ?_) ?_) ?_) ?_) ?_ <;> k_mem
    case done =>
      intro m1 mu z h3 tk3 hJ F3 N3 hz3
      refine hJ.elim fun ts n place there Pl1 vs1 np th hmu hh hpl hPm hps hdat hI hU => ?_
      subst hmu
      have F3 : Fr s1.heap s1.heap.objs.size h3 _ := Upto.law hU hh hpl ▸ F3
      clear F1 N1 hJ
      show wpAny _ _ _ _ _ _
      repeat' (first
    | (k_unfold; (try dsimp only))
    | walk1
    | (dsimp only; walk1))
      all_goals (try dsimp only)
      all_goals k_steps
end

end Mine

theorem PySem.Challenge.cw_pd0100_01_holds : PySem.Challenge.rw_pd0100_01.Holds :=
  Mine.law_try

