import PyProof.Rows.All
import Wide.All
import OpenK.AllK
import Wide.FinOn
import Lean
import PySem.Challenge.RW_xh0019_01
open PySem PySem.W PyProof.Rows PySem.Calls PySem.Spec
set_option Elab.async false
set_option maxRecDepth 100000
set_option compiler.extract_closed false
namespace Mine
set_option maxHeartbeats 8000000 in
theorem said3 : sreFenced PySem.Challenge.rw_xh0019_01.row.prog.main = true := by kernel_rfl
set_option maxHeartbeats 8000000 in
theorem said4 : namesResolve PySem.Challenge.rw_xh0019_01.row.prog = true := by kernel_rfl
set_option maxHeartbeats 8000000 in
theorem said5 : namesMeet PySem.Challenge.rw_xh0019_01.row.prog PySem.Challenge.rw_xh0019_01.row.prog.main.body (fun _ n => attrL n) = true := by kernel_rfl
set_option maxHeartbeats 8000000 in
theorem said2 : looksOpen PySem.Challenge.rw_xh0019_01.row.prog = true := by
  unfold looksOpen
  rw [said3, said4, said5]
  kernel_rfl
set_option maxHeartbeats 8000000 in
theorem said1 : PySem.Challenge.rw_xh0019_01.row.wellSaid = true := by
  unfold OpenRow.wellSaid OpenRow.partSaid
  rw [said2]
  kernel_rfl
set_option maxHeartbeats 8000000 in
theorem said0 : OpenLaw.wellSaid PySem.Challenge.rw_xh0019_01 = true := by
  unfold OpenLaw.wellSaid
  rw [said1]
  kernel_rfl
section
local macro_rules | `(tactic| o_law) => `(tactic| refine holds_law said0 fun said => ?_)
local macro_rules | `(tactic| o_head $h) => `(tactic| refine (fun (_ : True) (hc : _) => hc) ?hw ?hc)
local macro_rules | `(tactic| w_witness2) => `(tactic| trivial)
set_option maxHeartbeats 8000000 in
open_top hd for PySem.Challenge.rw_xh0019_01
end
/-- the statements of the top that the head keeps in view -/
def view0 : Program := { PySem.Challenge.pw_xh0019_01 with main := { PySem.Challenge.pw_xh0019_01.main with body := [0, 2, 3, 4, 11, 12, 14, 15, 16, 17, 18, 19, 20, 21].filterMap fun i => PySem.Challenge.pw_xh0019_01.main.body[i]? } }
def loos : List Str := [Str.ofString "insort_right", Str.ofString "bisect_right", Str.ofString "insort_left", Str.ofString "bisect_left", Str.ofString "_Accumulator"]
noncomputable abbrev hk0 : Hook := kmHook Mine.hd.heap_1 [2,3,15,17,18,20,21,22,29,30,31,32,35,42,43,44,47,49,50,52,53,54,55,56,58,59,61,62,63,64,65,67,68,70,71,72,73,74,76,77,79,80,81,82,83,85,86,88,89,90,93,98,99,100,102,103,105,106,107,109,110,112,113,114,115,117,118,120,121,122,123,125,126,128,129,130,132,133,135,136,137,139,140,142,143,144,145,147,148,150,151,152,154,155,157,158,159,160,162,163,165,166,167,168,169,170,171,174,176,177,179,180,181,183,184,186,187,188,190,191,193,194,195,197,198,200,201,202,204,205,207,208,209,211,212,214,215,216,218,219,221,222,223,226,227] (fun _ => by kernel_rfl) [131, 138]
noncomputable def bootT (P : Params) : BT := .node (boot_o_0 P) (.node (boot_o_1 P) (.node (boot_o_3 P) (.node (boot_o_7 P) .nil .nil) .nil) (.node (boot_o_5 P) (.node (boot_o_9 P) .nil .nil) .nil)) (.node (boot_o_2 P) (.node (boot_o_4 P) (.node (boot_o_8 P) .nil .nil) .nil) (.node (boot_o_6 P) (.node (boot_o_10 P) .nil .nil) .nil))
noncomputable def mSt (k : Nat) : Stmt := (PySem.Challenge.pw_xh0019_01.main.body[k]?).getD (.Pass default)
def fBody : Stmt → List Stmt
  | .FunctionDef _ _ b _ _ _ _ _ _ _ => b
  | .ClassDef _ _ _ b _ _ _ _ _ _ _ => b
  | _ => []
def fArgs : Stmt → Arguments
  | .FunctionDef _ a _ _ _ _ _ _ _ _ => a
  | _ => ⟨[], [], none, [], [], none, []⟩
def fScope : Stmt → Scope
  | .FunctionDef _ _ _ _ _ _ s _ _ _ => s
  | .ClassDef _ _ _ _ _ _ s _ _ _ _ => s
  | _ => default
noncomputable def cSt (k j : Nat) : Stmt := ((fBody (mSt k))[j]?).getD (.Pass default)
noncomputable def oa2 (P : Params) : Obj := (@Obj.mk @Value.none (@Option.none @Nat) (@Data.dict (@List.toArray @DictEntry [(@DictEntry.mk (@PyData.keyHash P (@Str.ofString "type.__subclasses__.Exception.0")) (@Value.str (@Str.ofString "type.__subclasses__.Exception.0") 212) (@Value.int 31 0)), (@DictEntry.mk (@PyData.keyHash P (@Str.ofString "type.__subclasses__.Exception.n")) (@Value.str (@Str.ofString "type.__subclasses__.Exception.n") 213) (@Value.int 1 0))]) 2) (@List.toArray (@Option @Value) []))
noncomputable def oa3 (P : Params) : Obj := (@Obj.mk (@Value.type "dict") (@Option.none @Nat) (@Data.dict (@List.toArray @DictEntry [(@DictEntry.mk (@PyData.keyHash P (@Str.ofString "__name__")) (@Value.str (@Str.ofString "__name__") 165) (@Value.str (@Str.ofString "cpy313.email.header") 299)), (@DictEntry.mk (@PyData.keyHash P (@Str.ofString "__doc__")) (@Value.str (@Str.ofString "__doc__") 166) @Value.none), (@DictEntry.mk (@PyData.keyHash P (@Str.ofString "__package__")) (@Value.str (@Str.ofString "__package__") 167) @Value.none), (@DictEntry.mk (@PyData.keyHash P (@Str.ofString "__loader__")) (@Value.str (@Str.ofString "__loader__") 168) (@Value.builtin "__main__.__loader__#\x6fpaque")), (@DictEntry.mk (@PyData.keyHash P (@Str.ofString "__spec__")) (@Value.str (@Str.ofString "__spec__") 169) @Value.none), (@DictEntry.mk (@PyData.keyHash P (@Str.ofString "__annotations__")) (@Value.str (@Str.ofString "__annotations__") 170) (@Value.ref 6)), (@DictEntry.mk (@PyData.keyHash P (@Str.ofString "__builtins__")) (@Value.str (@Str.ofString "__builtins__") 171) (@Value.ref 4)), (@DictEntry.mk (@PyData.keyHash P (@Str.ofString "__file__")) (@Value.str (@Str.ofString "__file__") 173) (@Value.str (@Str.ofString "/claim/cut.py") 172)), (@DictEntry.mk (@PyData.keyHash P (@Str.ofString "__cached__")) (@Value.str (@Str.ofString "__cached__") 174) @Value.none), (@DictEntry.mk (@PyData.keyHash P (@Str.ofString "_wall")) (@Value.str (@Str.ofString "_wall") 193) (@Value.ref 21)), (@DictEntry.mk (@PyData.keyHash P (@Str.ofString "Error")) (@Value.str (@Str.ofString "Error") 215) (@Value.ref 31)), (@DictEntry.mk (@PyData.keyHash P (@Str.ofString "error_reply")) (@Value.str (@Str.ofString "error_reply") 231) (@Value.ref 44)), (@DictEntry.mk (@PyData.keyHash P (@Str.ofString "parse257")) (@Value.str (@Str.ofString "parse257") 242) (@Value.ref 53)), (@DictEntry.mk (@PyData.keyHash P (@Str.ofString "insort_right")) (@Value.str (@Str.ofString "insort_right") 257) (@Value.ref 62)), (@DictEntry.mk (@PyData.keyHash P (@Str.ofString "bisect_right")) (@Value.str (@Str.ofString "bisect_right") 271) (@Value.ref 71)), (@DictEntry.mk (@PyData.keyHash P (@Str.ofString "insort_left")) (@Value.str (@Str.ofString "insort_left") 284) (@Value.ref 80)), (@DictEntry.mk (@PyData.keyHash P (@Str.ofString "bisect_left")) (@Value.str (@Str.ofString "bisect_left") 298) (@Value.ref 89)), (@DictEntry.mk (@PyData.keyHash P (@Str.ofString "EMPTYSTRING")) (@Value.str (@Str.ofString "EMPTYSTRING") 302) (@Value.str (@Str.ofString "") 301))]) 18) (@List.toArray (@Option @Value) []))
noncomputable def oa11 (P : Params) : Obj := (@Obj.mk (@Value.type "tuple") (@Option.none @Nat) (@Data.seq (@List.toArray @Value []) 0) (@List.toArray (@Option @Value) []))
noncomputable def oa12 (P : Params) : Obj := (@Obj.mk @Value.none (@Option.none @Nat) (@Data.fields (@List.toArray @Value [(@Value.int 1 0), (@Value.int 0 0), (@Value.ref 20), (@Value.int 5 0), (@Value.int 0 0), (@Value.ref 27), (@Value.int 7 0), (@Value.int 0 0), (@Value.ref 40), (@Value.int 9 0), (@Value.int 0 0), (@Value.ref 52), (@Value.int 27 0), (@Value.int 0 0), (@Value.ref 61), (@Value.int 33 0), (@Value.int 0 0), (@Value.ref 70), (@Value.int 53 0), (@Value.int 0 0), (@Value.ref 79), (@Value.int 59 0), (@Value.int 0 0), (@Value.ref 88)])) (@List.toArray (@Option @Value) []))
noncomputable def oa13 (P : Params) : Obj := (@Obj.mk (@Value.type "code") (@Option.none @Nat) (@Data.fields (@List.toArray @Value [(@Value.str (@Str.ofString "<module>") 182), (@Value.str (@Str.ofString "<module>") 183), (@Value.str (@Str.ofString "/claim/cut.py") 184), (@Value.int 1 0), (@Value.int 0 0), (@Value.int 0 0), (@Value.int 0 0), (@Value.int 0 0), (@Value.ref 11), (@Value.bool @Bool.false), (@Value.int 181 0), (@Value.ref 12), @Value.none, @Value.none, @Value.none, @Value.none, (@Value.int 185 0), (@Value.int 1 0), (@Value.str (@Str.ofString "/claim/cut.py") 186)])) (@List.toArray (@Option @Value) []))
noncomputable def oa14 (P : Params) : Obj := (@Obj.mk (@Value.type "frame") (@Option.none @Nat) @Data.plain (@List.toArray (@Option @Value) [(@Option.some @Value (@Value.ref 13)), (@Option.some @Value (@Value.ref 3)), (@Option.some @Value (@Value.ref 3)), (@Option.none @Value), (@Option.some @Value (@Value.str (@Str.ofString "__main__") 164)), (@Option.none @Value), (@Option.some @Value (@Value.ref 0))]))
noncomputable def oa15 (P : Params) : Obj := (@Obj.mk (@Value.type "tuple") (@Option.none @Nat) (@Data.seq (@List.toArray @Value []) 0) (@List.toArray (@Option @Value) []))
noncomputable def oa16 (P : Params) : Obj := (@Obj.mk @Value.none (@Option.none @Nat) (@Data.fields (@List.toArray @Value [])) (@List.toArray (@Option @Value) []))
noncomputable def oa17 (P : Params) : Obj := (@Obj.mk (@Value.type "tuple") (@Option.none @Nat) (@Data.seq (@List.toArray @Value [(@Value.str (@Str.ofString "k") 190)]) 0) (@List.toArray (@Option @Value) []))
noncomputable def oa18 (P : Params) : Obj := (@Obj.mk (@Value.type "tuple") (@Option.none @Nat) (@Data.seq (@List.toArray @Value []) 0) (@List.toArray (@Option @Value) []))
noncomputable def oa19 (P : Params) : Obj := (@Obj.mk @Value.none (@Option.none @Nat) (@Data.func (@FuncData.mk (@Str.ofString "_wall") (@Str.ofString "_wall") (fArgs (mSt 0)) (@FuncBody.stmts (fBody (mSt 0))) (fScope (mSt 0)) 0 [] @Value.none @Value.none @Value.none @Value.none (@Option.none @Nat) @Value.none @Value.none 0)) (@List.toArray (@Option @Value) []))
noncomputable def oa20 (P : Params) : Obj := (@Obj.mk (@Value.type "code") (@Option.none @Nat) (@Data.fields (@List.toArray @Value [(@Value.str (@Str.ofString "_wall") 187), (@Value.str (@Str.ofString "_wall") 188), (@Value.str (@Str.ofString "/claim/cut.py") 189), (@Value.int 1 0), (@Value.int 1 0), (@Value.int 0 0), (@Value.int 0 0), (@Value.int 3 0), (@Value.ref 15), (@Value.bool @Bool.true), (@Value.int 181 0), (@Value.ref 16), @Value.none, (@Value.ref 17), (@Value.ref 18), (@Value.ref 19), (@Value.int 191 0), (@Value.int 1 0), (@Value.str (@Str.ofString "/claim/cut.py") 192)])) (@List.toArray (@Option @Value) []))
noncomputable def oa21 (P : Params) : Obj := (@Obj.mk (@Value.type "function") (@Option.none @Nat) (@Data.func (@FuncData.mk (@Str.ofString "_wall") (@Str.ofString "_wall") (fArgs (mSt 0)) (@FuncBody.stmts (fBody (mSt 0))) (fScope (mSt 0)) 3 [] @Value.none @Value.none @Value.none (@Value.str (@Str.ofString "__main__") 164) (@Option.none @Nat) (@Value.ref 20) @Value.none 0)) (@List.toArray (@Option @Value) []))
noncomputable def oa22 (P : Params) : Obj := (@Obj.mk (@Value.type "tuple") (@Option.none @Nat) (@Data.seq (@List.toArray @Value [(@Value.type "Exception")]) 0) (@List.toArray (@Option @Value) []))
noncomputable def oa23 (P : Params) : Obj := (@Obj.mk (@Value.type "builtin_function_or_method") (@Option.none @Nat) (@Data.fields (@List.toArray @Value [(@Value.builtin "type.__prepare__"), (@Value.type "type")])) (@List.toArray (@Option @Value) []))
noncomputable def oa24 (P : Params) : Obj := (@Obj.mk (@Value.type "dict") (@Option.none @Nat) (@Data.dict (@List.toArray @DictEntry [(@DictEntry.mk (@PyData.keyHash P (@Str.ofString "__module__")) (@Value.str (@Str.ofString "__module__") 203) (@Value.str (@Str.ofString "cpy313.ftplib") 194)), (@DictEntry.mk (@PyData.keyHash P (@Str.ofString "__qualname__")) (@Value.str (@Str.ofString "__qualname__") 205) (@Value.str (@Str.ofString "Error") 204)), (@DictEntry.mk (@PyData.keyHash P (@Str.ofString "__firstlineno__")) (@Value.str (@Str.ofString "__firstlineno__") 207) (@Value.int 5 206)), (@DictEntry.mk (@PyData.keyHash P (@Str.ofString "__static_attributes__")) (@Value.str (@Str.ofString "__static_attributes__") 208) (@Value.ref 29))]) 4) (@List.toArray (@Option @Value) []))
noncomputable def oa25 (P : Params) : Obj := (@Obj.mk (@Value.type "tuple") (@Option.none @Nat) (@Data.seq (@List.toArray @Value []) 0) (@List.toArray (@Option @Value) []))
noncomputable def oa26 (P : Params) : Obj := (@Obj.mk @Value.none (@Option.none @Nat) (@Data.fields (@List.toArray @Value [])) (@List.toArray (@Option @Value) []))
noncomputable def oa27 (P : Params) : Obj := (@Obj.mk (@Value.type "code") (@Option.none @Nat) (@Data.fields (@List.toArray @Value [(@Value.str (@Str.ofString "Error") 198), (@Value.str (@Str.ofString "Error") 199), (@Value.str (@Str.ofString "/claim/cut.py") 200), (@Value.int 5 0), (@Value.int 0 0), (@Value.int 0 0), (@Value.int 0 0), (@Value.int 0 0), (@Value.ref 25), (@Value.bool @Bool.false), (@Value.int 181 0), (@Value.ref 26), @Value.none, @Value.none, @Value.none, @Value.none, (@Value.int 201 0), (@Value.int 5 0), (@Value.str (@Str.ofString "/claim/cut.py") 202)])) (@List.toArray (@Option @Value) []))
noncomputable def oa28 (P : Params) : Obj := (@Obj.mk (@Value.type "frame") (@Option.none @Nat) @Data.plain (@List.toArray (@Option @Value) [(@Option.some @Value (@Value.ref 27)), (@Option.some @Value (@Value.ref 3)), (@Option.some @Value (@Value.ref 24)), (@Option.none @Value), (@Option.some @Value (@Value.str (@Str.ofString "cpy313.ftplib") 194)), (@Option.none @Value), (@Option.some @Value (@Value.ref 0))]))
noncomputable def oa29 (P : Params) : Obj := (@Obj.mk (@Value.type "tuple") (@Option.none @Nat) (@Data.seq (@List.toArray @Value []) 0) (@List.toArray (@Option @Value) []))
noncomputable def oa30 (P : Params) : Obj := (@Obj.mk (@Value.type "dict") (@Option.none @Nat) (@Data.dict (@List.toArray @DictEntry [(@DictEntry.mk (@PyData.keyHash P (@Str.ofString "__module__")) (@Value.str (@Str.ofString "__module__") 203) (@Value.str (@Str.ofString "cpy313.ftplib") 194)), (@DictEntry.mk (@PyData.keyHash P (@Str.ofString "__firstlineno__")) (@Value.str (@Str.ofString "__firstlineno__") 207) (@Value.int 5 206)), (@DictEntry.mk (@PyData.keyHash P (@Str.ofString "__static_attributes__")) (@Value.str (@Str.ofString "__static_attributes__") 208) (@Value.ref 29)), (@DictEntry.mk (@PyData.keyHash P (@Str.ofString "__weakref__")) (@Value.str (@Str.ofString "__weakref__") 210) (@Value.ref 32)), (@DictEntry.mk (@PyData.keyHash P (@Str.ofString "__doc__")) (@Value.str (@Str.ofString "__doc__") 211) @Value.none)]) 3) (@List.toArray (@Option @Value) []))
noncomputable def oa31 (P : Params) : Obj := (@Obj.mk (@Value.type "type") (@Option.none @Nat) (@Data.cls (@ClassData.mk (@Str.ofString "Error") [(@Value.type "Exception")] [(@Value.ref 31), (@Value.type "Exception"), (@Value.type "BaseException"), (@Value.type "object")] 30 (@Str.ofString "Error") @Bool.true [] [(@Value.ref 44)] @Bool.false (@Option.none @Bool) @Bool.false)) (@List.toArray (@Option @Value) [(@Option.some @Value (@Value.ref 22)), (@Option.none @Value), (@Option.some @Value (@Value.str (@Str.ofString "Error") 196)), (@Option.some @Value (@Value.str (@Str.ofString "Error") 204)), (@Option.some @Value (@Value.builtin "Exception.__new__")), (@Option.some @Value (@Value.bool @Bool.true))]))
noncomputable def oa32 (P : Params) : Obj := (@Obj.mk (@Value.type "getset_descriptor") (@Option.none @Nat) (@Data.fields (@List.toArray @Value [(@Value.str (@Str.ofString "__weakref__") 209), (@Value.ref 31), (@Value.builtin "ExceptionGroup.__weakref__"), @Value.none])) (@List.toArray (@Option @Value) []))
noncomputable def oa33 (P : Params) : Obj := (@Obj.mk (@Value.type "super") (@Option.none @Nat) (@Data.fields (@List.toArray @Value [(@Value.ref 31), (@Value.ref 31), (@Value.ref 31)])) (@List.toArray (@Option @Value) []))
noncomputable def oa34 (P : Params) : Obj := (@Obj.mk (@Value.type "builtin_function_or_method") (@Option.none @Nat) (@Data.fields (@List.toArray @Value [(@Value.builtin "object.__init_subclass__"), (@Value.ref 31)])) (@List.toArray (@Option @Value) []))
noncomputable def oa35 (P : Params) : Obj := (@Obj.mk (@Value.type "tuple") (@Option.none @Nat) (@Data.seq (@List.toArray @Value [(@Value.ref 31)]) 0) (@List.toArray (@Option @Value) []))
noncomputable def oa36 (P : Params) : Obj := (@Obj.mk (@Value.type "builtin_function_or_method") (@Option.none @Nat) (@Data.fields (@List.toArray @Value [(@Value.builtin "type.__prepare__"), (@Value.type "type")])) (@List.toArray (@Option @Value) []))
noncomputable def oa37 (P : Params) : Obj := (@Obj.mk (@Value.type "dict") (@Option.none @Nat) (@Data.dict (@List.toArray @DictEntry [(@DictEntry.mk (@PyData.keyHash P (@Str.ofString "__module__")) (@Value.str (@Str.ofString "__module__") 223) (@Value.str (@Str.ofString "cpy313.ftplib") 194)), (@DictEntry.mk (@PyData.keyHash P (@Str.ofString "__qualname__")) (@Value.str (@Str.ofString "__qualname__") 225) (@Value.str (@Str.ofString "error_reply") 224)), (@DictEntry.mk (@PyData.keyHash P (@Str.ofString "__firstlineno__")) (@Value.str (@Str.ofString "__firstlineno__") 227) (@Value.int 7 226)), (@DictEntry.mk (@PyData.keyHash P (@Str.ofString "__static_attributes__")) (@Value.str (@Str.ofString "__static_attributes__") 228) (@Value.ref 42))]) 4) (@List.toArray (@Option @Value) []))
noncomputable def oa38 (P : Params) : Obj := (@Obj.mk (@Value.type "tuple") (@Option.none @Nat) (@Data.seq (@List.toArray @Value []) 0) (@List.toArray (@Option @Value) []))
noncomputable def oa39 (P : Params) : Obj := (@Obj.mk @Value.none (@Option.none @Nat) (@Data.fields (@List.toArray @Value [])) (@List.toArray (@Option @Value) []))
noncomputable def oa40 (P : Params) : Obj := (@Obj.mk (@Value.type "code") (@Option.none @Nat) (@Data.fields (@List.toArray @Value [(@Value.str (@Str.ofString "error_reply") 218), (@Value.str (@Str.ofString "error_reply") 219), (@Value.str (@Str.ofString "/claim/cut.py") 220), (@Value.int 7 0), (@Value.int 0 0), (@Value.int 0 0), (@Value.int 0 0), (@Value.int 0 0), (@Value.ref 38), (@Value.bool @Bool.false), (@Value.int 181 0), (@Value.ref 39), @Value.none, @Value.none, @Value.none, @Value.none, (@Value.int 221 0), (@Value.int 7 0), (@Value.str (@Str.ofString "/claim/cut.py") 222)])) (@List.toArray (@Option @Value) []))
noncomputable def oa41 (P : Params) : Obj := (@Obj.mk (@Value.type "frame") (@Option.none @Nat) @Data.plain (@List.toArray (@Option @Value) [(@Option.some @Value (@Value.ref 40)), (@Option.some @Value (@Value.ref 3)), (@Option.some @Value (@Value.ref 37)), (@Option.none @Value), (@Option.some @Value (@Value.str (@Str.ofString "cpy313.ftplib") 194)), (@Option.none @Value), (@Option.some @Value (@Value.ref 0))]))
noncomputable def oa42 (P : Params) : Obj := (@Obj.mk (@Value.type "tuple") (@Option.none @Nat) (@Data.seq (@List.toArray @Value []) 0) (@List.toArray (@Option @Value) []))
noncomputable def oa43 (P : Params) : Obj := (@Obj.mk (@Value.type "dict") (@Option.none @Nat) (@Data.dict (@List.toArray @DictEntry [(@DictEntry.mk (@PyData.keyHash P (@Str.ofString "__module__")) (@Value.str (@Str.ofString "__module__") 223) (@Value.str (@Str.ofString "cpy313.ftplib") 194)), (@DictEntry.mk (@PyData.keyHash P (@Str.ofString "__firstlineno__")) (@Value.str (@Str.ofString "__firstlineno__") 227) (@Value.int 7 226)), (@DictEntry.mk (@PyData.keyHash P (@Str.ofString "__static_attributes__")) (@Value.str (@Str.ofString "__static_attributes__") 228) (@Value.ref 42)), (@DictEntry.mk (@PyData.keyHash P (@Str.ofString "__doc__")) (@Value.str (@Str.ofString "__doc__") 229) @Value.none)]) 2) (@List.toArray (@Option @Value) []))
noncomputable def oa44 (P : Params) : Obj := (@Obj.mk (@Value.type "type") (@Option.none @Nat) (@Data.cls (@ClassData.mk (@Str.ofString "error_reply") [(@Value.ref 31)] [(@Value.ref 44), (@Value.ref 31), (@Value.type "Exception"), (@Value.type "BaseException"), (@Value.type "object")] 43 (@Str.ofString "error_reply") @Bool.true [] [] @Bool.false (@Option.none @Bool) @Bool.false)) (@List.toArray (@Option @Value) [(@Option.some @Value (@Value.ref 35)), (@Option.none @Value), (@Option.some @Value (@Value.str (@Str.ofString "error_reply") 216)), (@Option.some @Value (@Value.str (@Str.ofString "error_reply") 224)), (@Option.some @Value (@Value.builtin "Exception.__new__")), (@Option.some @Value (@Value.bool @Bool.true))]))
noncomputable def oa45 (P : Params) : Obj := (@Obj.mk (@Value.type "super") (@Option.none @Nat) (@Data.fields (@List.toArray @Value [(@Value.ref 44), (@Value.ref 44), (@Value.ref 44)])) (@List.toArray (@Option @Value) []))
noncomputable def oa46 (P : Params) : Obj := (@Obj.mk (@Value.type "builtin_function_or_method") (@Option.none @Nat) (@Data.fields (@List.toArray @Value [(@Value.builtin "object.__init_subclass__"), (@Value.ref 44)])) (@List.toArray (@Option @Value) []))
noncomputable def oa47 (P : Params) : Obj := (@Obj.mk (@Value.type "tuple") (@Option.none @Nat) (@Data.seq (@List.toArray @Value []) 0) (@List.toArray (@Option @Value) []))
noncomputable def oa48 (P : Params) : Obj := (@Obj.mk @Value.none (@Option.none @Nat) (@Data.fields (@List.toArray @Value [])) (@List.toArray (@Option @Value) []))
noncomputable def oa49 (P : Params) : Obj := (@Obj.mk (@Value.type "tuple") (@Option.none @Nat) (@Data.seq (@List.toArray @Value [(@Value.str (@Str.ofString "resp") 235), (@Value.str (@Str.ofString "dirname") 236), (@Value.str (@Str.ofString "i") 237), (@Value.str (@Str.ofString "n") 238), (@Value.str (@Str.ofString "c") 239)]) 0) (@List.toArray (@Option @Value) []))
noncomputable def oa50 (P : Params) : Obj := (@Obj.mk (@Value.type "tuple") (@Option.none @Nat) (@Data.seq (@List.toArray @Value []) 0) (@List.toArray (@Option @Value) []))
noncomputable def oa51 (P : Params) : Obj := (@Obj.mk @Value.none (@Option.none @Nat) (@Data.func (@FuncData.mk (@Str.ofString "parse257") (@Str.ofString "parse257") (fArgs (mSt 4)) (@FuncBody.stmts (fBody (mSt 4))) (fScope (mSt 4)) 0 [] @Value.none @Value.none @Value.none @Value.none (@Option.none @Nat) @Value.none @Value.none 0)) (@List.toArray (@Option @Value) []))
noncomputable def oa52 (P : Params) : Obj := (@Obj.mk (@Value.type "code") (@Option.none @Nat) (@Data.fields (@List.toArray @Value [(@Value.str (@Str.ofString "parse257") 232), (@Value.str (@Str.ofString "parse257") 233), (@Value.str (@Str.ofString "/claim/cut.py") 234), (@Value.int 9 0), (@Value.int 1 0), (@Value.int 0 0), (@Value.int 0 0), (@Value.int 3 0), (@Value.ref 47), (@Value.bool @Bool.true), (@Value.int 181 0), (@Value.ref 48), @Value.none, (@Value.ref 49), (@Value.ref 50), (@Value.ref 51), (@Value.int 240 0), (@Value.int 9 0), (@Value.str (@Str.ofString "/claim/cut.py") 241)])) (@List.toArray (@Option @Value) []))
noncomputable def oa53 (P : Params) : Obj := (@Obj.mk (@Value.type "function") (@Option.none @Nat) (@Data.func (@FuncData.mk (@Str.ofString "parse257") (@Str.ofString "parse257") (fArgs (mSt 4)) (@FuncBody.stmts (fBody (mSt 4))) (fScope (mSt 4)) 3 [] @Value.none @Value.none @Value.none (@Value.str (@Str.ofString "cpy313.ftplib") 194) (@Option.none @Nat) (@Value.ref 52) @Value.none 0)) (@List.toArray (@Option @Value) []))
noncomputable def oa54 (P : Params) : Obj := (@Obj.mk (@Value.type "tuple") (@Option.none @Nat) (@Data.seq (@List.toArray @Value [(@Value.int 0 245), @Value.none]) 0) (@List.toArray (@Option @Value) []))
noncomputable def oa55 (P : Params) : Obj := (@Obj.mk (@Value.type "dict") (@Option.none @Nat) (@Data.dict (@List.toArray @DictEntry [(@DictEntry.mk (@PyData.keyHash P (@Str.ofString "key")) (@Value.str (@Str.ofString "key") 246) @Value.none)]) 1) (@List.toArray (@Option @Value) []))
noncomputable def oa56 (P : Params) : Obj := (@Obj.mk (@Value.type "tuple") (@Option.none @Nat) (@Data.seq (@List.toArray @Value []) 0) (@List.toArray (@Option @Value) []))
noncomputable def oa57 (P : Params) : Obj := (@Obj.mk @Value.none (@Option.none @Nat) (@Data.fields (@List.toArray @Value [])) (@List.toArray (@Option @Value) []))
noncomputable def oa58 (P : Params) : Obj := (@Obj.mk (@Value.type "tuple") (@Option.none @Nat) (@Data.seq (@List.toArray @Value [(@Value.str (@Str.ofString "a") 250), (@Value.str (@Str.ofString "x") 251), (@Value.str (@Str.ofString "lo") 252), (@Value.str (@Str.ofString "hi") 253), (@Value.str (@Str.ofString "key") 254)]) 0) (@List.toArray (@Option @Value) []))
noncomputable def oa59 (P : Params) : Obj := (@Obj.mk (@Value.type "tuple") (@Option.none @Nat) (@Data.seq (@List.toArray @Value []) 0) (@List.toArray (@Option @Value) []))
noncomputable def oa60 (P : Params) : Obj := (@Obj.mk @Value.none (@Option.none @Nat) (@Data.func (@FuncData.mk (@Str.ofString "insort_right") (@Str.ofString "insort_right") (fArgs (mSt 6)) (@FuncBody.stmts (fBody (mSt 6))) (fScope (mSt 6)) 0 [] @Value.none @Value.none @Value.none @Value.none (@Option.none @Nat) @Value.none @Value.none 0)) (@List.toArray (@Option @Value) []))
noncomputable def oa61 (P : Params) : Obj := (@Obj.mk (@Value.type "code") (@Option.none @Nat) (@Data.fields (@List.toArray @Value [(@Value.str (@Str.ofString "insort_right") 247), (@Value.str (@Str.ofString "insort_right") 248), (@Value.str (@Str.ofString "/claim/cut.py") 249), (@Value.int 27 0), (@Value.int 4 0), (@Value.int 0 0), (@Value.int 1 0), (@Value.int 3 0), (@Value.ref 56), (@Value.bool @Bool.true), (@Value.int 181 0), (@Value.ref 57), @Value.none, (@Value.ref 58), (@Value.ref 59), (@Value.ref 60), (@Value.int 255 0), (@Value.int 27 0), (@Value.str (@Str.ofString "/claim/cut.py") 256)])) (@List.toArray (@Option @Value) []))
noncomputable def oa62 (P : Params) : Obj := (@Obj.mk (@Value.type "function") (@Option.none @Nat) (@Data.func (@FuncData.mk (@Str.ofString "insort_right") (@Str.ofString "insort_right") (fArgs (mSt 6)) (@FuncBody.stmts (fBody (mSt 6))) (fScope (mSt 6)) 3 [] (@Value.ref 54) (@Value.ref 55) @Value.none (@Value.str (@Str.ofString "cpy313.bisect") 243) (@Option.none @Nat) (@Value.ref 61) @Value.none 0)) (@List.toArray (@Option @Value) []))
noncomputable def oa63 (P : Params) : Obj := (@Obj.mk (@Value.type "tuple") (@Option.none @Nat) (@Data.seq (@List.toArray @Value [(@Value.int 0 258), @Value.none]) 0) (@List.toArray (@Option @Value) []))
noncomputable def oa64 (P : Params) : Obj := (@Obj.mk (@Value.type "dict") (@Option.none @Nat) (@Data.dict (@List.toArray @DictEntry [(@DictEntry.mk (@PyData.keyHash P (@Str.ofString "key")) (@Value.str (@Str.ofString "key") 259) @Value.none)]) 1) (@List.toArray (@Option @Value) []))
noncomputable def oa65 (P : Params) : Obj := (@Obj.mk (@Value.type "tuple") (@Option.none @Nat) (@Data.seq (@List.toArray @Value []) 0) (@List.toArray (@Option @Value) []))
noncomputable def oa66 (P : Params) : Obj := (@Obj.mk @Value.none (@Option.none @Nat) (@Data.fields (@List.toArray @Value [])) (@List.toArray (@Option @Value) []))
noncomputable def oa67 (P : Params) : Obj := (@Obj.mk (@Value.type "tuple") (@Option.none @Nat) (@Data.seq (@List.toArray @Value [(@Value.str (@Str.ofString "a") 263), (@Value.str (@Str.ofString "x") 264), (@Value.str (@Str.ofString "lo") 265), (@Value.str (@Str.ofString "hi") 266), (@Value.str (@Str.ofString "key") 267), (@Value.str (@Str.ofString "mid") 268)]) 0) (@List.toArray (@Option @Value) []))
noncomputable def oa68 (P : Params) : Obj := (@Obj.mk (@Value.type "tuple") (@Option.none @Nat) (@Data.seq (@List.toArray @Value []) 0) (@List.toArray (@Option @Value) []))
noncomputable def oa69 (P : Params) : Obj := (@Obj.mk @Value.none (@Option.none @Nat) (@Data.func (@FuncData.mk (@Str.ofString "bisect_right") (@Str.ofString "bisect_right") (fArgs (mSt 7)) (@FuncBody.stmts (fBody (mSt 7))) (fScope (mSt 9)) 0 [] @Value.none @Value.none @Value.none @Value.none (@Option.none @Nat) @Value.none @Value.none 0)) (@List.toArray (@Option @Value) []))
noncomputable def oa70 (P : Params) : Obj := (@Obj.mk (@Value.type "code") (@Option.none @Nat) (@Data.fields (@List.toArray @Value [(@Value.str (@Str.ofString "bisect_right") 260), (@Value.str (@Str.ofString "bisect_right") 261), (@Value.str (@Str.ofString "/claim/cut.py") 262), (@Value.int 33 0), (@Value.int 4 0), (@Value.int 0 0), (@Value.int 1 0), (@Value.int 3 0), (@Value.ref 65), (@Value.bool @Bool.true), (@Value.int 181 0), (@Value.ref 66), @Value.none, (@Value.ref 67), (@Value.ref 68), (@Value.ref 69), (@Value.int 269 0), (@Value.int 33 0), (@Value.str (@Str.ofString "/claim/cut.py") 270)])) (@List.toArray (@Option @Value) []))
noncomputable def oa71 (P : Params) : Obj := (@Obj.mk (@Value.type "function") (@Option.none @Nat) (@Data.func (@FuncData.mk (@Str.ofString "bisect_right") (@Str.ofString "bisect_right") (fArgs (mSt 7)) (@FuncBody.stmts (fBody (mSt 7))) (fScope (mSt 9)) 3 [] (@Value.ref 63) (@Value.ref 64) @Value.none (@Value.str (@Str.ofString "cpy313.bisect") 243) (@Option.none @Nat) (@Value.ref 70) @Value.none 0)) (@List.toArray (@Option @Value) []))
noncomputable def oa72 (P : Params) : Obj := (@Obj.mk (@Value.type "tuple") (@Option.none @Nat) (@Data.seq (@List.toArray @Value [(@Value.int 0 272), @Value.none]) 0) (@List.toArray (@Option @Value) []))
noncomputable def oa73 (P : Params) : Obj := (@Obj.mk (@Value.type "dict") (@Option.none @Nat) (@Data.dict (@List.toArray @DictEntry [(@DictEntry.mk (@PyData.keyHash P (@Str.ofString "key")) (@Value.str (@Str.ofString "key") 273) @Value.none)]) 1) (@List.toArray (@Option @Value) []))
noncomputable def oa74 (P : Params) : Obj := (@Obj.mk (@Value.type "tuple") (@Option.none @Nat) (@Data.seq (@List.toArray @Value []) 0) (@List.toArray (@Option @Value) []))
noncomputable def oa75 (P : Params) : Obj := (@Obj.mk @Value.none (@Option.none @Nat) (@Data.fields (@List.toArray @Value [])) (@List.toArray (@Option @Value) []))
noncomputable def oa76 (P : Params) : Obj := (@Obj.mk (@Value.type "tuple") (@Option.none @Nat) (@Data.seq (@List.toArray @Value [(@Value.str (@Str.ofString "a") 277), (@Value.str (@Str.ofString "x") 278), (@Value.str (@Str.ofString "lo") 279), (@Value.str (@Str.ofString "hi") 280), (@Value.str (@Str.ofString "key") 281)]) 0) (@List.toArray (@Option @Value) []))
noncomputable def oa77 (P : Params) : Obj := (@Obj.mk (@Value.type "tuple") (@Option.none @Nat) (@Data.seq (@List.toArray @Value []) 0) (@List.toArray (@Option @Value) []))
noncomputable def oa78 (P : Params) : Obj := (@Obj.mk @Value.none (@Option.none @Nat) (@Data.func (@FuncData.mk (@Str.ofString "insort_left") (@Str.ofString "insort_left") (fArgs (mSt 8)) (@FuncBody.stmts (fBody (mSt 8))) (fScope (mSt 8)) 0 [] @Value.none @Value.none @Value.none @Value.none (@Option.none @Nat) @Value.none @Value.none 0)) (@List.toArray (@Option @Value) []))
noncomputable def oa79 (P : Params) : Obj := (@Obj.mk (@Value.type "code") (@Option.none @Nat) (@Data.fields (@List.toArray @Value [(@Value.str (@Str.ofString "insort_left") 274), (@Value.str (@Str.ofString "insort_left") 275), (@Value.str (@Str.ofString "/claim/cut.py") 276), (@Value.int 53 0), (@Value.int 4 0), (@Value.int 0 0), (@Value.int 1 0), (@Value.int 3 0), (@Value.ref 74), (@Value.bool @Bool.true), (@Value.int 181 0), (@Value.ref 75), @Value.none, (@Value.ref 76), (@Value.ref 77), (@Value.ref 78), (@Value.int 282 0), (@Value.int 53 0), (@Value.str (@Str.ofString "/claim/cut.py") 283)])) (@List.toArray (@Option @Value) []))
noncomputable def oa80 (P : Params) : Obj := (@Obj.mk (@Value.type "function") (@Option.none @Nat) (@Data.func (@FuncData.mk (@Str.ofString "insort_left") (@Str.ofString "insort_left") (fArgs (mSt 8)) (@FuncBody.stmts (fBody (mSt 8))) (fScope (mSt 8)) 3 [] (@Value.ref 72) (@Value.ref 73) @Value.none (@Value.str (@Str.ofString "cpy313.bisect") 243) (@Option.none @Nat) (@Value.ref 79) @Value.none 0)) (@List.toArray (@Option @Value) []))
noncomputable def oa81 (P : Params) : Obj := (@Obj.mk (@Value.type "tuple") (@Option.none @Nat) (@Data.seq (@List.toArray @Value [(@Value.int 0 285), @Value.none]) 0) (@List.toArray (@Option @Value) []))
noncomputable def oa82 (P : Params) : Obj := (@Obj.mk (@Value.type "dict") (@Option.none @Nat) (@Data.dict (@List.toArray @DictEntry [(@DictEntry.mk (@PyData.keyHash P (@Str.ofString "key")) (@Value.str (@Str.ofString "key") 286) @Value.none)]) 1) (@List.toArray (@Option @Value) []))
noncomputable def oa83 (P : Params) : Obj := (@Obj.mk (@Value.type "tuple") (@Option.none @Nat) (@Data.seq (@List.toArray @Value []) 0) (@List.toArray (@Option @Value) []))
noncomputable def oa84 (P : Params) : Obj := (@Obj.mk @Value.none (@Option.none @Nat) (@Data.fields (@List.toArray @Value [])) (@List.toArray (@Option @Value) []))
noncomputable def oa85 (P : Params) : Obj := (@Obj.mk (@Value.type "tuple") (@Option.none @Nat) (@Data.seq (@List.toArray @Value [(@Value.str (@Str.ofString "a") 290), (@Value.str (@Str.ofString "x") 291), (@Value.str (@Str.ofString "lo") 292), (@Value.str (@Str.ofString "hi") 293), (@Value.str (@Str.ofString "key") 294), (@Value.str (@Str.ofString "mid") 295)]) 0) (@List.toArray (@Option @Value) []))
noncomputable def oa86 (P : Params) : Obj := (@Obj.mk (@Value.type "tuple") (@Option.none @Nat) (@Data.seq (@List.toArray @Value []) 0) (@List.toArray (@Option @Value) []))
noncomputable def oa87 (P : Params) : Obj := (@Obj.mk @Value.none (@Option.none @Nat) (@Data.func (@FuncData.mk (@Str.ofString "bisect_left") (@Str.ofString "bisect_left") (fArgs (mSt 9)) (@FuncBody.stmts (fBody (mSt 9))) (fScope (mSt 9)) 0 [] @Value.none @Value.none @Value.none @Value.none (@Option.none @Nat) @Value.none @Value.none 0)) (@List.toArray (@Option @Value) []))
noncomputable def oa88 (P : Params) : Obj := (@Obj.mk (@Value.type "code") (@Option.none @Nat) (@Data.fields (@List.toArray @Value [(@Value.str (@Str.ofString "bisect_left") 287), (@Value.str (@Str.ofString "bisect_left") 288), (@Value.str (@Str.ofString "/claim/cut.py") 289), (@Value.int 59 0), (@Value.int 4 0), (@Value.int 0 0), (@Value.int 1 0), (@Value.int 3 0), (@Value.ref 83), (@Value.bool @Bool.true), (@Value.int 181 0), (@Value.ref 84), @Value.none, (@Value.ref 85), (@Value.ref 86), (@Value.ref 87), (@Value.int 296 0), (@Value.int 59 0), (@Value.str (@Str.ofString "/claim/cut.py") 297)])) (@List.toArray (@Option @Value) []))
noncomputable def oa89 (P : Params) : Obj := (@Obj.mk (@Value.type "function") (@Option.none @Nat) (@Data.func (@FuncData.mk (@Str.ofString "bisect_left") (@Str.ofString "bisect_left") (fArgs (mSt 9)) (@FuncBody.stmts (fBody (mSt 9))) (fScope (mSt 9)) 3 [] (@Value.ref 81) (@Value.ref 82) @Value.none (@Value.str (@Str.ofString "cpy313.bisect") 243) (@Option.none @Nat) (@Value.ref 88) @Value.none 0)) (@List.toArray (@Option @Value) []))
noncomputable def ob3 (P : Params) : Obj := (@Obj.mk (@Value.type "dict") (@Option.none @Nat) (@Data.dict (@List.toArray @DictEntry [(@DictEntry.mk (@PyData.keyHash P (@Str.ofString "__name__")) (@Value.str (@Str.ofString "__name__") 165) (@Value.str (@Str.ofString "cpy313.email.header") 299)), (@DictEntry.mk (@PyData.keyHash P (@Str.ofString "__doc__")) (@Value.str (@Str.ofString "__doc__") 166) @Value.none), (@DictEntry.mk (@PyData.keyHash P (@Str.ofString "__package__")) (@Value.str (@Str.ofString "__package__") 167) @Value.none), (@DictEntry.mk (@PyData.keyHash P (@Str.ofString "__loader__")) (@Value.str (@Str.ofString "__loader__") 168) (@Value.builtin "__main__.__loader__#\x6fpaque")), (@DictEntry.mk (@PyData.keyHash P (@Str.ofString "__spec__")) (@Value.str (@Str.ofString "__spec__") 169) @Value.none), (@DictEntry.mk (@PyData.keyHash P (@Str.ofString "__annotations__")) (@Value.str (@Str.ofString "__annotations__") 170) (@Value.ref 6)), (@DictEntry.mk (@PyData.keyHash P (@Str.ofString "__builtins__")) (@Value.str (@Str.ofString "__builtins__") 171) (@Value.ref 4)), (@DictEntry.mk (@PyData.keyHash P (@Str.ofString "__file__")) (@Value.str (@Str.ofString "__file__") 173) (@Value.str (@Str.ofString "/claim/cut.py") 172)), (@DictEntry.mk (@PyData.keyHash P (@Str.ofString "__cached__")) (@Value.str (@Str.ofString "__cached__") 174) @Value.none), (@DictEntry.mk (@PyData.keyHash P (@Str.ofString "_wall")) (@Value.str (@Str.ofString "_wall") 193) (@Value.ref 21)), (@DictEntry.mk (@PyData.keyHash P (@Str.ofString "Error")) (@Value.str (@Str.ofString "Error") 215) (@Value.ref 31)), (@DictEntry.mk (@PyData.keyHash P (@Str.ofString "error_reply")) (@Value.str (@Str.ofString "error_reply") 231) (@Value.ref 44)), (@DictEntry.mk (@PyData.keyHash P (@Str.ofString "parse257")) (@Value.str (@Str.ofString "parse257") 242) (@Value.ref 53)), (@DictEntry.mk (@PyData.keyHash P (@Str.ofString "insort_right")) (@Value.str (@Str.ofString "insort_right") 257) (@Value.ref 62)), (@DictEntry.mk (@PyData.keyHash P (@Str.ofString "bisect_right")) (@Value.str (@Str.ofString "bisect_right") 271) (@Value.ref 71)), (@DictEntry.mk (@PyData.keyHash P (@Str.ofString "insort_left")) (@Value.str (@Str.ofString "insort_left") 284) (@Value.ref 80)), (@DictEntry.mk (@PyData.keyHash P (@Str.ofString "bisect_left")) (@Value.str (@Str.ofString "bisect_left") 298) (@Value.ref 89)), (@DictEntry.mk (@PyData.keyHash P (@Str.ofString "EMPTYSTRING")) (@Value.str (@Str.ofString "EMPTYSTRING") 302) (@Value.str (@Str.ofString "") 301)), (@DictEntry.mk (@PyData.keyHash P (@Str.ofString "_Accumulator")) (@Value.str (@Str.ofString "_Accumulator") 397) (@Value.ref 169))]) 19) (@List.toArray (@Option @Value) []))
noncomputable def ob12 (P : Params) : Obj := (@Obj.mk @Value.none (@Option.none @Nat) (@Data.fields (@List.toArray @Value [(@Value.int 1 0), (@Value.int 0 0), (@Value.ref 20), (@Value.int 5 0), (@Value.int 0 0), (@Value.ref 27), (@Value.int 7 0), (@Value.int 0 0), (@Value.ref 40), (@Value.int 9 0), (@Value.int 0 0), (@Value.ref 52), (@Value.int 27 0), (@Value.int 0 0), (@Value.ref 61), (@Value.int 33 0), (@Value.int 0 0), (@Value.ref 70), (@Value.int 53 0), (@Value.int 0 0), (@Value.ref 79), (@Value.int 59 0), (@Value.int 0 0), (@Value.ref 88), (@Value.int 81 0), (@Value.int 0 0), (@Value.ref 96)])) (@List.toArray (@Option @Value) []))
noncomputable def ob90 (P : Params) : Obj := (@Obj.mk (@Value.type "tuple") (@Option.none @Nat) (@Data.seq (@List.toArray @Value [(@Value.type "list")]) 0) (@List.toArray (@Option @Value) []))
noncomputable def ob91 (P : Params) : Obj := (@Obj.mk (@Value.type "builtin_function_or_method") (@Option.none @Nat) (@Data.fields (@List.toArray @Value [(@Value.builtin "type.__prepare__"), (@Value.type "type")])) (@List.toArray (@Option @Value) []))
noncomputable def ob92 (P : Params) : Obj := (@Obj.mk (@Value.type "dict") (@Option.none @Nat) (@Data.dict (@List.toArray @DictEntry [(@DictEntry.mk (@PyData.keyHash P (@Str.ofString "__module__")) (@Value.str (@Str.ofString "__module__") 310) (@Value.str (@Str.ofString "cpy313.email.header") 299)), (@DictEntry.mk (@PyData.keyHash P (@Str.ofString "__qualname__")) (@Value.str (@Str.ofString "__qualname__") 312) (@Value.str (@Str.ofString "_Accumulator") 311)), (@DictEntry.mk (@PyData.keyHash P (@Str.ofString "__firstlineno__")) (@Value.str (@Str.ofString "__firstlineno__") 314) (@Value.int 81 313)), (@DictEntry.mk (@PyData.keyHash P (@Str.ofString "__init__")) (@Value.str (@Str.ofString "__init__") 324) (@Value.ref 106)), (@DictEntry.mk (@PyData.keyHash P (@Str.ofString "push")) (@Value.str (@Str.ofString "push") 333) (@Value.ref 113)), (@DictEntry.mk (@PyData.keyHash P (@Str.ofString "pop_from")) (@Value.str (@Str.ofString "pop_from") 342) (@Value.ref 121)), (@DictEntry.mk (@PyData.keyHash P (@Str.ofString "pop")) (@Value.str (@Str.ofString "pop") 350) (@Value.ref 129)), (@DictEntry.mk (@PyData.keyHash P (@Str.ofString "__len__")) (@Value.str (@Str.ofString "__len__") 357) (@Value.ref 136)), (@DictEntry.mk (@PyData.keyHash P (@Str.ofString "__str__")) (@Value.str (@Str.ofString "__str__") 364) (@Value.ref 143)), (@DictEntry.mk (@PyData.keyHash P (@Str.ofString "reset")) (@Value.str (@Str.ofString "reset") 372) (@Value.ref 151)), (@DictEntry.mk (@PyData.keyHash P (@Str.ofString "is_onlyws")) (@Value.str (@Str.ofString "is_onlyws") 379) (@Value.ref 158)), (@DictEntry.mk (@PyData.keyHash P (@Str.ofString "part_count")) (@Value.str (@Str.ofString "part_count") 387) (@Value.ref 166)), (@DictEntry.mk (@PyData.keyHash P (@Str.ofString "__static_attributes__")) (@Value.str (@Str.ofString "__static_attributes__") 389) (@Value.ref 167)), (@DictEntry.mk (@PyData.keyHash P (@Str.ofString "__classcell__")) (@Value.str (@Str.ofString "__classcell__") 390) (@Value.ref 93))]) 14) (@List.toArray (@Option @Value) []))
noncomputable def ob93 (P : Params) : Obj := (@Obj.mk (@Value.type "cell") (@Option.none @Nat) (@Data.cell (@Option.some @Value (@Value.ref 169))) (@List.toArray (@Option @Value) []))
noncomputable def ob94 (P : Params) : Obj := (@Obj.mk (@Value.type "tuple") (@Option.none @Nat) (@Data.seq (@List.toArray @Value []) 0) (@List.toArray (@Option @Value) []))
noncomputable def ob95 (P : Params) : Obj := (@Obj.mk @Value.none (@Option.none @Nat) (@Data.fields (@List.toArray @Value [(@Value.int 83 0), (@Value.int 4 0), (@Value.ref 105), (@Value.int 87 0), (@Value.int 4 0), (@Value.ref 112), (@Value.int 90 0), (@Value.int 4 0), (@Value.ref 120), (@Value.int 93 0), (@Value.int 4 0), (@Value.ref 128), (@Value.int 98 0), (@Value.int 4 0), (@Value.ref 135), (@Value.int 101 0), (@Value.int 4 0), (@Value.ref 142), (@Value.int 104 0), (@Value.int 4 0), (@Value.ref 150), (@Value.int 107 0), (@Value.int 4 0), (@Value.ref 157), (@Value.int 110 0), (@Value.int 4 0), (@Value.ref 165)])) (@List.toArray (@Option @Value) []))
noncomputable def ob96 (P : Params) : Obj := (@Obj.mk (@Value.type "code") (@Option.none @Nat) (@Data.fields (@List.toArray @Value [(@Value.str (@Str.ofString "_Accumulator") 305), (@Value.str (@Str.ofString "_Accumulator") 306), (@Value.str (@Str.ofString "/claim/cut.py") 307), (@Value.int 81 0), (@Value.int 0 0), (@Value.int 0 0), (@Value.int 0 0), (@Value.int 0 0), (@Value.ref 94), (@Value.bool @Bool.false), (@Value.int 181 0), (@Value.ref 95), @Value.none, @Value.none, @Value.none, @Value.none, (@Value.int 308 0), (@Value.int 81 0), (@Value.str (@Str.ofString "/claim/cut.py") 309)])) (@List.toArray (@Option @Value) []))
noncomputable def ob97 (P : Params) : Obj := (@Obj.mk (@Value.type "frame") (@Option.none @Nat) @Data.plain (@List.toArray (@Option @Value) [(@Option.some @Value (@Value.ref 96)), (@Option.some @Value (@Value.ref 3)), (@Option.some @Value (@Value.ref 92)), (@Option.none @Value), (@Option.some @Value (@Value.str (@Str.ofString "cpy313.email.header") 299)), (@Option.none @Value), (@Option.some @Value (@Value.ref 0))]))
noncomputable def ob98 (P : Params) : Obj := (@Obj.mk (@Value.type "tuple") (@Option.none @Nat) (@Data.seq (@List.toArray @Value [(@Value.int 0 315)]) 0) (@List.toArray (@Option @Value) []))
noncomputable def ob99 (P : Params) : Obj := (@Obj.mk (@Value.type "tuple") (@Option.none @Nat) (@Data.seq (@List.toArray @Value [(@Value.ref 93)]) 0) (@List.toArray (@Option @Value) []))
noncomputable def ob100 (P : Params) : Obj := (@Obj.mk (@Value.type "tuple") (@Option.none @Nat) (@Data.seq (@List.toArray @Value [(@Value.str (@Str.ofString "__class__") 319)]) 0) (@List.toArray (@Option @Value) []))
noncomputable def ob101 (P : Params) : Obj := (@Obj.mk @Value.none (@Option.none @Nat) (@Data.fields (@List.toArray @Value [])) (@List.toArray (@Option @Value) []))
noncomputable def ob102 (P : Params) : Obj := (@Obj.mk (@Value.type "tuple") (@Option.none @Nat) (@Data.seq (@List.toArray @Value [(@Value.str (@Str.ofString "self") 320), (@Value.str (@Str.ofString "initial_size") 321)]) 0) (@List.toArray (@Option @Value) []))
noncomputable def ob103 (P : Params) : Obj := (@Obj.mk (@Value.type "tuple") (@Option.none @Nat) (@Data.seq (@List.toArray @Value []) 0) (@List.toArray (@Option @Value) []))
noncomputable def ob104 (P : Params) : Obj := (@Obj.mk @Value.none (@Option.none @Nat) (@Data.func (@FuncData.mk (@Str.ofString "__init__") (@Str.ofString "_Accumulator.__init__") (fArgs (cSt 12 0)) (@FuncBody.stmts (fBody (cSt 12 0))) (fScope (cSt 12 0)) 0 [] @Value.none @Value.none @Value.none @Value.none (@Option.none @Nat) @Value.none @Value.none 0)) (@List.toArray (@Option @Value) []))
noncomputable def ob105 (P : Params) : Obj := (@Obj.mk (@Value.type "code") (@Option.none @Nat) (@Data.fields (@List.toArray @Value [(@Value.str (@Str.ofString "__init__") 316), (@Value.str (@Str.ofString "_Accumulator.__init__") 317), (@Value.str (@Str.ofString "/claim/cut.py") 318), (@Value.int 83 0), (@Value.int 2 0), (@Value.int 0 0), (@Value.int 0 0), (@Value.int 3 0), (@Value.ref 100), (@Value.bool @Bool.true), (@Value.int 181 0), (@Value.ref 101), @Value.none, (@Value.ref 102), (@Value.ref 103), (@Value.ref 104), (@Value.int 322 0), (@Value.int 83 0), (@Value.str (@Str.ofString "/claim/cut.py") 323)])) (@List.toArray (@Option @Value) []))
noncomputable def ob106 (P : Params) : Obj := (@Obj.mk (@Value.type "function") (@Option.none @Nat) (@Data.func (@FuncData.mk (@Str.ofString "__init__") (@Str.ofString "_Accumulator.__init__") (fArgs (cSt 12 0)) (@FuncBody.stmts (fBody (cSt 12 0))) (fScope (cSt 12 0)) 3 [(@Prod.mk @Str @Nat (@Str.ofString "__class__") 93)] (@Value.ref 98) @Value.none @Value.none (@Value.str (@Str.ofString "cpy313.email.header") 299) (@Option.none @Nat) (@Value.ref 105) (@Value.ref 99) 0)) (@List.toArray (@Option @Value) []))
noncomputable def ob107 (P : Params) : Obj := (@Obj.mk (@Value.type "tuple") (@Option.none @Nat) (@Data.seq (@List.toArray @Value []) 0) (@List.toArray (@Option @Value) []))
noncomputable def ob108 (P : Params) : Obj := (@Obj.mk @Value.none (@Option.none @Nat) (@Data.fields (@List.toArray @Value [])) (@List.toArray (@Option @Value) []))
noncomputable def ob109 (P : Params) : Obj := (@Obj.mk (@Value.type "tuple") (@Option.none @Nat) (@Data.seq (@List.toArray @Value [(@Value.str (@Str.ofString "self") 328), (@Value.str (@Str.ofString "fws") 329), (@Value.str (@Str.ofString "string") 330)]) 0) (@List.toArray (@Option @Value) []))
noncomputable def ob110 (P : Params) : Obj := (@Obj.mk (@Value.type "tuple") (@Option.none @Nat) (@Data.seq (@List.toArray @Value []) 0) (@List.toArray (@Option @Value) []))
noncomputable def ob111 (P : Params) : Obj := (@Obj.mk @Value.none (@Option.none @Nat) (@Data.func (@FuncData.mk (@Str.ofString "push") (@Str.ofString "_Accumulator.push") (fArgs (cSt 12 1)) (@FuncBody.stmts (fBody (cSt 12 1))) (fScope (cSt 12 1)) 0 [] @Value.none @Value.none @Value.none @Value.none (@Option.none @Nat) @Value.none @Value.none 0)) (@List.toArray (@Option @Value) []))
noncomputable def ob112 (P : Params) : Obj := (@Obj.mk (@Value.type "code") (@Option.none @Nat) (@Data.fields (@List.toArray @Value [(@Value.str (@Str.ofString "push") 325), (@Value.str (@Str.ofString "_Accumulator.push") 326), (@Value.str (@Str.ofString "/claim/cut.py") 327), (@Value.int 87 0), (@Value.int 3 0), (@Value.int 0 0), (@Value.int 0 0), (@Value.int 3 0), (@Value.ref 107), (@Value.bool @Bool.true), (@Value.int 181 0), (@Value.ref 108), @Value.none, (@Value.ref 109), (@Value.ref 110), (@Value.ref 111), (@Value.int 331 0), (@Value.int 87 0), (@Value.str (@Str.ofString "/claim/cut.py") 332)])) (@List.toArray (@Option @Value) []))
noncomputable def ob113 (P : Params) : Obj := (@Obj.mk (@Value.type "function") (@Option.none @Nat) (@Data.func (@FuncData.mk (@Str.ofString "push") (@Str.ofString "_Accumulator.push") (fArgs (cSt 12 1)) (@FuncBody.stmts (fBody (cSt 12 1))) (fScope (cSt 12 1)) 3 [] @Value.none @Value.none @Value.none (@Value.str (@Str.ofString "cpy313.email.header") 299) (@Option.none @Nat) (@Value.ref 112) @Value.none 0)) (@List.toArray (@Option @Value) []))
noncomputable def ob114 (P : Params) : Obj := (@Obj.mk (@Value.type "tuple") (@Option.none @Nat) (@Data.seq (@List.toArray @Value [(@Value.int 0 334)]) 0) (@List.toArray (@Option @Value) []))
noncomputable def ob115 (P : Params) : Obj := (@Obj.mk (@Value.type "tuple") (@Option.none @Nat) (@Data.seq (@List.toArray @Value []) 0) (@List.toArray (@Option @Value) []))
noncomputable def ob116 (P : Params) : Obj := (@Obj.mk @Value.none (@Option.none @Nat) (@Data.fields (@List.toArray @Value [])) (@List.toArray (@Option @Value) []))
noncomputable def ob117 (P : Params) : Obj := (@Obj.mk (@Value.type "tuple") (@Option.none @Nat) (@Data.seq (@List.toArray @Value [(@Value.str (@Str.ofString "self") 338), (@Value.str (@Str.ofString "i") 339)]) 0) (@List.toArray (@Option @Value) []))
noncomputable def ob118 (P : Params) : Obj := (@Obj.mk (@Value.type "tuple") (@Option.none @Nat) (@Data.seq (@List.toArray @Value []) 0) (@List.toArray (@Option @Value) []))
noncomputable def ob119 (P : Params) : Obj := (@Obj.mk @Value.none (@Option.none @Nat) (@Data.func (@FuncData.mk (@Str.ofString "pop_from") (@Str.ofString "_Accumulator.pop_from") (fArgs (cSt 12 2)) (@FuncBody.stmts (fBody (cSt 12 2))) (fScope (cSt 12 2)) 0 [] @Value.none @Value.none @Value.none @Value.none (@Option.none @Nat) @Value.none @Value.none 0)) (@List.toArray (@Option @Value) []))
noncomputable def ob120 (P : Params) : Obj := (@Obj.mk (@Value.type "code") (@Option.none @Nat) (@Data.fields (@List.toArray @Value [(@Value.str (@Str.ofString "pop_from") 335), (@Value.str (@Str.ofString "_Accumulator.pop_from") 336), (@Value.str (@Str.ofString "/claim/cut.py") 337), (@Value.int 90 0), (@Value.int 2 0), (@Value.int 0 0), (@Value.int 0 0), (@Value.int 3 0), (@Value.ref 115), (@Value.bool @Bool.true), (@Value.int 181 0), (@Value.ref 116), @Value.none, (@Value.ref 117), (@Value.ref 118), (@Value.ref 119), (@Value.int 340 0), (@Value.int 90 0), (@Value.str (@Str.ofString "/claim/cut.py") 341)])) (@List.toArray (@Option @Value) []))
noncomputable def ob121 (P : Params) : Obj := (@Obj.mk (@Value.type "function") (@Option.none @Nat) (@Data.func (@FuncData.mk (@Str.ofString "pop_from") (@Str.ofString "_Accumulator.pop_from") (fArgs (cSt 12 2)) (@FuncBody.stmts (fBody (cSt 12 2))) (fScope (cSt 12 2)) 3 [] (@Value.ref 114) @Value.none @Value.none (@Value.str (@Str.ofString "cpy313.email.header") 299) (@Option.none @Nat) (@Value.ref 120) @Value.none 0)) (@List.toArray (@Option @Value) []))
noncomputable def ob122 (P : Params) : Obj := (@Obj.mk (@Value.type "tuple") (@Option.none @Nat) (@Data.seq (@List.toArray @Value [(@Value.ref 93)]) 0) (@List.toArray (@Option @Value) []))
noncomputable def ob123 (P : Params) : Obj := (@Obj.mk (@Value.type "tuple") (@Option.none @Nat) (@Data.seq (@List.toArray @Value [(@Value.str (@Str.ofString "__class__") 346)]) 0) (@List.toArray (@Option @Value) []))
noncomputable def ob124 (P : Params) : Obj := (@Obj.mk @Value.none (@Option.none @Nat) (@Data.fields (@List.toArray @Value [])) (@List.toArray (@Option @Value) []))
noncomputable def ob125 (P : Params) : Obj := (@Obj.mk (@Value.type "tuple") (@Option.none @Nat) (@Data.seq (@List.toArray @Value [(@Value.str (@Str.ofString "self") 347)]) 0) (@List.toArray (@Option @Value) []))
noncomputable def ob126 (P : Params) : Obj := (@Obj.mk (@Value.type "tuple") (@Option.none @Nat) (@Data.seq (@List.toArray @Value []) 0) (@List.toArray (@Option @Value) []))
noncomputable def ob127 (P : Params) : Obj := (@Obj.mk @Value.none (@Option.none @Nat) (@Data.func (@FuncData.mk (@Str.ofString "pop") (@Str.ofString "_Accumulator.pop") (fArgs (cSt 12 3)) (@FuncBody.stmts (fBody (cSt 12 3))) (fScope (cSt 12 8)) 0 [] @Value.none @Value.none @Value.none @Value.none (@Option.none @Nat) @Value.none @Value.none 0)) (@List.toArray (@Option @Value) []))
noncomputable def ob128 (P : Params) : Obj := (@Obj.mk (@Value.type "code") (@Option.none @Nat) (@Data.fields (@List.toArray @Value [(@Value.str (@Str.ofString "pop") 343), (@Value.str (@Str.ofString "_Accumulator.pop") 344), (@Value.str (@Str.ofString "/claim/cut.py") 345), (@Value.int 93 0), (@Value.int 1 0), (@Value.int 0 0), (@Value.int 0 0), (@Value.int 3 0), (@Value.ref 123), (@Value.bool @Bool.true), (@Value.int 181 0), (@Value.ref 124), @Value.none, (@Value.ref 125), (@Value.ref 126), (@Value.ref 127), (@Value.int 348 0), (@Value.int 93 0), (@Value.str (@Str.ofString "/claim/cut.py") 349)])) (@List.toArray (@Option @Value) []))
noncomputable def ob129 (P : Params) : Obj := (@Obj.mk (@Value.type "function") (@Option.none @Nat) (@Data.func (@FuncData.mk (@Str.ofString "pop") (@Str.ofString "_Accumulator.pop") (fArgs (cSt 12 3)) (@FuncBody.stmts (fBody (cSt 12 3))) (fScope (cSt 12 8)) 3 [(@Prod.mk @Str @Nat (@Str.ofString "__class__") 93)] @Value.none @Value.none @Value.none (@Value.str (@Str.ofString "cpy313.email.header") 299) (@Option.none @Nat) (@Value.ref 128) (@Value.ref 122) 0)) (@List.toArray (@Option @Value) []))
noncomputable def ob130 (P : Params) : Obj := (@Obj.mk (@Value.type "tuple") (@Option.none @Nat) (@Data.seq (@List.toArray @Value []) 0) (@List.toArray (@Option @Value) []))
noncomputable def ob131 (P : Params) : Obj := (@Obj.mk @Value.none (@Option.none @Nat) (@Data.fields (@List.toArray @Value [])) (@List.toArray (@Option @Value) []))
noncomputable def ob132 (P : Params) : Obj := (@Obj.mk (@Value.type "tuple") (@Option.none @Nat) (@Data.seq (@List.toArray @Value [(@Value.str (@Str.ofString "self") 354)]) 0) (@List.toArray (@Option @Value) []))
noncomputable def ob133 (P : Params) : Obj := (@Obj.mk (@Value.type "tuple") (@Option.none @Nat) (@Data.seq (@List.toArray @Value []) 0) (@List.toArray (@Option @Value) []))
noncomputable def ob134 (P : Params) : Obj := (@Obj.mk @Value.none (@Option.none @Nat) (@Data.func (@FuncData.mk (@Str.ofString "__len__") (@Str.ofString "_Accumulator.__len__") (fArgs (cSt 12 4)) (@FuncBody.stmts (fBody (cSt 12 4))) (fScope (cSt 12 4)) 0 [] @Value.none @Value.none @Value.none @Value.none (@Option.none @Nat) @Value.none @Value.none 0)) (@List.toArray (@Option @Value) []))
noncomputable def ob135 (P : Params) : Obj := (@Obj.mk (@Value.type "code") (@Option.none @Nat) (@Data.fields (@List.toArray @Value [(@Value.str (@Str.ofString "__len__") 351), (@Value.str (@Str.ofString "_Accumulator.__len__") 352), (@Value.str (@Str.ofString "/claim/cut.py") 353), (@Value.int 98 0), (@Value.int 1 0), (@Value.int 0 0), (@Value.int 0 0), (@Value.int 3 0), (@Value.ref 130), (@Value.bool @Bool.true), (@Value.int 181 0), (@Value.ref 131), @Value.none, (@Value.ref 132), (@Value.ref 133), (@Value.ref 134), (@Value.int 355 0), (@Value.int 98 0), (@Value.str (@Str.ofString "/claim/cut.py") 356)])) (@List.toArray (@Option @Value) []))
noncomputable def ob136 (P : Params) : Obj := (@Obj.mk (@Value.type "function") (@Option.none @Nat) (@Data.func (@FuncData.mk (@Str.ofString "__len__") (@Str.ofString "_Accumulator.__len__") (fArgs (cSt 12 4)) (@FuncBody.stmts (fBody (cSt 12 4))) (fScope (cSt 12 4)) 3 [] @Value.none @Value.none @Value.none (@Value.str (@Str.ofString "cpy313.email.header") 299) (@Option.none @Nat) (@Value.ref 135) @Value.none 0)) (@List.toArray (@Option @Value) []))
noncomputable def ob137 (P : Params) : Obj := (@Obj.mk (@Value.type "tuple") (@Option.none @Nat) (@Data.seq (@List.toArray @Value []) 0) (@List.toArray (@Option @Value) []))
noncomputable def ob138 (P : Params) : Obj := (@Obj.mk @Value.none (@Option.none @Nat) (@Data.fields (@List.toArray @Value [])) (@List.toArray (@Option @Value) []))
noncomputable def ob139 (P : Params) : Obj := (@Obj.mk (@Value.type "tuple") (@Option.none @Nat) (@Data.seq (@List.toArray @Value [(@Value.str (@Str.ofString "self") 361)]) 0) (@List.toArray (@Option @Value) []))
noncomputable def ob140 (P : Params) : Obj := (@Obj.mk (@Value.type "tuple") (@Option.none @Nat) (@Data.seq (@List.toArray @Value []) 0) (@List.toArray (@Option @Value) []))
noncomputable def ob141 (P : Params) : Obj := (@Obj.mk @Value.none (@Option.none @Nat) (@Data.func (@FuncData.mk (@Str.ofString "__str__") (@Str.ofString "_Accumulator.__str__") (fArgs (cSt 12 5)) (@FuncBody.stmts (fBody (cSt 12 5))) (fScope (cSt 12 5)) 0 [] @Value.none @Value.none @Value.none @Value.none (@Option.none @Nat) @Value.none @Value.none 0)) (@List.toArray (@Option @Value) []))
noncomputable def ob142 (P : Params) : Obj := (@Obj.mk (@Value.type "code") (@Option.none @Nat) (@Data.fields (@List.toArray @Value [(@Value.str (@Str.ofString "__str__") 358), (@Value.str (@Str.ofString "_Accumulator.__str__") 359), (@Value.str (@Str.ofString "/claim/cut.py") 360), (@Value.int 101 0), (@Value.int 1 0), (@Value.int 0 0), (@Value.int 0 0), (@Value.int 3 0), (@Value.ref 137), (@Value.bool @Bool.true), (@Value.int 181 0), (@Value.ref 138), @Value.none, (@Value.ref 139), (@Value.ref 140), (@Value.ref 141), (@Value.int 362 0), (@Value.int 101 0), (@Value.str (@Str.ofString "/claim/cut.py") 363)])) (@List.toArray (@Option @Value) []))
noncomputable def ob143 (P : Params) : Obj := (@Obj.mk (@Value.type "function") (@Option.none @Nat) (@Data.func (@FuncData.mk (@Str.ofString "__str__") (@Str.ofString "_Accumulator.__str__") (fArgs (cSt 12 5)) (@FuncBody.stmts (fBody (cSt 12 5))) (fScope (cSt 12 5)) 3 [] @Value.none @Value.none @Value.none (@Value.str (@Str.ofString "cpy313.email.header") 299) (@Option.none @Nat) (@Value.ref 142) @Value.none 0)) (@List.toArray (@Option @Value) []))
noncomputable def ob144 (P : Params) : Obj := (@Obj.mk (@Value.type "tuple") (@Option.none @Nat) (@Data.seq (@List.toArray @Value [@Value.none]) 0) (@List.toArray (@Option @Value) []))
noncomputable def ob145 (P : Params) : Obj := (@Obj.mk (@Value.type "tuple") (@Option.none @Nat) (@Data.seq (@List.toArray @Value []) 0) (@List.toArray (@Option @Value) []))
noncomputable def ob146 (P : Params) : Obj := (@Obj.mk @Value.none (@Option.none @Nat) (@Data.fields (@List.toArray @Value [])) (@List.toArray (@Option @Value) []))
noncomputable def ob147 (P : Params) : Obj := (@Obj.mk (@Value.type "tuple") (@Option.none @Nat) (@Data.seq (@List.toArray @Value [(@Value.str (@Str.ofString "self") 368), (@Value.str (@Str.ofString "startval") 369)]) 0) (@List.toArray (@Option @Value) []))
noncomputable def ob148 (P : Params) : Obj := (@Obj.mk (@Value.type "tuple") (@Option.none @Nat) (@Data.seq (@List.toArray @Value []) 0) (@List.toArray (@Option @Value) []))
noncomputable def ob149 (P : Params) : Obj := (@Obj.mk @Value.none (@Option.none @Nat) (@Data.func (@FuncData.mk (@Str.ofString "reset") (@Str.ofString "_Accumulator.reset") (fArgs (cSt 12 6)) (@FuncBody.stmts (fBody (cSt 12 6))) (fScope (cSt 12 6)) 0 [] @Value.none @Value.none @Value.none @Value.none (@Option.none @Nat) @Value.none @Value.none 0)) (@List.toArray (@Option @Value) []))
noncomputable def ob150 (P : Params) : Obj := (@Obj.mk (@Value.type "code") (@Option.none @Nat) (@Data.fields (@List.toArray @Value [(@Value.str (@Str.ofString "reset") 365), (@Value.str (@Str.ofString "_Accumulator.reset") 366), (@Value.str (@Str.ofString "/claim/cut.py") 367), (@Value.int 104 0), (@Value.int 2 0), (@Value.int 0 0), (@Value.int 0 0), (@Value.int 3 0), (@Value.ref 145), (@Value.bool @Bool.true), (@Value.int 181 0), (@Value.ref 146), @Value.none, (@Value.ref 147), (@Value.ref 148), (@Value.ref 149), (@Value.int 370 0), (@Value.int 104 0), (@Value.str (@Str.ofString "/claim/cut.py") 371)])) (@List.toArray (@Option @Value) []))
noncomputable def ob151 (P : Params) : Obj := (@Obj.mk (@Value.type "function") (@Option.none @Nat) (@Data.func (@FuncData.mk (@Str.ofString "reset") (@Str.ofString "_Accumulator.reset") (fArgs (cSt 12 6)) (@FuncBody.stmts (fBody (cSt 12 6))) (fScope (cSt 12 6)) 3 [] (@Value.ref 144) @Value.none @Value.none (@Value.str (@Str.ofString "cpy313.email.header") 299) (@Option.none @Nat) (@Value.ref 150) @Value.none 0)) (@List.toArray (@Option @Value) []))
noncomputable def ob152 (P : Params) : Obj := (@Obj.mk (@Value.type "tuple") (@Option.none @Nat) (@Data.seq (@List.toArray @Value []) 0) (@List.toArray (@Option @Value) []))
noncomputable def ob153 (P : Params) : Obj := (@Obj.mk @Value.none (@Option.none @Nat) (@Data.fields (@List.toArray @Value [])) (@List.toArray (@Option @Value) []))
noncomputable def ob154 (P : Params) : Obj := (@Obj.mk (@Value.type "tuple") (@Option.none @Nat) (@Data.seq (@List.toArray @Value [(@Value.str (@Str.ofString "self") 376)]) 0) (@List.toArray (@Option @Value) []))
noncomputable def ob155 (P : Params) : Obj := (@Obj.mk (@Value.type "tuple") (@Option.none @Nat) (@Data.seq (@List.toArray @Value []) 0) (@List.toArray (@Option @Value) []))
noncomputable def ob156 (P : Params) : Obj := (@Obj.mk @Value.none (@Option.none @Nat) (@Data.func (@FuncData.mk (@Str.ofString "is_onlyws") (@Str.ofString "_Accumulator.is_onlyws") (fArgs (cSt 12 7)) (@FuncBody.stmts (fBody (cSt 12 7))) (fScope (cSt 12 7)) 0 [] @Value.none @Value.none @Value.none @Value.none (@Option.none @Nat) @Value.none @Value.none 0)) (@List.toArray (@Option @Value) []))
noncomputable def ob157 (P : Params) : Obj := (@Obj.mk (@Value.type "code") (@Option.none @Nat) (@Data.fields (@List.toArray @Value [(@Value.str (@Str.ofString "is_onlyws") 373), (@Value.str (@Str.ofString "_Accumulator.is_onlyws") 374), (@Value.str (@Str.ofString "/claim/cut.py") 375), (@Value.int 107 0), (@Value.int 1 0), (@Value.int 0 0), (@Value.int 0 0), (@Value.int 3 0), (@Value.ref 152), (@Value.bool @Bool.true), (@Value.int 181 0), (@Value.ref 153), @Value.none, (@Value.ref 154), (@Value.ref 155), (@Value.ref 156), (@Value.int 377 0), (@Value.int 107 0), (@Value.str (@Str.ofString "/claim/cut.py") 378)])) (@List.toArray (@Option @Value) []))
noncomputable def ob158 (P : Params) : Obj := (@Obj.mk (@Value.type "function") (@Option.none @Nat) (@Data.func (@FuncData.mk (@Str.ofString "is_onlyws") (@Str.ofString "_Accumulator.is_onlyws") (fArgs (cSt 12 7)) (@FuncBody.stmts (fBody (cSt 12 7))) (fScope (cSt 12 7)) 3 [] @Value.none @Value.none @Value.none (@Value.str (@Str.ofString "cpy313.email.header") 299) (@Option.none @Nat) (@Value.ref 157) @Value.none 0)) (@List.toArray (@Option @Value) []))
noncomputable def ob159 (P : Params) : Obj := (@Obj.mk (@Value.type "tuple") (@Option.none @Nat) (@Data.seq (@List.toArray @Value [(@Value.ref 93)]) 0) (@List.toArray (@Option @Value) []))
noncomputable def ob160 (P : Params) : Obj := (@Obj.mk (@Value.type "tuple") (@Option.none @Nat) (@Data.seq (@List.toArray @Value [(@Value.str (@Str.ofString "__class__") 383)]) 0) (@List.toArray (@Option @Value) []))
noncomputable def ob161 (P : Params) : Obj := (@Obj.mk @Value.none (@Option.none @Nat) (@Data.fields (@List.toArray @Value [])) (@List.toArray (@Option @Value) []))
noncomputable def ob162 (P : Params) : Obj := (@Obj.mk (@Value.type "tuple") (@Option.none @Nat) (@Data.seq (@List.toArray @Value [(@Value.str (@Str.ofString "self") 384)]) 0) (@List.toArray (@Option @Value) []))
noncomputable def ob163 (P : Params) : Obj := (@Obj.mk (@Value.type "tuple") (@Option.none @Nat) (@Data.seq (@List.toArray @Value []) 0) (@List.toArray (@Option @Value) []))
noncomputable def ob164 (P : Params) : Obj := (@Obj.mk @Value.none (@Option.none @Nat) (@Data.func (@FuncData.mk (@Str.ofString "part_count") (@Str.ofString "_Accumulator.part_count") (fArgs (cSt 12 8)) (@FuncBody.stmts (fBody (cSt 12 8))) (fScope (cSt 12 8)) 0 [] @Value.none @Value.none @Value.none @Value.none (@Option.none @Nat) @Value.none @Value.none 0)) (@List.toArray (@Option @Value) []))
noncomputable def ob165 (P : Params) : Obj := (@Obj.mk (@Value.type "code") (@Option.none @Nat) (@Data.fields (@List.toArray @Value [(@Value.str (@Str.ofString "part_count") 380), (@Value.str (@Str.ofString "_Accumulator.part_count") 381), (@Value.str (@Str.ofString "/claim/cut.py") 382), (@Value.int 110 0), (@Value.int 1 0), (@Value.int 0 0), (@Value.int 0 0), (@Value.int 3 0), (@Value.ref 160), (@Value.bool @Bool.true), (@Value.int 181 0), (@Value.ref 161), @Value.none, (@Value.ref 162), (@Value.ref 163), (@Value.ref 164), (@Value.int 385 0), (@Value.int 110 0), (@Value.str (@Str.ofString "/claim/cut.py") 386)])) (@List.toArray (@Option @Value) []))
noncomputable def ob166 (P : Params) : Obj := (@Obj.mk (@Value.type "function") (@Option.none @Nat) (@Data.func (@FuncData.mk (@Str.ofString "part_count") (@Str.ofString "_Accumulator.part_count") (fArgs (cSt 12 8)) (@FuncBody.stmts (fBody (cSt 12 8))) (fScope (cSt 12 8)) 3 [(@Prod.mk @Str @Nat (@Str.ofString "__class__") 93)] @Value.none @Value.none @Value.none (@Value.str (@Str.ofString "cpy313.email.header") 299) (@Option.none @Nat) (@Value.ref 165) (@Value.ref 159) 0)) (@List.toArray (@Option @Value) []))
noncomputable def ob167 (P : Params) : Obj := (@Obj.mk (@Value.type "tuple") (@Option.none @Nat) (@Data.seq (@List.toArray @Value [(@Value.str (@Str.ofString "_initial_size") 388)]) 0) (@List.toArray (@Option @Value) []))
noncomputable def ob168 (P : Params) : Obj := (@Obj.mk (@Value.type "dict") (@Option.none @Nat) (@Data.dict (@List.toArray @DictEntry [(@DictEntry.mk (@PyData.keyHash P (@Str.ofString "__module__")) (@Value.str (@Str.ofString "__module__") 310) (@Value.str (@Str.ofString "cpy313.email.header") 299)), (@DictEntry.mk (@PyData.keyHash P (@Str.ofString "__firstlineno__")) (@Value.str (@Str.ofString "__firstlineno__") 314) (@Value.int 81 313)), (@DictEntry.mk (@PyData.keyHash P (@Str.ofString "__init__")) (@Value.str (@Str.ofString "__init__") 324) (@Value.ref 106)), (@DictEntry.mk (@PyData.keyHash P (@Str.ofString "push")) (@Value.str (@Str.ofString "push") 333) (@Value.ref 113)), (@DictEntry.mk (@PyData.keyHash P (@Str.ofString "pop_from")) (@Value.str (@Str.ofString "pop_from") 342) (@Value.ref 121)), (@DictEntry.mk (@PyData.keyHash P (@Str.ofString "pop")) (@Value.str (@Str.ofString "pop") 350) (@Value.ref 129)), (@DictEntry.mk (@PyData.keyHash P (@Str.ofString "__len__")) (@Value.str (@Str.ofString "__len__") 357) (@Value.ref 136)), (@DictEntry.mk (@PyData.keyHash P (@Str.ofString "__str__")) (@Value.str (@Str.ofString "__str__") 364) (@Value.ref 143)), (@DictEntry.mk (@PyData.keyHash P (@Str.ofString "reset")) (@Value.str (@Str.ofString "reset") 372) (@Value.ref 151)), (@DictEntry.mk (@PyData.keyHash P (@Str.ofString "is_onlyws")) (@Value.str (@Str.ofString "is_onlyws") 379) (@Value.ref 158)), (@DictEntry.mk (@PyData.keyHash P (@Str.ofString "part_count")) (@Value.str (@Str.ofString "part_count") 387) (@Value.ref 166)), (@DictEntry.mk (@PyData.keyHash P (@Str.ofString "__static_attributes__")) (@Value.str (@Str.ofString "__static_attributes__") 389) (@Value.ref 167)), (@DictEntry.mk (@PyData.keyHash P (@Str.ofString "__dict__")) (@Value.str (@Str.ofString "__dict__") 392) (@Value.ref 170)), (@DictEntry.mk (@PyData.keyHash P (@Str.ofString "__weakref__")) (@Value.str (@Str.ofString "__weakref__") 394) (@Value.ref 171)), (@DictEntry.mk (@PyData.keyHash P (@Str.ofString "__doc__")) (@Value.str (@Str.ofString "__doc__") 395) @Value.none)]) 5) (@List.toArray (@Option @Value) []))
noncomputable def ob169 (P : Params) : Obj := (@Obj.mk (@Value.type "type") (@Option.none @Nat) (@Data.cls (@ClassData.mk (@Str.ofString "_Accumulator") [(@Value.type "list")] [(@Value.ref 169), (@Value.type "list"), (@Value.type "object")] 168 (@Str.ofString "_Accumulator") @Bool.true [] [] @Bool.false (@Option.none @Bool) @Bool.false)) (@List.toArray (@Option @Value) [(@Option.some @Value (@Value.ref 90)), (@Option.none @Value), (@Option.some @Value (@Value.str (@Str.ofString "_Accumulator") 303)), (@Option.some @Value (@Value.str (@Str.ofString "_Accumulator") 311)), (@Option.some @Value (@Value.builtin "list.__new__")), (@Option.some @Value (@Value.bool @Bool.true))]))
noncomputable def ob170 (P : Params) : Obj := (@Obj.mk (@Value.type "getset_descriptor") (@Option.none @Nat) (@Data.fields (@List.toArray @Value [(@Value.str (@Str.ofString "__dict__") 391), (@Value.ref 169), (@Value.builtin "function.__dict__"), (@Value.builtin "function.__dict__#set")])) (@List.toArray (@Option @Value) []))
noncomputable def ob171 (P : Params) : Obj := (@Obj.mk (@Value.type "getset_descriptor") (@Option.none @Nat) (@Data.fields (@List.toArray @Value [(@Value.str (@Str.ofString "__weakref__") 393), (@Value.ref 169), (@Value.builtin "ExceptionGroup.__weakref__"), @Value.none])) (@List.toArray (@Option @Value) []))
noncomputable def ob172 (P : Params) : Obj := (@Obj.mk (@Value.type "super") (@Option.none @Nat) (@Data.fields (@List.toArray @Value [(@Value.ref 169), (@Value.ref 169), (@Value.ref 169)])) (@List.toArray (@Option @Value) []))
noncomputable def ob173 (P : Params) : Obj := (@Obj.mk (@Value.type "builtin_function_or_method") (@Option.none @Nat) (@Data.fields (@List.toArray @Value [(@Value.builtin "object.__init_subclass__"), (@Value.ref 169)])) (@List.toArray (@Option @Value) []))
noncomputable def tra (P : Params) : BT := (.node (boot_o_0 P) (.node (boot_o_1 P) (.node (oa3 P) (.node (boot_o_7 P) (.node (oa15 P) (.node (oa31 P) (.node (oa63 P) .nil .nil) .nil) (.node (oa47 P) (.node (oa79 P) .nil .nil) .nil)) (.node (oa23 P) (.node (oa39 P) (.node (oa71 P) .nil .nil) .nil) (.node (oa55 P) (.node (oa87 P) .nil .nil) .nil))) (.node (oa11 P) (.node (oa19 P) (.node (oa35 P) (.node (oa67 P) .nil .nil) .nil) (.node (oa51 P) (.node (oa83 P) .nil .nil) .nil)) (.node (oa27 P) (.node (oa43 P) (.node (oa75 P) .nil .nil) .nil) (.node (oa59 P) .nil .nil)))) (.node (boot_o_5 P) (.node (boot_o_9 P) (.node (oa17 P) (.node (oa33 P) (.node (oa65 P) .nil .nil) .nil) (.node (oa49 P) (.node (oa81 P) .nil .nil) .nil)) (.node (oa25 P) (.node (oa41 P) (.node (oa73 P) .nil .nil) .nil) (.node (oa57 P) (.node (oa89 P) .nil .nil) .nil))) (.node (oa13 P) (.node (oa21 P) (.node (oa37 P) (.node (oa69 P) .nil .nil) .nil) (.node (oa53 P) (.node (oa85 P) .nil .nil) .nil)) (.node (oa29 P) (.node (oa45 P) (.node (oa77 P) .nil .nil) .nil) (.node (oa61 P) .nil .nil))))) (.node (oa2 P) (.node (boot_o_4 P) (.node (boot_o_8 P) (.node (oa16 P) (.node (oa32 P) (.node (oa64 P) .nil .nil) .nil) (.node (oa48 P) (.node (oa80 P) .nil .nil) .nil)) (.node (oa24 P) (.node (oa40 P) (.node (oa72 P) .nil .nil) .nil) (.node (oa56 P) (.node (oa88 P) .nil .nil) .nil))) (.node (oa12 P) (.node (oa20 P) (.node (oa36 P) (.node (oa68 P) .nil .nil) .nil) (.node (oa52 P) (.node (oa84 P) .nil .nil) .nil)) (.node (oa28 P) (.node (oa44 P) (.node (oa76 P) .nil .nil) .nil) (.node (oa60 P) .nil .nil)))) (.node (boot_o_6 P) (.node (boot_o_10 P) (.node (oa18 P) (.node (oa34 P) (.node (oa66 P) .nil .nil) .nil) (.node (oa50 P) (.node (oa82 P) .nil .nil) .nil)) (.node (oa26 P) (.node (oa42 P) (.node (oa74 P) .nil .nil) .nil) (.node (oa58 P) .nil .nil))) (.node (oa14 P) (.node (oa22 P) (.node (oa38 P) (.node (oa70 P) .nil .nil) .nil) (.node (oa54 P) (.node (oa86 P) .nil .nil) .nil)) (.node (oa30 P) (.node (oa46 P) (.node (oa78 P) .nil .nil) .nil) (.node (oa62 P) .nil .nil))))))
noncomputable def trb (P : Params) : BT := (.node (boot_o_0 P) (.node (boot_o_1 P) (.node (ob3 P) (.node (boot_o_7 P) (.node (oa15 P) (.node (oa31 P) (.node (oa63 P) (.node (ob127 P) .nil .nil) .nil) (.node (ob95 P) (.node (ob159 P) .nil .nil) .nil)) (.node (oa47 P) (.node (oa79 P) (.node (ob143 P) .nil .nil) .nil) (.node (ob111 P) .nil .nil))) (.node (oa23 P) (.node (oa39 P) (.node (oa71 P) (.node (ob135 P) .nil .nil) .nil) (.node (ob103 P) (.node (ob167 P) .nil .nil) .nil)) (.node (oa55 P) (.node (oa87 P) (.node (ob151 P) .nil .nil) .nil) (.node (ob119 P) .nil .nil)))) (.node (oa11 P) (.node (oa19 P) (.node (oa35 P) (.node (oa67 P) (.node (ob131 P) .nil .nil) .nil) (.node (ob99 P) (.node (ob163 P) .nil .nil) .nil)) (.node (oa51 P) (.node (oa83 P) (.node (ob147 P) .nil .nil) .nil) (.node (ob115 P) .nil .nil))) (.node (oa27 P) (.node (oa43 P) (.node (oa75 P) (.node (ob139 P) .nil .nil) .nil) (.node (ob107 P) (.node (ob171 P) .nil .nil) .nil)) (.node (oa59 P) (.node (ob91 P) (.node (ob155 P) .nil .nil) .nil) (.node (ob123 P) .nil .nil))))) (.node (boot_o_5 P) (.node (boot_o_9 P) (.node (oa17 P) (.node (oa33 P) (.node (oa65 P) (.node (ob129 P) .nil .nil) .nil) (.node (ob97 P) (.node (ob161 P) .nil .nil) .nil)) (.node (oa49 P) (.node (oa81 P) (.node (ob145 P) .nil .nil) .nil) (.node (ob113 P) .nil .nil))) (.node (oa25 P) (.node (oa41 P) (.node (oa73 P) (.node (ob137 P) .nil .nil) .nil) (.node (ob105 P) (.node (ob169 P) .nil .nil) .nil)) (.node (oa57 P) (.node (oa89 P) (.node (ob153 P) .nil .nil) .nil) (.node (ob121 P) .nil .nil)))) (.node (oa13 P) (.node (oa21 P) (.node (oa37 P) (.node (oa69 P) (.node (ob133 P) .nil .nil) .nil) (.node (ob101 P) (.node (ob165 P) .nil .nil) .nil)) (.node (oa53 P) (.node (oa85 P) (.node (ob149 P) .nil .nil) .nil) (.node (ob117 P) .nil .nil))) (.node (oa29 P) (.node (oa45 P) (.node (oa77 P) (.node (ob141 P) .nil .nil) .nil) (.node (ob109 P) (.node (ob173 P) .nil .nil) .nil)) (.node (oa61 P) (.node (ob93 P) (.node (ob157 P) .nil .nil) .nil) (.node (ob125 P) .nil .nil)))))) (.node (oa2 P) (.node (boot_o_4 P) (.node (boot_o_8 P) (.node (oa16 P) (.node (oa32 P) (.node (oa64 P) (.node (ob128 P) .nil .nil) .nil) (.node (ob96 P) (.node (ob160 P) .nil .nil) .nil)) (.node (oa48 P) (.node (oa80 P) (.node (ob144 P) .nil .nil) .nil) (.node (ob112 P) .nil .nil))) (.node (oa24 P) (.node (oa40 P) (.node (oa72 P) (.node (ob136 P) .nil .nil) .nil) (.node (ob104 P) (.node (ob168 P) .nil .nil) .nil)) (.node (oa56 P) (.node (oa88 P) (.node (ob152 P) .nil .nil) .nil) (.node (ob120 P) .nil .nil)))) (.node (ob12 P) (.node (oa20 P) (.node (oa36 P) (.node (oa68 P) (.node (ob132 P) .nil .nil) .nil) (.node (ob100 P) (.node (ob164 P) .nil .nil) .nil)) (.node (oa52 P) (.node (oa84 P) (.node (ob148 P) .nil .nil) .nil) (.node (ob116 P) .nil .nil))) (.node (oa28 P) (.node (oa44 P) (.node (oa76 P) (.node (ob140 P) .nil .nil) .nil) (.node (ob108 P) (.node (ob172 P) .nil .nil) .nil)) (.node (oa60 P) (.node (ob92 P) (.node (ob156 P) .nil .nil) .nil) (.node (ob124 P) .nil .nil))))) (.node (boot_o_6 P) (.node (boot_o_10 P) (.node (oa18 P) (.node (oa34 P) (.node (oa66 P) (.node (ob130 P) .nil .nil) .nil) (.node (ob98 P) (.node (ob162 P) .nil .nil) .nil)) (.node (oa50 P) (.node (oa82 P) (.node (ob146 P) .nil .nil) .nil) (.node (ob114 P) .nil .nil))) (.node (oa26 P) (.node (oa42 P) (.node (oa74 P) (.node (ob138 P) .nil .nil) .nil) (.node (ob106 P) (.node (ob170 P) .nil .nil) .nil)) (.node (oa58 P) (.node (ob90 P) (.node (ob154 P) .nil .nil) .nil) (.node (ob122 P) .nil .nil)))) (.node (oa14 P) (.node (oa22 P) (.node (oa38 P) (.node (oa70 P) (.node (ob134 P) .nil .nil) .nil) (.node (ob102 P) (.node (ob166 P) .nil .nil) .nil)) (.node (oa54 P) (.node (oa86 P) (.node (ob150 P) .nil .nil) .nil) (.node (ob118 P) .nil .nil))) (.node (oa30 P) (.node (oa46 P) (.node (oa78 P) (.node (ob142 P) .nil .nil) .nil) (.node (ob110 P) .nil .nil)) (.node (oa62 P) (.node (ob94 P) (.node (ob158 P) .nil .nil) .nil) (.node (ob126 P) .nil .nil)))))))
abbrev life0 : Life := { debug := Int.ofNat 0, thresholds := [Int.ofNat 2000, Int.ofNat 10, Int.ofNat 10] }
noncomputable abbrev env0 : Env := { scope := PySem.Challenge.pw_xh0019_01.main.scope, locals := mainNs, globals := mainNs, cells := [], code := .ref 13, frame := some 14 }
noncomputable abbrev code0 : Code := .body (behindTheImports PySem.Challenge.pw_xh0019_01) env0
abbrev ps0 : Pos := ⟨0, 0, 0, 0⟩
abbrev ps1 : Pos := ⟨80, 0, 80, 11⟩
abbrev ps2 : Pos := ⟨81, 0, 111, 32⟩
noncomputable abbrev sZ (w : World) (os : OsState) : SharedT := ⟨bootT w.params, 11, life0, Array.mk [], boot_drawn, boot_toks, os⟩
noncomputable abbrev sA (w : World) (os : OsState) : SharedT := ⟨tra w.params, 90, life0, Array.mk [], boot_drawn, 303, os⟩
noncomputable abbrev sB (w : World) (os : OsState) : SharedT := ⟨trb w.params, 174, life0, Array.mk [], boot_drawn, 398, os⟩
def topRunT (tb : String → Option Builtin) (p : Program) (w : World) (n₀ : Nat) (ann : Option Value) : Nat → SharedT → Thread → Option SharedT
  | 0, _, _ => none
  | n + 1, s, t => match through t with
    | true => some s
    | false => match stepOk n₀ ann t with
      | false => none
      | true => match stepT (denote tb) p w s t with
        | some (s', t') => topRunT tb p w n₀ ann n s' t'
        | none => none
def topGoT (tb : String → Option Builtin) (p : Program) (w : World) (n₀ : Nat) (ann : Option Value) : Nat → SharedT → Thread → Option (SharedT × Thread)
  | 0, s, t => some (s, t)
  | n + 1, s, t => match through t with
    | true => none
    | false => match stepOk n₀ ann t with
      | false => none
      | true => match stepT (denote tb) p w s t with
        | some (s', t') => topGoT tb p w n₀ ann n s' t'
        | none => none
theorem topRun_of {tb : String → Option Builtin} {p : Program} {w : World} {n₀ : Nat} {ann : Option Value} : ∀ {n : Nat} {s s' : SharedT} {t : Thread}, topRunT tb p w n₀ ann n s t = some s' → topRun tb p w n₀ ann n s.abs t = some s'.abs
  | 0, _, _, _, h => by cases h
  | n + 1, s, s', t, h => by
    unfold topRunT at h
    unfold topRun
    cases ht : through t with
    | true => rw [ht] at h; cases h; rfl
    | false =>
      rw [ht] at h
      cases hk : stepOk n₀ ann t with
      | false => rw [hk] at h; cases h
      | true =>
        rw [hk] at h
        cases hs : stepT (denote tb) p w s t with
        | none => rw [hs] at h; cases h
        | some r => obtain ⟨s₂, t₂⟩ := r; rw [hs] at h; rw [stepT_spec hs]; exact topRun_of h
theorem topGo_of {tb : String → Option Builtin} {p : Program} {w : World} {n₀ : Nat} {ann : Option Value} : ∀ {n : Nat} {s s' : SharedT} {t t' : Thread}, topGoT tb p w n₀ ann n s t = some (s', t') → topGo tb p w n₀ ann n s.abs t = some (s'.abs, t')
  | 0, _, _, _, _, h => by cases h; rfl
  | n + 1, s, s', t, t', h => by
    unfold topGoT at h
    unfold topGo
    cases ht : through t with
    | true => rw [ht] at h; cases h
    | false =>
      rw [ht] at h
      cases hk : stepOk n₀ ann t with
      | false => rw [hk] at h; cases h
      | true =>
        rw [hk] at h
        cases hs : stepT (denote tb) p w s t with
        | none => rw [hs] at h; cases h
        | some r => obtain ⟨s₂, t₂⟩ := r; rw [hs] at h; rw [stepT_spec hs]; exact topGo_of h
theorem left_run {p q : Program} {loose : List Str} {Xt : Shared → Bool} {α : Type} {Yf : Shared → α} {Ya : World → α} {N : Nat} {g0 : Bool} {n₀ : Nat} {ann : Option Value} {k₀ : Nat} {d₀ : Drawn} {H₀ : Params → Heap}
    (o : ∀ w : World, (fencedOpening treeTable p w N).map (fun s => (s.heap, s.gens, s.drawn, s.toks)) = some (H₀ w.params, Array.mk [], d₀, k₀))
    (z : ∀ P, ((H₀ P).isNs mainGlobals, (H₀ P).objs.size, (H₀ P).nsMap mainGlobals "__annotations__") = (true, n₀, ann))
    (h : ∀ (w : World) (os : OsState), ∃ s : Shared, topRun treeTable p w n₀ ann N ⟨H₀ w.params, Array.mk [], d₀, k₀, os⟩ (topStub p) = some s ∧
        (staticsOk (importedModules p.main.body) (H₀ w.params) s.heap && namesBound p s.heap && gensDone s && laidKept (H₀ w.params) s.heap, openSeen q loose (importedModules p.main.body) Xt g0 s, Yf s) = (true, openGood q loose, Ya w)) :
    LeftO p q loose Xt Yf Ya N g0 := fun w => by
  obtain ⟨⟨hp, gs, d, k, os⟩, e0, e'⟩ := Option.map_eq_some_iff.mp (o w)
  simp only [Prod.mk.injEq] at e'
  obtain ⟨e1, e2, e3, e4⟩ := e'
  subst e1 e2 e3 e4
  obtain ⟨s, R, f⟩ := h w os
  simp only [Prod.mk.injEq] at f
  obtain ⟨f1, f2, f3⟩ := f
  have zz := z w.params
  simp only [Prod.mk.injEq] at zz
  obtain ⟨z1, z2, z3⟩ := zz
  have t : topFrom treeTable p w N ⟨H₀ w.params, Array.mk [], d, k, os⟩ = some s := by
    unfold topFrom
    show (match (H₀ w.params).isNs mainGlobals && true with | true => (topRun treeTable p w (H₀ w.params).objs.size ((H₀ w.params).nsMap mainGlobals "__annotations__") N _ (topStub p)).bind _ | false => none) = _
    rw [z1, z2, z3]
    show (topRun treeTable p w n₀ ann N _ (topStub p)).bind _ = _
    rw [R]
    show (match staticsOk (importedModules p.main.body) (H₀ w.params) s.heap && namesBound p s.heap && gensDone s && laidKept (H₀ w.params) s.heap with | true => some s | false => none) = some s
    rw [f1]
  unfold openEnds
  rw [e0]
  show (topFrom treeTable p w N _).map _ = _
  rw [t]
  show some (openSeen _ _ _ _ _ _, Yf s) = _
  rw [f2, f3]
set_option maxHeartbeats 8000000 in
theorem run_a (w : World) (os : OsState) : ∃ sa, topGoT treeTable PySem.Challenge.pw_xh0019_01 w 11 (some (.ref 6)) 12 (sZ w os) (topStub PySem.Challenge.pw_xh0019_01) = some (sa, ⟨denote treeTable code0, code0, ps0, [topFrame ps0]⟩) ∧
    segRunT treeTable PySem.Challenge.pw_xh0019_01 w 11 (some (.ref 6)) 1 1 sa (blockOf (behindTheImports PySem.Challenge.pw_xh0019_01) env0 code0 ps0 [topFrame ps0]) = some (.next, sa, code0, ps0) ∧
    segRunT treeTable PySem.Challenge.pw_xh0019_01 w 11 (some (.ref 6)) 1 1000 sa (piecesOf (List.take 12 (behindTheImports PySem.Challenge.pw_xh0019_01)) env0 code0 ps0 [topFrame ps0]) = some (.next, sA w os, code0, ps1) :=
  ⟨match topGoT treeTable PySem.Challenge.pw_xh0019_01 w 11 (some (.ref 6)) 12 (sZ w os) (topStub PySem.Challenge.pw_xh0019_01) with | some r => r.1 | none => sZ w os, by kernel_rfl, by kernel_rfl, by kernel_rfl⟩
set_option maxHeartbeats 8000000 in
theorem run_b (w : World) (os : OsState) : segRunT treeTable PySem.Challenge.pw_xh0019_01 w 11 (some (.ref 6)) 1 600 (sA w os) (piecesOf (List.take 1 (List.drop 12 (behindTheImports PySem.Challenge.pw_xh0019_01))) env0 code0 ps1 [topFrame ps0]) = some (.next, sB w os, code0, ps2) := by kernel_rfl
set_option maxHeartbeats 8000000 in
theorem run_c (w : World) (os : OsState) : (topRunT treeTable PySem.Challenge.pw_xh0019_01 w 11 (some (.ref 6)) 1397 (sB w os) (restOf (List.drop 1 (List.drop 12 (behindTheImports PySem.Challenge.pw_xh0019_01))) env0 code0 ps2 [topFrame ps0])).map (fun s =>
    (staticsOk (importedModules PySem.Challenge.pw_xh0019_01.main.body) (boot_heap w.params) s.abs.heap && namesBound PySem.Challenge.pw_xh0019_01 s.abs.heap && gensDone s.abs && laidKept (boot_heap w.params) s.abs.heap, openSeen view0 loos (importedModules PySem.Challenge.pw_xh0019_01.main.body) (fun s => xlAt view0 [] s && recOk [] s) true s.abs, Hook.obs hk0 s.abs)) = some (true, openGood view0 loos, Hook.val hk0 w) := by kernel_rfl
theorem boot_abs (w : World) (os : OsState) : (sZ w os).abs = ⟨boot_heap w.params, Array.mk [], boot_drawn, boot_toks, os⟩ := by
  unfold SharedT.abs
  rw [show absHeap (bootT w.params) 11 life0 = boot_heap w.params from by kernel_rfl]
theorem left0 : LeftO PySem.Challenge.pw_xh0019_01 view0 loos (fun s => xlAt view0 [] s && recOk [] s) (Hook.obs hk0) (Hook.val hk0) 3010 :=
  left_run (n₀ := 11) (ann := some (.ref 6)) (boot_open rfl rfl fun _ => rfl) (fun P => by kernel_rfl) fun w os => by
    obtain ⟨sa, h1, h2, h3⟩ := run_a w os
    obtain ⟨s, r, f⟩ := Option.map_eq_some_iff.mp (run_c w os)
    refine ⟨s.abs, ?_, f⟩
    have k1 := piece_app (segRun_of h3) (piece_app (segRun_of (run_b w os)) (topRun_of r))
    rw [List.take_append_drop, List.take_append_drop] at k1
    have k := go_top (topGo_of h1) (piece_block (segRun_of h2) k1)
    rw [boot_abs] at k
    exact k
section
theorem all_n {m : Str → Option Value} : ∀ p ∈ ([] : List (Str × Value)), m p.1 = some p.2 := fun _ h => nomatch h
theorem all_c {m : Str → Option Value} {x : Str} {v : Value} {l : List (Str × Value)} (h : m x = some v) (t : ∀ p ∈ l, m p.1 = some p.2) : ∀ p ∈ (x, v) :: l, m p.1 = some p.2 := fun p hp => by
  cases hp with
  | head => exact h
  | tail _ hp => exact t p hp
theorem all_eq {m : Str → Option Value} : ∀ {l : List (Str × Value)}, l.map (fun p => m p.1) = l.map (fun p => some p.2) → ∀ p ∈ l, m p.1 = some p.2
  | [], _ => all_n
  | _ :: _, h => by
    simp only [List.map_cons, List.cons.injEq] at h
    exact all_c h.1 (all_eq h.2)
theorem all_if {m : Str → Option Value} {x : Str} {v : Value} {l : List (Str × Value)} (t : ∀ p ∈ l, m p.1 = some p.2) (hx : l.map (fun p => decide (p.1 = x)) = l.map (fun _ => false)) : ∀ p ∈ (x, v) :: l, (fun y => if y = x then some v else m y) p.1 = some p.2 := by
  refine all_c (m := fun y => if y = x then some v else m y) (if_pos rfl) fun p hp => ?_
  have e : decide (p.1 = x) = false := by
    induction l with
    | nil => exact nomatch hp
    | cons q l ih =>
      simp only [List.map_cons, List.cons.injEq] at hx
      cases hp with
      | head => exact hx.1
      | tail _ hp => exact ih (fun p h => t p (.tail _ h)) hx.2 hp
  have n : ¬ p.1 = x := of_decide_eq_false e
  show (if p.1 = x then some v else m p.1) = some p.2
  rw [if_neg n]
  exact t p hp
theorem sub_n {α : Type} {l2 : List α} : ∀ p ∈ ([] : List α), p ∈ l2 := fun _ h => nomatch h
theorem sub_c {α : Type} {a : α} {l l2 : List α} (h : a ∈ l2) (t : ∀ p ∈ l, p ∈ l2) : ∀ p ∈ a :: l, p ∈ l2 := fun p hp => by
  cases hp with
  | head => exact h
  | tail _ hp => exact t p hp
theorem sub_r {α : Type} {l l2 : List α} {b : α} (t : ∀ p ∈ l, p ∈ l2) : ∀ p ∈ l, p ∈ b :: l2 := fun p hp => .tail _ (t p hp)
noncomputable abbrev loo : List Str := looseW view0 [Str.ofString "insort_right", Str.ofString "bisect_right", Str.ofString "insort_left", Str.ofString "bisect_left", Str.ofString "_Accumulator"]
/-- a view that tells nothing of the top: what the walk asks of the globals it reads off the written part -/
def pz : Program := { PySem.Challenge.pw_xh0019_01 with main := { PySem.Challenge.pw_xh0019_01.main with body := [Stmt.ImportFrom (some (Str.ofString "sys")) [] none default] } }
noncomputable def lz : List Str := loo ++ ((recsOf view0).map (·.name) ++ ((litsOf view0).map (·.1) ++ (clssOf view0 loo).map (·.name)))
theorem top_z {mean : ExcName → Option Value} {mg mb : Str → Option Value} {h : Heap} (T : Top view0 loo mean mg mb h) : Top pz lz mean mg mb h where
  g := T.g
  b := T.b
  nolimit := T.nolimit
  nodigits := T.nodigits
  fn := fun d hd => nomatch hd
  own := fun o ho => nomatch ho
  const := fun x d e => nomatch e
  free := fun x h1 h2 _ _ _ => T.free x h1 (fun m => h2 (List.mem_append_left _ m)) (fun m => h2 (List.mem_append_right _ (List.mem_append_left _ m)))
    (fun m => h2 (List.mem_append_right _ (List.mem_append_right _ (List.mem_append_left _ m)))) (fun m => h2 (List.mem_append_right _ (List.mem_append_right _ (List.mem_append_right _ m))))
  builtins := T.builtins
  tab := fun d hd => nomatch hd
  bmain := T.bmain
  seer := fun hi => nomatch (show importsNone pz = false from by decide +kernel) ▸ hi
section
variable {prog : Program} {w : World} {A A₀ : Around} {E : Value → Shared → Prop} {s : Shared} {K : Frag} {C L : Addr} {h₀ base : Heap} {m mg mb : Str → Option Value} {news : List (Addr × Obj)} {p : Program} {loose : List Str} {mean : ExcName → Option Value}

theorem code_defR {env : Env} {outer : List Env} {R : Result → Shared → Prop} {name qual : Str} {params : Arguments} {body : List Stmt} {scope : Scope} {dV kV doc pm cdv ct oc : Value} {an od : Option Addr} {osl : Array (Option Value)} {f : Addr} {args : Args} {binds : List (Str × Value)}
    (B : Below A₀ base outer h₀) (F : Fr h₀ L s.heap m) (X₀ : K.In h₀) (N : News h₀ L s.heap news) (T : Top p loose mean mg mb h₀) (hA : A.frames = some (env :: outer)) (hf : env.frame = some L) (hke : env.scope.kind = .function)
    (ho : K.lookup f = some ⟨oc, od, .func (fnOf name qual params body scope dV kV doc pm an cdv ct), osl⟩) (hcd : codeIn K cdv qual = true) (hroom : A.depth < recursionLimit)
    (hbind : BindsTo s (fnOf name qual params body scope dV kV doc pm an cdv ct) args binds) (hloc : ∀ y ∈ binds, scope.names.lookup y.1 = some .local)
    (h : ∀ g L' h₁, Fr h₀ L g m → Fr g L' h₁ (fun y => binds.reverse.lookup y) → News g L' h₁ news → Below A base (env :: outer) g → K.In g → Top p loose mean mg mb g → (∀ p ∈ news, p.1 < L') →
      wpAny (model prog w) (A.deeper (envOf qual scope L' f cdv)) (execs body (envOf qual scope L' f cdv))
        (fun fl s' => LeaveK h₀ L m g R (match fl with | .ret v => v | _ => .none) s')
        (fun e s' => wpAny (model prog w) (A.deeper (envOf qual scope L' f cdv)) (leaving (envOf qual scope L' f cdv) e) (fun _ s'' => R (.error e) s'') (fun e' s'' => R (.error e') s'') s')
        { s with heap := h₁, toks := s.toks + binds.length })
    (hco : scope.isCoroutine = false) (hgen : scope.isGenerator = false) (hk : scope.kind = .function)
    (hcell : ∀ x ∈ scope.names, x.2 ≠ .cell) : codeAny (model prog w) A (.call (.ref f) args) R s :=
  callX_plain (cl := []) B F N T.nolimit hA hf hke ((X₀.keeps F.keep) _ _ ho) rfl (codeRec_of (X₀.keeps F.keep) hcd) hroom hbind hloc (fun g L' h₁ FG F' N' B' st lt => h g L' h₁ FG F' N' B' (X₀.keeps st) (T.keeps st) lt) hcell hco hgen hk

theorem code_defX {env : Env} {outer : List Env} {R : Result → Shared → Prop} {name qual : Str} {params : Arguments} {body : List Stmt} {scope : Scope} {cl : List (Str × Addr)} {dV kV doc pm cdv ct oc : Value} {an od : Option Addr} {osl : Array (Option Value)} {f : Addr} {args : Args} {binds : List (Str × Value)}
    (B : Below A₀ base outer h₀) (F : Fr h₀ L s.heap m) (X₀ : K.In h₀) (N : News h₀ L s.heap news) (T : Top p loose mean mg mb h₀) (hA : A.frames = some (env :: outer)) (hf : env.frame = some L) (hke : env.scope.kind = .function)
    (ho : K.lookup f = some ⟨oc, od, .func (fnX name qual params body scope cl dV kV doc pm an cdv ct), osl⟩) (hcd : codeIn K cdv qual = true) (hroom : A.depth < recursionLimit)
    (hbind : BindsTo s (fnX name qual params body scope cl dV kV doc pm an cdv ct) args binds) (hloc : ∀ y ∈ binds, scope.names.lookup y.1 = some .local)
    (h : ∀ g L' h₁, Fr h₀ L g m → Fr g L' h₁ (fun y => binds.reverse.lookup y) → News g L' h₁ news → Below A base (env :: outer) g → K.In g → Top p loose mean mg mb g → (∀ p ∈ news, p.1 < L') →
      wpAny (model prog w) (A.deeper (envX qual scope L' f cdv cl)) (execs body (envX qual scope L' f cdv cl))
        (fun fl s' => LeaveK h₀ L m g R (match fl with | .ret v => v | _ => .none) s')
        (fun e s' => wpAny (model prog w) (A.deeper (envX qual scope L' f cdv cl)) (leaving (envX qual scope L' f cdv cl) e) (fun _ s'' => R (.error e) s'') (fun e' s'' => R (.error e') s'') s')
        { s with heap := h₁, toks := s.toks + binds.length })
    (hco : scope.isCoroutine = false) (hgen : scope.isGenerator = false) (hk : scope.kind = .function)
    (hcell : ∀ x ∈ scope.names, x.2 ≠ .cell) : codeAny (model prog w) A (.call (.ref f) args) R s :=
  callX_plain (cl := cl) B F N T.nolimit hA hf hke ((X₀.keeps F.keep) _ _ ho) rfl (codeRec_of (X₀.keeps F.keep) hcd) hroom hbind hloc (fun g L' h₁ FG F' N' B' st lt => h g L' h₁ FG F' N' B' (X₀.keeps st) (T.keeps st) lt) hcell hco hgen hk
end

theorem News.sub {h₀ h : Heap} {L : Addr} {news news' : List (Addr × Obj)} (N : News h₀ L h news) (hs : ∀ p ∈ news', p ∈ news) : News h₀ L h news' := fun p hp => N p (hs p hp)
theorem News.fun {h₀ h : Heap} {L : Addr} {news : List (Addr × Obj)} (N : News h₀ L h news) {a b : Addr} {o o' : Obj} (h1 : (a, o) ∈ news) (h2 : (b, o') ∈ news) (hne : o ≠ o') : a ≠ b := by
  rintro rfl
  have e1 := (N _ h1).1
  have e2 := (N _ h2).1
  rw [e1] at e2
  exact hne (Option.some.inj e2)

def ov (ps : List (Str × Value)) (m : Str → Option Value) : Str → Option Value := fun y => match ps.lookup y with | some v => some v | none => m y
theorem ov_eq {ps : List (Str × Value)} {m : Str → Option Value} (hp : ∀ p ∈ ps, m p.1 = some p.2) : ov ps m = m := by
  funext y
  unfold ov
  induction ps with
  | nil => rfl
  | cons p r ih =>
    rw [List.lookup_cons]
    by_cases e : y = p.1
    · subst e
      simp only [beq_self_eq_true]
      exact (hp _ (.head _)).symm
    · have : (y == p.1) = false := by simpa using e
      simp only [this]
      exact ih fun q hq => hp q (.tail _ hq)
theorem Fr.ov {h₀ h : Heap} {L : Addr} {m : Str → Option Value} (ps : List (Str × Value)) (F : Fr h₀ L h m) (hp : ∀ p ∈ ps, m p.1 = some p.2) : Fr h₀ L h (ov ps m) := by rw [ov_eq hp]; exact F
def AllP (m : Str → Option Value) : List (Str × Value) → Prop
  | [] => True
  | p :: l => m p.1 = some p.2 ∧ AllP m l
theorem AllP.all {m : Str → Option Value} : ∀ {l : List (Str × Value)}, AllP m l → ∀ p ∈ l, m p.1 = some p.2
  | [], _ => all_n
  | _ :: _, h => all_c h.1 (AllP.all h.2)
theorem all_fr {h₀ h : Heap} {L : Addr} {m : Str → Option Value} {l : List (Str × Value)} (_ : Fr h₀ L h m) (e : l.map (fun p => m p.1) = l.map (fun p => some p.2)) : ∀ p ∈ l, m p.1 = some p.2 := all_eq e
theorem Fr.ovP {h₀ h : Heap} {L : Addr} {m : Str → Option Value} (ps : List (Str × Value)) (F : Fr h₀ L h m) (hp : AllP m ps) : Fr h₀ L h (Mine.ov ps m) := Fr.ov ps F hp.all

section
variable {prog : Program} {w : World} {A : Around} {E : Value → Shared → Prop} {env : Env} {test : PySem.Expr} {body : List Stmt} {Q : Flow → Shared → Prop}

def WhStep (Q : Flow → Shared → Prop) (J : Nat → Shared → Prop) (n : Nat) (f : Flow) (s₃ : Shared) : Prop :=
  match f with
  | .next => ∃ n', n' < n ∧ J n' s₃
  | .cont => ∃ n', n' < n ∧ J n' s₃
  | .brk => Q .next s₃
  | .ret v => Q (.ret v) s₃
theorem while_J (J : Nat → Shared → Prop) (hE : PassesOwn (model prog w) A env E)
    (turn : ∀ n s, J n s → wpAny (model prog w) A (isTrue test env (eval test env)) (fun b s₂ => WhlIf b (wpAny (model prog w) A (execs body env) (WhStep Q J n) E s₂) (wpAny (model prog w) A (execs [] env) Q E s₂)) E s) :
    ∀ n s, J n s → WhlRest prog w A E env test body [] Q 0 s := by
  intro n
  induction n using Nat.strongRecOn with
  | ind n ih =>
    intro s hJ
    have z : WhlRest prog w A E env test body [] Q (0 + 1) s := by
      refine whl_turn hE ?_
      refine wpAny_mono (turn n s hJ) (fun b s₂ h₂ => ?_) fun _ _ e => e
      cases b with
      | false => exact h₂
      | true =>
        refine WhlIf.yes rfl ?_
        have h₃ : wpAny (model prog w) A (execs body env) (WhStep Q J n) E s₂ := h₂
        refine wpAny_mono h₃ (fun f s₃ h₄ => ?_) fun _ _ e => e
        cases f with
        | next => obtain ⟨n', hn, hJ'⟩ := h₄; exact ih n' hn s₃ hJ'
        | cont => obtain ⟨n', hn, hJ'⟩ := h₄; exact ih n' hn s₃ hJ'
        | brk => exact h₄
        | ret v => exact h₄
    exact z
theorem while_start (J : Nat → Shared → Prop) {pos : Pos} {n : Nat} {s : Shared} (hJ : J n s) (hE : PassesOwn (model prog w) A env E)
    (turn : ∀ n s, J n s → wpAny (model prog w) A (isTrue test env (eval test env)) (fun b s₂ => WhlIf b (wpAny (model prog w) A (execs body env) (WhStep Q J n) E s₂) (wpAny (model prog w) A (execs [] env) Q E s₂)) E s) :
    wpAny (model prog w) A (exec (.While test body [] pos) env) Q E s := whl_start 0 (while_J J hE turn n s hJ)
end
theorem whl_split {b : Bool} {T F : Prop} (h1 : b = true → T) (h2 : b = false → F) : WhlIf b T F := by
  cases h : b with
  | true => exact WhlIf.yes rfl (h1 h)
  | false => exact WhlIf.no rfl (h2 h)
section
variable {prog : Program} {w : World} {A : Around} {E : Value → Shared → Prop} {env : Env} {test : PySem.Expr} {body : List Stmt} {Q : Flow → Shared → Prop} {s : Shared} {h₀ : Heap} {L : Addr} {m₀ : Str → Option Value} {news₀ : List (Addr × Obj)}
def WhStepK (h₀ : Heap) (L : Addr) (s : Shared) (Q : Flow → Shared → Prop) (J : Nat → (Str → Option Value) → List (Addr × Obj) → Prop) (n : Nat) (f : Flow) (s₃ : Shared) : Prop :=
  match f with
  | .next => ∃ h tk m₁ news₁, s₃ = { s with heap := h, toks := tk } ∧ Fr h₀ L h m₁ ∧ News h₀ L h news₁ ∧ ∃ n', n' < n ∧ J n' m₁ news₁
  | .cont => ∃ h tk m₁ news₁, s₃ = { s with heap := h, toks := tk } ∧ Fr h₀ L h m₁ ∧ News h₀ L h news₁ ∧ ∃ n', n' < n ∧ J n' m₁ news₁
  | .brk => Q .next s₃
  | .ret v => Q (.ret v) s₃
theorem WhStepK.go {J : Nat → (Str → Option Value) → List (Addr × Obj) → Prop} {n tk : Nat} {h : Heap} {m₁ : Str → Option Value} {news₁ : List (Addr × Obj)} (F : Fr h₀ L h m₁) (N : News h₀ L h news₁) (hJ : ∃ n', n' < n ∧ J n' m₁ news₁) : WhStepK h₀ L s Q J n .next { s with heap := h, toks := tk } := ⟨h, tk, m₁, news₁, rfl, F, N, hJ⟩
theorem while_K (J : Nat → (Str → Option Value) → List (Addr × Obj) → Prop) (n : Nat) {pos : Pos} (F : Fr h₀ L s.heap m₀) (N : News h₀ L s.heap news₀) (hE : PassesOwn (model prog w) A env E) (hJ : J n m₀ news₀)
    (turn : ∀ n h tk m₁ news₁, Fr h₀ L h m₁ → News h₀ L h news₁ → J n m₁ news₁ → wpAny (model prog w) A (isTrue test env (eval test env)) (fun b s₂ => WhlIf b (wpAny (model prog w) A (execs body env) (WhStepK h₀ L s Q J n) E s₂) (wpAny (model prog w) A (execs [] env) Q E s₂)) E { s with heap := h, toks := tk }) :
    wpAny (model prog w) A (exec (.While test body [] pos) env) Q E s := by
  refine while_start (fun n s' => ∃ h tk m₁ news₁, s' = { s with heap := h, toks := tk } ∧ Fr h₀ L h m₁ ∧ News h₀ L h news₁ ∧ J n m₁ news₁) (n := n) ⟨s.heap, s.toks, _, _, rfl, F, N, hJ⟩ hE ?_
  rintro n s' ⟨h, tk, m₁, news₁, rfl, F₁, N₁, J₁⟩
  refine wpAny_mono (turn n h tk m₁ news₁ F₁ N₁ J₁) (fun b s₂ h₂ => ?_) fun _ _ e => e
  cases b with
  | false => exact h₂
  | true =>
    have h₃ : wpAny (model prog w) A (execs body env) (WhStepK h₀ L s Q J n) E s₂ := h₂
    refine WhlIf.yes rfl (wpAny_mono h₃ (fun f s₃ h₄ => ?_) fun _ _ e => e)
    cases f with
    | next => obtain ⟨h', tk', m', ns', e, F', N', n', hn, hJ'⟩ := h₄; exact ⟨n', hn, h', tk', m', ns', e, F', N', hJ'⟩
    | cont => obtain ⟨h', tk', m', ns', e, F', N', n', hn, hJ'⟩ := h₄; exact ⟨n', hn, h', tk', m', ns', e, F', N', hJ'⟩
    | brk => exact h₄
    | ret v => exact h₄
end

/-- a goal that the walk is to leave as it stands -/
structure Held (P : Prop) : Prop where
  out : P

section
variable {prog : Program} {w : World} {A A₀ : Around} {E : Value → Shared → Prop} {s : Shared} {K : Frag} {C L : Addr} {h₀ base : Heap} {m mg mb : Str → Option Value} {news : List (Addr × Obj)} {p : Program} {loose : List Str} {mean : ExcName → Option Value}
theorem back_turned {g g' h' : Heap} {L' : Addr} {m' : Str → Option Value} {news' : List (Addr × Obj)} (FG : Fr h₀ L g m) (T : KtsTurn [L] g g') (F' : Fr g' L' h' m') (N' : News g' L' h' news') : Fr h₀ L h' m ∧ News h₀ L h' news' := by
  obtain ⟨oL, es, ep, hL, hLd, hLk, hLf⟩ := FG.ns
  obtain ⟨sl, hs⟩ := T.frame _ _ hL (.head _)
  have nL : ∀ b o, h₀.get? b = some o → b ≠ L := fun b o e q => by
    subst q
    exact absurd (Heap.lt_size e) (Nat.not_lt.mpr FG.above)
  have up : ∀ b o, h₀.get? b = some o → g'.get? b = some o := fun b o e => T.other b o (FG.keep b o e) fun q => nL b o e (List.mem_singleton.mp q)
  refine ⟨⟨⟨_, es, ep, F'.keep _ _ hs, hLd, hLk, hLf⟩, fun b o e => F'.keep b o (up b o e), FG.above⟩, fun q hq => ⟨(N' q hq).1, fun z => ?_, ?_⟩⟩
  · have := (N' q hq).2.2
    rw [z, hs] at this
    cases this
  · cases z : h₀.get? q.1 with
    | none => rfl
    | some o =>
      have := (N' q hq).2.2
      rw [up _ _ z] at this
      cases this
theorem code_defT {env : Env} {R : Result → Shared → Prop} {name qual : Str} {params : Arguments} {body : List Stmt} {scope : Scope} {dV kV doc pm cdv ct oc : Value} {an od : Option Addr} {osl : Array (Option Value)} {f : Addr} {args : Args} {binds : List (Str × Value)}
    (B : Below A₀ base [] h₀) (F : Fr h₀ L s.heap m) (X₀ : K.In h₀) (N : News h₀ L s.heap news) (T : Top p loose mean mg mb h₀) (hA : A.frames = some [env]) (hf : env.frame = some L) (hke : env.scope.kind = .function)
    (ho : K.lookup f = some ⟨oc, od, .func (fnOf name qual params body scope dV kV doc pm an cdv ct), osl⟩) (hcd : codeIn K cdv qual = true) (hroom : A.depth < recursionLimit)
    (hbind : BindsTo s (fnOf name qual params body scope dV kV doc pm an cdv ct) args binds) (hloc : ∀ y ∈ binds, scope.names.lookup y.1 = some .local)
    (h : ∀ g L' h₁, Fr h₀ L g m → Fr g L' h₁ (fun y => binds.reverse.lookup y) → News g L' h₁ news → Below A base [env] g → K.In g → Top p loose mean mg mb g → KtsDicts ([env].filterMap (·.frame)) g →
      wpAny (model prog w) (A.deeper (envOf qual scope L' f cdv)) (execs body (envOf qual scope L' f cdv))
        (fun fl s' => LeaveS0 ([env].filterMap (·.frame)) h₀ L m g R (match fl with | .ret v => v | _ => .none) s')
        (fun e s' => wpAny (model prog w) (A.deeper (envOf qual scope L' f cdv)) (leaving (envOf qual scope L' f cdv) e) (fun _ s'' => R (.error e) s'') (fun e' s'' => R (.error e') s'') s')
        { s with heap := h₁, toks := s.toks + binds.length })
    (hco : scope.isCoroutine = false) (hgen : scope.isGenerator = false) (hk : scope.kind = .function)
    (hcell : ∀ x ∈ scope.names, x.2 ≠ .cell) : codeAny (model prog w) A (.call (.ref f) args) R s := by
  have efs : [env].filterMap (·.frame) = [L] := by simp [hf]
  obtain ⟨FG, BG, st, lv⟩ := groundX (R := R) B F N hA hf hke
  refine codeAny_call_def (fd := fnOf name qual params body scope dV kV doc pm an cdv ct) (body := body) (binds := binds) hroom ((X₀.keeps F.keep) _ _ ho) rfl (T.nolimit.keeps F.keep) (codeRec_of (X₀.keeps F.keep) hcd) rfl hbind hcell hloc (fun h₁ hns hk₁ => ?_) hco hgen hk
  refine wpAny_mono (h _ s.heap.objs.size h₁ FG ⟨hns, fun b o e => hk₁ b o (of_hideAll _ e), Nat.le_of_eq (hideAll_size _ _)⟩
    (fun p hp => ⟨hk₁ _ _ (N p hp).1, Nat.ne_of_lt (Heap.lt_size (N p hp).1), hideAll_none _ (List.mem_map_of_mem hp)⟩) BG (X₀.keeps st) (T.keeps st) (fun b hb => ?_)) (fun fl s' hl => ?_) fun _ _ e => e
  · rw [efs] at hb
    obtain rfl := List.mem_singleton.mp hb
    obtain ⟨oL, es, ep, hL, hLd, _⟩ := FG.ns
    exact ⟨oL, es, ep, hL, hLd⟩
  · obtain ⟨g', L₂, m₂, news₂, T₂, F₂, N₂, k⟩ := hl
    rw [efs] at T₂
    obtain ⟨F₃, N₃⟩ := back_turned FG T₂ F₂ N₂
    exact k F₃ N₃
end
end
section
theorem rng_size {a b : Int} {n : Nat} (h : a + n = b) : Builtin.Range.rangeSize a b 1 = (n : Int) := by rw [rangeSize_nat]; omega
theorem rng_small {a b : Int} (h1 : -1000000 ≤ a ∧ a ≤ 1000000) (h2 : -1000000 ≤ b ∧ b ≤ 1000000) : Builtin.Range.small a b 1 = true := by
  have hz := rangeSize_nat a b
  unfold Builtin.Range.small
  rw [hz, if_pos (by decide)]
  simp only [Builtin.Range.rangeFitsLong, Bool.and_eq_true, Bool.or_eq_true, decide_eq_true_eq]
  exact ⟨⟨⟨⟨⟨by omega, by omega⟩, ⟨by omega, by omega⟩⟩, ⟨by omega, by omega⟩⟩, ⟨by omega, by omega⟩⟩, .inr ⟨by omega, by omega⟩⟩
section
variable {prog : Program} {w : World} {A : Around} {E : Value → Shared → Prop} {env : Env} {body : List Stmt} {Q : Flow → Shared → Prop} {s : Shared} {h₀ : Heap} {m₀ : Str → Option Value} {news₀ : List (Addr × Obj)}

abbrev rngIt (x left : Int) : Obj := { cls := .type "range_iterator", dict := none, data := .fields #[rawInt x, rawInt left, rawInt 1], slots := #[] }

/-- what stands behind a turn -/
def LpStep (h₀ : Heap) (L : Addr) (s : Shared) (it : Addr) (o : Obj) (Q : Flow → Shared → Prop) (J : (Str → Option Value) → List (Addr × Obj) → Array GenState → Prop) (f : Flow) (s₃ : Shared) : Prop :=
  match f with
  | .next => ∃ h g tk m ns, s₃ = ⟨h, g, s.drawn, tk, s.os⟩ ∧ Fr h₀ L h m ∧ News h₀ L h ((it, o) :: ns) ∧ (∀ p ∈ ns, p.1 ≠ it) ∧ J m ns g
  | .cont => ∃ h g tk m ns, s₃ = ⟨h, g, s.drawn, tk, s.os⟩ ∧ Fr h₀ L h m ∧ News h₀ L h ((it, o) :: ns) ∧ (∀ p ∈ ns, p.1 ≠ it) ∧ J m ns g
  | .brk => Q .next s₃
  | .ret v => Q (.ret v) s₃
theorem LpStep.go {L it : Addr} {o : Obj} {J : (Str → Option Value) → List (Addr × Obj) → Array GenState → Prop} {h : Heap} {g : Array GenState} {tk : Nat} {m : Str → Option Value} {ns : List (Addr × Obj)} (F : Fr h₀ L h m) (N : News h₀ L h ((it, o) :: ns)) (hn : ∀ p ∈ ns, p.1 ≠ it) (hJ : J m ns g) :
    LpStep h₀ L s it o Q J .next ⟨h, g, s.drawn, tk, s.os⟩ := ⟨h, g, tk, m, ns, rfl, F, N, hn, hJ⟩

theorem range_loop {x : Str} {px : Pos} {r : Addr} {a b : Int} {t u v : Tok} {n : Nat} (J : Nat → (Str → Option Value) → List (Addr × Obj) → Array GenState → Prop)
    (hh : A.handled = none) (hr : IsRange s.heap r a b 1 t u v) (hsmall : Builtin.Range.small a b 1 = true) (hn : Builtin.Range.rangeSize a b 1 = (n : Int)) (hx : env.kindOf x = some .local)
    (hp : (env.scope.kind == .class || (env.scope.kind == .module && env.locals != env.globals)) = false) (hE : PassesOwn (model prog w) A env E)
    (F : Fr h₀ env.locals s.heap m₀) (N : News h₀ env.locals s.heap news₀) (hj : J 0 m₀ news₀ s.gens)
    (turn : ∀ i it m₁ ns h g tk t, i < n → J i m₁ ns g → (∀ p ∈ ns, p.1 ≠ it) → Fr h₀ env.locals h (fun y => if y = x then some (.int (a + (i : Nat)) t) else m₁ y) → News h₀ env.locals h ((it, rngIt (a + ((i + 1 : Nat) : Int)) ((n : Int) - ((i + 1 : Nat) : Int))) :: ns) →
      wpAny (model prog w) A (execs body env) (LpStep h₀ env.locals s it (rngIt (a + ((i + 1 : Nat) : Int)) ((n : Int) - ((i + 1 : Nat) : Int))) Q (J (i + 1))) E ⟨h, g, s.drawn, tk, s.os⟩)
    (done : ∀ m₁ ns h g tk, J n m₁ ns g → Fr h₀ env.locals h m₁ → News h₀ env.locals h ns → Q .next ⟨h, g, s.drawn, tk, s.os⟩) :
    wpAny (model prog w) A (pyIter (.ref r)) (fun it s₂ => codeAny (model prog w) A (.forLoop (.Name x px) it body [] env) (fun r s' => match r with | .ok f => Q f s' | .error e => cameBackBy (model prog w) A env E e s') s₂) E s := by
  refine wpAny_pyIter_range hr hsmall ?_
  have W := Walks.range (prog := prog) (w := w) hh s.heap.objs.size a 1 n
  have e1 : ∀ i : Nat, a + (i : Int) * 1 = a + (i : Int) := fun i => by rw [Int.mul_one]
  refine codeAny_forLoop (fun k s' => ∃ i h g tk m ns, s' = ⟨h, g, s.drawn, tk, s.os⟩ ∧ Fr h₀ env.locals h m ∧ News h₀ env.locals h ((s.heap.objs.size, rngIt (a + (i : Nat)) ((n : Int) - (i : Nat))) :: ns) ∧ (∀ p ∈ ns, p.1 ≠ s.heap.objs.size) ∧ J i m ns g ∧ i ≤ n ∧ k = n + 1 - i) ?_ (n + 1)
    ⟨0, _, _, _, m₀, news₀, rfl, F.push _, ?_, fun p hp => Nat.ne_of_lt (Heap.lt_size (N p hp).1), hj, Nat.zero_le _, rfl⟩
  · rintro k s' ⟨i, h, g, tk, m, ns, rfl, F', N', hne, hJ, hi, rfl⟩
    have hst : IsRangeIter h s.heap.objs.size (a + (i : Nat) * 1) ((n : Int) - (i : Nat)) 1 := by rw [e1]; exact (N' _ (.head _)).1
    have hItn := (N' _ (.head _)).2
    have next : ∀ h₁ : Heap, (∀ b o, b ∉ [s.heap.objs.size] → h.get? b = some o → h₁.get? b = some o) → Fr h₀ env.locals h₁ m ∧ News h₀ env.locals h₁ ns := fun h₁ hk₁ =>
      ⟨⟨F'.ns.at' fun o e => hk₁ _ o (fun hm => hItn.1 (List.mem_singleton.mp hm).symm) e, fun b o e => hk₁ b o (fun hm => by
          have := hItn.2; rw [← List.mem_singleton.mp hm, e] at this; cases this) (F'.keep b o e), F'.above⟩,
        fun p hp => ⟨hk₁ _ _ (fun hm => hne p hp (List.mem_singleton.mp hm)) (N' p (.tail _ hp)).1, (N' p (.tail _ hp)).2⟩⟩
    by_cases hlt : i < n
    · refine W.item i _ _ _ hlt hst fun v h₁ tk₁ hP hst₁ hk₁ => ?_
      obtain ⟨t', rfl⟩ := hP
      obtain ⟨F₁, N₁⟩ := next h₁ hk₁
      have N₂ : News h₀ env.locals h₁ ((s.heap.objs.size, rngIt (a + ((i + 1 : Nat) : Int)) ((n : Int) - ((i + 1 : Nat) : Int))) :: ns) := fun p hp => by
        rcases List.mem_cons.mp hp with rfl | hp
        · exact ⟨by rw [e1] at hst₁; exact hst₁, hItn⟩
        · exact N₁ p hp
      refine wpAny_assign_Name (wpAny_storeName_local hx F₁.ns (fun h₂ hn₂ hs₂ => ?_) hp)
      have F₂ := F₁.set hn₂ hs₂
      rw [e1] at F₂
      refine wpAny_passesOwn hE (wpAny_mono (turn i _ m ns h₂ g _ t' hlt hJ hne F₂ (N₂.set hs₂)) (fun f s₃ h₃ => ?_) fun _ _ e => e)
      cases f with
      | ret v => exact h₃
      | brk => exact h₃
      | next =>
        obtain ⟨h₃', g₃, tk₃, m₃, ns₃, rfl, F₃, N₃, hn₃, hJ₃⟩ := h₃
        exact ⟨n + 1 - (i + 1), by omega, i + 1, h₃', g₃, tk₃, m₃, ns₃, rfl, F₃, N₃, hn₃, hJ₃, hlt, rfl⟩
      | cont =>
        obtain ⟨h₃', g₃, tk₃, m₃, ns₃, rfl, F₃, N₃, hn₃, hJ₃⟩ := h₃
        exact ⟨n + 1 - (i + 1), by omega, i + 1, h₃', g₃, tk₃, m₃, ns₃, rfl, F₃, N₃, hn₃, hJ₃, hlt, rfl⟩
    · have hin : i = n := by omega
      subst hin
      refine W.done _ _ _ hst fun h₁ tk₁ hk₁ => wpAny_execs_nil ?_
      obtain ⟨F₁, N₁⟩ := next h₁ hk₁
      exact done m ns h₁ g tk₁ hJ F₁ N₁
  · intro p hp
    rcases List.mem_cons.mp hp with rfl | hp
    · refine ⟨?_, fun q => absurd F.ns.lt (by rw [← q]; exact Nat.lt_irrefl _), ?_⟩
      · rw [hn]
        have := Heap.get?_push_size (h := s.heap) (o := rngIt a n) rfl
        simpa using this
      · cases z : h₀.get? s.heap.objs.size with
        | none => rfl
        | some o => exact absurd (Heap.lt_size (F.keep _ _ z)) (Nat.lt_irrefl _)
    · exact ⟨Heap.get?_push_of_some _ (N p hp).1, (N p hp).2⟩

/-- the head of a for: what it runs over -/
def ForAt (prog : Program) (w : World) (A : Around) (E : Value → Shared → Prop) (env : Env) (x : Str) (px : Pos) (body : List Stmt) (Q : Flow → Shared → Prop) (xv : Value) (s₁ : Shared) : Prop :=
  wpAny (model prog w) A (pyIter xv) (fun it s₂ => codeAny (model prog w) A (.forLoop (.Name x px) it body [] env) (fun r s' => match r with | .ok f => Q f s' | .error e => cameBackBy (model prog w) A env E e s') s₂) E s₁
theorem for_at {x : Str} {px pos : Pos} {iter : PySem.Expr} (h : wpAny (model prog w) A (eval iter env) (ForAt prog w A E env x px body Q) E s) (hs : ∀ x, foldedSetIterable iter env x = pure x) :
    wpAny (model prog w) A (exec (.For (.Name x px) iter body [] pos) env) Q E s := wpAny_For h hs
end
end
local macro_rules | `(tactic| walk_at "mine room") => `(tactic| (simp only [depth_under_make, depth_under_kw, depth_in1, depth_deeper, depth_caller, units_in1, units_deeper, Around.mark_units, units_caller] at *; (try dsimp only [ktrTop] at *); omega))
local macro_rules | `(tactic| walk_at "mine cas") => `(tactic| ((case kA | kF => exact rfl); (case kK => assumption); (case k1 | k2 | k3 | k4 | k5 => k_asm); (case k6 | k7 => k_is); (case k8 => first | (dsimp only [ktrTop]; omega) | (rw [depth_under_make]; dsimp only [ktrTop]; omega) | k_room); (case k9 => first | exact BindsTo.of_eq rfl | (refine' kp_binds ?kx ?ke; (case kx => k_in); (case ke => exact fun _ => rfl))); (case c5 => decide); (case kB => exact locs rfl); (case c2 | c3 | c4 => exact rfl)))
local macro_rules | `(tactic| walk_at "mine enter") => `(tactic| (refine wpAny_call ?_; k_dflt (refine' code_defR ?k1 ?k2 ?k3 ?k4 ?k5 ?kA ?kF ?kK ?k6 ?k7 ?k8 ?k9 ?kB ?_ ?c2 ?c3 ?c4 ?c5; walk_at "mine cas"; k_whole; intro g' L' h' FG' F' N' B' X' T' lt'; (try dsimp only); (try k_fold))))
local macro_rules | `(tactic| walk_at "mine enterX") => `(tactic| (refine wpAny_call ?_; k_dflt (refine' code_defX ?k1 ?k2 ?k3 ?k4 ?k5 ?kA ?kF ?kK ?k6 ?k7 ?k8 ?k9 ?kB ?_ ?c2 ?c3 ?c4 ?c5; walk_at "mine cas"; k_whole; intro g' L' h' FG' F' N' B' X' T' lt'; (try dsimp only); (try k_fold))))
local macro_rules | `(tactic| walk_at "exec While Compare cons nil") => `(tactic| refine Held.out ?_)
local macro_rules | `(tactic| walk_at "mine std") => `(tactic| ((case B | F | X | N | T => k_asm); (case hk => first | assumption | exact rfl); (case hd => (dsimp only [ktrTop, Around.deeper]; omega)); (case hu => (dsimp only [ktrTop, Around.deeper, Around.in1]; omega))))
local macro_rules | `(tactic| walk_at "mine enterT") => `(tactic| (refine wpAny_call ?_; k_dflt (refine' code_defT ?k1 ?k2 ?k3 ?k4 ?k5 ?kA ?kF ?kK ?k6 ?k7 ?k8 ?k9 ?kB ?_ ?c2 ?c3 ?c4 ?c5; walk_at "mine cas"; k_whole; intro g' L' h' FG' F' N' B' X' T' D'; (try dsimp only); (try k_lift B'); (try k_fold))))
local macro_rules | `(tactic| walk_at "exec For Name Call cons nil") => `(tactic| (k_here; k_dflt (refine' for_at ?_ ?hs; (case hs => (intro _; with_unfolding_all rfl)); k_whole)))
local macro_rules | `(tactic| walk_at "ForAt") => `(tactic| refine Held.out ?_)
local macro_rules | `(tactic| k_mem) => `(tactic| first | assumption | exact List.mem_cons_self | (refine' List.mem_cons_of_mem _ ?_; k_mem))
section
/-- the told text behind the mark -/
def pl : List Nat → List Nat
  | [] => []
  | [c] => if c = 34 then [] else [c]
  | c :: d :: r => if c = 34 then (if d = 34 then 34 :: pl r else []) else c :: pl (d :: r)

theorem pl_end {l : List Nat} {k : Nat} (h : l.length ≤ k) : pl (l.drop k) = [] := by
  rw [List.drop_eq_nil_of_le h]; rfl
theorem drop_at {l : List Nat} {k : Nat} (h : k < l.length) : l.drop k = l[k] :: l.drop (k + 1) := by
  rw [List.drop_eq_getElem_cons h]
theorem pl_brk1 {l : List Nat} {k : Nat} (h : k < l.length) (hc : l[k] = 34) (he : l.length ≤ k + 1) : pl (l.drop k) = [] := by
  rw [drop_at h, List.drop_eq_nil_of_le he, hc]; rfl
theorem pl_brk2 {l : List Nat} {k : Nat} (h : k + 1 < l.length) (hc : l[k] = 34) (hn : l[k + 1] ≠ 34) : pl (l.drop k) = [] := by
  rw [drop_at (by omega), drop_at h, hc]
  show (if 34 = 34 then (if l[k + 1] = 34 then _ else []) else _) = _
  rw [if_pos rfl, if_neg hn]
theorem pl_two {l : List Nat} {k : Nat} (h : k + 1 < l.length) (hc : l[k] = 34) (hn : l[k + 1] = 34) : pl (l.drop k) = 34 :: pl (l.drop (k + 1 + 1)) := by
  rw [drop_at (by omega), drop_at h, hc]
  show (if 34 = 34 then (if l[k + 1] = 34 then _ else []) else _) = _
  rw [if_pos rfl, if_pos hn]
theorem pl_one {l : List Nat} {k : Nat} (h : k < l.length) (hc : l[k] ≠ 34) : pl (l.drop k) = l[k] :: pl (l.drop (k + 1)) := by
  rw [drop_at h]
  cases hr : l.drop (k + 1) with
  | nil =>
    show (if l[k] = 34 then [] else [l[k]]) = _
    rw [if_neg hc]; rfl
  | cons d r =>
    show (if l[k] = 34 then _ else l[k] :: pl (d :: r)) = _
    rw [if_neg hc]
theorem item_is {x : Str} {k : Nat} (h : k < x.cps.toList.length) : Txt.item x (k : Int) = ⟨#[x.cps.toList[k]]⟩ := by
  refine item_meets (by omega) ?_
  simp at h ⊢
theorem mark_eq (c : Nat) : ((⟨#[c]⟩ : Str) == Str.ofString "\"") = decide (c = 34) := by
  rw [show Str.ofString "\"" = ⟨#[34]⟩ from by decide +kernel]
  by_cases h : c = 34
  · subst h; rfl
  · rw [decide_eq_false h]
    refine beq_eq_false_iff_ne.mpr fun e => h ?_
    injection e with e
    simpa using e
theorem mark_ne (c : Nat) : ((⟨#[c]⟩ : Str) != Str.ofString "\"") = !decide (c = 34) := by
  show (!((⟨#[c]⟩ : Str) == Str.ofString "\"")) = _
  rw [mark_eq]

section
variable {w : World} {mean : ExcName → Option Value} {mg mb : Str → Option Value} {dp un : Nat} {gd : Option (List Code)} {cn : Str} {cs : Scope} {L a : Addr} {ccd : Value} {cl : List (Str × Addr)} {outer : List Env} {A₀ : Around} {base h₀ : Heap} {m : Str → Option Value} {news : List (Addr × Obj)} {s : Shared} {Q E : Value → Shared → Prop}

set_option maxHeartbeats 4000000 in
theorem text_ok (B : Below A₀ base outer h₀) (F : Fr h₀ L s.heap m) (X : (Mine.hd.heap_1 w.params).In h₀) (N : News h₀ L s.heap news) (T : Top pz lz mean mg mb h₀) (hk : cs.kind = .function)
    (hd : dp + 10 < recursionLimit) (hu : un + 50 < cLine) {n : Int} {t1 t2 t3 : Tok} {x y : Str}
    (h0 : 0 ≤ n) (h1 : n ≤ 1000) (hx : x.length = 1) (hy : y.length ≤ 10)
    (ret : ∀ h' tk' tk, Fr h₀ L h' m → News h₀ L h' news → Q (.str (Str.ofString " \"" ++ Txt.mul (Str.ofString "\"") n ++ x ++ Str.ofString "\"\"" ++ x ++ y) tk) { s with heap := h', toks := tk' }) :
    wpAny (model PySem.Challenge.rw_xh0019_01.row.prog w) (ktrTop dp un gd cn cs L a ccd cl outer) (call (.ref 187) [.int n t1, .str x t2, .str y t3]) Q E s := by
  walk_at "mine enter"
  k_steps
  all_goals (refine ret _ _ _ ?_ ?_ <;> assumption)

set_option maxHeartbeats 4000000 in
theorem parse_ok (B : Below A₀ base outer h₀) (F : Fr h₀ L s.heap m) (X : (Mine.hd.heap_1 w.params).In h₀) (N : News h₀ L s.heap news) (T : Top pz lz mean mg mb h₀) (hk : cs.kind = .function)
    (hd : dp + 10 < recursionLimit) (hu : un + 50 < cLine) {t1 : Tok} {x : Str}
    (hx : x.length ≤ 1000) (h3 : (Txt.slice x none (some 3) != Str.ofString "257") = false) (h4 : (Txt.slice x (some 3) (some 5) != Str.ofString " \"") = false)
    (ret : ∀ h' tk' tk (d : Str), d.cps.toList = pl (x.cps.toList.drop 5) → Fr h₀ L h' m → News h₀ L h' news → Q (.str d tk) { s with heap := h', toks := tk' }) :
    wpAny (model PySem.Challenge.rw_xh0019_01.row.prog w) (ktrTop dp un gd cn cs L a ccd cl outer) (call (.ref 53) [.str x t1]) Q E s := by
  walk_at "mine enter"
  k_steps
  refine ⟨?_⟩
  refine' while_K (fun n m₁ ns => ns = news ∧ ∃ k d t t' t'', m₁ (Str.ofString "i") = some (.int ((k : Nat) : Int) t) ∧ m₁ (Str.ofString "dirname") = some (.str d t') ∧ m₁ (Str.ofString "n") = some (.int (x.length : Int) t'') ∧ m₁ (Str.ofString "resp") = some (.str x t1) ∧ n = x.length - k ∧ d.length ≤ k ∧ d.cps.toList ++ pl (x.cps.toList.drop k) = pl (x.cps.toList.drop 5)) (x.length - 5) ?F ?N ?hE ?hJ ?_
  case F => k_asm
  case N => k_asm
  case hE => first | passes_own | walk1
  case hJ => exact ⟨rfl, 5, Str.ofString "", _, _, _, rfl, rfl, rfl, rfl, rfl, by decide, by rfl⟩
  rintro n h tk m₁ news₁ F₁ N₁ ⟨rfl, k, d, t, t', t'', e1, e2, e3, e4, hn, hdl, hpl⟩
  have F₂ := Fr.ov [(Str.ofString "i", _), (Str.ofString "dirname", _), (Str.ofString "n", _), (Str.ofString "resp", _)] F₁ (all_c e1 (all_c e2 (all_c e3 (all_c e4 all_n))))
  clear F₁ e1 e2 e3 e4
  k_steps
  have hlen : x.cps.toList.length = x.length := by simp [Str.length]
  refine whl_split (fun hb => ?_) (fun hb => ?_)
  · have hb' := of_decide_eq_true hb
    clear hb
    have hkl : k < x.cps.toList.length := by omega
    have hit := item_is hkl
    k_steps
    · rename (Txt.item x _ == _) = true => hc
      rw [hit, mark_eq, decide_eq_true_eq] at hc
      show wpAny _ _ _ _ _ _
      k_steps
      exact ret _ _ _ d (by rw [← hpl, pl_brk1 hkl hc (by omega), List.append_nil]) (by assumption) (by assumption)
    · rename (Txt.item x _ == _) = true => hc
      rename (Txt.item x _ != _) = true => hc2
      have hk2 : k + 1 < x.cps.toList.length := by omega
      rw [hit, mark_eq, decide_eq_true_eq] at hc
      rw [show (k : Int) + 1 = ((k + 1 : Nat) : Int) from rfl, item_is hk2, mark_ne] at hc2
      have hc3 := of_decide_eq_false (by simpa using hc2)
      show wpAny _ _ _ _ _ _
      k_steps
      exact ret _ _ _ d (by rw [← hpl, pl_brk2 hk2 hc hc3, List.append_nil]) (by assumption) (by assumption)
    · rename (Txt.item x _ == _) = true => hc
      rename (Txt.item x _ != _) = false => hc2
      have hk2 : k + 1 < x.cps.toList.length := by omega
      rw [hit, mark_eq, decide_eq_true_eq] at hc
      rw [show (k : Int) + 1 = ((k + 1 : Nat) : Int) from rfl, item_is hk2, mark_ne] at hc2
      have hc3 : x.cps.toList[k + 1] = 34 := of_decide_eq_true (by simpa using hc2)
      refine WhStepK.go (by assumption) (by assumption) ⟨x.length - (k + 1 + 1), by omega, rfl, k + 1 + 1, d ++ Txt.item x (k : Int), _, _, _, rfl, rfl, rfl, rfl, rfl, by rw [hit, Str.length_append]; show d.length + 1 ≤ _; omega, ?_⟩
      rw [← hpl, pl_two hk2 hc hc3, hit, Str.cps_append, Array.toList_append, hc]
      simp
    · rename (Txt.item x _ == _) = false => hc
      rw [hit, mark_eq] at hc
      have hc3 := of_decide_eq_false hc
      refine WhStepK.go (by assumption) (by assumption) ⟨x.length - (k + 1), by omega, rfl, k + 1, d ++ Txt.item x (k : Int), _, _, _, rfl, rfl, rfl, rfl, rfl, by rw [hit, Str.length_append]; show d.length + 1 ≤ _; omega, ?_⟩
      rw [← hpl, pl_one hkl hc3, hit, Str.cps_append, Array.toList_append]
      simp
  · have hb' := of_decide_eq_false hb
    clear hb
    k_steps
    exact ret _ _ _ d (by rw [← hpl, pl_end (by omega), List.append_nil]) (by assumption) (by assumption)

set_option maxHeartbeats 4000000 in
theorem parse_nil (B : Below A₀ base outer h₀) (F : Fr h₀ L s.heap m) (X : (Mine.hd.heap_1 w.params).In h₀) (N : News h₀ L s.heap news) (T : Top pz lz mean mg mb h₀) (hk : cs.kind = .function)
    (hd : dp + 10 < recursionLimit) (hu : un + 50 < cLine) {t1 : Tok} {x : Str}
    (hx : x.length ≤ 1000) (h3 : (Txt.slice x none (some 3) != Str.ofString "257") = false) (h4 : (Txt.slice x (some 3) (some 5) != Str.ofString " \"") = true)
    (ret : ∀ h' tk' tk, Fr h₀ L h' m → News h₀ L h' news → Q (.str (Str.ofString "") tk) { s with heap := h', toks := tk' }) :
    wpAny (model PySem.Challenge.rw_xh0019_01.row.prog w) (ktrTop dp un gd cn cs L a ccd cl outer) (call (.ref 53) [.str x t1]) Q E s := by
  walk_at "mine enter"
  k_steps
  all_goals (refine ret _ _ _ ?_ ?_ <;> assumption)
end
end
section
section
variable {prog : Program} {w : World} {A : Around} {E : Value → Shared → Prop} {s : Shared} {K : Frag} {C e t0 : Addr}

theorem chk_own {M : Model} {id owner n : String} {self : Value} {rest : List Value} {Q : Unit → Shared → Prop} (hsplit : splitId id = some (owner, n))
    (hkind : (Manifest.find? owner).bind (·.attrs.lookup n) = some .slot ∨ (Manifest.find? owner).bind (·.attrs.lookup n) = some .method)
    (hi : Looks M s.heap (isInstance self (.type owner)) true) (ha : argsOk id ⟨self :: rest, []⟩) (hQ : Q () s) : wpAny M A (checkBuiltinCall id ⟨self :: rest, []⟩) Q E s := by
  have hk : builtinKind id = (Manifest.find? owner).bind (·.attrs.lookup n) := by simp only [builtinKind, hsplit]
  rcases hkind with h | h <;>
  · simp only [checkBuiltinCall, hk, h, hsplit]
    refine wpAny_bind (hi.here ?_)
    simp only [Bool.not_true, Bool.false_eq_true, if_false]
    cases hsig : Manifest.signature? id with
    | none => exact wpAny_pure hQ
    | some sig =>
      simp only [argsOk, hsig] at ha
      have h2 : Bind.checkArgs id sig ⟨self :: rest, []⟩ = pure () := ha
      show wpAny M A (Bind.checkArgs id sig ⟨self :: rest, []⟩) Q E s
      rw [h2]; exact wpAny_pure hQ

theorem call_own {id owner n : String} {b : Builtin} {self : Value} {rest : List Value} {Q : Value → Shared → Prop} (hsplit : splitId id = some (owner, n))
    (hkind : (Manifest.find? owner).bind (·.attrs.lookup n) = some .slot ∨ (Manifest.find? owner).bind (·.attrs.lookup n) = some .method) (hp : plainId id = true) (hb : entryFor table id = some b)
    (hi : Looks (model prog w) s.heap (isInstance self (.type owner)) true) (ha : argsOk id ⟨self :: rest, []⟩)
    (h : wpAny (model prog w) A.in1 (b ⟨self :: rest, []⟩) (fun fin s' => ∃ v, fin = .done (.ret v) ∧ Q v s') E s) : wpAny (model prog w) A (call (.builtin id) (self :: rest)) Q E s := by
  refine wpAny_call (codeAny_call_builtin hp hb (chk_own hsplit hkind hi ha (wpAny_mono h (fun fin s' h' => ?_) fun _ _ h' => h')))
  obtain ⟨v, rfl, hv⟩ := h'; exact hv

theorem type_of {M : Model} {h : Heap} {x : Addr} {o : Obj} (ho : h.get? x = some o) (hc : o.cls = .ref C) : Looks M h (typeOf (.ref x)) (.ref C) := hc ▸ (Looks.ld ho).andThen .now
theorem inst_of {M : Model} {h : Heap} {x : Addr} {o : Obj} {T : Value} (X : K.In h) (ho : h.get? x = some o) (hc : o.cls = .ref C) (hs : subIn K (.ref C) T = some true) : Looks M h (isInstance (.ref x) T) true := by
  unfold isInstance
  exact Looks.andThen (type_of ho hc) (looks_subIn X hs)

theorem special_own {x : Addr} {o : Obj} {name : Str} {id : String} {args : List Value} {Q : Option Value → Shared → Prop} (X : K.In s.heap) (ho : s.heap.get? x = some o) (hc : o.cls = .ref C)
    (hf : findIn K (.ref C) name = some (some (.builtin id))) (hb : ∀ self, bindSpecial (.builtin id) self = pure (.builtin id, [self]))
    (h : wpAny (model prog w) A (call (.builtin id) (.ref x :: args)) (fun v => Q (some v)) E s) : wpAny (model prog w) A (callSpecial? (.ref x) name args) Q E s := by
  simp only [callSpecial?, specialOf]
  refine wpAny_bind (wpAny_bind ((type_of ho hc).here ((looks_findIn X hf).here ?_)))
  simp only [hb]
  exact wpAny_holding (wpAny_bind (wpAny_pure (wpAny_bind (wpAny_mono h (fun v s' h' => wpAny_pure h') fun _ _ h' => h'))))

theorem bexcArgs_own {M : Model} {o ot : Obj} {vs : Array Value} {items : List Value} {k : Nat} {Q : Value × List Value → Shared → Prop} (ho : s.heap.get? e = some o) (hd : o.data = .fields vs) (h0 : vs[0]? = some (.ref t0))
    (hto : s.heap.get? t0 = some ot) (htd : ot.data = .seq items.toArray k) (hq : Q (.ref t0, items) s) : wpAny M A (Builtin.BaseException.bexcArgs (.ref e)) Q E s := by
  unfold Builtin.BaseException.bexcArgs
  refine wpAny_bind (wpAny_field ho hd h0 (wpAny_bind (wpAny_seqItems hto htd ?_)))
  have : items.toArray.toList = items := by simp
  show wpAny M A (pure (Value.ref t0, items.toArray.toList)) Q E s
  rw [this]; exact wpAny_pure hq

theorem bexcStr_own {o ot : Obj} {vs : Array Value} {k : Nat} {m : Str} {tk : Tok} {Q : Fin → Shared → Prop} (ho : s.heap.get? e = some o) (hd : o.data = .fields vs) (h0 : vs[0]? = some (.ref t0))
    (hto : s.heap.get? t0 = some ot) (htd : ot.data = .seq [.str m tk].toArray k) (hq : Q (.done (.ret (.str m tk))) s) :
    wpAny (model prog w) A (Builtin.«BaseException.__str__» ⟨[.ref e], []⟩) Q E s := by
  unfold Builtin.«BaseException.__str__»
  repeat (first | with_reducible refine bexcArgs_own ho hd h0 hto htd ?_ | wp_step)
  exact hq

theorem strOf_own (hu : A.units < cLine) {o ot : Obj} {vs : Array Value} {k : Nat} {m : Str} {tk : Tok} {Q : Value → Shared → Prop} (X : K.In s.heap) (ho : s.heap.get? e = some o) (hc : o.cls = .ref C) (hd : o.data = .fields vs) (h0 : vs[0]? = some (.ref t0))
    (hto : s.heap.get? t0 = some ot) (htd : ot.data = .seq [.str m tk].toArray k) (hf : findIn K (.ref C) "__str__" = some (some (.builtin "BaseException.__str__"))) (hs : subIn K (.ref C) (.type "BaseException") = some true) (hq : Q (.str m tk) s) :
    wpAny (model prog w) A (Builtin.Str.strOf (.ref e)) Q E s := by
  have hcall : ∀ {Q : Value → Shared → Prop}, Q (.str m tk) s → wpAny (model prog w) A (call (.builtin "BaseException.__str__") [.ref e]) Q E s := fun {Q} hq =>
    call_own (owner := "BaseException") (n := "__str__") (by decide +kernel) (.inl (by decide +kernel)) (by decide +kernel) PySem.F.entry_bexc_str (inst_of X ho hc hs) (PySem.F.args_bexc_str _) (bexcStr_own ho hd h0 hto htd ⟨_, rfl, hq⟩)
  unfold Builtin.Str.strOf
  repeat (first | with_reducible refine wpAny_cRoomFor hu ?_ | with_reducible refine special_own X ho hc hf PySem.F.excStr_Exception.str.bind (hcall ?_) | wp_step)
  exact hq

theorem str_own (hu : A.units + 2 < cLine) {o ot : Obj} {vs : Array Value} {k : Nat} {m : Str} {tk : Tok} {Q : Value → Shared → Prop} (X : K.In s.heap) (ho : s.heap.get? e = some o) (hc : o.cls = .ref C) (hd : o.data = .fields vs) (h0 : vs[0]? = some (.ref t0))
    (hto : s.heap.get? t0 = some ot) (htd : ot.data = .seq [.str m tk].toArray k) (hf : findIn K (.ref C) "__str__" = some (some (.builtin "BaseException.__str__"))) (hs : subIn K (.ref C) (.type "BaseException") = some true) (hq : Q (.str m tk) s) :
    wpAny (model prog w) A (call (.type "str") [.ref e]) Q E s :=
  callType_new PySem.F.called_str (by decide) (PySem.F.typeCall_str_1 _) (PySem.F.newCall_str_1 _) (fun obj => PySem.F.args_object_init_2 obj _) PySem.F.entry_str_new
    (meets_str_new (S := fun A' R s' => A'.units + 1 < cLine ∧ s' = s ∧ R (.ok (.ret (.str m tk))) s')
      fun _ _ A' _ _ hq => by obtain ⟨h1, rfl, h3⟩ := hq; exact strOf_own (A := A'.in1) h1 X ho hc hd h0 hto htd hf hs h3)
    ⟨(show A.units + 1 + 1 < cLine from hu), rfl, typeIs_str _ _ _, hq⟩

theorem str_got {h₀ : Heap} {L : Addr} {news : List (Addr × Obj)} (hu : A.units + 2 < cLine) {m : Str} {tk : Tok} {Q : Value → Shared → Prop} (X : K.In h₀) (hk : ∀ b o, h₀.get? b = some o → s.heap.get? b = some o) (N : News h₀ L s.heap news) (G : Got news e t0 (.ref C) [.str m tk])
    (hf : findIn K (.ref C) "__str__" = some (some (.builtin "BaseException.__str__"))) (hs : subIn K (.ref C) (.type "BaseException") = some true) (hq : Q (.str m tk) s) : wpAny (model prog w) A (call (.type "str") [.ref e]) Q E s := by
  obtain ⟨oe, ot, ws, nt, h1, h2, h3, h4, h5, h6, h7⟩ := G
  exact str_own hu (X.keeps hk) (N _ h1).1 h3 h4 h5 (N _ h2).1 h7 hf hs hq
end
end
section
section
variable {w : World} {mean : ExcName → Option Value} {mg mb : Str → Option Value} {dp un : Nat} {gd : Option (List Code)} {cn : Str} {cs : Scope} {L a : Addr} {ccd : Value} {cl : List (Str × Addr)} {outer : List Env} {A₀ : Around} {base h₀ : Heap} {m : Str → Option Value} {news : List (Addr × Obj)} {s : Shared} {Q E : Value → Shared → Prop}

local macro_rules | `(tactic| walk_at "call type:str") => `(tactic| (k_here; (rename Got _ _ _ _ _ => gX); (with_reducible show wpAny _ _ (call (Value.type "str") [Value.ref _]) _ _ _); k_dflt (refine' str_got ?u ?X ?k ?N gX ?f ?s ?_; (case u => (simp only [units_in1, units_deeper, Around.mark_units, units_caller]; decide)); (case X => k_asm); (case k => exact Fr.keep (by k_asm)); (case N => k_asm); (case f | s => k_is))))
set_option maxHeartbeats 4000000 in
theorem refused_ok (B : Below A₀ h₀ [] h₀) (F : Fr h₀ L s.heap m) (X : (Mine.hd.heap_1 w.params).In h₀) (N : News h₀ L s.heap news) (T : Top pz lz mean mg mb h₀) (hk : cs.kind = .function)
    {t1 : Tok} {x : Str}
    (hx : x.length ≤ 1000) (h3 : (Txt.slice x none (some 3) != Str.ofString "257") = true)
    (ret : ∀ h' tk', Fr h₀ L h' m → News h₀ L h' news → Q (.bool true) { s with heap := h', toks := tk' }) :
    wpAny (model PySem.Challenge.rw_xh0019_01.row.prog w) (callerA.deeper (envX cn cs L a ccd cl)) (call (.ref 222) [.str x t1]) Q E s := by
  walk_at "mine enterT"
  k_steps
  all_goals (rw [beq_self_eq_true]; exact ret _ _ (by assumption) (by assumption))
end
end
section
local macro_rules | `(tactic| walk_at "mine pad") => `(tactic| skip)
local macro_rules | `(tactic| walk_at "mine pad") => `(tactic| skip)
section
variable {prog : Program} {w : World} {A : Around} {E : Value → Shared → Prop} {s : Shared} {h₀ : Heap} {L l : Addr} {news : List (Addr × Obj)}
theorem item_N {value slice : PySem.Expr} {vs : Array Value} {n : Nat} {k : Int} {u : Tok} {v : Value} {Q : Value → Shared → Prop} (N : News h₀ L s.heap news) (hm : (l, listOf vs n) ∈ news) (h0 : 0 ≤ k) (hhi : k < 2 ^ 63) (hx : vs[k.toNat]? = some v) (h : Q v s)
    (hs : subscripted slice false (.ref l) (.int k u) = operate [.ref l, .int k u] (getItem (.ref l) (.int k u)) := by with_unfolding_all rfl) : wpAny (model prog w) A (subscriptTail value slice (.ref l) (.int k u)) Q E s :=
  have hl : s.heap.IsList l vs := ⟨_, (N _ hm).1, rfl, n, rfl⟩
  tail_any hl.typeIs slot_list_getitem.lookup (wpAny_getItem_list hl h0 hhi hx h) hs
end
section
variable {w : World} {mean : ExcName → Option Value} {mg mb : Str → Option Value} {dp un : Nat} {gd : Option (List Code)} {cn : Str} {cs : Scope} {L a : Addr} {ccd : Value} {cl : List (Str × Addr)} {outer : List Env} {A₀ : Around} {base h₀ : Heap} {m : Str → Option Value} {news : List (Addr × Obj)} {s : Shared} {Q E : Value → Shared → Prop}

local macro_rules | `(tactic| walk_at "subscriptTail") => `(tactic| (k_here; (with_reducible show wpAny _ _ (subscriptTail _ _ (Value.ref _) (Value.int _ _)) _ _ _); k_dflt (refine' item_N ?N ?m ?a ?b ?x ?_; (case N => k_asm); (case m => k_mem); (case a | b => first | decide | omega); (case x => first | assumption | rfl); k_whole)))
set_option maxHeartbeats 4000000 in
theorem word_ok (B : Below A₀ base outer h₀) (F : Fr h₀ L s.heap m) (X : (Mine.hd.heap_1 w.params).In h₀) (N : News h₀ L s.heap news) (T : Top pz lz mean mg mb h₀) (hk : cs.kind = .function)
    (hd : dp + 10 < recursionLimit) (hu : un + 50 < cLine) {ea : Addr} {v0 v2 v3 : Value} {x : Str} {t1 : Tok} {n : Nat}
    (he : (ea, listOf #[v0, .str x t1, v2, v3] n) ∈ news)
    (ret : ∀ h' tk', Fr h₀ L h' m → News h₀ L h' news → Q (.str x t1) { s with heap := h', toks := tk' }) :
    wpAny (model PySem.Challenge.rw_xh0019_01.row.prog w) (ktrTop dp un gd cn cs L a ccd cl outer) (call (.ref 201) [.ref ea]) Q E s := by
  walk_at "mine enter"
  k_steps
  all_goals (refine ret _ _ ?_ ?_ <;> assumption)
end
end
section
def pstep (f ad : Int) (x : Str × Int × Int) : Str × Int × Int :=
  if x.2.2.fmod 2 = 0 then (x.1 ++ Str.ofString " ", x.2.1, x.2.2.fdiv 2) else (x.1 ++ Str.ofString "\to", x.2.1 + 1, (f * x.2.2 + ad).fdiv 2)
def prun (f ad r : Int) : Nat → Str × Int × Int
  | 0 => (Str.ofString "", 0, r)
  | i + 1 => pstep f ad (prun f ad r i)
section
variable {w : World} {mean : ExcName → Option Value} {mg mb : Str → Option Value} {dp un : Nat} {gd : Option (List Code)} {cn : Str} {cs : Scope} {L a : Addr} {ccd : Value} {cl : List (Str × Addr)} {outer : List Env} {A₀ : Around} {base h₀ : Heap} {m : Str → Option Value} {news : List (Addr × Obj)} {s : Shared} {Q E : Value → Shared → Prop}

set_option maxHeartbeats 4000000 in
theorem plain_ok (B : Below A₀ base outer h₀) (F : Fr h₀ L s.heap m) (X : (Mine.hd.heap_1 w.params).In h₀) (N : News h₀ L s.heap news) (T : Top pz lz mean mg mb h₀) (hk : cs.kind = .function)
    (hd : dp + 10 < recursionLimit) (hu : un + 50 < cLine) {r k f ad : Int} {t1 t2 t3 t4 : Tok} (n : Nat) (hkn : k = n) (hn : n ≤ 3) (hf : 1 ≤ f ∧ f ≤ 3) (ha : -1 ≤ ad ∧ ad ≤ 5)
    (hb : ∀ i, i ≤ n → -1000 ≤ (prun f ad r i).2.2 ∧ (prun f ad r i).2.2 ≤ 1000 ∧ (prun f ad r i).1.length ≤ 100 ∧ 0 ≤ (prun f ad r i).2.1 ∧ (prun f ad r i).2.1 ≤ 100)
    (ret : ∀ h' tk' l t t' t'', Fr h₀ L h' m → News h₀ L h' ((l, listOf #[.str (prun f ad r n).1 t, .int (prun f ad r n).2.1 t', .int (prun f ad r n).2.2 t''] 0) :: news) → (∀ p ∈ news, p.1 < l) → Q (.ref l) { s with heap := h', toks := tk' }) :
    wpAny (model PySem.Challenge.rw_xh0019_01.row.prog w) (ktrTop dp un gd cn cs L a ccd cl outer) (call (.ref 208) [.int r t1, .int k t2, .int f t3, .int ad t4]) Q E s := by
  walk_at "mine enter"
  k_steps
  refine ⟨?_⟩
  subst hkn
  refine' range_loop (n := n) (fun i m₁ ns g => ns = news ∧ g = s.gens ∧ ∃ t t' t'', m₁ (Str.ofString "word") = some (.str (prun f ad r i).1 t) ∧ m₁ (Str.ofString "odds") = some (.int (prun f ad r i).2.1 t') ∧ m₁ (Str.ofString "reached") = some (.int (prun f ad r i).2.2 t'') ∧ m₁ (Str.ofString "factor") = some (.int f t3) ∧ m₁ (Str.ofString "addend") = some (.int ad t4)) rfl (by assumption) ?sm ?sz rfl rfl ?hE ?F ?N ?hj ?_ ?_
  case F => k_asm
  case N => k_asm
  case hE => first | passes_own | walk1
  case hj => exact ⟨rfl, rfl, _, _, _, rfl, rfl, rfl, rfl, rfl⟩
  case sm => exact rng_small (by omega) (by omega)
  case sz => exact rng_size (by omega)
  · rintro i it m₁ ns h g tk t hi ⟨rfl, rfl, u, u', u'', e1, e2, e3, e4, e5⟩ hne F₁ N₁
    have F₂ := Fr.ovP [(Str.ofString "word", _), (Str.ofString "odds", _), (Str.ofString "reached", _), (Str.ofString "factor", _), (Str.ofString "addend", _)] F₁ ⟨e1, e2, e3, e4, e5, trivial⟩
    clear F₁ e1 e2 e3 e4 e5
    obtain ⟨b1, b2, b3, b4, b5⟩ := hb i (by omega)
    have hs : prun f ad r (i + 1) = pstep f ad (prun f ad r i) := rfl
    generalize hp : prun f ad r i = p at *
    obtain ⟨wd, od, re⟩ := p
    dsimp only at *
    k_steps
    · rename Int.fmod _ _ = 0 => hc
      rw [pstep, if_pos hc] at hs
      refine LpStep.go (by assumption) (by assumption) hne ?_
      dsimp only
      rw [hs]
      exact ⟨rfl, rfl, _, _, _, rfl, rfl, rfl, rfl, rfl⟩
    · rename Int.fmod _ _ ≠ 0 => hc
      rw [pstep, if_neg hc] at hs
      refine LpStep.go (by assumption) (by assumption) hne ?_
      dsimp only
      rw [hs]
      exact ⟨rfl, rfl, _, _, _, rfl, rfl, rfl, rfl, rfl⟩
  · rintro m₁ ns h g tk ⟨rfl, rfl, u, u', u'', e1, e2, e3, e4, e5⟩ F₁ N₁
    have F₂ := Fr.ovP [(Str.ofString "word", _), (Str.ofString "odds", _), (Str.ofString "reached", _), (Str.ofString "factor", _), (Str.ofString "addend", _)] F₁ ⟨e1, e2, e3, e4, e5, trivial⟩
    clear F₁ e1 e2 e3 e4 e5
    k_steps
    exact ret _ _ _ _ _ _ (by assumption) (by assumption) (by assumption)
end
end
section
local macro_rules | `(tactic| walk_at "mine pad") => `(tactic| skip)
section
variable {prog : Program} {w : World} {A : Around} {E : Value → Shared → Prop} {s : Shared} {h₀ : Heap} {L l : Addr} {news : List (Addr × Obj)}
theorem len_N {vs : Array Value} {n k : Nat} {Q : Value → Shared → Prop} (N : News h₀ L s.heap news) (hm : (l, listOf vs n) ∈ news) (hk : vs.size = k) (hfit : k ≤ 1000) (h : Q (.int (k : Int) (s.toks + 1)) { s with toks := s.toks + 1 + 1 }) : wpAny (model prog w) A (call (.builtin "len") [.ref l]) Q E s :=
  have hl : s.heap.IsList l vs := ⟨_, (N _ hm).1, rfl, n, rfl⟩
  call_len_list hl (by omega) (by rw [hk]; exact h)
/-- the entries of a row and their words -/
def Row (news : List (Addr × Obj)) (vs : Array Value) (ws : List Str) : Prop :=
  vs.size = ws.length ∧ ∀ i, (h : i < ws.length) → ∃ e v0 t v2 v3 n, vs[i]? = some (.ref e) ∧ (e, listOf #[v0, .str ws[i] t, v2, v3] n) ∈ news
/-- a row of texts -/
def RowS (vs : Array Value) (ws : List Str) : Prop := vs.size = ws.length ∧ ∀ i, (h : i < ws.length) → ∃ t, vs[i]? = some (.str ws[i] t)
theorem item_rowS {value slice : PySem.Expr} {vs : Array Value} {n : Nat} {ws : List Str} {k : Int} {u : Tok} {Q : Value → Shared → Prop} (N : News h₀ L s.heap news) (hm : (l, listOf vs n) ∈ news) (hr : RowS vs ws) (h0 : 0 ≤ k) (hk : k < ws.length) (hz : ws.length ≤ 1000)
    (h : ∀ t i, (hi : i < ws.length) → k = (i : Nat) → Q (.str ws[i] t) s)
    (hs : subscripted slice false (.ref l) (.int k u) = operate [.ref l, .int k u] (getItem (.ref l) (.int k u)) := by with_unfolding_all rfl) : wpAny (model prog w) A (subscriptTail value slice (.ref l) (.int k u)) Q E s := by
  obtain ⟨t, hx⟩ := hr.2 k.toNat (by omega)
  exact item_N N hm h0 (by omega) hx (h t k.toNat (by omega) (by omega)) hs
theorem mid_is (l h : Nat) (hlt : l < h) : ∃ md : Nat, ((l : Int) + (h : Int)).fdiv 2 = (md : Int) ∧ l ≤ md ∧ md < h := by
  refine ⟨(l + h) / 2, ?_, by omega, by omega⟩
  rw [Int.fdiv_eq_ediv_of_nonneg _ (by decide)]
  omega
theorem item_row {value slice : PySem.Expr} {vs : Array Value} {n : Nat} {ws : List Str} {k : Int} {u : Tok} {Q : Value → Shared → Prop} (N : News h₀ L s.heap news) (hm : (l, listOf vs n) ∈ news) (hr : Row news vs ws) (h0 : 0 ≤ k) (hk : k < ws.length) (hz : ws.length ≤ 1000)
    (h : ∀ e v0 t v2 v3 n i, (hi : i < ws.length) → k = (i : Nat) → (e, listOf #[v0, .str ws[i] t, v2, v3] n) ∈ news → Q (.ref e) s)
    (hs : subscripted slice false (.ref l) (.int k u) = operate [.ref l, .int k u] (getItem (.ref l) (.int k u)) := by with_unfolding_all rfl) : wpAny (model prog w) A (subscriptTail value slice (.ref l) (.int k u)) Q E s := by
  obtain ⟨e, v0, t, v2, v3, n', hx, hn⟩ := hr.2 k.toNat (by omega)
  exact item_N N hm h0 (by omega) hx (h e v0 t v2 v3 n' k.toNat (by omega) (by omega) hn) hs
end
section
variable {w : World} {mean : ExcName → Option Value} {mg mb : Str → Option Value} {dp un : Nat} {gd : Option (List Code)} {cn : Str} {cs : Scope} {L a : Addr} {ccd : Value} {cl : List (Str × Addr)} {outer : List Env} {A₀ : Around} {base h₀ : Heap} {m : Str → Option Value} {news : List (Addr × Obj)} {s : Shared} {Q E : Value → Shared → Prop}


local macro_rules | `(tactic| walk_at "call builtin:len") => `(tactic| (k_here; (with_reducible show wpAny _ _ (call (Value.builtin "len") [Value.ref _]) _ _ _); k_dflt (refine' len_N ?N ?m ?k ?f ?_; (case N => k_asm); (case m => k_mem); (case k => assumption); (case f => omega); k_whole)))
local macro_rules | `(tactic| walk_at "subscriptTail") => `(tactic| (k_here; (with_reducible show wpAny _ _ (subscriptTail _ _ (Value.ref _) (Value.int _ _)) _ _ _); k_dflt (refine' item_row ?N ?m ?r ?a ?b ?z ?_; (case N => k_asm); (case m => k_mem); (case r => assumption); (case a | b | z => omega); k_whole); intro e' v0' t' v2' v3' n' i' hi' hk' hm'))
local macro_rules | `(tactic| walk_at "subscriptTail") => `(tactic| (k_here; (with_reducible show wpAny _ _ (subscriptTail _ _ (Value.ref _) (Value.int _ _)) _ _ _); k_dflt (refine' item_rowS ?N ?m ?r ?a ?b ?z ?_; (case N => k_asm); (case m => k_mem); (case r => assumption); (case a | b | z => omega); k_whole); intro t' i' hi' hk'))
local macro_rules | `(tactic| walk_at "call ref") => `(tactic| (k_here; k_dflt (refine' word_ok ?B ?F ?X ?N ?T ?hk ?hd ?hu ?he ?_; walk_at "mine std"; (case he => k_mem); k_whole); intro h' tk' F' N'))

set_option maxHeartbeats 4000000 in
theorem bisR_key (B : Below A₀ base outer h₀) (F : Fr h₀ L s.heap m) (X : (Mine.hd.heap_1 w.params).In h₀) (N : News h₀ L s.heap news) (T : Top pz lz mean mg mb h₀) (hk : cs.kind = .function)
    (hd : dp + 20 < recursionLimit) (hu : un + 100 < cLine) {la : Addr} {vs : Array Value} {n : Nat} {ws : List Str} {x : Str} {t1 : Tok}
    (hl : (la, listOf vs n) ∈ news) (hr : Row news vs ws) (hz : ws.length ≤ 100)
    (b : Nat → Bool) (hm : ∀ i j, i ≤ j → j < ws.length → b j = true → b i = true) (hbv : ∀ i, (h : i < ws.length) → (b i = true ↔ ¬ (x.cps.toList < ws[i].cps.toList)))
    (ret : ∀ h' tk' tk p, p ≤ ws.length → (∀ i, i < p → b i = true) → (∀ i, p ≤ i → i < ws.length → b i = false) → Fr h₀ L h' m → News h₀ L h' news → Q (.int ((p : Nat) : Int) tk) { s with heap := h', toks := tk' }) :
    wpAny (model PySem.Challenge.rw_xh0019_01.row.prog w) (ktrTop dp un gd cn cs L a ccd cl outer) (call (.ref 71) [.ref la, .str x t1] [(Str.ofString "key", .ref 201)]) Q E s := by
  walk_at "mine enter"
  have hlen := hr.1
  k_steps
  refine ⟨?_⟩
  refine' while_K (fun n m₁ ns => ns = news ∧ ∃ l h t t', m₁ (Str.ofString "lo") = some (.int ((l : Nat) : Int) t) ∧ m₁ (Str.ofString "hi") = some (.int ((h : Nat) : Int) t') ∧ m₁ (Str.ofString "a") = some (.ref la) ∧ m₁ (Str.ofString "x") = some (.str x t1) ∧ m₁ (Str.ofString "key") = some (.ref 201) ∧ n = h - l ∧ l ≤ h ∧ h ≤ ws.length ∧ (∀ i, i < l → b i = true) ∧ (∀ i, h ≤ i → i < ws.length → b i = false)) ws.length ?F ?N ?hE ?hJ ?_
  case F => k_asm
  case N => k_asm
  case hE => first | passes_own | walk1
  case hJ => exact ⟨rfl, 0, ws.length, _, _, rfl, rfl, rfl, rfl, rfl, rfl, Nat.zero_le _, Nat.le_refl _, fun _ h => absurd h (Nat.not_lt_zero _), fun _ h1 h2 => absurd h2 (Nat.not_lt.mpr h1)⟩
  rintro n h tk m₁ news₁ F₁ N₁ ⟨rfl, l, hh, t, t', e1, e2, e3, e4, e5, hn, hlh, hhz, hlo, hhi⟩
  have F₂ := Fr.ov [(Str.ofString "lo", _), (Str.ofString "hi", _), (Str.ofString "a", _), (Str.ofString "x", _), (Str.ofString "key", _)] F₁ (all_c e1 (all_c e2 (all_c e3 (all_c e4 (all_c e5 all_n)))))
  clear F₁ e1 e2 e3 e4 e5
  k_steps
  refine whl_split (fun hb => ?_) (fun hb => ?_)
  · have hb' := of_decide_eq_true hb
    clear hb
    obtain ⟨md, hmd, hm1, hm2⟩ := mid_is l hh (by omega)
    k_steps
    · rename (_ : List Nat) < _ => hc
      have hf : b md = false := by
        cases hz9 : b md with
        | false => rfl
        | true => exact absurd ((hbv md (by omega)).mp hz9) (by (rename Int.fdiv _ _ = ((_ : Nat) : Int) => hk9); (have e9 := Int.ofNat.inj (hk9.symm.trans hmd)); subst e9; first | exact hc | exact fun z => z hc)
      exact WhStepK.go (by assumption) (by assumption) ⟨md - l, by omega, rfl, l, md, _, _, rfl, congrArg (fun z => some (Value.int z _)) hmd, rfl, rfl, rfl, rfl, hm1, by omega, hlo, fun i h1 h2 => by
        cases hz9 : b i with
        | false => rfl
        | true => have := hm md i h1 h2 hz9; rw [hf] at this; cases this⟩
    · rename ¬ (_ : List Nat) < _ => hc
      have hf : b md = true := (hbv md (by omega)).mpr (by (rename Int.fdiv _ _ = ((_ : Nat) : Int) => hk9); (have e9 := Int.ofNat.inj (hk9.symm.trans hmd)); subst e9; exact hc)
      exact WhStepK.go (by assumption) (by assumption) ⟨hh - (md + 1), by omega, rfl, md + 1, hh, _, _, congrArg (fun z => some (Value.int (z + 1) _)) hmd, rfl, rfl, rfl, rfl, rfl, by omega, hhz, fun i h1 => hm i md (by omega) (by omega) hf, hhi⟩
  · have hb' := of_decide_eq_false hb
    clear hb
    have e0 : l = hh := by omega
    subst e0
    k_steps
    exact ret _ _ _ l hhz hlo hhi (by assumption) (by assumption)

set_option maxHeartbeats 4000000 in
theorem bisR_key4 (B : Below A₀ base outer h₀) (F : Fr h₀ L s.heap m) (X : (Mine.hd.heap_1 w.params).In h₀) (N : News h₀ L s.heap news) (T : Top pz lz mean mg mb h₀) (hk : cs.kind = .function)
    (hd : dp + 20 < recursionLimit) (hu : un + 100 < cLine) {la : Addr} {vs : Array Value} {n : Nat} {ws : List Str} {x : Str} {t1 t5 : Tok}
    (hl : (la, listOf vs n) ∈ news) (hr : Row news vs ws) (hz : ws.length ≤ 100)
    (b : Nat → Bool) (hm : ∀ i j, i ≤ j → j < ws.length → b j = true → b i = true) (hbv : ∀ i, (h : i < ws.length) → (b i = true ↔ ¬ (x.cps.toList < ws[i].cps.toList)))
    (ret : ∀ h' tk' tk p, p ≤ ws.length → (∀ i, i < p → b i = true) → (∀ i, p ≤ i → i < ws.length → b i = false) → Fr h₀ L h' m → News h₀ L h' news → Q (.int ((p : Nat) : Int) tk) { s with heap := h', toks := tk' }) :
    wpAny (model PySem.Challenge.rw_xh0019_01.row.prog w) (ktrTop dp un gd cn cs L a ccd cl outer) (call (.ref 71) [.ref la, .str x t1, .int 0 t5, .none] [(Str.ofString "key", .ref 201)]) Q E s := by
  walk_at "mine enter"
  have hlen := hr.1
  k_steps
  refine ⟨?_⟩
  refine' while_K (fun n m₁ ns => ns = news ∧ ∃ l h t t', m₁ (Str.ofString "lo") = some (.int ((l : Nat) : Int) t) ∧ m₁ (Str.ofString "hi") = some (.int ((h : Nat) : Int) t') ∧ m₁ (Str.ofString "a") = some (.ref la) ∧ m₁ (Str.ofString "x") = some (.str x t1) ∧ m₁ (Str.ofString "key") = some (.ref 201) ∧ n = h - l ∧ l ≤ h ∧ h ≤ ws.length ∧ (∀ i, i < l → b i = true) ∧ (∀ i, h ≤ i → i < ws.length → b i = false)) ws.length ?F ?N ?hE ?hJ ?_
  case F => k_asm
  case N => k_asm
  case hE => first | passes_own | walk1
  case hJ => exact ⟨rfl, 0, ws.length, _, _, rfl, rfl, rfl, rfl, rfl, rfl, Nat.zero_le _, Nat.le_refl _, fun _ h => absurd h (Nat.not_lt_zero _), fun _ h1 h2 => absurd h2 (Nat.not_lt.mpr h1)⟩
  rintro n h tk m₁ news₁ F₁ N₁ ⟨rfl, l, hh, t, t', e1, e2, e3, e4, e5, hn, hlh, hhz, hlo, hhi⟩
  have F₂ := Fr.ov [(Str.ofString "lo", _), (Str.ofString "hi", _), (Str.ofString "a", _), (Str.ofString "x", _), (Str.ofString "key", _)] F₁ (all_c e1 (all_c e2 (all_c e3 (all_c e4 (all_c e5 all_n)))))
  clear F₁ e1 e2 e3 e4 e5
  k_steps
  refine whl_split (fun hb => ?_) (fun hb => ?_)
  · have hb' := of_decide_eq_true hb
    clear hb
    obtain ⟨md, hmd, hm1, hm2⟩ := mid_is l hh (by omega)
    k_steps
    · rename (_ : List Nat) < _ => hc
      have hf : b md = false := by
        cases hz9 : b md with
        | false => rfl
        | true => exact absurd ((hbv md (by omega)).mp hz9) (by (rename Int.fdiv _ _ = ((_ : Nat) : Int) => hk9); (have e9 := Int.ofNat.inj (hk9.symm.trans hmd)); subst e9; first | exact hc | exact fun z => z hc)
      exact WhStepK.go (by assumption) (by assumption) ⟨md - l, by omega, rfl, l, md, _, _, rfl, congrArg (fun z => some (Value.int z _)) hmd, rfl, rfl, rfl, rfl, hm1, by omega, hlo, fun i h1 h2 => by
        cases hz9 : b i with
        | false => rfl
        | true => have := hm md i h1 h2 hz9; rw [hf] at this; cases this⟩
    · rename ¬ (_ : List Nat) < _ => hc
      have hf : b md = true := (hbv md (by omega)).mpr (by (rename Int.fdiv _ _ = ((_ : Nat) : Int) => hk9); (have e9 := Int.ofNat.inj (hk9.symm.trans hmd)); subst e9; exact hc)
      exact WhStepK.go (by assumption) (by assumption) ⟨hh - (md + 1), by omega, rfl, md + 1, hh, _, _, congrArg (fun z => some (Value.int (z + 1) _)) hmd, rfl, rfl, rfl, rfl, rfl, by omega, hhz, fun i h1 => hm i md (by omega) (by omega) hf, hhi⟩
  · have hb' := of_decide_eq_false hb
    clear hb
    have e0 : l = hh := by omega
    subst e0
    k_steps
    exact ret _ _ _ l hhz hlo hhi (by assumption) (by assumption)

set_option maxHeartbeats 4000000 in
theorem bisL_key (B : Below A₀ base outer h₀) (F : Fr h₀ L s.heap m) (X : (Mine.hd.heap_1 w.params).In h₀) (N : News h₀ L s.heap news) (T : Top pz lz mean mg mb h₀) (hk : cs.kind = .function)
    (hd : dp + 20 < recursionLimit) (hu : un + 100 < cLine) {la : Addr} {vs : Array Value} {n : Nat} {ws : List Str} {x : Str} {t1 : Tok}
    (hl : (la, listOf vs n) ∈ news) (hr : Row news vs ws) (hz : ws.length ≤ 100)
    (b : Nat → Bool) (hm : ∀ i j, i ≤ j → j < ws.length → b j = true → b i = true) (hbv : ∀ i, (h : i < ws.length) → (b i = true ↔ ws[i].cps.toList < x.cps.toList))
    (ret : ∀ h' tk' tk p, p ≤ ws.length → (∀ i, i < p → b i = true) → (∀ i, p ≤ i → i < ws.length → b i = false) → Fr h₀ L h' m → News h₀ L h' news → Q (.int ((p : Nat) : Int) tk) { s with heap := h', toks := tk' }) :
    wpAny (model PySem.Challenge.rw_xh0019_01.row.prog w) (ktrTop dp un gd cn cs L a ccd cl outer) (call (.ref 89) [.ref la, .str x t1] [(Str.ofString "key", .ref 201)]) Q E s := by
  walk_at "mine enter"
  have hlen := hr.1
  k_steps
  refine ⟨?_⟩
  refine' while_K (fun n m₁ ns => ns = news ∧ ∃ l h t t', m₁ (Str.ofString "lo") = some (.int ((l : Nat) : Int) t) ∧ m₁ (Str.ofString "hi") = some (.int ((h : Nat) : Int) t') ∧ m₁ (Str.ofString "a") = some (.ref la) ∧ m₁ (Str.ofString "x") = some (.str x t1) ∧ m₁ (Str.ofString "key") = some (.ref 201) ∧ n = h - l ∧ l ≤ h ∧ h ≤ ws.length ∧ (∀ i, i < l → b i = true) ∧ (∀ i, h ≤ i → i < ws.length → b i = false)) ws.length ?F ?N ?hE ?hJ ?_
  case F => k_asm
  case N => k_asm
  case hE => first | passes_own | walk1
  case hJ => exact ⟨rfl, 0, ws.length, _, _, rfl, rfl, rfl, rfl, rfl, rfl, Nat.zero_le _, Nat.le_refl _, fun _ h => absurd h (Nat.not_lt_zero _), fun _ h1 h2 => absurd h2 (Nat.not_lt.mpr h1)⟩
  rintro n h tk m₁ news₁ F₁ N₁ ⟨rfl, l, hh, t, t', e1, e2, e3, e4, e5, hn, hlh, hhz, hlo, hhi⟩
  have F₂ := Fr.ov [(Str.ofString "lo", _), (Str.ofString "hi", _), (Str.ofString "a", _), (Str.ofString "x", _), (Str.ofString "key", _)] F₁ (all_c e1 (all_c e2 (all_c e3 (all_c e4 (all_c e5 all_n)))))
  clear F₁ e1 e2 e3 e4 e5
  k_steps
  refine whl_split (fun hb => ?_) (fun hb => ?_)
  · have hb' := of_decide_eq_true hb
    clear hb
    obtain ⟨md, hmd, hm1, hm2⟩ := mid_is l hh (by omega)
    k_steps
    · rename (_ : List Nat) < _ => hc
      have hf : b md = true := (hbv md (by omega)).mpr (by (rename Int.fdiv _ _ = ((_ : Nat) : Int) => hk9); (have e9 := Int.ofNat.inj (hk9.symm.trans hmd)); subst e9; exact hc)
      exact WhStepK.go (by assumption) (by assumption) ⟨hh - (md + 1), by omega, rfl, md + 1, hh, _, _, congrArg (fun z => some (Value.int (z + 1) _)) hmd, rfl, rfl, rfl, rfl, rfl, by omega, hhz, fun i h1 => hm i md (by omega) (by omega) hf, hhi⟩
    · rename ¬ (_ : List Nat) < _ => hc
      have hf : b md = false := by
        cases hz9 : b md with
        | false => rfl
        | true => exact absurd ((hbv md (by omega)).mp hz9) (by (rename Int.fdiv _ _ = ((_ : Nat) : Int) => hk9); (have e9 := Int.ofNat.inj (hk9.symm.trans hmd)); subst e9; first | exact hc | exact fun z => z hc)
      exact WhStepK.go (by assumption) (by assumption) ⟨md - l, by omega, rfl, l, md, _, _, rfl, congrArg (fun z => some (Value.int z _)) hmd, rfl, rfl, rfl, rfl, hm1, by omega, hlo, fun i h1 h2 => by
        cases hz9 : b i with
        | false => rfl
        | true => have := hm md i h1 h2 hz9; rw [hf] at this; cases this⟩
  · have hb' := of_decide_eq_false hb
    clear hb
    have e0 : l = hh := by omega
    subst e0
    k_steps
    exact ret _ _ _ l hhz hlo hhi (by assumption) (by assumption)

set_option maxHeartbeats 4000000 in
theorem bisL_key4 (B : Below A₀ base outer h₀) (F : Fr h₀ L s.heap m) (X : (Mine.hd.heap_1 w.params).In h₀) (N : News h₀ L s.heap news) (T : Top pz lz mean mg mb h₀) (hk : cs.kind = .function)
    (hd : dp + 20 < recursionLimit) (hu : un + 100 < cLine) {la : Addr} {vs : Array Value} {n : Nat} {ws : List Str} {x : Str} {t1 t5 : Tok}
    (hl : (la, listOf vs n) ∈ news) (hr : Row news vs ws) (hz : ws.length ≤ 100)
    (b : Nat → Bool) (hm : ∀ i j, i ≤ j → j < ws.length → b j = true → b i = true) (hbv : ∀ i, (h : i < ws.length) → (b i = true ↔ ws[i].cps.toList < x.cps.toList))
    (ret : ∀ h' tk' tk p, p ≤ ws.length → (∀ i, i < p → b i = true) → (∀ i, p ≤ i → i < ws.length → b i = false) → Fr h₀ L h' m → News h₀ L h' news → Q (.int ((p : Nat) : Int) tk) { s with heap := h', toks := tk' }) :
    wpAny (model PySem.Challenge.rw_xh0019_01.row.prog w) (ktrTop dp un gd cn cs L a ccd cl outer) (call (.ref 89) [.ref la, .str x t1, .int 0 t5, .none] [(Str.ofString "key", .ref 201)]) Q E s := by
  walk_at "mine enter"
  have hlen := hr.1
  k_steps
  refine ⟨?_⟩
  refine' while_K (fun n m₁ ns => ns = news ∧ ∃ l h t t', m₁ (Str.ofString "lo") = some (.int ((l : Nat) : Int) t) ∧ m₁ (Str.ofString "hi") = some (.int ((h : Nat) : Int) t') ∧ m₁ (Str.ofString "a") = some (.ref la) ∧ m₁ (Str.ofString "x") = some (.str x t1) ∧ m₁ (Str.ofString "key") = some (.ref 201) ∧ n = h - l ∧ l ≤ h ∧ h ≤ ws.length ∧ (∀ i, i < l → b i = true) ∧ (∀ i, h ≤ i → i < ws.length → b i = false)) ws.length ?F ?N ?hE ?hJ ?_
  case F => k_asm
  case N => k_asm
  case hE => first | passes_own | walk1
  case hJ => exact ⟨rfl, 0, ws.length, _, _, rfl, rfl, rfl, rfl, rfl, rfl, Nat.zero_le _, Nat.le_refl _, fun _ h => absurd h (Nat.not_lt_zero _), fun _ h1 h2 => absurd h2 (Nat.not_lt.mpr h1)⟩
  rintro n h tk m₁ news₁ F₁ N₁ ⟨rfl, l, hh, t, t', e1, e2, e3, e4, e5, hn, hlh, hhz, hlo, hhi⟩
  have F₂ := Fr.ov [(Str.ofString "lo", _), (Str.ofString "hi", _), (Str.ofString "a", _), (Str.ofString "x", _), (Str.ofString "key", _)] F₁ (all_c e1 (all_c e2 (all_c e3 (all_c e4 (all_c e5 all_n)))))
  clear F₁ e1 e2 e3 e4 e5
  k_steps
  refine whl_split (fun hb => ?_) (fun hb => ?_)
  · have hb' := of_decide_eq_true hb
    clear hb
    obtain ⟨md, hmd, hm1, hm2⟩ := mid_is l hh (by omega)
    k_steps
    · rename (_ : List Nat) < _ => hc
      have hf : b md = true := (hbv md (by omega)).mpr (by (rename Int.fdiv _ _ = ((_ : Nat) : Int) => hk9); (have e9 := Int.ofNat.inj (hk9.symm.trans hmd)); subst e9; exact hc)
      exact WhStepK.go (by assumption) (by assumption) ⟨hh - (md + 1), by omega, rfl, md + 1, hh, _, _, congrArg (fun z => some (Value.int (z + 1) _)) hmd, rfl, rfl, rfl, rfl, rfl, by omega, hhz, fun i h1 => hm i md (by omega) (by omega) hf, hhi⟩
    · rename ¬ (_ : List Nat) < _ => hc
      have hf : b md = false := by
        cases hz9 : b md with
        | false => rfl
        | true => exact absurd ((hbv md (by omega)).mp hz9) (by (rename Int.fdiv _ _ = ((_ : Nat) : Int) => hk9); (have e9 := Int.ofNat.inj (hk9.symm.trans hmd)); subst e9; first | exact hc | exact fun z => z hc)
      exact WhStepK.go (by assumption) (by assumption) ⟨md - l, by omega, rfl, l, md, _, _, rfl, congrArg (fun z => some (Value.int z _)) hmd, rfl, rfl, rfl, rfl, hm1, by omega, hlo, fun i h1 h2 => by
        cases hz9 : b i with
        | false => rfl
        | true => have := hm md i h1 h2 hz9; rw [hf] at this; cases this⟩
  · have hb' := of_decide_eq_false hb
    clear hb
    have e0 : l = hh := by omega
    subst e0
    k_steps
    exact ret _ _ _ l hhz hlo hhi (by assumption) (by assumption)

set_option maxHeartbeats 4000000 in
theorem bisR_str (B : Below A₀ base outer h₀) (F : Fr h₀ L s.heap m) (X : (Mine.hd.heap_1 w.params).In h₀) (N : News h₀ L s.heap news) (T : Top pz lz mean mg mb h₀) (hk : cs.kind = .function)
    (hd : dp + 20 < recursionLimit) (hu : un + 100 < cLine) {la : Addr} {vs : Array Value} {n : Nat} {ws : List Str} {x : Str} {t1 : Tok}
    (hl : (la, listOf vs n) ∈ news) (hr : RowS vs ws) (hz : ws.length ≤ 100)
    (b : Nat → Bool) (hm : ∀ i j, i ≤ j → j < ws.length → b j = true → b i = true) (hbv : ∀ i, (h : i < ws.length) → (b i = true ↔ ¬ (x.cps.toList < ws[i].cps.toList)))
    (ret : ∀ h' tk' tk p, p ≤ ws.length → (∀ i, i < p → b i = true) → (∀ i, p ≤ i → i < ws.length → b i = false) → Fr h₀ L h' m → News h₀ L h' news → Q (.int ((p : Nat) : Int) tk) { s with heap := h', toks := tk' }) :
    wpAny (model PySem.Challenge.rw_xh0019_01.row.prog w) (ktrTop dp un gd cn cs L a ccd cl outer) (call (.ref 71) [.ref la, .str x t1]) Q E s := by
  walk_at "mine enter"
  have hlen := hr.1
  k_steps
  refine ⟨?_⟩
  refine' while_K (fun n m₁ ns => ns = news ∧ ∃ l h t t', m₁ (Str.ofString "lo") = some (.int ((l : Nat) : Int) t) ∧ m₁ (Str.ofString "hi") = some (.int ((h : Nat) : Int) t') ∧ m₁ (Str.ofString "a") = some (.ref la) ∧ m₁ (Str.ofString "x") = some (.str x t1) ∧ m₁ (Str.ofString "key") = some (.none) ∧ n = h - l ∧ l ≤ h ∧ h ≤ ws.length ∧ (∀ i, i < l → b i = true) ∧ (∀ i, h ≤ i → i < ws.length → b i = false)) ws.length ?F ?N ?hE ?hJ ?_
  case F => k_asm
  case N => k_asm
  case hE => first | passes_own | walk1
  case hJ => exact ⟨rfl, 0, ws.length, _, _, rfl, rfl, rfl, rfl, rfl, rfl, Nat.zero_le _, Nat.le_refl _, fun _ h => absurd h (Nat.not_lt_zero _), fun _ h1 h2 => absurd h2 (Nat.not_lt.mpr h1)⟩
  rintro n h tk m₁ news₁ F₁ N₁ ⟨rfl, l, hh, t, t', e1, e2, e3, e4, e5, hn, hlh, hhz, hlo, hhi⟩
  have F₂ := Fr.ov [(Str.ofString "lo", _), (Str.ofString "hi", _), (Str.ofString "a", _), (Str.ofString "x", _), (Str.ofString "key", _)] F₁ (all_c e1 (all_c e2 (all_c e3 (all_c e4 (all_c e5 all_n)))))
  clear F₁ e1 e2 e3 e4 e5
  k_steps
  refine whl_split (fun hb => ?_) (fun hb => ?_)
  · have hb' := of_decide_eq_true hb
    clear hb
    obtain ⟨md, hmd, hm1, hm2⟩ := mid_is l hh (by omega)
    k_steps
    · rename (_ : List Nat) < _ => hc
      have hf : b md = false := by
        cases hz9 : b md with
        | false => rfl
        | true => exact absurd ((hbv md (by omega)).mp hz9) (by (rename Int.fdiv _ _ = ((_ : Nat) : Int) => hk9); (have e9 := Int.ofNat.inj (hk9.symm.trans hmd)); subst e9; first | exact hc | exact fun z => z hc)
      exact WhStepK.go (by assumption) (by assumption) ⟨md - l, by omega, rfl, l, md, _, _, rfl, congrArg (fun z => some (Value.int z _)) hmd, rfl, rfl, rfl, rfl, hm1, by omega, hlo, fun i h1 h2 => by
        cases hz9 : b i with
        | false => rfl
        | true => have := hm md i h1 h2 hz9; rw [hf] at this; cases this⟩
    · rename ¬ (_ : List Nat) < _ => hc
      have hf : b md = true := (hbv md (by omega)).mpr (by (rename Int.fdiv _ _ = ((_ : Nat) : Int) => hk9); (have e9 := Int.ofNat.inj (hk9.symm.trans hmd)); subst e9; exact hc)
      exact WhStepK.go (by assumption) (by assumption) ⟨hh - (md + 1), by omega, rfl, md + 1, hh, _, _, congrArg (fun z => some (Value.int (z + 1) _)) hmd, rfl, rfl, rfl, rfl, rfl, by omega, hhz, fun i h1 => hm i md (by omega) (by omega) hf, hhi⟩
  · have hb' := of_decide_eq_false hb
    clear hb
    have e0 : l = hh := by omega
    subst e0
    k_steps
    exact ret _ _ _ l hhz hlo hhi (by assumption) (by assumption)

set_option maxHeartbeats 4000000 in
theorem bisL_str (B : Below A₀ base outer h₀) (F : Fr h₀ L s.heap m) (X : (Mine.hd.heap_1 w.params).In h₀) (N : News h₀ L s.heap news) (T : Top pz lz mean mg mb h₀) (hk : cs.kind = .function)
    (hd : dp + 20 < recursionLimit) (hu : un + 100 < cLine) {la : Addr} {vs : Array Value} {n : Nat} {ws : List Str} {x : Str} {t1 : Tok}
    (hl : (la, listOf vs n) ∈ news) (hr : RowS vs ws) (hz : ws.length ≤ 100)
    (b : Nat → Bool) (hm : ∀ i j, i ≤ j → j < ws.length → b j = true → b i = true) (hbv : ∀ i, (h : i < ws.length) → (b i = true ↔ ws[i].cps.toList < x.cps.toList))
    (ret : ∀ h' tk' tk p, p ≤ ws.length → (∀ i, i < p → b i = true) → (∀ i, p ≤ i → i < ws.length → b i = false) → Fr h₀ L h' m → News h₀ L h' news → Q (.int ((p : Nat) : Int) tk) { s with heap := h', toks := tk' }) :
    wpAny (model PySem.Challenge.rw_xh0019_01.row.prog w) (ktrTop dp un gd cn cs L a ccd cl outer) (call (.ref 89) [.ref la, .str x t1]) Q E s := by
  walk_at "mine enter"
  have hlen := hr.1
  k_steps
  refine ⟨?_⟩
  refine' while_K (fun n m₁ ns => ns = news ∧ ∃ l h t t', m₁ (Str.ofString "lo") = some (.int ((l : Nat) : Int) t) ∧ m₁ (Str.ofString "hi") = some (.int ((h : Nat) : Int) t') ∧ m₁ (Str.ofString "a") = some (.ref la) ∧ m₁ (Str.ofString "x") = some (.str x t1) ∧ m₁ (Str.ofString "key") = some (.none) ∧ n = h - l ∧ l ≤ h ∧ h ≤ ws.length ∧ (∀ i, i < l → b i = true) ∧ (∀ i, h ≤ i → i < ws.length → b i = false)) ws.length ?F ?N ?hE ?hJ ?_
  case F => k_asm
  case N => k_asm
  case hE => first | passes_own | walk1
  case hJ => exact ⟨rfl, 0, ws.length, _, _, rfl, rfl, rfl, rfl, rfl, rfl, Nat.zero_le _, Nat.le_refl _, fun _ h => absurd h (Nat.not_lt_zero _), fun _ h1 h2 => absurd h2 (Nat.not_lt.mpr h1)⟩
  rintro n h tk m₁ news₁ F₁ N₁ ⟨rfl, l, hh, t, t', e1, e2, e3, e4, e5, hn, hlh, hhz, hlo, hhi⟩
  have F₂ := Fr.ov [(Str.ofString "lo", _), (Str.ofString "hi", _), (Str.ofString "a", _), (Str.ofString "x", _), (Str.ofString "key", _)] F₁ (all_c e1 (all_c e2 (all_c e3 (all_c e4 (all_c e5 all_n)))))
  clear F₁ e1 e2 e3 e4 e5
  k_steps
  refine whl_split (fun hb => ?_) (fun hb => ?_)
  · have hb' := of_decide_eq_true hb
    clear hb
    obtain ⟨md, hmd, hm1, hm2⟩ := mid_is l hh (by omega)
    k_steps
    · rename (_ : List Nat) < _ => hc
      have hf : b md = true := (hbv md (by omega)).mpr (by (rename Int.fdiv _ _ = ((_ : Nat) : Int) => hk9); (have e9 := Int.ofNat.inj (hk9.symm.trans hmd)); subst e9; exact hc)
      exact WhStepK.go (by assumption) (by assumption) ⟨hh - (md + 1), by omega, rfl, md + 1, hh, _, _, congrArg (fun z => some (Value.int (z + 1) _)) hmd, rfl, rfl, rfl, rfl, rfl, by omega, hhz, fun i h1 => hm i md (by omega) (by omega) hf, hhi⟩
    · rename ¬ (_ : List Nat) < _ => hc
      have hf : b md = false := by
        cases hz9 : b md with
        | false => rfl
        | true => exact absurd ((hbv md (by omega)).mp hz9) (by (rename Int.fdiv _ _ = ((_ : Nat) : Int) => hk9); (have e9 := Int.ofNat.inj (hk9.symm.trans hmd)); subst e9; first | exact hc | exact fun z => z hc)
      exact WhStepK.go (by assumption) (by assumption) ⟨md - l, by omega, rfl, l, md, _, _, rfl, congrArg (fun z => some (Value.int z _)) hmd, rfl, rfl, rfl, rfl, hm1, by omega, hlo, fun i h1 h2 => by
        cases hz9 : b i with
        | false => rfl
        | true => have := hm md i h1 h2 hz9; rw [hf] at this; cases this⟩
  · have hb' := of_decide_eq_false hb
    clear hb
    have e0 : l = hh := by omega
    subst e0
    k_steps
    exact ret _ _ _ l hhz hlo hhi (by assumption) (by assumption)
end
end
section
theorem Row.mono {news news' : List (Addr × Obj)} {vs : Array Value} {ws : List Str} (r : Row news vs ws) (h : ∀ p ∈ news, p ∈ news') : Row news' vs ws :=
  ⟨r.1, fun i hi => let ⟨e, v0, t, v2, v3, n, a, b⟩ := r.2 i hi; ⟨e, v0, t, v2, v3, n, a, h _ b⟩⟩
section
variable {prog : Program} {w : World} {A : Around} {E : Value → Shared → Prop} {s : Shared} {h₀ : Heap} {L l : Addr} {m : Str → Option Value} {news : List (Addr × Obj)}
theorem ins_at (l : Addr) (its : Array Value) (n : Nat) (x : Int) (u : Tok) (y : Value) {Q : Value → Shared → Prop} (hfit : ¬(!Builtin.List.listFitsIndex x) = true) (hsz : its.size ≤ sizeLine)
    (hl : s.heap.get? l = some (listOf its n))
    (h9 : Q .none {s with heap := s.heap.update l (Obj.mapSeq fun xs => have k := if x < 0 then (x + ((xs.size : Nat) : Int)).toNat else min x.toNat xs.size; (xs.extract 0 k).push y ++ xs.extract k)}) : wpAny (model prog w) A (call (.builtin "list.insert") [.ref l, .int x u, y]) Q E s := by
  have hT : s.TypeIs (.ref l) "list" := ⟨_, hl, rfl⟩
  have M := @PySem.AutoListH.list_insert_list_int_val_1 l its n x u y hfit hsz
  exact call_meets PySem.F.slot_list_insert hT PySem.F.entry_list_insert (PySem.F.args_list_insert_3 _ _ _) M ⟨hl, h9⟩
theorem insert_N {vs : List Value} {n p : Nat} {u : Tok} {y : Value} {Q : Value → Shared → Prop} (F : Fr h₀ L s.heap m) (N : News h₀ L s.heap ((l, listOf vs.toArray n) :: news)) (hne : ∀ q ∈ news, q.1 ≠ l) (hp : p ≤ vs.length) (hz : vs.length ≤ 1000)
    (h : ∀ h' n', Fr h₀ L h' m → News h₀ L h' ((l, listOf (vs.take p ++ y :: vs.drop p).toArray n') :: news) → Q .none { s with heap := h' }) : wpAny (model prog w) A (call (.builtin "list.insert") [.ref l, .int ((p : Nat) : Int) u, y]) Q E s := by
  have hl := (N _ (.head _)).1
  have hT : s.TypeIs (.ref l) "list" := ⟨_, hl, rfl⟩
  have hfit : ¬(!Builtin.List.listFitsIndex ((p : Nat) : Int)) = true := by
    unfold Builtin.List.listFitsIndex
    simp only [Bool.not_eq_true', Bool.and_eq_false_iff, decide_eq_false_iff_not, not_or, Decidable.not_not]
    exact ⟨by omega, by omega⟩
  have hsz : vs.toArray.size ≤ sizeLine := by rw [List.size_toArray, sizeLine_eq]; omega
  have e : ∀ xs : Array Value, xs = vs.toArray → (have k := if ((p : Nat) : Int) < 0 then (((p : Nat) : Int) + ((xs.size : Nat) : Int)).toNat else min ((p : Nat) : Int).toNat xs.size; (xs.extract 0 k).push y ++ xs.extract k) = (vs.take p ++ y :: vs.drop p).toArray := by
    rintro xs rfl
    have e1 : (if ((p : Nat) : Int) < 0 then (((p : Nat) : Int) + ((vs.toArray.size : Nat) : Int)).toNat else min ((p : Nat) : Int).toNat vs.toArray.size) = p := by
      rw [if_neg (by omega), Int.toNat_natCast, List.size_toArray, Nat.min_eq_left hp]
    dsimp only
    rw [e1]
    apply Array.ext'
    simp [List.take_of_length_le]
  have e2 : Obj.mapSeq (fun xs => have k := if ((p : Nat) : Int) < 0 then (((p : Nat) : Int) + ((xs.size : Nat) : Int)).toNat else min ((p : Nat) : Int).toNat xs.size; (xs.extract 0 k).push y ++ xs.extract k) (listOf vs.toArray n) = listOf (vs.take p ++ y :: vs.drop p).toArray (n + 1) := by
    unfold Obj.mapSeq
    simp only [e _ rfl]
    have e3 : ((vs.take p ++ y :: vs.drop p).toArray.size == vs.toArray.size) = false := by
      simp only [List.size_toArray, List.length_append, List.length_cons, List.length_take, List.length_drop, beq_eq_false_iff_ne, ne_eq]
      omega
    rw [e3]
    rfl
  obtain ⟨F', N'⟩ := news_upd (pre := []) (post := news) F N (fun _ h => nomatch h) hne e2 rfl
  exact ins_at l vs.toArray n ((p : Nat) : Int) u y hfit hsz hl (h _ _ F' N')
end
section
variable {w : World} {mean : ExcName → Option Value} {mg mb : Str → Option Value} {dp un : Nat} {gd : Option (List Code)} {cn : Str} {cs : Scope} {L a : Addr} {ccd : Value} {cl : List (Str × Addr)} {outer : List Env} {A₀ : Around} {base h₀ : Heap} {m : Str → Option Value} {news : List (Addr × Obj)} {s : Shared} {Q E : Value → Shared → Prop}

local macro_rules | `(tactic| k_all) => `(tactic| assumption)
local macro_rules | `(tactic| walk_at "call ref") => `(tactic| (k_here; k_dflt (refine' word_ok ?B ?F ?X ?N ?T ?hk ?hd ?hu ?he ?_; walk_at "mine std"; (case he => k_mem); k_whole); intro h' tk' F' N'))
local macro_rules | `(tactic| walk_at "call ref") => `(tactic| (k_here; k_dflt (refine' bisR_key4 ?B ?F ?X ?N ?T ?hk ?hd ?hu ?hl ?hr ?hz ?b ?hm ?hbv ?_; walk_at "mine std"; (case hl => k_mem); (case hr | hz | hm | hbv => assumption); k_whole); intro h' tk' tk' p' hp1' hp2' hp3' F' N'))
local macro_rules | `(tactic| walk_at "call ref") => `(tactic| (k_here; k_dflt (refine' bisL_key4 ?B ?F ?X ?N ?T ?hk ?hd ?hu ?hl ?hr ?hz ?b ?hm ?hbv ?_; walk_at "mine std"; (case hl => k_mem); (case hr | hz | hm | hbv => assumption); k_whole); intro h' tk' tk' p' hp1' hp2' hp3' F' N'))
local macro_rules | `(tactic| walk_at "call builtin:list.insert") => `(tactic| (k_here; k_dflt (refine' insert_N ?F ?N ?ne ?p ?z ?_; (case F | N => k_asm); (case ne => assumption); (case p | z => omega); k_whole); intro h' n' F' N'))

set_option maxHeartbeats 4000000 in
theorem insR (B : Below A₀ base outer h₀) (F : Fr h₀ L s.heap m) (X : (Mine.hd.heap_1 w.params).In h₀) {la ea : Addr} {vs : List Value} {n n' : Nat} {v0 v2 v3 : Value} {x : Str} {t1 : Tok} (N : News h₀ L s.heap ((la, listOf vs.toArray n) :: news)) (T : Top pz lz mean mg mb h₀) (hk : cs.kind = .function)
    (hd : dp + 30 < recursionLimit) (hu : un + 150 < cLine) {ws : List Str} (hne : ∀ p ∈ news, p.1 ≠ la)
    (he : (ea, listOf #[v0, .str x t1, v2, v3] n') ∈ news) (hr : Row news vs.toArray ws) (hz : ws.length ≤ 100)
    (b : Nat → Bool) (hm : ∀ i j, i ≤ j → j < ws.length → b j = true → b i = true) (hbv : ∀ i, (h : i < ws.length) → (b i = true ↔ ¬ (x.cps.toList < ws[i].cps.toList)))
    (ret : ∀ h' tk' p n'', p ≤ ws.length → (∀ i, i < p → b i = true) → (∀ i, p ≤ i → i < ws.length → b i = false) → Fr h₀ L h' m → News h₀ L h' ((la, listOf (vs.take p ++ .ref ea :: vs.drop p).toArray n'') :: news) → Q .none { s with heap := h', toks := tk' }) :
    wpAny (model PySem.Challenge.rw_xh0019_01.row.prog w) (ktrTop dp un gd cn cs L a ccd cl outer) (call (.ref 62) [.ref la, .ref ea] [(Str.ofString "key", .ref 201)]) Q E s := by
  have hr' : Row ((la, listOf vs.toArray n) :: news) vs.toArray ws := hr.mono fun _ h => List.mem_cons_of_mem _ h
  have hlen : vs.length = ws.length := by simpa using hr.1
  walk_at "mine enter"
  k_steps
  exact ret _ _ _ _ (by assumption) (by assumption) (by assumption) (by assumption) (by assumption)

set_option maxHeartbeats 4000000 in
theorem insL (B : Below A₀ base outer h₀) (F : Fr h₀ L s.heap m) (X : (Mine.hd.heap_1 w.params).In h₀) {la ea : Addr} {vs : List Value} {n n' : Nat} {v0 v2 v3 : Value} {x : Str} {t1 : Tok} (N : News h₀ L s.heap ((la, listOf vs.toArray n) :: news)) (T : Top pz lz mean mg mb h₀) (hk : cs.kind = .function)
    (hd : dp + 30 < recursionLimit) (hu : un + 150 < cLine) {ws : List Str} (hne : ∀ p ∈ news, p.1 ≠ la)
    (he : (ea, listOf #[v0, .str x t1, v2, v3] n') ∈ news) (hr : Row news vs.toArray ws) (hz : ws.length ≤ 100)
    (b : Nat → Bool) (hm : ∀ i j, i ≤ j → j < ws.length → b j = true → b i = true) (hbv : ∀ i, (h : i < ws.length) → (b i = true ↔ ws[i].cps.toList < x.cps.toList))
    (ret : ∀ h' tk' p n'', p ≤ ws.length → (∀ i, i < p → b i = true) → (∀ i, p ≤ i → i < ws.length → b i = false) → Fr h₀ L h' m → News h₀ L h' ((la, listOf (vs.take p ++ .ref ea :: vs.drop p).toArray n'') :: news) → Q .none { s with heap := h', toks := tk' }) :
    wpAny (model PySem.Challenge.rw_xh0019_01.row.prog w) (ktrTop dp un gd cn cs L a ccd cl outer) (call (.ref 80) [.ref la, .ref ea] [(Str.ofString "key", .ref 201)]) Q E s := by
  have hr' : Row ((la, listOf vs.toArray n) :: news) vs.toArray ws := hr.mono fun _ h => List.mem_cons_of_mem _ h
  have hlen : vs.length = ws.length := by simpa using hr.1
  walk_at "mine enter"
  k_steps
  exact ret _ _ _ _ (by assumption) (by assumption) (by assumption) (by assumption) (by assumption)
end
end
section
abbrev pileOf (d : Addr) (vs : Array Value) (n : Nat) : Obj := { cls := .ref 169, dict := some d, data := .seq vs n, slots := #[] }
abbrev pileC (C d : Addr) : Obj := { cls := .ref C, dict := some d, data := .seq #[], slots := #[] }
def makesL (K : Frag) (C : Addr) : Bool := match K.lookup C with
  | some ⟨_, _, .cls cd, sl⟩ => !cd.abstract && !cd.hasDel && (sl.toList[4]?).join == some (.builtin "list.__new__") && !cd.mro.isEmpty && cd.mro.contains (.ref C) && cd.mro.contains (.type "list") &&
      specialIn K (.ref C) "__call__" == some (some (.builtin "type.__call__")) && instIn K (.ref C) (.type "type") == some true
  | _ => false
theorem list_new_kind : builtinKind "list.__new__" = some .builtinFn := by decide +kernel
theorem list_new_split : splitId "list.__new__" = some ("list", "__new__") := by decide +kernel
theorem list_new_quiet : "list.__new__".startsWith "lifetime." = false := by decide +kernel
theorem list_new_row : Manifest.signature? "list.__new__" = some { machinery := .any, full := "list", short := "list", receiver := .cls, params := [{ name := "args", kind := .varPos, required := false }, { name := "kwargs", kind := .varKw, required := false }] } := by kernel_rfl
structure MakesL (M : Model) (h : Heap) (C : Addr) : Prop where
  obj : ∃ oc od cd sl, h.get? C = some ⟨oc, od, .cls cd, sl⟩ ∧ cd.abstract = false ∧ cd.hasDel = false ∧ cd.mro.isEmpty = false
  made : Looks M h (Bind.madeBy (.ref C)) (some "list.__new__")
  base : Looks M h (Bind.staticBase (.ref C)) (.ref C)
  self : Looks M h (isSubtype (.ref C) (.ref C)) true
  top : Looks M h (isSubtype (.ref C) (.type "list")) true
  call : Looks M h (specialOf (.ref C) "__call__") (some (.builtin "type.__call__"))
  typ : Looks M h (isInstance (.ref C) (.type "type")) true
theorem makesL_of {K : Frag} {M : Model} {h : Heap} (X : K.In h) {C : Addr} (e : makesL K C = true) : MakesL M h C := by
  unfold makesL at e
  split at e
  · rename_i oc od cd sl ho
    simp only [Bool.and_eq_true, Bool.not_eq_true', beq_iff_eq] at e
    obtain ⟨⟨⟨⟨⟨⟨⟨e1, e2⟩, e3⟩, e4⟩, e5⟩, e6⟩, e7⟩, e8⟩ := e
    have hc : clsIn K C = some cd := by unfold clsIn; rw [ho]
    have hm : Looks M h (mroOf (.ref C)) cd.mro := (looks_clsIn X hc).andThen .now
    obtain ⟨c, l, hl⟩ : ∃ c l, cd.mro = c :: l := by cases q : cd.mro with | nil => rw [q] at e4; cases e4 | cons c l => exact ⟨c, l, rfl⟩
    have made : Looks M h (Bind.madeBy (.ref C)) (some "list.__new__") := by
      intro A Q E s k q
      unfold Bind.madeBy
      refine wpAny_bind (hm A _ E s k ?_)
      rw [hl, List.forIn_cons]
      refine wpAny_bind (wpAny_bind (wpAny_bind (wpAny_bind (wpAny_loadPart (k _ _ (X _ _ ho)) (wpAny_pure ?_)))))
      dsimp only
      rw [← Array.getElem?_toList, e3]
      exact wpAny_pure (wpAny_pure (wpAny_pure q))
    refine ⟨⟨oc, od, cd, sl, X _ _ ho, e1, e2, e4⟩, made, ?_, looks_mroIn X ?_, looks_mroIn X ?_, looks_specialIn X e7, looks_instIn X e8⟩
    · intro A Q E s k q
      unfold Bind.staticBase
      refine wpAny_bind (hm A _ E s k ?_)
      rw [hl, List.forIn_cons]
      exact wpAny_bind (wpAny_bind (wpAny_bind (made A _ E s k (wpAny_pure (wpAny_pure (wpAny_pure q))))))
    · unfold mroIn; rw [hc, Option.bind_some, if_neg (by rw [e4]; decide), e5]
    · unfold mroIn; rw [hc, Option.bind_some, if_neg (by rw [e4]; decide), e6]
  · cases e
section
variable {prog : Program} {w : World} {A : Around} {K : Frag} {C : Addr} {R : Result → Shared → Prop} {h : Heap} {g : Array GenState} {d : Drawn} {t : Nat} {os : OsState}
theorem new_L {v : Value} (Y : MakesL (model prog w) h C)
    (hq : R (.ok (.ret (.ref (h.objs.size + 1)))) ⟨(h.push emptyDict).push (pileC C h.objs.size), g, d, t, os⟩) :
    codeAny (model prog w) A (.call (.builtin "list.__new__") ⟨[.ref C, v], []⟩) R ⟨h, g, d, t, os⟩ := by
  obtain ⟨⟨oc, od, cd, sl, hC, e1, e2, e4⟩, made, base, self, top, call, typ⟩ := Y
  refine codeAny_call_builtin_code (Code.quiet_builtin _ list_new_quiet) ?_
  have here : Looks (model prog w) h (Bind.madeHere "list.__new__" (.ref C)) () := base.andThen (made.andThen (Looks.of_pure (by simp only [Option.map_some, bne_self_eq_false, Bool.false_eq_true, if_false])))
  simp only [checkBuiltinCall, list_new_kind, list_new_split, list_new_row]
  have args : Bind.checkArgs "list.__new__" { machinery := .any, full := "list", short := "list", receiver := .cls, params := [{ name := "args", kind := .varPos, required := false }, { name := "kwargs", kind := .varKw, required := false }] } ⟨[.ref C, v], []⟩ = pure () := by kernel_rfl
  rw [args]
  repeat (first | simp only [bne_self_eq_false, Bool.false_eq_true, if_false] | lk)
  refine codeAny_builtin_stack F.entry_list_new rfl fun p st => ?_
  simp only [owner_list_new]
  repeat (first | simp only [bne_self_eq_false, Bool.false_eq_true, if_false] | lk)
  refine nd_load (Heap.get?_push_of_some _ (Heap.get?_push_of_some _ hC)) (nd_pure ?_)
  refine wpAny_pure ?_
  rw [e2]
  refine wpAny_pure (wpAny_pure ?_)
  show R _ _
  rw [Heap.size_push]
  exact hq

theorem make_coreL {v : Value} {init : Value} (Y : MakesL (model prog w) h C) (hi : Looks (model prog w) h (typeLookup (.ref C) "__init__") (some init))
    (hb : ∀ self, Looks (model prog w) h (bindSpecial init self) (init, [self])) (hn : Looks (model prog w) h (typeLookup (.ref C) "__new__") (some (.builtin "list.__new__")))
    (hq : codeAny (model prog w) (A.under (.builtin "type.__call__" ⟨[.ref C, v], []⟩)) (.call init ⟨[.ref (h.objs.size + 1), v], []⟩) (InitBack (h.objs.size + 1) R) ⟨(h.push emptyDict).push (pileC C h.objs.size), g, d, t, os⟩) :
    codeAny (model prog w) A (.call (.ref C) ⟨[v], []⟩) R ⟨h, g, d, t, os⟩ := by
  have Y' := Y
  obtain ⟨⟨oc, od, cd, sl, hC, e1, e2, e4⟩, made, base, self, top, call, typ⟩ := Y
  refine codeAny_of_tree ?_
  show wpAny _ _ (callAny (.ref C) _) _ _ _
  refine nd_load hC ?_
  show wpAny _ _ (callAny.viaDunder (.ref C) _) _ _ _
  unfold callAny.viaDunder
  refine wpAny_bind (call.at ?_)
  dsimp only
  rw [tc_bind]
  refine wpAny_bind (wpAny_pure (wpAny_bind (wpAny_pure ?_)))
  refine wpAny_pure (a := Fin.again (.call (.builtin "type.__call__") ⟨[.ref C, v], []⟩)) (And.intro rfl ?_)
  refine codeAny_call_builtin_at (Code.quiet_builtin _ (by decide +kernel)) entry_typeCall (check_slot tc_kind tc_split typ (tc_args _ _ _) ?_)
  unfold Builtin.«type.__call__»
  have hm : Looks (model prog w) h (mroOf (.ref C)) cd.mro := ((Looks.ld (part := none) hC).andThen .now).andThen .now
  repeat (first | simp only [e4, Bool.false_eq_true, if_false] | with_reducible refine wpAny_call ?_ | lk)
  refine new_L Y' ?_
  have k : ∀ b o, h.get? b = some o → ((h.push emptyDict).push (pileC C h.objs.size)).get? b = some o := fun b o e => Heap.get?_push_of_some _ (Heap.get?_push_of_some _ e)
  have hx : ((h.push emptyDict).push (pileC C h.objs.size)).get? (h.objs.size + 1) = some (pileC C h.objs.size) := by heap_get
  have t1 : Looks (model prog w) ((h.push emptyDict).push (pileC C h.objs.size)) (typeOf (.ref (h.objs.size + 1))) (.ref C) := (Looks.ld hx).andThen .now
  have s1 := self.keeps k
  have i1 := hi.keeps k
  have b1 := (hb (.ref (h.objs.size + 1))).keeps k
  unfold isInstance callSpecial? specialOf
  repeat (first | with_reducible refine wpAny_call ?_ | lk)
  refine codeAny_mono hq fun r s' z => ?_
  rcases r with e | (v | _ | _ | _) <;> first | exact z | exact z.elim | skip
  obtain ⟨rfl, z⟩ := z
  exact wpAny_pure (wpAny_pure z)
end
section
variable {prog : Program} {w : World} {A : Around} {E : Value → Shared → Prop} {s : Shared} {K : Frag} {C x dx : Addr} {ox od : Obj} {name : Str} {h₀ : Heap} {L : Addr} {m : Str → Option Value} {news : List (Addr × Obj)}

theorem meth_own {pl : Sem Bool} {f : Value} {ga T : String} {Q : Value × List Value → Shared → Prop} (X : K.In s.heap) (I : InstAt s.heap x ox C (some od)) (hga : findIn K (.ref C) "__getattribute__" = some (some (.builtin ga)))
    (hcan : (Manifest.canonical ga != "object.__getattribute__") = false) (hk : findIn K (.ref C) "__getattr__" = some none) (hf : findIn K (.ref C) name = some (some f)) (hT : typeIn K f = some (.type T))
    (hTT : ((Value.type T != .type "function") && (Value.type T != .type "method_descriptor") && (Value.type T != .type "wrapper_descriptor")) = false) (hd : ox.dict = some dx) (hl : lookIn name od = some none) (h : Q (f, [.ref x]) s) : wpAny (model prog w) A (getMethod (.ref x) name pl) Q E s := by
  obtain ⟨hh, g, d, t, os⟩ := s
  have L0 := I.type (M := model prog w)
  have L1 := looks_findIn (M := model prog w) X hga
  have L2 := looks_findIn (M := model prog w) X hk
  have L3 := looks_findIn (M := model prog w) X hf
  have L4 := looks_typeIn (M := model prog w) X hT
  obtain ⟨hx, hcl, hn, hdd⟩ := I
  rw [hd] at hdd
  dsimp only at hdd
  have hlk := nsLook_of hl
  unfold getMethod specialOf
  refine wpAny_bind (wpAny_bind (L0.at (L1.at ?_)))
  dsimp only
  rw [hcan]
  refine wpAny_bind (wpAny_bind (L0.at (L2.at ?_)))
  refine wpAny_bind (wpAny_bind (L0.at (L3.at ?_)))
  dsimp only
  refine wpAny_bind (L4.at ?_)
  rw [hTT]
  dsimp only
  refine wpAny_bind (wpAny_loadPart hx ?_)
  rw [hd]
  dsimp only
  unfold nsGet
  refine wpAny_bind (wpAny_bind (wpAny_loadPart hdd ?_))
  rw [hlk]
  exact wpAny_pure (wpAny_bind (wpAny_rule (wpAny_pure h)))

theorem attr_own {expr : Bool} {v : Value} {Q : Value → Shared → Prop} (X : K.In s.heap) (I : InstAt s.heap x ox C (some od)) (hga : findIn K (.ref C) "__getattribute__" = some (some (.builtin "list.__getattribute__")))
    (hs : subIn K (.ref C) (.type "list") = some true) (hk : findIn K (.ref C) "__getattr__" = some none) (hf : findObj K C (some od) name = some (.value v)) (hh : handedIn v = true) (h : Q v { s with toks := s.toks + 1 }) : wpAny (model prog w) A (getAttr (.ref x) name expr) Q E s := by
  obtain ⟨hp, g, d, t, os⟩ := s
  have L0 := I.type (M := model prog w)
  have L1 := looks_findIn (M := model prog w) X hga
  have L2 := looks_findIn (M := model prog w) X hk
  have L3 := looks_find (M := model prog w) X I hf
  unfold getAttr getAttrBy
  refine wpAny_bind (wpAny_mkText (wpAny_holding (wpAny_bind (L0.at (wpAny_bind (L1.at ?_))))))
  show wpAny _ _ (getAttrByItsOwn _ _ _ _ _ _) _ _ _
  unfold getAttrByItsOwn hookBefore callGetattribute boundAndCalled
  refine wpAny_bind (L2.at ?_)
  refine wpAny_bind (wpAny_attempt (wpAny_holding ?_))
  have e0 : (expr && onTheHeap (Value.builtin "list.__getattribute__")) = false := by cases expr <;> rfl
  rw [e0]
  show wpAny _ _ (bindSpecial (.builtin "list.__getattribute__") (.ref x) >>= _) _ _ _
  refine wpAny_bind (wpAny_of_eq (F.slot_list_getattribute.bind _) ?_)
  refine wpAny_mono (Q := fun v' s' => v' = v ∧ s' = ⟨hp, g, d, t + 1, os⟩) (E := fun _ _ => False)
    (call_own (owner := "list") (n := "__getattribute__") (by decide +kernel) (.inl (by decide +kernel)) (by decide +kernel) am_entry_list_getattribute (L0.andThen (looks_subIn X hs)) (F.args_list_getattribute_2 _ _) ?_) (fun v' s' hv => ?_) fun _ _ z => z.elim
  · refine wpAny_bind (wpAny_pure (wpAny_bind (wpAny_pure (wpAny_bind (L0.at (wpAny_bind (L3.at ?_)))))))
    exact wpAny_pure (Exists.intro v (And.intro rfl (And.intro rfl rfl)))
  · obtain ⟨rfl, rfl⟩ := hv
    show wpAny _ _ (handedOut v') _ _ _
    rw [handedOut_of hh]; exact wpAny_pure h
end

section
open Builtin Builtin.ObjectAttr Builtin.Getset_descriptor
variable {prog : Program} {w : World} {M : Model} {A : Around} {E : Value → Shared → Prop} {h : Heap} {g : Array GenState} {d : Drawn} {t : Nat} {os : OsState} {s : Shared} {K : Frag} {C D x dx so : Addr} {ox od : Obj} {name : Str} {h₀ : Heap} {L : Addr} {m : Str → Option Value} {news : List (Addr × Obj)} {R : Result → Shared → Prop}
abbrev boundObj (T : String) (f x : Value) : Obj := { cls := .type T, dict := none, data := .fields #[f, x], slots := #[] }
theorem refuse_listy (self : Value) (C : Addr) : refuseLoop self "__setattr__" [.ref C, .type "list", .type "object"] = pure () := by rw [refuseLoop_ref]; kernel_rfl
def listyOver (K : Frag) (C : Addr) : Bool := (clsIn K C).any fun cd => cd.mro == [.ref C, .type "list", .type "object"]
theorem osaL_open {od : Option Obj} {tk : Tok} {v : Value} {r : Option Value} (X : K.In s.heap) (I : InstAt s.heap x ox C od) (hp : listyOver K C = true) (ht : takerIn K C name = some r)
    (h : ∀ b, wpAny (model prog w) A.in1 (match r with | some a => setByDescriptor a (.ref x) v | none => storeInOwnDict (.ref x) (.ref C) (.str name tk) name v b)
      (fun fin s' => match fin with | .done f => R (.ok f) s' | .again c' => c'.quiet = true ∧ codeAny (model prog w) A c' R s') (fun e s' => R (.error e) s') s) :
    codeAny (model prog w) A (.call (.builtin "object.__setattr__") ⟨[.ref x, .str name tk, v], []⟩) R s := by
  have SF := PySem.F.store_object
  obtain ⟨cd, hc, ho⟩ := any_some hp
  have ho := beq_iff_eq.mp ho
  have sub : Looks (model prog w) s.heap (isInstance (.ref x) (.type "object")) true := I.type.andThen (looks_mroIn X (by unfold mroIn; rw [hc, Option.bind_some, ho]; simp))
  refine codeAny_call_builtin SF.slot.plain SF.entry (@check_slot (model prog w) _ _ s "object.__setattr__" "object" "__setattr__" (.ref x) [.str name tk, v] [] _ SF.kind SF.split sub (SF.args (.ref x) (.str name tk) v) ?_)
  obtain ⟨attr, ha, hr⟩ := Option.bind_eq_some_iff.mp ht
  have hm : Looks (model prog w) s.heap (mroOf (.ref C)) cd.mro := (looks_clsIn X hc).andThen .now
  have L3 : Looks (model prog w) s.heap (storeTaker? attr) r := by
    cases attr with
    | none => cases hr; exact .now
    | some a =>
      obtain ⟨b, hb, rfl⟩ := Option.map_eq_some_iff.mp hr
      refine (looks_takesIn X hb).andThen ?_
      cases b <;> exact .now
  rw [osa_eq, refuse_eq]
  refine wpAny_bind (wpAny_bind (I.type.here (wpAny_bind (hm.here ?_))))
  rw [ho, refuse_listy]
  refine wpAny_pure (wpAny_bind (I.type.here (wpAny_bind ((looks_findIn X ha).here (wpAny_bind (L3.here ?_))))))
  exact h _

theorem osaL_dict {ox od od' : Obj} {dx : Addr} {name : Str} {tk : Tok} {v : Value} {pre post : List (Addr × Obj)} {es : List DictEntry} {n : Nat} (F : Fr h₀ L s.heap m) (N : News h₀ L s.heap (pre ++ (dx, od) :: post)) (X : K.In s.heap)
    (I : InstAt s.heap x ox C (some od)) (hd : ox.dict = some dx) (hp : listyOver K C = true) (ht : takerIn K C name = some none) (hh : (clsIn K C).any (·.hasDict) = true)
    (hl : (lookIn name od).isSome = true) (h1 : ∀ p ∈ pre, p.1 ≠ dx) (h2 : ∀ p ∈ post, p.1 ≠ dx)
    (e : Obj.putName name (PyData.keyHash w.params name) (.str name s.toks) v od = od') (e' : od'.data = .dict es.toArray n) (hz : es.length ≤ 1000)
    (h : ∀ h', Fr h₀ L h' m → News h₀ L h' (pre ++ (dx, od') :: post) → R (.ok (.ret .none)) { s with heap := h', toks := s.toks + 1 }) :
    codeAny (model prog w) A (.call (.builtin "object.__setattr__") ⟨[.ref x, .str name tk, v], []⟩) R s := by
  refine osaL_open X I hp ht fun b => ?_
  obtain ⟨cd, hc, hd'⟩ := any_some hh
  obtain ⟨U1, U2⟩ := news_upd (f := Obj.putName name (PyData.keyHash w.params name) (.str name s.toks) v) F N h1 h2 e (by obtain ⟨_, _, dd, _⟩ := od'; cases e'; rfl)
  have D := (N (dx, od) (by simp)).1
  have D' := (U2 (dx, od') (by simp)).1
  obtain ⟨hx, hcl, hn, -⟩ := I
  obtain ⟨oc, odi, oda, osl⟩ := ox
  dsimp only at hcl hd
  subst hcl hd
  refine wpAny_bind (wpAny_pure (wpAny_bind (wpAny_bind (wpAny_loadPart hx (wpAny_bind ((looks_clsIn X hc).here ?_))))))
  rw [hd']
  refine wpAny_pure (a := some dx) (wpAny_bind (wpAny_pure (wpAny_bind ?_)))
  unfold nsSet
  refine wpAny_bind (wpAny_bind (wpAny_askSetting (wpAny_pure (wpAny_bind (wpAny_mkText (wpAny_bind (wpAny_loadPart D ?_)))))))
  unfold lookIn at hl
  split at hl
  · rename_i es₀ n₀ q
    rw [q]
    dsimp only
    have c : (!es₀.any (·.key.isStr name) && es₀.any (·.refKey)) = false := by
      rw [← Array.any_toList, ← Array.any_toList]
      split at hl
      · rename_i en he
        rw [List.any_eq_true.mpr ⟨en, List.mem_of_find?_eq_some he, List.find?_some he⟩]; rfl
      · split at hl
        · cases hl
        · rename_i z; rw [Bool.not_eq_true] at z; rw [z, Bool.and_false]
    rw [aRefKeyMayBeTheName_at, c]
    refine wpAny_updatePart D ?_
    refine wpAny_bind (wpAny_lookBehind D' (by rw [e']; exact pastItsLine_dict (by rw [List.size_toArray, sizeLine_eq]; omega)) ?_)
    exact wpAny_pure (h _ U1 U2)
  · cases hl

theorem super_ga_b {id T BT : String} {get : Value} {l₀ l : List Value} {tk : Tok} {Q : Fin → Shared → Prop}
    (hso : h.get? so = some { cls := .type "super", dict := none, data := .fields #[.ref D, .ref x, .ref C], slots := #[] }) (hno : Looks (model prog w) h (opaqueClassAbove (.ref C)) none)
    (hC : Looks (model prog w) h (mroOf (.ref C)) l₀) (hl : (l₀.dropWhile (· != .ref D)).drop 1 = l) (X : K.In h)
    (hf : alongIn K name l = some (some (.builtin id))) (hT : typeIn K (.builtin id) = some (.type T)) (hg : findIn K (.type T) "__get__" = some (some get)) (hxC : x ≠ C) (hn : (name == ("__class__" : Str)) = false)
    (hq : ∀ A' Q', Q' (.ref h.objs.size) ⟨h.push (boundObj BT (.builtin id) (.ref x)), g, d, t, os⟩ → wpAny (model prog w) A' (call get [.builtin id, .ref x, .ref C]) Q' E ⟨h, g, d, t, os⟩)
    (hq' : Q (.done (.ret (.ref h.objs.size))) ⟨h.push (boundObj BT (.builtin id) (.ref x)), g, d, t, os⟩) :
    wpAny (model prog w) A (Builtin.«super.__getattribute__» ⟨[.ref so, .str name tk], []⟩) Q E ⟨h, g, d, t, os⟩ := by
  have hne : (Value.ref x == Value.ref C) = false := by simp [hxC]
  have hdt : ({ cls := .type "super", dict := none, data := .fields #[.ref D, .ref x, .ref C], slots := #[] } : Obj).data = .fields #[.ref D, .ref x, .ref C] := rfl
  have f0 : (#[.ref D, .ref x, .ref C] : Array Value)[0]? = some (.ref D) := rfl
  have f1 : (#[.ref D, .ref x, .ref C] : Array Value)[1]? = some (.ref x) := rfl
  have f2 : (#[.ref D, .ref x, .ref C] : Array Value)[2]? = some (.ref C) := rfl
  have LT := looks_typeIn (M := model prog w) X hT
  have LG := looks_findIn (M := model prog w) X hg
  unfold Builtin.«super.__getattribute__»
  repeat (first
    | (with_reducible refine wpAny_field hso hdt f0 ?_) | (with_reducible refine wpAny_field hso hdt f1 ?_) | (with_reducible refine wpAny_field hso hdt f2 ?_)
    | (with_reducible refine ks_wpAny_notOpaque hno ?_)
    | (with_reducible refine Looks.at hC ?_; rw [hl])
    | (refine ks_forIn_along X (fun _ _ => rfl) rfl ?_ hf)
    | (with_reducible refine Looks.at LT ?_)
    | (with_reducible refine Looks.at LG ?_)
    | (with_reducible refine hq _ _ ?_)
    | (simp only [hn, hne, Bool.or_false, Bool.false_eq_true, if_false])
    | wp_step
    | dsimp only)
  all_goals exact hq'

theorem super_meth_b {id T BT : String} {get : Value} {l₀ l : List Value} {pl : Sem Bool} {Q : Value × List Value → Shared → Prop}
    (hso : h.get? so = some { cls := .type "super", dict := none, data := .fields #[.ref D, .ref x, .ref C], slots := #[] }) (hno : Looks (model prog w) h (opaqueClassAbove (.ref C)) none)
    (hC : Looks (model prog w) h (mroOf (.ref C)) l₀) (hl : (l₀.dropWhile (· != .ref D)).drop 1 = l) (X : K.In h)
    (hf : alongIn K name l = some (some (.builtin id))) (hT : typeIn K (.builtin id) = some (.type T)) (hg : findIn K (.type T) "__get__" = some (some get)) (hxC : x ≠ C) (hn : (name == ("__class__" : Str)) = false)
    (hq : ∀ E' A' Q' t', Q' (.ref h.objs.size) ⟨h.push (boundObj BT (.builtin id) (.ref x)), g, d, t', os⟩ → wpAny (model prog w) A' (call get [.builtin id, .ref x, .ref C]) Q' E' ⟨h, g, d, t', os⟩)
    (hq' : Q (.ref h.objs.size, []) ⟨h.push (boundObj BT (.builtin id) (.ref x)), g, d, t + 1, os⟩) :
    wpAny (model prog w) A (getMethod (.ref so) name pl) Q E ⟨h, g, d, t, os⟩ := by
  have hlk := F.ks_slot_super_ga.lookup
  have hcan := F.ks_canon_super_ga
  have hT' : ∀ t', (⟨h, g, d, t', os⟩ : Shared).TypeIs (.ref so) "super" := fun _ => ⟨_, hso, rfl⟩
  unfold getMethod
  refine wpAny_bind (wpAny_specialOf (hT' _) hlk ?_)
  show wpAny _ _ (if (Manifest.canonical "super.__getattribute__" != "object.__getattribute__") = true then _ else _) _ _ _
  rw [if_pos hcan]
  unfold getAttr getAttrBy
  refine wpAny_bind (wpAny_bind (wpAny_mkText (wpAny_holding (wpAny_bind (wpAny_typeOf (hT' _) (wpAny_bind (wpAny_of_eq hlk ?_)))))))
  show wpAny _ _ (getAttrByItsOwn (.ref so) (.str name t) (.type "super") (.builtin "super.__getattribute__") true false) _ _ _
  unfold getAttrByItsOwn hookBefore callGetattribute boundAndCalled
  refine wpAny_bind (wpAny_of_eq (show (if onTheHeap (.type "super") then typeLookup (.type "super") "__getattr__" else pure none) = pure none from rfl) ?_)
  refine wpAny_bind (wpAny_attempt (wpAny_holding ?_))
  show wpAny _ _ (bindSpecial (.builtin "super.__getattribute__") (.ref so) >>= _) _ _ _
  refine wpAny_bind (wpAny_of_eq (F.ks_slot_super_ga.bind _) ?_)
  refine wpAny_mono (Q := fun v s' => v = .ref h.objs.size ∧ s' = ⟨h.push (boundObj BT (.builtin id) (.ref x)), g, d, t + 1, os⟩) (E := fun _ _ => False)
    (wpAny_call_entry F.ks_slot_super_ga (hT' _) F.ks_entry_super_ga (super_ga_b hso hno hC hl X hf hT hg hxC hn (fun A' Q' => hq _ A' Q' _) ⟨_, rfl, rfl, rfl⟩) (F.ks_gaArgs_super _ _)) (fun v s' hv => ?_) fun _ _ z => z.elim
  obtain ⟨rfl, rfl⟩ := hv
  exact wpAny_pure (wpAny_pure hq')

theorem entry_wd_get : entryFor table "wrapper_descriptor.__get__" = some Builtin.«wrapper_descriptor.__get__» := entryFor_of_tree (by kernel_rfl)
theorem entry_md_get : entryFor table "method_descriptor.__get__" = some Builtin.«method_descriptor.__get__» := entryFor_of_tree (by kernel_rfl)
theorem args_wd_get (a b c : Value) : argsOk "wrapper_descriptor.__get__" ⟨[a, b, c], []⟩ := by unfold argsOk; kernel_rfl
theorem args_md_get (a b c : Value) : argsOk "method_descriptor.__get__" ⟨[a, b, c], []⟩ := by unfold argsOk; kernel_rfl
theorem wd_is (i : String) (T : String) (e : typeOf (.builtin i) = pure (.type T)) (e2 : isSubtype (.type T) (.type T) = pure true) {h : Heap} : Looks M h (isInstance (.builtin i) (.type T)) true := by
  unfold isInstance
  exact (Looks.of_pure e).andThen (Looks.of_pure e2)
theorem get_len {Q : Value → Shared → Prop} (hoc : h.get? x = some ox ∧ ox.cls = .ref C) (hs : Looks (model prog w) h (isSubtype (.ref C) (.type "list")) true) (hq : Q (.ref h.objs.size) ⟨h.push (boundObj "method-wrapper" (.builtin "list.__len__") (.ref x)), g, d, t, os⟩) :
    wpAny (model prog w) A (call (.builtin "wrapper_descriptor.__get__") [.builtin "list.__len__", .ref x, .ref C]) Q E ⟨h, g, d, t, os⟩ := by
  have e1 : (".".intercalate ("list.__len__".cutAt '.').dropLast) = "list" := by decide +kernel
  refine call_own (owner := "wrapper_descriptor") (n := "__get__") (by decide +kernel) (.inl (by decide +kernel)) (by decide +kernel) entry_wd_get (wd_is _ _ (by show builtinType _ = _; rw [builtinType_eq_fast]; kernel_rfl) (by rw [isSubtype_type]; kernel_rfl)) (args_wd_get _ _ _) ?_
  unfold Builtin.«wrapper_descriptor.__get__»
  
  repeat (first | simp only [Bool.false_eq_true, if_false] | lk)
  refine nd_load hoc.1 (nd_pure ?_)
  refine wpAny_pure ?_
  rw [hoc.2]
  refine (show Looks (model prog w) h (isSubtype (.ref C) (.type (".".intercalate ("list.__len__".cutAt '.').dropLast))) true from e1.symm ▸ hs).at ?_
  repeat lk
  exact ⟨_, rfl, hq⟩
theorem get_init {Q : Value → Shared → Prop} (hoc : h.get? x = some ox ∧ ox.cls = .ref C) (hs : Looks (model prog w) h (isSubtype (.ref C) (.type "list")) true) (hq : Q (.ref h.objs.size) ⟨h.push (boundObj "method-wrapper" (.builtin "list.__init__") (.ref x)), g, d, t, os⟩) :
    wpAny (model prog w) A (call (.builtin "wrapper_descriptor.__get__") [.builtin "list.__init__", .ref x, .ref C]) Q E ⟨h, g, d, t, os⟩ := by
  have e1 : (".".intercalate ("list.__init__".cutAt '.').dropLast) = "list" := by decide +kernel
  refine call_own (owner := "wrapper_descriptor") (n := "__get__") (by decide +kernel) (.inl (by decide +kernel)) (by decide +kernel) entry_wd_get (wd_is _ _ (by show builtinType _ = _; rw [builtinType_eq_fast]; kernel_rfl) (by rw [isSubtype_type]; kernel_rfl)) (args_wd_get _ _ _) ?_
  unfold Builtin.«wrapper_descriptor.__get__»
  
  repeat (first | simp only [Bool.false_eq_true, if_false] | lk)
  refine nd_load hoc.1 (nd_pure ?_)
  refine wpAny_pure ?_
  rw [hoc.2]
  refine (show Looks (model prog w) h (isSubtype (.ref C) (.type (".".intercalate ("list.__init__".cutAt '.').dropLast))) true from e1.symm ▸ hs).at ?_
  repeat lk
  exact ⟨_, rfl, hq⟩
theorem get_pop {Q : Value → Shared → Prop} (hoc : h.get? x = some ox ∧ ox.cls = .ref C) (hs : Looks (model prog w) h (isSubtype (.ref C) (.type "list")) true) (hq : Q (.ref h.objs.size) ⟨h.push (boundObj "builtin_function_or_method" (.builtin "list.pop") (.ref x)), g, d, t, os⟩) :
    wpAny (model prog w) A (call (.builtin "method_descriptor.__get__") [.builtin "list.pop", .ref x, .ref C]) Q E ⟨h, g, d, t, os⟩ := by
  have e1 : (".".intercalate ("list.pop".cutAt '.').dropLast) = "list" := by decide +kernel
  refine call_own (owner := "method_descriptor") (n := "__get__") (by decide +kernel) (.inl (by decide +kernel)) (by decide +kernel) entry_md_get (wd_is _ _ (by show builtinType _ = _; rw [builtinType_eq_fast]; kernel_rfl) (by rw [isSubtype_type]; kernel_rfl)) (args_md_get _ _ _) ?_
  unfold Builtin.«method_descriptor.__get__»
  have e2 : Manifest.toldItsClass.contains "list.pop" = false := by decide +kernel
  repeat (first | simp only [e2, Bool.false_eq_true, if_false] | lk)
  refine nd_load hoc.1 (nd_pure ?_)
  refine wpAny_pure ?_
  rw [hoc.2]
  refine (show Looks (model prog w) h (isSubtype (.ref C) (.type (".".intercalate ("list.pop".cutAt '.').dropLast))) true from e1.symm ▸ hs).at ?_
  repeat lk
  exact ⟨_, rfl, hq⟩

end
end
section
section
variable {prog : Program} {w : World} {M : Model} {A : Around} {E : Value → Shared → Prop} {h : Heap} {g : Array GenState} {d : Drawn} {t : Nat} {os : OsState} {s : Shared} {K : Frag} {C D x dx so : Addr} {ox od : Obj} {name : Str} {h₀ : Heap} {L : Addr} {m : Str → Option Value} {news : List (Addr × Obj)} {R : Result → Shared → Prop}
theorem call_bound {q : Addr} {id BT : String} {b : Builtin} {Q : Value → Shared → Prop} (ho : s.heap.get? q = some (boundObj BT (.builtin id) (.ref x))) (hB : (Value.type BT == .type "method" || Value.type BT == .type "builtin_function_or_method" || Value.type BT == .type "method-wrapper") = true) (hM : (Value.type BT != .type "method") = true)
    (hp : plainId id = true) (hb : entryFor table id = some b)
    (hc : ∀ A Q' E', Q' () s → wpAny (model prog w) A (checkBoundCall id ⟨[.ref x], []⟩) Q' E' s)
    (h : wpAny (model prog w) A.in1 (b ⟨[.ref x], []⟩) (fun fin s' => ∃ v, fin = .done (.ret v) ∧ Q v s') E s) : wpAny (model prog w) A (call (.ref q) []) Q E s := by
  obtain ⟨hh, g, d, t, os⟩ := s
  refine wpAny_call (codeAny_of_tree ?_)
  show wpAny _ A.in1 (callAny (.ref q) ⟨[], []⟩) _ _ _
  unfold callAny
  refine wpAny_bind (wpAny_load ho ?_)
  dsimp only
  rw [hB, hM]
  refine wpAny_bind (hc _ _ _ (wpAny_pure ⟨plainId_quiet hp _, codeAny_builtin hb ?_⟩))
  rw [Around.under_plainId hp _]
  refine wpAny_mono h (fun fin s' h' => ?_) fun _ _ h' => h'
  obtain ⟨v, rfl, hv⟩ := h'; exact hv
theorem init_args : Bind.checkArgs "list.__init__" { machinery := .constructor, full := "list", short := "list", receiver := .self, params := [{ name := "iterable", kind := .posOnly, required := false }] } ⟨[.ref x], []⟩ = pure () := by kernel_rfl
theorem len_args : Bind.checkArgs "list.__len__" { machinery := .exact, full := "wrapper __len__", short := "", receiver := .self, params := [] } ⟨[.ref x], []⟩ = pure () := by kernel_rfl
theorem init_row : Manifest.signature? "list.__init__" = some { machinery := .constructor, full := "list", short := "list", receiver := .self, params := [{ name := "iterable", kind := .posOnly, required := false }] } := by kernel_rfl
theorem len_row : Manifest.signature? "list.__len__" = some { machinery := .exact, full := "wrapper __len__", short := "", receiver := .self, params := [] } := by kernel_rfl
theorem bound_init {Q : Unit → Shared → Prop} (h : Q () s) : wpAny M A (checkBoundCall "list.__init__" ⟨[.ref x], []⟩) Q E s := by
  have e1 : builtinKind "list.__init__" = some .slot := by decide +kernel
  unfold checkBoundCall
  rw [init_row, e1]
  dsimp only
  rw [if_pos (by decide), init_args]
  exact wpAny_pure h
theorem bound_len {Q : Unit → Shared → Prop} (h : Q () s) : wpAny M A (checkBoundCall "list.__len__" ⟨[.ref x], []⟩) Q E s := by
  have e1 : builtinKind "list.__len__" = some .slot := by decide +kernel
  unfold checkBoundCall
  rw [len_row, e1]
  dsimp only
  rw [if_pos (by decide), len_args]
  exact wpAny_pure h
theorem pop_row : Manifest.signature? "list.pop" = some { machinery := .positional, full := "list.pop", short := "pop", receiver := .self, params := [{ name := "index", kind := .posOnly, required := false }] } := by kernel_rfl
theorem bound_pop {cd : ClassData} {Q : Unit → Shared → Prop} (X : K.In s.heap) (ho : s.heap.get? x = some ox) (hcl : ox.cls = .ref C) (hn : notCls ox = true) (hm : subIn K (.ref C) (.type "module") = some false) (hc : clsIn K C = some cd) (hq : cd.qualname = "_Accumulator") (ht : typeIn K (.ref C) = some (.type "type"))
   (h : Q () s) : wpAny M A (checkBoundCall "list.pop" ⟨[.ref x], []⟩) Q E s := by
  obtain ⟨hh, g, d, t, os⟩ := s
  have e1 : builtinKind "list.pop" = some .method := by decide +kernel
  have e2 : Manifest.varargsMethods.contains "list.pop" = false := by decide +kernel
  have L0 : Looks M hh (isInstance (.ref x) (.type "module")) false := (type_of ho hcl).andThen (looks_subIn X hm)
  have L1 := type_of (M := M) ho hcl
  have L2 := looks_clsIn (M := M) X hc
  have L3 := looks_typeIn (M := M) X ht
  have nc : ∀ c, ox.data ≠ .cls c := fun c e => by unfold notCls at hn; rw [e] at hn; exact Bool.noConfusion hn
  unfold checkBoundCall
  rw [pop_row, e1]
  dsimp only
  rw [if_neg (by decide)]
  refine wpAny_bind (L0.at ?_)
  rw [e2]
  rw [if_neg (by decide)]
  refine wpAny_bind (ks_wpAny_isType_inst ho nc ?_)
  rw [if_neg (by decide)]
  refine wpAny_bind (L1.at ?_)
  dsimp only
  refine wpAny_bind (L2.at ?_)
  refine wpAny_bind (L3.at ?_)
  rw [hq, if_pos (by decide)]
  have ha : Bind.checkArgs "list.pop" { machinery := .positional, full := s!"{(Str.ofString "_Accumulator").toString}.{Bind.lastOf "list.pop"}", short := "pop", receiver := .self, params := [{ name := "index", kind := .posOnly, required := false }] } ⟨[.ref x], []⟩ = pure () := by kernel_rfl
  exact wpAny_of_eq ha h
end
section
variable {prog : Program} {w : World} {A : Around} {E : Value → Shared → Prop} {s : Shared} {K : Frag} {x d : Addr} {vs : Array Value} {n : Nat} {h₀ : Heap} {L : Addr} {m : Str → Option Value} {news : List (Addr × Obj)}
theorem pile_append {y : Value} {Q : Value → Shared → Prop} (X : K.In s.heap) (hs : subIn K (.ref 169) (.type "list") = some true) (ho : s.heap.get? x = some (pileOf d vs n)) (hsz : vs.size ≤ sizeLine)
    (h : Q .none { s with heap := s.heap.update x (Obj.mapSeq (·.push y)) }) : wpAny (model prog w) A (call (.builtin "list.append") [.ref x, y]) Q E s := by
  refine call_own (owner := "list") (n := "append") (by decide +kernel) (.inr (by decide +kernel)) (by decide +kernel) entry_list_append (inst_of X ho rfl hs) (args_list_append _ _) ?_
  show wpAny _ _ (updateSeq x (·.push y) >>= fun _ => ret .none) _ _ s
  exact wpAny_bind (wpAny_updateSeq ho rfl (wpAny_pure ⟨.none, rfl, h⟩))
/-- the body of list.pop at a pile that is not empty -/
theorem pile_pop {y : Value} {Q : Fin → Shared → Prop} (ho : s.heap.get? x = some (pileOf d vs n)) (hy : vs[vs.size - 1]? = some y) (hs1 : vs.size ≤ sizeLine)
    (h : Q (.done (.ret y)) { s with heap := s.heap.update x (Obj.mapSeq fun xs => xs.eraseIdxIfInBounds (vs.size - 1)) }) : wpAny (model prog w) A (Builtin.«list.pop» ⟨[.ref x], []⟩) Q E s := by
  obtain ⟨hp, g, dr, tk, os⟩ := s
  have hpos : 0 < vs.size := by
    rcases Nat.eq_zero_or_pos vs.size with h0 | h0
    · simp [h0] at hy
    · exact h0
  have hne : ¬ vs.isEmpty = true := by
    intro he; have : vs.size = 0 := by simpa using he
    omega
  have hk : seqIndex? (-1) vs.size = some (vs.size - 1) := by
    rw [seqIndex_neg (by omega) (by omega)]; congr 1; omega
  unfold Builtin.«list.pop»
  wp_walk using wpAny_loadPart' ho
  simp only [hk, hy, Option.bind_some, Option.map_some]
  have hz' : (vs.eraseIdxIfInBounds (vs.size - 1)).size ≤ sizeLine + 1 := Nat.le_trans (PySem.MeetsSeq.size_erased vs _) (Nat.le_succ_of_le hs1)
  wp_walk using (wpAny_updateSeq ho rfl (hz := hs1) (_hz' := hz')), wpAny_loadPart' ho
  exact h
theorem pile_len {Q : Fin → Shared → Prop} (ho : s.heap.get? x = some (pileOf d vs n)) (h : Q (.done (.ret (.int vs.size s.toks))) { s with toks := s.toks + 1 }) : wpAny (model prog w) A (Builtin.«list.__len__» ⟨[.ref x], []⟩) Q E s := by
  obtain ⟨hp, g, dr, tk, os⟩ := s
  unfold Builtin.«list.__len__»
  wp_walk using wpAny_loadPart' ho
  exact h
theorem pile_init {Q : Fin → Shared → Prop} (ho : s.heap.get? x = some (pileOf d #[] n)) (h : Q (.done (.ret .none)) { s with heap := s.heap.update x (Obj.mapSeq fun _ => #[]) }) : wpAny (model prog w) A (Builtin.«list.__init__» ⟨[.ref x], []⟩) Q E s := by
  obtain ⟨hp, g, dr, tk, os⟩ := s
  unfold Builtin.«list.__init__»
  wp_walk using wpAny_loadPart' ho
  exact h
theorem pile_iter {Q : Value → Shared → Prop} (X : K.In s.heap) (hs : subIn K (.ref 169) (.type "list") = some true) (hf : findIn K (.ref 169) "__iter__" = some (some (.builtin "list.__iter__"))) (ho : s.heap.get? x = some (pileOf d vs n))
    (h : Q (.ref s.heap.objs.size) { s with heap := s.heap.push { cls := .type "list_iterator", data := .fields #[.ref x, .int 0 0] } }) : wpAny (model prog w) A (pyIter (.ref x)) Q E s := by
  obtain ⟨hp, g, dr, tk, os⟩ := s
  have L0 := type_of (M := model prog w) ho rfl
  have L1 := looks_findIn (M := model prog w) X hf
  have hcall : ∀ A' (Q' : Value → Shared → Prop), Q' (.ref hp.objs.size) ⟨hp.push { cls := .type "list_iterator", data := .fields #[.ref x, .int 0 0] }, g, dr, tk, os⟩ → wpAny (model prog w) A' (call (.builtin "list.__iter__") [.ref x]) Q' E ⟨hp, g, dr, tk, os⟩ := fun A' Q' hq => by
    refine call_own (owner := "list") (n := "__iter__") (by decide +kernel) (.inl (by decide +kernel)) (by decide +kernel) entry_list_iter (inst_of X ho rfl hs) (args_list_iter _) ?_
    unfold Builtin.«list.__iter__»
    repeat lk
    exact ⟨_, rfl, hq⟩
  have hi2 : typeLookup (.type "list_iterator") "__next__" = pure (some (.builtin "list_iterator.__next__")) := slot_listiter_next.lookup
  have L2 : Looks (model prog w) hp (bindSpecial (.builtin "list.__iter__") (.ref x)) (.builtin "list.__iter__", [.ref x]) := Looks.of_pure (slot_list_iter.bind _)
  unfold pyIter
  repeat (first | with_reducible refine hcall _ _ ?_ | lk)
  split <;> repeat (first | with_reducible refine hcall _ _ ?_ | with_reducible refine wpAny_tryCatch ?_ | lk)
  all_goals
    refine nd_load (Heap.get?_push_size _ rfl) (nd_pure ?_)
    refine wpAny_pure ?_
    refine wpAny_of_eq hi2 ?_
    exact wpAny_pure h
end
end
section
local macro_rules | `(tactic| walk_at "mine pad") => `(tactic| skip)
abbrev isz : Str := Str.ofString "_initial_size"
abbrev sizeD (p : Params) (tk : Tok) (v : Value) : Obj := dictOf [⟨PyData.keyHash p isz, .str isz tk, v⟩] 1
section
variable {prog : Program} {w : World} {A : Around} {E : Value → Shared → Prop} {s : Shared} {x d so q : Addr} {vs : Array Value} {n : Nat} {h₀ : Heap} {L : Addr} {m mg mb : Str → Option Value} {news news' : List (Addr × Obj)} {name : Str} {tk : Tok} {v : Value}

theorem K_ga : findIn (Mine.hd.heap_1 w.params) (.ref 169) (Str.ofString "__getattribute__") = some (some (.builtin "list.__getattribute__")) := by k_is
theorem K_gr : findIn (Mine.hd.heap_1 w.params) (.ref 169) (Str.ofString "__getattr__") = some none := by k_is
theorem K_it : findIn (Mine.hd.heap_1 w.params) (.ref 169) (Str.ofString "__iter__") = some (some (.builtin "list.__iter__")) := by k_is
theorem K_sl : subIn (Mine.hd.heap_1 w.params) (.ref 169) (.type "list") = some true := by k_is
theorem K_sm : subIn (Mine.hd.heap_1 w.params) (.ref 169) (.type "module") = some false := by k_is
theorem K_tc : typeIn (Mine.hd.heap_1 w.params) (.ref 169) = some (.type "type") := by k_is
theorem K_sa : findIn (Mine.hd.heap_1 w.params) (.ref 169) (Str.ofString "__setattr__") = some (some (.builtin "object.__setattr__")) := by k_is
theorem K_mk : makesL (Mine.hd.heap_1 w.params) 169 = true := by kernel_rfl
theorem K_lo : listyOver (Mine.hd.heap_1 w.params) 169 = true := by kernel_rfl
theorem K_hd : (clsIn (Mine.hd.heap_1 w.params) 169).any (·.hasDict) = true := by kernel_rfl
theorem K_in : findIn (Mine.hd.heap_1 w.params) (.ref 169) (Str.ofString "__init__") = some (some (.ref 106)) := by k_is
theorem K_nw : findIn (Mine.hd.heap_1 w.params) (.ref 169) (Str.ofString "__new__") = some (some (.builtin "list.__new__")) := by k_is
theorem K_cl0 : (clsIn (Mine.hd.heap_1 w.params) 169).map (fun cd => (cd.qualname, cd.mro)) = some (Str.ofString "_Accumulator", [.ref 169, .type "list", .type "object"]) := by kernel_rfl
theorem K_cl (w : World) : ∃ cd, clsIn (Mine.hd.heap_1 w.params) 169 = some cd ∧ cd.qualname = "_Accumulator" ∧ cd.mro = [.ref 169, .type "list", .type "object"] := by
  obtain ⟨cd, h1, h2⟩ := Option.map_eq_some_iff.mp (K_cl0 (w := w))
  exact ⟨cd, h1, (Prod.mk.inj h2).1, (Prod.mk.inj h2).2⟩
theorem K_any : nsIn (Mine.hd.heap_1 w.params) cStatics (Str.ofString "thirdparty.any") = some none := by k_is
theorem K_tk : takerIn (Mine.hd.heap_1 w.params) 169 isz = some none := by k_is
theorem K_fo : findObj (Mine.hd.heap_1 w.params) 169 (some (sizeD w.params tk v)) isz = some (.value v) := by kernel_rfl
theorem pile_at {h : Heap} {od : Obj} (N : News h₀ L h news) (h1 : (x, pileOf d vs n) ∈ news) (h2 : (d, od) ∈ news) : InstAt h x (pileOf d vs n) 169 (some od) := ⟨(N _ h1).1, rfl, rfl, (N _ h2).1⟩
theorem look_isz (p : Params) : lookIn isz (sizeD p tk v) = some (some v) := by kernel_rfl

theorem pile_meth {pl : Sem Bool} {f : Value} {T : String} {od : Obj} {Q : Value × List Value → Shared → Prop} (F : Fr h₀ L s.heap m) (X : (Mine.hd.heap_1 w.params).In h₀) (N : News h₀ L s.heap news) (h1 : (x, pileOf d vs n) ∈ news) (h2 : (d, od) ∈ news)
    (hf : findIn (Mine.hd.heap_1 w.params) (.ref 169) name = some (some f)) (hT : typeIn (Mine.hd.heap_1 w.params) f = some (.type T)) (hTT : ((Value.type T != .type "function") && (Value.type T != .type "method_descriptor") && (Value.type T != .type "wrapper_descriptor")) = false)
    (hl : lookIn name od = some none) (h : Q (f, [.ref x]) s) : wpAny (model prog w) A (getMethod (.ref x) name pl) Q E s :=
  meth_own (X.keeps F.keep) (pile_at N h1 h2) K_ga (by decide +kernel) K_gr hf hT hTT rfl hl h
theorem pile_size {expr : Bool} {Q : Value → Shared → Prop} (F : Fr h₀ L s.heap m) (X : (Mine.hd.heap_1 w.params).In h₀) (N : News h₀ L s.heap news) (h1 : (x, pileOf d vs n) ∈ news) (h2 : (d, sizeD w.params tk v) ∈ news) (hh : handedIn v = true)
    (h : Q v { s with toks := s.toks + 1 }) : wpAny (model prog w) A (getAttr (.ref x) isz expr) Q E s :=
  attr_own (X.keeps F.keep) (pile_at N h1 h2) K_ga K_sl K_gr K_fo hh h
theorem pile_appendK {y : Value} {Q : Value → Shared → Prop} (F : Fr h₀ L s.heap m) (X : (Mine.hd.heap_1 w.params).In h₀) (N : News h₀ L s.heap news) (U : Upd x (pileOf d vs n) (pileOf d (vs.push y) (n + 1)) news news') (hz : vs.size ≤ 1000)
    (h : ∀ h', Fr h₀ L h' m → News h₀ L h' news' → Q .none { s with heap := h' }) : wpAny (model prog w) A (call (.builtin "list.append") [.ref x, y]) Q E s := by
  obtain ⟨pre, post, rfl, rfl, a, b⟩ := U.split
  have z := N (x, pileOf d vs n) (List.mem_append.mpr (.inr (.head _)))
  refine pile_append (X.keeps F.keep) K_sl z.1 (by rw [sizeLine_eq]; omega) ?_
  have e2 : Obj.mapSeq (·.push y) (pileOf d vs n) = pileOf d (vs.push y) (n + 1) := by
    unfold Obj.mapSeq
    have e3 : ((vs.push y).size == vs.size) = false := by simp
    simp only [e3]
    rfl
  obtain ⟨F', N'⟩ := news_upd F N a b e2 rfl
  exact h _ F' N'
theorem mkD {h₀ h : Heap} {L : Addr} {m : Str → Option Value} {news : List (Addr × Obj)} {o : Obj} {q : Addr} (F : Fr h₀ L h m) (N : News h₀ L h news) (hq : q = h.objs.size) (hfree : o.isFreed = false := by rfl) : Fr h₀ L (h.push o) m ∧ News h₀ L (h.push o) ((q, o) :: news) ∧ ∀ p ∈ news, p.1 < q := by
  subst hq
  exact ⟨F.push _, N.push F _ hfree, fun p hp => Heap.lt_size (N p hp).1⟩

theorem super_is {nm id T BT : String} {get : Value} {pl : Sem Bool} {Q : Value × List Value → Shared → Prop} (F : Fr h₀ L s.heap m) (X : (Mine.hd.heap_1 w.params).In h₀) (N : News h₀ L s.heap news) (hso : (so, ks_superObj 169 x 169) ∈ news) (h1 : (x, pileOf d vs n) ∈ news)
    (hf : alongIn (Mine.hd.heap_1 w.params) (Str.ofString nm) [.type "list", .type "object"] = some (some (.builtin id))) (hT : typeIn (Mine.hd.heap_1 w.params) (.builtin id) = some (.type T)) (hg : findIn (Mine.hd.heap_1 w.params) (.type T) (Str.ofString "__get__") = some (some get)) (hn : ((Str.ofString nm) == ("__class__" : Str)) = false)
    (hq : ∀ E' A' Q' h g dr t os, h.get? x = some (pileOf d vs n) → Looks (model prog w) h (isSubtype (.ref 169) (.type "list")) true → Q' (.ref h.objs.size) ⟨h.push (boundObj BT (.builtin id) (.ref x)), g, dr, t, os⟩ → wpAny (model prog w) A' (call get [.builtin id, .ref x, .ref 169]) Q' E' ⟨h, g, dr, t, os⟩)
    (h : ∀ q h', Fr h₀ L h' m → News h₀ L h' ((q, boundObj BT (.builtin id) (.ref x)) :: news) → (∀ p ∈ news, p.1 < q) → Q (.ref q, []) { s with heap := h', toks := s.toks + 1 }) : wpAny (model prog w) A (getMethod (.ref so) (Str.ofString nm) pl) Q E s := by
  have X' := X.keeps F.keep
  obtain ⟨hh, g, dr, t, os⟩ := s
  obtain ⟨cd, hc, hq0, hm⟩ := K_cl w
  have hp := (N _ h1).1
  have I : InstAt hh x (pileOf d vs n) 169 none ∨ True := .inr trivial
  have hx : x ≠ 169 := by
    rintro rfl
    unfold clsIn at hc
    split at hc
    · rename_i c d' cd' sl ho
      have e := X' _ _ ho
      rw [hp] at e
      cases e
    · cases hc
  refine super_meth_b (N _ hso).1 (looks_opaque X' K_any) (l₀ := cd.mro) (fun A Q E s k q => wpAny_bind ((looks_clsIn X' hc) A _ E s k (wpAny_pure q))) (by rw [hm]; rfl) X' hf hT hg hx hn (fun E' A' Q' t' hQ => hq E' A' Q' _ _ _ _ _ hp (looks_subIn X' K_sl) hQ) ?_
  obtain ⟨F', N', l'⟩ := mkD (o := boundObj BT (.builtin id) (.ref x)) F N rfl
  exact h _ _ F' N' l'
theorem super_len {pl : Sem Bool} {Q : Value × List Value → Shared → Prop} (F : Fr h₀ L s.heap m) (X : (Mine.hd.heap_1 w.params).In h₀) (N : News h₀ L s.heap news) (hso : (so, ks_superObj 169 x 169) ∈ news) (h1 : (x, pileOf d vs n) ∈ news)
    (h : ∀ q h', Fr h₀ L h' m → News h₀ L h' ((q, boundObj "method-wrapper" (.builtin "list.__len__") (.ref x)) :: news) → (∀ p ∈ news, p.1 < q) → Q (.ref q, []) { s with heap := h', toks := s.toks + 1 }) : wpAny (model prog w) A (getMethod (.ref so) (Str.ofString "__len__") pl) Q E s :=
  super_is F X N hso h1 (by kernel_rfl) (T := "wrapper_descriptor") (by kernel_rfl) (get := .builtin "wrapper_descriptor.__get__") (by kernel_rfl) (by decide +kernel) (fun _ _ _ _ _ _ _ _ h2 h3 h4 => get_len ⟨h2, rfl⟩ h3 h4) h
theorem super_init {pl : Sem Bool} {Q : Value × List Value → Shared → Prop} (F : Fr h₀ L s.heap m) (X : (Mine.hd.heap_1 w.params).In h₀) (N : News h₀ L s.heap news) (hso : (so, ks_superObj 169 x 169) ∈ news) (h1 : (x, pileOf d vs n) ∈ news)
    (h : ∀ q h', Fr h₀ L h' m → News h₀ L h' ((q, boundObj "method-wrapper" (.builtin "list.__init__") (.ref x)) :: news) → (∀ p ∈ news, p.1 < q) → Q (.ref q, []) { s with heap := h', toks := s.toks + 1 }) : wpAny (model prog w) A (getMethod (.ref so) (Str.ofString "__init__") pl) Q E s :=
  super_is F X N hso h1 (by kernel_rfl) (T := "wrapper_descriptor") (by kernel_rfl) (get := .builtin "wrapper_descriptor.__get__") (by kernel_rfl) (by decide +kernel) (fun _ _ _ _ _ _ _ _ h2 h3 h4 => get_init ⟨h2, rfl⟩ h3 h4) h
theorem super_pop {pl : Sem Bool} {Q : Value × List Value → Shared → Prop} (F : Fr h₀ L s.heap m) (X : (Mine.hd.heap_1 w.params).In h₀) (N : News h₀ L s.heap news) (hso : (so, ks_superObj 169 x 169) ∈ news) (h1 : (x, pileOf d vs n) ∈ news)
    (h : ∀ q h', Fr h₀ L h' m → News h₀ L h' ((q, boundObj "builtin_function_or_method" (.builtin "list.pop") (.ref x)) :: news) → (∀ p ∈ news, p.1 < q) → Q (.ref q, []) { s with heap := h', toks := s.toks + 1 }) : wpAny (model prog w) A (getMethod (.ref so) (Str.ofString "pop") pl) Q E s :=
  super_is F X N hso h1 (by kernel_rfl) (T := "method_descriptor") (by kernel_rfl) (get := .builtin "method_descriptor.__get__") (by kernel_rfl) (by decide +kernel) (fun _ _ _ _ _ _ _ _ h2 h3 h4 => get_pop ⟨h2, rfl⟩ h3 h4) h
theorem e_len : entryFor table "list.__len__" = some Builtin.«list.__len__» := entryFor_of_tree (by kernel_rfl)
theorem e_init : entryFor table "list.__init__" = some Builtin.«list.__init__» := entryFor_of_tree (by kernel_rfl)
theorem e_pop : entryFor table "list.pop" = some Builtin.«list.pop» := entryFor_of_tree (by kernel_rfl)
theorem b_len {Q : Value → Shared → Prop} (N : News h₀ L s.heap news) (hq : (q, boundObj "method-wrapper" (.builtin "list.__len__") (.ref x)) ∈ news) (h1 : (x, pileOf d vs n) ∈ news) (h : Q (.int (vs.size : Int) s.toks) { s with toks := s.toks + 1 }) : wpAny (model prog w) A (call (.ref q) []) Q E s :=
  call_bound (N _ hq).1 (by decide) (by decide) (by decide +kernel) e_len (fun _ _ _ h => bound_len h) (pile_len (N _ h1).1 ⟨_, rfl, h⟩)
theorem b_init {Q : Value → Shared → Prop} (F : Fr h₀ L s.heap m) (N : News h₀ L s.heap news) (hq : (q, boundObj "method-wrapper" (.builtin "list.__init__") (.ref x)) ∈ news) (U : Upd x (pileOf d #[] n) (pileOf d #[] n) news news)
    (h : ∀ h', Fr h₀ L h' m → News h₀ L h' news → Q .none { s with heap := h' }) : wpAny (model prog w) A (call (.ref q) []) Q E s := by
  obtain ⟨pre, post, e1, e1', a, b⟩ := U.split
  have h1 : (x, pileOf d #[] n) ∈ news := by rw [e1]; simp
  have e2 : Obj.mapSeq (fun _ => #[]) (pileOf d #[] n) = pileOf d #[] n := rfl
  obtain ⟨F', N'⟩ := news_upd F (e1 ▸ N) a b e2 rfl
  exact call_bound (N _ hq).1 (by decide) (by decide) (by decide +kernel) e_init (fun _ _ _ h => bound_init h) (pile_init (N _ h1).1 ⟨_, rfl, h _ F' (e1 ▸ N')⟩)
theorem b_pop {ws : List Value} {y : Value} {Q : Value → Shared → Prop} (F : Fr h₀ L s.heap m) (X : (Mine.hd.heap_1 w.params).In h₀) (N : News h₀ L s.heap news) (hq : (q, boundObj "builtin_function_or_method" (.builtin "list.pop") (.ref x)) ∈ news) (U : Upd x (pileOf d (ws ++ [y]).toArray n) (pileOf d ws.toArray (n + 1)) news news') (hz : ws.length ≤ 1000)
    (h : ∀ h', Fr h₀ L h' m → News h₀ L h' news' → Q y { s with heap := h' }) : wpAny (model prog w) A (call (.ref q) []) Q E s := by
  obtain ⟨pre, post, e1, e1', a, b⟩ := U.split
  have h1 : (x, pileOf d (ws ++ [y]).toArray n) ∈ news := by rw [e1]; simp
  obtain ⟨cd, hc, hq0, hm⟩ := K_cl w
  have es : (ws ++ [y]).toArray.size = ws.length + 1 := by simp
  have e3 : ∀ xs : Array Value, xs = (ws ++ [y]).toArray → xs.eraseIdxIfInBounds ((ws ++ [y]).toArray.size - 1) = ws.toArray := by
    rintro xs rfl
    unfold Array.eraseIdxIfInBounds
    rw [dif_pos (by simp)]
    apply Array.ext'
    simp [List.eraseIdx_append_of_length_le]
  have e2 : Obj.mapSeq (fun xs => xs.eraseIdxIfInBounds ((ws ++ [y]).toArray.size - 1)) (pileOf d (ws ++ [y]).toArray n) = pileOf d ws.toArray (n + 1) := by
    unfold Obj.mapSeq
    simp only [e3 _ rfl]
    have e4 : (ws.toArray.size == (ws ++ [y]).toArray.size) = false := by simp
    simp only [e4]
    rfl
  obtain ⟨F', N'⟩ := news_upd F (e1 ▸ N) a b e2 rfl
  refine call_bound (N _ hq).1 (by decide) (by decide) (by decide +kernel) e_pop (fun _ _ _ h => bound_pop (X.keeps F.keep) (N _ h1).1 rfl rfl K_sm hc hq0 K_tc h) (pile_pop (y := y) (N _ h1).1 ?_ ?_ ⟨_, rfl, h _ F' (e1' ▸ N')⟩)
  · rw [es]; simp
  · rw [es, sizeLine_eq]; omega
theorem call_pile {Q : Value → Shared → Prop} (F : Fr h₀ L s.heap m) (X : (Mine.hd.heap_1 w.params).In h₀) (N : News h₀ L s.heap news)
    (h : ∀ x dx h', Fr h₀ L h' m → News h₀ L h' ((x, pileOf dx #[] 0) :: (dx, dictOf [] 0) :: news) → (∀ p ∈ news, p.1 < dx) → dx < x →
      codeAny (model prog w) (A.under (.builtin "type.__call__" ⟨[.ref 169, v], []⟩)) (.call (.ref 106) ⟨[.ref x, v], []⟩) (InitBack x fun r s' => match r with | .ok (.ret v) => Q v s' | .ok _ => False | .error e => E e s') { s with heap := h' }) :
    wpAny (model prog w) A (call (.ref 169) [v]) Q E s := by
  have X' := X.keeps F.keep
  refine wpAny_call ?_
  obtain ⟨hh, g, dr, t, os⟩ := s
  refine make_coreL (makesL_of X' K_mk) (looks_findIn X' K_in) (fun self => bind_fn X' self (by kernel_rfl)) (looks_findIn X' K_nw) (h _ hh.objs.size _ ((F.push _).push _) ?_ (fun p hp => Heap.lt_size (N p hp).1) (Nat.lt_succ_self _))
  have := (N.push F emptyDict).push (F.push _) (pileC 169 hh.objs.size)
  rwa [Heap.size_push] at this
theorem pile_set {Q : Unit → Shared → Prop} (F : Fr h₀ L s.heap m) (X : (Mine.hd.heap_1 w.params).In h₀) (N : News h₀ L s.heap news) (h1 : (x, pileOf d vs n) ∈ news) (U : Upd d (dictOf [] 0) (sizeD w.params (s.toks + 1) v) news news')
    (h : ∀ h', Fr h₀ L h' m → News h₀ L h' news' → Q () { s with heap := h', toks := s.toks + 2 }) : wpAny (model prog w) A (setAttr (.ref x) isz v) Q E s := by
  obtain ⟨pre, post, rfl, rfl, a, b⟩ := U.split
  have h2 : (d, dictOf [] 0) ∈ pre ++ (d, dictOf [] 0) :: post := List.mem_append_right _ (.head _)
  exact set_plain (X.keeps F.keep) (pile_at N h1 h2) K_sa (osaL_dict (s := { s with toks := s.toks + 1 }) (es := [⟨PyData.keyHash w.params isz, .str isz (s.toks + 1), v⟩]) (n := 1) F N (X.keeps F.keep) (pile_at N h1 h2) rfl K_lo K_tk K_hd rfl a b (by kernel_rfl) rfl (by simp) fun h' F' N' => h h' F' N')
theorem keeps_w {M : Model} {f v : Value} (h : Heap) (e : h.get? q = some (boundObj "method-wrapper" f v)) : ∃ k, (k = Keeper.frame ∨ k = Keeper.machine ∨ k = Keeper.boundFrame) ∧ Looks M h (keeperOf (.ref q)) k :=
  ⟨.machine, .inr (.inl rfl), (Looks.ld (part := none) e).andThen .now⟩
theorem keeps_m {M : Model} {f v : Value} (h : Heap) (e : h.get? q = some (boundObj "builtin_function_or_method" f v)) : ∃ k, (k = Keeper.frame ∨ k = Keeper.machine ∨ k = Keeper.boundFrame) ∧ Looks M h (keeperOf (.ref q)) k :=
  ⟨.machine, .inr (.inl rfl), (Looks.ld (part := none) e).andThen .now⟩
theorem callWith_w {f v : Value} {pos : Pos} {first : List Value} {env : Env} {Q : Value → Shared → Prop} (N : News h₀ L s.heap news) (hq : (q, boundObj "method-wrapper" f v) ∈ news) (h : wpAny (model prog w) A (call (.ref q) (first ++ [])) Q E s) : wpAny (model prog w) A (callWith pos (.ref q) first (backTo pos (starEach [] env)) []) Q E s :=
  callWith_of rfl keeps_w (evalArgs_nil3 ⟨(N _ hq).1, h⟩)
theorem callWith_m {f v : Value} {pos : Pos} {first : List Value} {env : Env} {Q : Value → Shared → Prop} (N : News h₀ L s.heap news) (hq : (q, boundObj "builtin_function_or_method" f v) ∈ news) (h : wpAny (model prog w) A (call (.ref q) (first ++ [])) Q E s) : wpAny (model prog w) A (callWith pos (.ref q) first (backTo pos (starEach [] env)) []) Q E s :=
  callWith_of rfl keeps_m (evalArgs_nil3 ⟨(N _ hq).1, h⟩)
theorem all_of {d : Addr} : ∀ {l : List (Addr × Obj)}, AllLt d l → ∀ p ∈ l, p.1 < d
  | [], _, _, h => nomatch h
  | p :: r, ⟨h1, h2⟩, q, hq => by
    rcases List.mem_cons.mp hq with rfl | hq
    · exact h1
    · exact all_of h2 _ hq
end
end
section
section
variable {w : World} {mean : ExcName → Option Value} {mg mb : Str → Option Value} {dp un : Nat} {gd : Option (List Code)} {cn : Str} {cs : Scope} {L a : Addr} {ccd : Value} {cl : List (Str × Addr)} {outer : List Env} {A₀ : Around} {base h₀ : Heap} {m : Str → Option Value} {news : List (Addr × Obj)} {s : Shared} {Q E : Value → Shared → Prop}
local macro_rules | `(tactic| k_all) => `(tactic| assumption)
local macro_rules | `(tactic| k_inst) => `(tactic| exact pile_at (by k_asm) (by k_mem) (by k_mem))
local macro_rules | `(tactic| walk_at "getMethod ref") => `(tactic| (k_here; k_dflt (refine' pile_meth ?k1 ?k2 ?k3 ?k4 ?k5 ?k6 ?k7 ?k8 ?k9 ?_; (case k1 | k2 | k3 => k_asm); (case k4 | k5 => k_mem); (case k6 | k7 => k_is); (case k8 => decide); (case k9 => exact rfl); k_whole)))
local macro_rules | `(tactic| walk_at "getAttr ref") => `(tactic| (k_here; k_dflt (refine' pile_size ?k1 ?k2 ?k3 ?k4 ?k5 ?k6 ?_; (case k1 | k2 | k3 => k_asm); (case k4 | k5 => k_mem); (case k6 => k_handed); k_whole)))
local macro_rules | `(tactic| walk_at "setAttr ref") => `(tactic| (k_here; k_dflt (refine' pile_set ?k1 ?k2 ?k3 ?k4 ?k5 ?_; (case k1 | k2 | k3 => k_asm); (case k4 => k_mem); (case k5 => k_upd); k_whole; intro h' F' N'; refine ks_wpAt_execs_cons ?_; refine ks_wpAt_Expr_any ?_; refine ks_wpAt_MethodCall ?_)))
local macro_rules | `(tactic| walk_at "call builtin:list.append") => `(tactic| (k_here; k_dflt (refine' pile_appendK ?k1 ?k2 ?k3 ?k4 ?k5 ?_; (case k1 | k2 | k3 => k_asm); (case k4 => k_upd); (case k5 => first | assumption | (simp only [List.size_toArray]; omega)); k_whole; intro h' F' N')))
local macro_rules | `(tactic| walk_at "getMethod ref") => `(tactic| (k_here; k_dflt (first | refine' super_len ?k1 ?k2 ?k3 ?k4 ?k5 ?_ | refine' super_init ?k1 ?k2 ?k3 ?k4 ?k5 ?_ | refine' super_pop ?k1 ?k2 ?k3 ?k4 ?k5 ?_); (case k1 | k2 | k3 => k_asm); (case k4 | k5 => k_mem); k_whole; intro q' h' F' N' l1'; (try k_lt l1')))
local macro_rules | `(tactic| walk_at "call ref") => `(tactic| (k_here; k_dflt (first | (refine' b_len ?k1 ?k2 ?k3 ?_; (case k1 => k_asm); (case k2 | k3 => k_mem); k_whole) | (refine' b_init ?k1 ?k2 ?k3 ?k4 ?_; (case k1 | k2 => k_asm); (case k3 => k_mem); (case k4 => k_upd); k_whole; intro h' F' N') | (refine' b_pop ?k1 ?k2 ?k3 ?k4 ?k5 ?k6 ?_; (case k1 | k2 | k3 => k_asm); (case k4 => k_mem); (case k5 => k_upd); (case k6 => first | assumption | omega); k_whole; intro h' F' N'))))
local macro_rules | `(tactic| walk_at "callWith ref") => `(tactic| (k_here; k_dflt (first | (refine' callWith_w ?k1 ?k2 ?_; (case k1 => k_asm); (case k2 => k_mem); k_whole) | (refine' callWith_m ?k1 ?k2 ?_; (case k1 => k_asm); (case k2 => k_mem); k_whole)); try dsimp only [List.nil_append, List.cons_append]))
local macro_rules | `(tactic| walk_at "wpAt") => `(tactic| first | refine ks_wpAt_execs_cons ?_ | refine ks_wpAt_Return_some ?_)
local macro_rules | `(tactic| walk_at "mine super") => `(tactic| (k_dflt (refine' ks_code_super ?k1 ?k2 ?k3 ?k4 ?k5 ?kA ?kF ?kK ?k6 ?k7 ?k8 ?k9 ?kB ?_ ?c5 ?c2 ?c3 ?c4; walk_at "mine cas"; k_whole; intro g' L' h' FG' F' N' B' X' T' lt'; (try dsimp only); (try k_fold))))

set_option maxHeartbeats 4000000 in
theorem push_ok (B : Below A₀ base outer h₀) (F : Fr h₀ L s.heap m) (X : (Mine.hd.heap_1 w.params).In h₀) {x d : Addr} {vs : List Value} {n : Nat} {tk f1 f2 : _} {v : Value} {t1 t2 : Tok} (N : News h₀ L s.heap ((x, pileOf d vs.toArray n) :: news)) (T : Top pz lz mean mg mb h₀) (hk : cs.kind = .function)
    (hd : dp + 10 < recursionLimit) (hu : un + 50 < cLine) (hne : ∀ p ∈ news, p.1 ≠ x) (hz : vs.length ≤ 1000) (hdi : (d, sizeD w.params tk v) ∈ news)
    (ret : ∀ h' tk' tu n' , Fr h₀ L h' m → News h₀ L h' ((x, pileOf d (vs ++ [Value.ref tu]).toArray n') :: (tu, { cls := .type "tuple", data := .seq #[.str f1 t1, .str f2 t2] 0 }) :: news) → (∀ p ∈ news, p.1 < tu) → x < tu → Q .none { s with heap := h', toks := tk' }) :
    wpAny (model PySem.Challenge.rw_xh0019_01.row.prog w) (ktrTop dp un gd cn cs L a ccd cl outer) (call (.ref 113) [.ref x, .str f1 t1, .str f2 t2]) Q E s := by
  walk_at "mine enter"
  k_steps
  rename _ ∧ AllLt _ _ => l1
  rename News h₀ L _ _ => N2
  rw [List.push_toArray] at N2
  exact ret _ _ _ (n + 1) (by assumption) (News.sub N2 fun p hp => by simp only [List.mem_cons] at hp ⊢; rcases hp with h | h | h <;> first | ((repeat (first | with_reducible exact h | with_reducible exact Or.inl h | apply Or.inr)); done) | (simp [h]; done)) (all_of l1.2) l1.1
set_option maxHeartbeats 4000000 in
theorem part_ok (B : Below A₀ base outer h₀) (F : Fr h₀ L s.heap m) (X : (Mine.hd.heap_1 w.params).In h₀) {x d : Addr} {vs : List Value} {n : Nat} {tk : Tok} {v : Value} (N : News h₀ L s.heap news) (hx : (x, pileOf d vs.toArray n) ∈ news) (T : Top pz lz mean mg mb h₀) (hk : cs.kind = .function)
    (hd : dp + 10 < recursionLimit) (hu : un + 50 < cLine) (hz : vs.length ≤ 1000) (hdi : (d, sizeD w.params tk v) ∈ news)
    (ret : ∀ h' tk' tk, Fr h₀ L h' m → News h₀ L h' news → Q (.int (vs.length : Int) tk) { s with heap := h', toks := tk' }) :
    wpAny (model PySem.Challenge.rw_xh0019_01.row.prog w) (ktrTop dp un gd cn cs L a ccd cl outer) (call (.ref 166) [.ref x]) Q E s := by
  refine wpAny_call ?_
  walk_at "mine super"
  k_steps
  rename News h₀ L _ _ => N2
  rw [List.size_toArray]
  exact ret _ _ _ (by assumption) (News.sub N2 fun p hp => List.mem_cons_of_mem _ (List.mem_cons_of_mem _ hp))
local macro_rules | `(tactic| walk_at "call ref") => `(tactic| (k_here; k_dflt (refine' part_ok ?B ?F ?X ?N ?hx ?T ?hk ?hd ?hu ?hz ?hdi ?_; walk_at "mine std"; (case hx => k_mem); (case hz => first | assumption | (simp only [List.length_append, List.length_cons, List.length_nil]; omega)); (case hdi => k_mem); k_whole); intro h' tk' tk' F' N'))

set_option maxHeartbeats 4000000 in
theorem pop_ok (B : Below A₀ base outer h₀) (F : Fr h₀ L s.heap m) (X : (Mine.hd.heap_1 w.params).In h₀) {x d : Addr} {ws : List Value} {y : Value} {n : Nat} {tk : Tok} {v : Value} (N : News h₀ L s.heap ((x, pileOf d (ws ++ [y]).toArray n) :: news)) (T : Top pz lz mean mg mb h₀) (hk : cs.kind = .function)
    (hd : dp + 30 < recursionLimit) (hu : un + 150 < cLine) (hne : ∀ p ∈ news, p.1 ≠ x) (hz : ws.length ≤ 900) (hdi : (d, sizeD w.params tk v) ∈ news)
    (ret : ∀ h' tk' , Fr h₀ L h' m → News h₀ L h' ((x, pileOf d ws.toArray (n + 1)) :: news) → Q y { s with heap := h', toks := tk' }) :
    wpAny (model PySem.Challenge.rw_xh0019_01.row.prog w) (ktrTop dp un gd cn cs L a ccd cl outer) (call (.ref 129) [.ref x]) Q E s := by
  refine wpAny_call ?_
  walk_at "mine super"
  have hz' : ws.length ≤ 1000 := by omega
  have hq : (((ws ++ [y]).length : Nat) : Int) ≠ 0 := by simp only [List.length_append, List.length_cons, List.length_nil]; omega
  iterate 14 walk1
  rotate_left
  walk1
  walk1
  walk1
  refine ks_wpAt_execs_cons ?_
  refine ks_wpAt_Return_some ?_
  refine ks_wpAt_MethodCall ?_
  k_steps
  · rename News h₀ L _ _ => N2
    exact ret _ _ (by assumption) (News.sub N2 fun p hp => List.mem_cons_of_mem _ (List.mem_cons_of_mem _ hp))
  · exact absurd (by assumption) hq
set_option maxHeartbeats 4000000 in
theorem pop0_ok (B : Below A₀ base outer h₀) (F : Fr h₀ L s.heap m) (X : (Mine.hd.heap_1 w.params).In h₀) {x d : Addr} {n : Nat} {tk : Tok} {v : Value} (N : News h₀ L s.heap ((x, pileOf d [].toArray n) :: news)) (T : Top pz lz mean mg mb h₀) (hk : cs.kind = .function)
    (hd : dp + 30 < recursionLimit) (hu : un + 150 < cLine) (hdi : (d, sizeD w.params tk v) ∈ news)
    (ret : ∀ h' tk' tu t1 t2, Fr h₀ L h' m → News h₀ L h' ((tu, { cls := .type "tuple", data := .seq #[.str (Str.ofString "") t1, .str (Str.ofString "") t2] 0 }) :: (x, pileOf d [].toArray n) :: news) → (∀ p ∈ ((x, pileOf d [].toArray n) :: news), p.1 < tu) → Q (.ref tu) { s with heap := h', toks := tk' }) :
    wpAny (model PySem.Challenge.rw_xh0019_01.row.prog w) (ktrTop dp un gd cn cs L a ccd cl outer) (call (.ref 129) [.ref x]) Q E s := by
  refine wpAny_call ?_
  walk_at "mine super"
  k_steps
  rename _ ∧ AllLt _ _ => l1
  rename News h₀ L _ _ => N2
  exact ret _ _ _ _ _ (by assumption) N2 fun p hp => by
    rcases List.mem_cons.mp hp with rfl | hp
    · exact l1.1
    · exact all_of l1.2 _ hp
set_option maxHeartbeats 4000000 in
theorem new_ok (B : Below A₀ base outer h₀) (F : Fr h₀ L s.heap m) (X : (Mine.hd.heap_1 w.params).In h₀) {v : Value} (hv : handedIn v = true) (N : News h₀ L s.heap news) (T : Top pz lz mean mg mb h₀) (hk : cs.kind = .function)
    (hd : dp + 30 < recursionLimit) (hu : un + 150 < cLine) 
    (ret : ∀ h' tk' x d tk, Fr h₀ L h' m → News h₀ L h' ((x, pileOf d [].toArray 0) :: (d, sizeD w.params tk v) :: news) → (∀ p ∈ news, p.1 < d) → d < x → Q (.ref x) { s with heap := h', toks := tk' }) :
    wpAny (model PySem.Challenge.rw_xh0019_01.row.prog w) (ktrTop dp un gd cn cs L a ccd cl outer) (call (.ref 169) [v]) Q E s := by
  refine call_pile F X N fun x dx h1 F1 N1 l1 l2 => ?_
  have l3 : ∀ p ∈ news, p.1 ≠ x := fun p hp => Nat.ne_of_lt (Nat.lt_trans (l1 p hp) l2)
  have l4 : ∀ p ∈ news, p.1 ≠ dx := fun p hp => Nat.ne_of_lt (l1 p hp)
  have l5 := ltN l2
  walk_at "mine super"
  k_steps
  rename News h₀ L _ _ => N2
  exact ret _ _ x dx _ (by assumption) (News.sub N2 fun p hp => List.mem_cons_of_mem _ (List.mem_cons_of_mem _ hp)) l1 l2
end
end
section
abbrev tup2 (a b : Value) : Obj := { cls := .type "tuple", data := .seq #[a, b] 0 }
section
variable {prog : Program} {w : World} {M : Model} {A : Around} {E : Value → Shared → Prop} {s : Shared}
theorem next_item {it l : Addr} {i nl : Nat} {ol : Obj} {items : Array Value} {x : Value} {Q : Option Value → Shared → Prop} (hit : s.heap.IsListIter it l i)
    (hol : s.heap.get? l = some ol) (hdl : ol.data = .seq items nl) (hx : items[i]? = some x)
    (hQ : ∀ h', h'.IsListIter it l (i + 1) → Heap.SameBut it s.heap h' → Q (some x) { s with heap := h' }) :
    wpAny (model prog w) A (pyNext (.ref it)) Q E s := by
  obtain ⟨o, ho, hc, hd⟩ := id hit
  unfold pyNext
  refine wpAny_bind (wpAny_attempt (wpAny_callSpecial?_slot (name := Str.ofString "__next__") hit.typeIs slot_listiter_next
    (wpAny_call_entry slot_listiter_next hit.typeIs entry_listiter_next ?_ (args_listiter_next _))))
  show wpAny _ _ (field (.ref it) 0 >>= _) _ _ s
  refine wpAny_bind (wpAny_field ho hd (x := .ref l) rfl ?_)
  show wpAny _ _ (if (Value.ref l == Value.none) = true then _ else _) _ _ s
  rw [if_neg (show ¬ ((Value.ref l == Value.none) = true) from Bool.false_ne_true)]
  show wpAny _ _ (field (.ref it) 1 >>= _) _ _ s
  refine wpAny_bind (wpAny_field ho hd (x := .int i 0) rfl ?_)
  show wpAny _ _ (seqItems? (.ref l) >>= _) _ _ s
  refine wpAny_bind (wpAny_seqItems hol hdl ?_)
  simp only [Int.toNat_natCast, hx]
  refine wpAny_bind (wpAny_setField ho hd (by simp) (wpAny_pure ⟨x, rfl, wpAny_pure (hQ _ ?_ (Heap.SameBut.update ..))⟩))
  exact ⟨_, Heap.get?_update_self _ ho (Obj.isFreed_of_fields (Obj.data_mapFields hd _)), (Obj.cls_mapFields ..).trans hc, by
    rw [Obj.data_mapFields hd]; simp [rawInt]⟩
theorem next_end {it l : Addr} {i nl : Nat} {ol : Obj} {items : Array Value} {Q : Option Value → Shared → Prop} (hh : A.handled = none)
    (hit : s.heap.IsListIter it l i) (hol : s.heap.get? l = some ol) (hdl : ol.data = .seq items nl) (hx : items[i]? = none)
    (hQ : ∀ h', Heap.ExtBut it s.heap h' → Q none { s with heap := h' }) : wpAny (model prog w) A (pyNext (.ref it)) Q E s := by
  obtain ⟨o, ho, hc, hd⟩ := id hit
  unfold pyNext
  refine wpAny_bind (wpAny_attempt (wpAny_callSpecial?_slot (name := Str.ofString "__next__") hit.typeIs slot_listiter_next
    (wpAny_call_entry slot_listiter_next hit.typeIs entry_listiter_next ?_ (args_listiter_next _))))
  show wpAny _ _ (field (.ref it) 0 >>= _) _ _ s
  refine wpAny_bind (wpAny_field ho hd (x := .ref l) rfl ?_)
  show wpAny _ _ (if (Value.ref l == Value.none) = true then _ else _) _ _ s
  rw [if_neg (show ¬ ((Value.ref l == Value.none) = true) from Bool.false_ne_true)]
  show wpAny _ _ (field (.ref it) 1 >>= _) _ _ s
  refine wpAny_bind (wpAny_field ho hd (x := .int i 0) rfl ?_)
  show wpAny _ _ (seqItems? (.ref l) >>= _) _ _ s
  refine wpAny_bind (wpAny_seqItems hol hdl ?_)
  simp only [Int.toNat_natCast, hx]
  refine wpAny_bind (wpAny_rule (wpAny_bind (wpAny_setField ho hd (by simp) ?_)))
  show wpAny _ _ (newExc (.type "StopIteration") [] >>= _) _ _ _
  refine wpAny_bind ?_
  simp only [newExc, newTuple]
  refine wpAny_bind (wpAny_newObj_type ?_ (by size_fits))
  refine wpAny_bind (m := firstArgMember _ _) (wpAny_of_eq (a := Value.none) (by first | rfl | (simp only [firstArgMember]; rfl)) ?_)
  refine wpAny_newObj_type ?_ (by size_fits)
  simp only [raiseNew]
  refine wpAny_bind (wpAny_handled ?_)
  rw [show A.in1.handled = none from hh]
  refine wpAny_bind (wpAny_pure (wpAny_throw ?_))
  refine wpAny_bind (wpAny_isInstance (T := "StopIteration") (b := true) ⟨_, Heap.get?_push_size _ rfl, rfl⟩ isSubtype_stop ?_)
  exact wpAny_pure (hQ _ (((Heap.SameBut.update ..).extBut.push _).push _))

theorem walksP (hh : A.handled = none) (I ax : Addr) (hne : ax ≠ I) (ol : Obj) (items : Array Value) (nl : Nat) (hdl : ol.data = .seq items nl) (Ts : Nat → Addr) (vals : Nat → Array Value)
    (hit : ∀ j, j < items.size → items[j]? = some (.ref (Ts j))) (hTI : ∀ j, j < items.size → Ts j ≠ I) :
    WalksU prog w A I (I :: ax :: (List.range items.size).map Ts) [I] items.size (fun j v => v = vals j)
      (fun j h => h.IsListIter I ax j ∧ h.get? ax = some ol ∧ ∀ k, k < items.size → h.IsTuple (Ts k) (vals k))
      (fun j T h => (j < items.size ∧ T = Ts j) ∧ h.IsListIter I ax (j + 1) ∧ h.get? ax = some ol ∧ ∀ k, k < items.size → h.IsTuple (Ts k) (vals k)) where
  sub := fun b hb => by simp at hb; simp [hb]
  frame := fun _ _ _ st hk => ⟨st.1.at fun o e => hk I (by simp) o e, hk ax (by simp) _ st.2.1,
    fun k hk' => (st.2.2 k hk').at fun o e => hk (Ts k) (List.mem_cons_of_mem _ (List.mem_cons_of_mem _ (List.mem_map.mpr ⟨k, List.mem_range.mpr hk', rfl⟩))) o e⟩
  item := fun i s Q E hi st hQ => by
    refine next_item st.1 st.2.1 hdl (x := .ref (Ts i)) (hit i hi) fun h' hit' hs' => ?_
    have tup : ∀ k, k < items.size → h'.IsTuple (Ts k) (vals k) := fun k hk' => (st.2.2 k hk').extBut hs'.extBut (hTI k hk')
    exact hQ (Ts i) (vals i) h' s.toks rfl (tup i hi) ⟨⟨hi, rfl⟩, hit', hs'.extBut _ _ hne st.2.1, tup⟩ fun b o hb e => hs'.extBut b o (fun h => hb (by simp [h])) e
  go := fun _ _ _ _ _ s Q _ hm hQ => wpAny_letOwnedTupleGo_listiter hm.2.1 (hQ s.heap hm.2 fun _ _ _ e => e)
  apart := fun j T _ hm hmem => by
    rcases List.mem_cons.mp hmem with e | e
    · exact hTI j hm.1.1 (hm.1.2 ▸ e)
    · cases e
  done := fun s Q E st hQ => next_end hh st.1 st.2.1 hdl (by simp) fun h' he' => hQ h' s.toks fun b o hb e => he' b o (fun h => hb (by simp [h])) e
  self := fun _ _ _ _ st hQ => wpAny_pyIter_listiter st.1 hQ

variable {x d P c L : Addr} {n : Nat} {h₀ : Heap} {m mg mb : Str → Option Value} {news : List (Addr × Obj)} {ps : Array Value} {mean : ExcName → Option Value}
theorem code_step {env : Env} {pos : Pos} {qn : Str} {scope : Scope} {Q : Value → Shared → Prop} (hc : env.code = .ref c) (C : CodeHd s.heap c P) (hP : s.heap.get? P = some (tabObj ps)) (ht : TriplesOk ps.toList)
    (h : ∀ code h' tk ps', Heap.ExtBut P s.heap h' → s.heap.objs.size ≤ h'.objs.size → h'.get? P = some (tabObj ps') → TriplesOk ps'.toList → Q code { s with heap := h', toks := tk }) :
    wpAny M A (genexprCode env pos qn scope) Q E s := by
  cases hf : codeAmong pos ps.toList with
  | some c' => exact wpAny_genexprCode_hit hc (C.code hP ht) hf (h c' s.heap s.toks ps (fun _ _ _ e => e) (Nat.le_refl _) hP ht)
  | none =>
    refine wpAny_genexprCodeX hc (C.code hP ht) (C.tab hP) hf fun c' h' tk hx hge hlt hcode _ htab _ => ?_
    obtain ⟨_, _, _, _, _, _, _, _, _, _, _, _, _, _, _, _, _, _, _, htr, _⟩ := hcode
    exact h _ h' tk _ hx (Nat.le_trans hge (Nat.le_of_lt hlt)) htab.2 htr
theorem passing_all (n : Nat) : passing (fun _ => true) n 0 = List.range n := by unfold passing; simp

theorem gen_toks {a Kb : Addr} {k : Nat} {Fv : Nat → Value → Prop} (X : Gen prog w A Kb a k Fv s) {tk : Nat} (h : s.toks ≤ tk) : Gen prog w A Kb a k Fv { s with toks := tk } := by
  obtain ⟨fp, wr, g, St, W, hst, hT, ha, hfp, hwr⟩ := X
  exact ⟨fp, wr, g, St, W, W.frame 0 s s.heap tk hst h (fun _ _ _ e => e), hT, ha, hfp, hwr⟩
theorem gen_pile {env : Env} {elt iter : PySem.Expr} {xa xb : Str} {pa pb pt : Pos} {kt : Nat} {scope : Scope} {pos : Pos} {Q : Value → Shared → Prop} {tvs : List (Addr × Value × Value)} {Fv : Nat → Value → Prop}
    (F : Fr h₀ L s.heap m) (X : (Mine.hd.heap_1 w.params).In h₀) (N : News h₀ L s.heap ((P, tabObj ps) :: news)) (T : Top pz lz mean mg mb h₀) (hPn : ∀ p ∈ news, p.1 ≠ P)
    (hx : (x, pileOf d (tvs.map fun t => Value.ref t.1).toArray n) ∈ news) (htv : ∀ t ∈ tvs, (t.1, tup2 t.2.1 t.2.2) ∈ news)
    (C : CodeHd h₀ c P) (ht : TriplesOk ps.toList) (G : AllBare s.gens) (hcode : env.code = .ref c) (hge : env.globals = mainGlobals)
    (hh : A.handled = none) (hco : scope.isCoroutine = false) (hclos : closureFor scope env = pure []) (hcell : ∀ y ∈ scope.names, y.2 ≠ .cell) (h0 : scope.names.lookup (".0" : Str) = some NameKind.local)
    (hxa : scope.names.lookup xa = some .local) (hxb : scope.names.lookup xb = some .local) (hab : xa ≠ xb) (hkind : scope.kind = .function) (hroom : A.depth < recursionLimit)
    (hit : ∀ {Q : Value → Shared → Prop}, Q (.ref x) s → wpAny (model prog w) A (eval iter env) Q E s)
    (g2 : ∀ (code : Value) (C' : Addr) (A' : Around) E' i t va vb (u : Shared) m₂, A'.handled = none → A'.depth ≤ A.depth + 1 → A'.units ≤ A.units + 8 → tvs[i]? = some (t, va, vb) → Fr h₀ C' u.heap m₂ → m₂ xa = some va → m₂ xb = some vb →
        wpAny (model prog w) A' (eval elt (genEnv scope [] C' code builtinsNs env)) (fun y s₃ => Fv i y ∧ Keeps u s₃) E' u)
    (hQ : ∀ a h₅ tk g' ps' Kb, Fr h₀ L h₅ m → News h₀ L h₅ ((P, tabObj ps') :: news) → AllBare g' → TriplesOk ps'.toList → L ≤ Kb → P ≤ Kb → (∀ p ∈ news, p.1 ≤ Kb) → (∀ tk', tk ≤ tk' → Gen prog w A Kb a tvs.length Fv ⟨h₅, g', s.drawn, tk', s.os⟩) → Q (.ref a) ⟨h₅, g', s.drawn, tk, s.os⟩)
    (hs : ∀ x, genFold iter env x = pure x) :
    wpAny (model prog w) A (eval (.GeneratorExp elt [⟨.Tuple [.Name xa pa, .Name xb pb] kt pt, iter, [], 0⟩] scope pos) env) Q E s := by
  obtain ⟨hp, gg, dr, tk, os⟩ := s
  have hxm : (x, pileOf d (tvs.map fun t => Value.ref t.1).toArray n) ∈ ((P, tabObj ps) :: news) := .tail _ hx
  have hxo := (N _ hxm).1
  have hPo := (N _ (.head _)).1
  obtain ⟨bm, ob, B⟩ := bmod_of_top T
  have hlim : hp.NoLimit := T.nolimit.keeps F.keep
  let Ts : Nat → Addr := fun j => (tvs[j]?.map fun t => t.1).getD 0
  let vals : Nat → Array Value := fun j => (tvs[j]?.map fun t => (#[t.2.1, t.2.2] : Array Value)).getD #[.none, .none]
  have hsz : (tvs.map fun t => Value.ref t.1).toArray.size = tvs.length := by simp
  have at' : ∀ j, j < tvs.length → ∃ t, tvs[j]? = some t ∧ t ∈ tvs := fun j hj => ⟨tvs[j], by simp [hj], List.getElem_mem hj⟩
  have hTs : ∀ j, j < (tvs.map fun t => Value.ref t.1).toArray.size → hp.IsTuple (Ts j) (vals j) := fun j hj => by
    obtain ⟨t, e, hm⟩ := at' j (hsz ▸ hj)
    simp only [Ts, vals, e, Option.map_some, Option.getD_some]
    exact ⟨_, (N _ (.tail _ (htv t hm))).1, rfl, 0, rfl⟩
  have hTlt : ∀ j, j < (tvs.map fun t => Value.ref t.1).toArray.size → Ts j < hp.objs.size := fun j hj => by obtain ⟨_, e, _⟩ := hTs j hj; exact Heap.lt_size e
  have hTP : ∀ j, j < (tvs.map fun t => Value.ref t.1).toArray.size → Ts j ≠ P := fun j hj => by
    obtain ⟨t, e, hm⟩ := at' j (hsz ▸ hj)
    simp only [Ts, e, Option.map_some, Option.getD_some]
    exact hPn _ (htv t hm)
  have hit' : ∀ j, j < (tvs.map fun t => Value.ref t.1).toArray.size → (tvs.map fun t => Value.ref t.1).toArray[j]? = some (.ref (Ts j)) := fun j hj => by
    obtain ⟨t, e, _⟩ := at' j (hsz ▸ hj)
    simp [Ts, e]
  have hxlt : x < hp.objs.size := Heap.lt_size hxo
  have hPlt : P < hp.objs.size := Heap.lt_size hPo
  have W := fun (A' : Around) (hA : A'.handled = none) => (walksP (prog := prog) (w := w) hA hp.objs.size x (Nat.ne_of_lt hxlt) (pileOf d (tvs.map fun t => Value.ref t.1).toArray n) (tvs.map fun t => Value.ref t.1).toArray n rfl Ts vals hit' fun j hj => Nat.ne_of_lt (hTlt j hj)).bound
  have hLlt : L < hp.objs.size := F.ns.lt
  refine wpAny_GeneratorExp_walksQTD hh hco hclos hcell h0 hxa hxb hab hkind hroom (hit ?_) hs
  refine pile_iter (X.keeps F.keep) K_sl K_it hxo ?_
  have F₂ := F.push { cls := .type "list_iterator", data := .fields #[.ref x, .int 0 0] }
  refine ⟨hlim.push _, code_step (c := c) (P := P) (ps := ps) hcode (C.keeps F₂.keep) (Heap.get?_push_of_some _ hPo) ht fun code h₃ tk₃ ps' hx₃ hge₃ hP₃ ht₃ => ?_⟩
  have nP : ∀ b o, h₀.get? b = some o → b ≠ P := fun b o e q => by
    have := (N _ (.head _)).2.2
    rw [← q, e] at this
    cases this
  have up₃ : ∀ b o, b ≠ P → hp.get? b = some o → h₃.get? b = some o := fun b o hb e => hx₃ b o hb (Heap.get?_push_of_some _ e)
  have k₀ : ∀ b o, h₀.get? b = some o → h₃.get? b = some o := fun b o e => up₃ b o (nP b o e) (F.keep b o e)
  have B₃ := B.keeps k₀
  rw [hge]
  refine wpAny_builtinsFor B₃.ns B₃.name B₃.ne B₃.obj B₃.cls B₃.dict B₃.data ?_
  have hsz₃ : hp.objs.size + 1 ≤ h₃.objs.size := by have := hge₃; rw [Heap.size_push] at this; exact this
  have hl₃ : h₃.NoLimit := T.nolimit.keeps k₀
  have hcw : cStatics ∉ [hp.objs.size] := fun hm => by
    obtain ⟨_, hn, _⟩ := hlim
    exact Nat.lt_irrefl _ (List.mem_singleton.mp hm ▸ hn.lt)
  have cl₀ : ∀ b o, h₀.get? b = some o → b < hp.objs.size := fun b o e => Nat.lt_of_lt_of_le (Heap.lt_size e) (Nat.le_trans F.above (Nat.le_of_lt hLlt))
  have pair : ∀ (i : Nat) (va vb : Value), (i < (tvs.map fun t => Value.ref t.1).toArray.size ∧ (#[va, vb] : Array Value) = vals i) → ∃ t, tvs[i]? = some (t, va, vb) := by
    rintro i va vb ⟨hi, e⟩
    obtain ⟨t, et, _⟩ := at' i (hsz ▸ hi)
    simp only [vals, et, Option.map_some, Option.getD_some] at e
    obtain ⟨e1, e2⟩ : va = t.2.1 ∧ vb = t.2.2 := by simpa using congrArg Array.toList e
    subst e1 e2
    exact ⟨t.1, et⟩
  refine ⟨hp.objs.size, _, _, _, _, _, _, (fun _ => true), Fv, rfl, W, (fun i v hv => by
      rcases hv with ⟨hi, rfl⟩
      obtain ⟨t, et, _⟩ := at' i (hsz ▸ hi)
      exact ⟨t.2.1, t.2.2, by simp [vals, et]⟩),
    ⟨⟨_, hx₃ _ _ (Nat.ne_of_gt hPlt) (Heap.get?_push_size _ rfl), rfl, rfl⟩, up₃ _ _ (hPn _ hx) hxo, fun k hk => (hTs k hk).at fun o e => up₃ _ o (hTP k hk) e⟩, ?_, hl₃, hcw, ?_, ?_⟩
  · intro b hb
    show b < h₃.objs.size
    rcases List.mem_cons.mp hb with rfl | hb
    · exact Nat.lt_of_lt_of_le (Nat.lt_succ_self _) hsz₃
    · rcases List.mem_cons.mp hb with rfl | hb
      · exact Nat.lt_of_lt_of_le (Nat.lt_succ_of_lt hxlt) hsz₃
      · obtain ⟨k, hk, rfl⟩ := List.mem_map.mp hb
        exact Nat.lt_of_lt_of_le (Nat.lt_succ_of_lt (hTlt k (List.mem_range.mp hk))) hsz₃
  · intro href hhref
    refine ⟨fun A' E' i va vb u m₂ hA hD hU hP hn hma hmb hkp => wpAny_pure ⟨rfl, u.heap, u.toks, rfl, fun _ _ e => e⟩, fun A' E' i va vb u m₂ hA hD hU hP hpz hn hma hmb hkp => ?_⟩
    obtain ⟨t, et⟩ := pair i va vb hP
    refine g2 code _ A' E' i t va vb u m₂ hA hD hU et ⟨hn, fun b o e => hkp b (List.mem_range.mpr (Heap.lt_size (k₀ b o e))) (fun hm => ?_) o (hhref b o (k₀ b o e)), ?_⟩ hma hmb
    · exact Nat.lt_irrefl _ (List.mem_singleton.mp hm ▸ cl₀ b o e)
    · exact Nat.le_trans F.above (Nat.le_trans (Nat.le_of_lt hLlt) (Nat.le_trans (Nat.le_succ _) hsz₃))
  · intro a h₅ tk₅ gs hgb hag hsz₅ hk₅ W' hat
    have hLP : L ≠ P := Ne.symm (N _ (.head _)).2.1
    have W2 := W'
    rw [passing_all, List.length_range, hsz] at W2
    rw [hsz] at hat
    have hag' : h₃.objs.size < a := hag
    have hs5 : h₅.objs.size = a + 1 := hsz₅
    obtain ⟨oL, es, ep, hL, r⟩ := F.ns
    refine hQ a h₅ tk₅ (gg.push gs) ps' (hp.objs.size - 1) ⟨⟨oL, es, ep, hk₅ _ _ (up₃ L _ hLP hL), r⟩, fun b o e => hk₅ _ _ (k₀ b o e), F.above⟩ (fun q hq => ?_) (G.push hgb) ht₃ (Nat.le_sub_one_of_lt hLlt) (Nat.le_sub_one_of_lt hPlt) (fun q hq => ?_)
      (fun tk' htk => gen_toks (s := ⟨h₅, gg.push gs, dr, tk₅, os⟩) ⟨_, _, _, _, WalksS.imp W2 (fun j y hy => ?_), hat, (fun i s' st => st.1.typeIs), List.mem_cons_self, ?_, ?_⟩ htk)
    · rcases List.mem_cons.mp hq with rfl | hq
      · exact ⟨hk₅ _ _ hP₃, (N _ (.head _)).2⟩
      · exact ⟨hk₅ _ _ (up₃ _ _ (hPn _ hq) (N _ (.tail _ hq)).1), (N _ (.tail _ hq)).2⟩
    · exact Nat.le_sub_one_of_lt (Heap.lt_size (N _ (.tail _ hq)).1)
    · obtain ⟨i, hi, hF⟩ := hy
      obtain ⟨hlt, e⟩ := List.getElem?_eq_some_iff.mp hi
      rw [List.getElem_range] at e
      exact e ▸ hF
    · intro b hb
      show b < h₅.objs.size
      rw [hs5]
      rcases List.mem_cons.mp hb with rfl | hb
      · exact Nat.lt_succ_self _
      · rcases List.mem_cons.mp hb with rfl | hb
        · exact Nat.lt_succ_of_lt hag'
        · exact Nat.lt_succ_of_lt (Nat.lt_trans (List.mem_range.mp hb) hag')
    · intro b hb
      rcases List.mem_cons.mp hb with rfl | hb
      · exact Nat.lt_of_lt_of_le (Nat.lt_of_le_of_lt (Nat.sub_le _ _) (Nat.lt_succ_self _)) hsz₃
      · rw [List.mem_singleton.mp hb]
        exact Nat.sub_lt (Nat.lt_of_le_of_lt (Nat.zero_le _) hLlt) Nat.one_pos

theorem walk_shift {I : Addr} {fp wr : List Addr} {G : Array GenState → Array GenState → Prop} {n : Nat} {Pp : Nat → Value → Prop} {St : Nat → Shared → Prop} (W : WalksS prog w A I fp wr G n Pp St) :
    WalksS prog w A I fp wr G (n + 1) (fun j v => match j with | 0 => False | i + 1 => Pp i v) (fun j s => match j with | 0 => False | i + 1 => St i s) where
  sub := W.sub
  grefl := W.grefl
  gtrans := W.gtrans
  frame := fun i s h' tk st a b => by cases i with | zero => exact st | succ i => exact W.frame i s h' tk st a b
  item := fun i s Q E hi st hQ => by
    cases i with
    | zero => exact st.elim
    | succ i => exact W.item i s Q E (Nat.lt_of_succ_lt_succ hi) st hQ
  done := fun s Q E st hQ => W.done s Q E st hQ
  self := fun i s Q E st hQ => by
    cases i with
    | zero => exact st.elim
    | succ i => exact W.self i s Q E st hQ
theorem args_sum2 (a b : Value) : argsOk "sum" ⟨[a, b], []⟩ := by unfold argsOk; kernel_rfl
def from1 (k : Int) (val : Nat → Int) : Nat → Int | 0 => k | i + 1 => val i
theorem from1_sum (k : Int) (val : Nat → Int) : ∀ n, preSum (from1 k val) (n + 1) = k + preSum val n
  | 0 => by simp [preSum, from1]
  | n + 1 => by
    show preSum (from1 k val) (n + 1) + val n = k + (preSum val n + val n)
    rw [from1_sum k val n]; omega
theorem sum_from {a Kb : Addr} {n : Nat} {Fv : Nat → Value → Prop} {k : Int} {t : Tok} {Q : Value → Shared → Prop} (G : AllBare s.gens) (X : Gen prog w A Kb a n Fv s) (val : Nat → Int) (hval : ∀ j v, Fv j v → ∃ t, v = .int (val j) t)
    (hQ : ∀ s' t', (∀ b o, b ≤ Kb → s.heap.get? b = some o → s'.heap.get? b = some o) → AllBare s'.gens → s'.drawn = s.drawn → s'.os = s.os → Q (.int (k + preSum val n) t') s') :
    wpAny (model prog w) A (call (.builtin "sum") [.ref a, .int k t]) Q E s := by
  obtain ⟨fp, wr, g, St, W, hst, _, _, hfp, hwr⟩ := X
  have W1 := W.in4_1
  have V := walk_shift W1
  refine call_function_tree F.kind_sum F.plain_sum F.entry_sum (args_sum2 _ _) ?_
  unfold Builtin.«sum»
  simp only [List.length_cons, List.length_nil]
  rw [if_neg (by decide)]
  refine wpAny_bind (wpAny_of_eq (show Builtin.Builtins.bindParams "sum" ["start"] 0 ⟨[.int k t], []⟩ = pure [some (.int k t)] from rfl) ?_)
  refine wpAny_bind (W1.self 0 s _ _ hst ?_)
  have tail : ∀ (s₂ : Shared) (u : Tok) (st : Int), (st = 0 ∨ st = 2) → (∃ tk, s₂ = { s with toks := tk } ∧ s.toks ≤ tk) →
      wpAny (model prog w) A.in1 (do
        for (ty, what, hint) in [("str", "strings", "''"), ("bytes", "bytes", "b''"), ("bytearray", "bytearray", "b''")] do
          if ← isInstance (.int k u) (.type ty) then
            rule "sum.start-refused"; raiseError "TypeError" s!"sum() can't sum {what} [use {hint}.join(seq) instead]"
        again (.builtin "sum.loop" ⟨[.ref a, ← newList [.int k u], rawInt st, rawInt 0], []⟩))
        (fun fin s' => match fin with | .done f => wants Q E (.ok f) s' | .again c' => c'.quiet = true ∧ codeAny (model prog w) A c' (wants Q E) s') (fun e s' => wants Q E (.error e) s') s₂ := by
    rintro s₂ u st hst2 ⟨tk, rfl, htk⟩
    simp only [List.forIn_cons, List.forIn_nil]
    refine wpAny_bind (wpAny_bind (wpAny_bind (wpAny_isInstance (T := "int") (b := false) (typeIs_int _ _ _) F.sub_int_str ?_)))
    simp only [Bool.false_eq_true, if_false]
    refine wpAny_pure (wpAny_bind (wpAny_bind (wpAny_isInstance (T := "int") (b := false) (typeIs_int _ _ _) F.sub_int_bytes ?_)))
    simp only [Bool.false_eq_true, if_false]
    refine wpAny_pure (wpAny_bind (wpAny_bind (wpAny_isInstance (T := "int") (b := false) (typeIs_int _ _ _) F.sub_int_bytearray ?_)))
    simp only [Bool.false_eq_true, if_false]
    refine wpAny_pure (wpAny_pure ?_)
    refine wpAny_bind (wpAny_newObj_type ?_)
    have hSf : s.heap.objs.size ∉ fp := fun hm => Nat.lt_irrefl _ (hfp _ hm)
    refine wpAny_pure ⟨plainId_quiet F.plain_sum_loop _, codeAny_sum_loopAnyS V (from1 k val) (fun i v hv => by cases i with | zero => exact hv.elim | succ i => exact hval i v hv) s.heap.objs.size hSf n 1 _ u 0 st hst2 (by omega) (by omega)
      (W1.frame 0 s _ _ hst htk fun b _ o e => Heap.get?_push_of_some _ e) ?_ fun s' t' hm => ?_⟩
    · show (s.heap.push _).get? s.heap.objs.size = _
      rw [show preSum (from1 k val) 1 = k by simp [preSum, from1]]
      exact Heap.get?_push_size _ rfl
    · rw [from1_sum]
      refine hQ s' t' (fun b o hb e => hm.heap b o (fun hmem => ?_) (Heap.get?_push_of_some _ e)) (AllBare.moved G hm.gens) hm.drawn hm.os
      rcases List.mem_cons.mp hmem with rfl | hmem
      · exact Nat.lt_irrefl _ (Heap.lt_size e)
      · exact Nat.lt_irrefl _ (Nat.lt_of_lt_of_le (hwr b hmem) hb)
  dsimp only
  split
  · exact wpAny_bind (wpAny_rule (wpAny_bind (wpAny_mkInt (wpAny_bind (wpAny_pure (tail _ _ 0 (.inl rfl) ⟨_, rfl, Nat.le_succ _⟩))))))
  · exact wpAny_bind (wpAny_pure (tail _ _ 2 (.inr rfl) ⟨s.toks, rfl, Nat.le_refl _⟩))
theorem join_pile {a Kb : Addr} {n : Nat} {Fv : Nat → Value → Prop} {sep : Str} {t : Tok} {Q : Value → Shared → Prop} (G : AllBare s.gens) (X : Gen prog w A Kb a n Fv s) (tx : Nat → Str) (htx : ∀ j v, Fv j v → ∃ u, v = .str (tx j) u)
    (hok : JoinOk sep ((List.range n).map tx) = true) (hz : n ≤ 1000)
    (hQ : ∀ s' t', (∀ b o, b ≤ Kb → s.heap.get? b = some o → s'.heap.get? b = some o) → AllBare s'.gens → s'.drawn = s.drawn → s'.os = s.os → Q (.str (Txt.join sep ((List.range n).map tx)) t') s') :
    wpAny (model prog w) A (call (.builtin "str.join") [.str sep t, .ref a]) Q E s := by
  obtain ⟨fp, wr, g, St, W, hst, hT, ha, hfp, hwr⟩ := X
  have W := W.in4_2
  refine SC.joinGen W hT hst hfp ha (fun j v hv => let ⟨u, e⟩ := htx j v hv; ⟨_, u, e⟩) (fun s' lt hm hacc => ?_) (by rw [sizeLine_eq]; omega)
  have hl : lt.map (·.1) = (List.range n).map tx := by
    apply List.ext_getElem?
    intro j
    have hsz : lt.length = n := by simpa [strValues] using hacc.1
    by_cases hj : j < n
    · have hj' : j < lt.length := hsz ▸ hj
      obtain ⟨u, hv⟩ := htx j _ (hacc.2 j (.str lt[j].1 lt[j].2) (by simp [strValues, List.getElem?_eq_getElem hj']))
      injection hv with h1 _
      simp [List.getElem?_eq_getElem hj', h1, hj]
    · rw [List.getElem?_eq_none (by simp; omega), List.getElem?_eq_none (by simp; omega)]
  rw [hl]
  exact ⟨hok, fun t' k => hQ { s' with toks := k } t' (fun b o hb e => hm.heap b o (fun hmem => Nat.lt_irrefl _ (Nat.lt_of_lt_of_le (hwr b hmem) hb)) e) (AllBare.moved G hm.gens) hm.drawn hm.os⟩

theorem fr_upto {h h' : Heap} {Kb : Addr} (F : Fr h₀ L h m) (hL : L ≤ Kb) (k : ∀ b o, b ≤ Kb → h.get? b = some o → h'.get? b = some o) : Fr h₀ L h' m :=
  let ⟨oL, es, ep, e, r⟩ := F.ns
  ⟨⟨oL, es, ep, k _ _ hL e, r⟩, fun b o e => k b o (Nat.le_trans (Nat.le_of_lt (Heap.lt_size e)) (Nat.le_trans F.above hL)) (F.keep b o e), F.above⟩
theorem news_upto {h h' : Heap} {Kb : Addr} (N : News h₀ L h news) (hn : ∀ p ∈ news, p.1 ≤ Kb) (k : ∀ b o, b ≤ Kb → h.get? b = some o → h'.get? b = some o) : News h₀ L h' news :=
  fun p hp => ⟨k _ _ (hn p hp) (N p hp).1, (N p hp).2⟩
theorem sum_N {a Kb : Addr} {n : Nat} {Fv : Nat → Value → Prop} {k : Int} {t : Tok} {Q : Value → Shared → Prop} (F : Fr h₀ L s.heap m) (N : News h₀ L s.heap news) (hL : L ≤ Kb) (hn : ∀ p ∈ news, p.1 ≤ Kb) (G : AllBare s.gens) (X : Gen prog w A Kb a n Fv s) (val : Nat → Int) (hval : ∀ j v, Fv j v → ∃ t, v = .int (val j) t)
    (hQ : ∀ h' g' tk' t', Fr h₀ L h' m → News h₀ L h' news → AllBare g' → Q (.int (k + preSum val n) t') ⟨h', g', s.drawn, tk', s.os⟩) : wpAny (model prog w) A (call (.builtin "sum") [.ref a, .int k t]) Q E s :=
  sum_from G X val hval fun s' t' hk hG hd ho => by
    obtain ⟨h', g', d', tk', os'⟩ := s'
    cases hd
    cases ho
    exact hQ h' g' tk' t' (fr_upto F hL hk) (news_upto N hn hk) hG
theorem join_N {a Kb : Addr} {n : Nat} {Fv : Nat → Value → Prop} {sep : Str} {t : Tok} {Q : Value → Shared → Prop} (F : Fr h₀ L s.heap m) (N : News h₀ L s.heap news) (hL : L ≤ Kb) (hn : ∀ p ∈ news, p.1 ≤ Kb) (G : AllBare s.gens) (X : Gen prog w A Kb a n Fv s) (tx : Nat → Str) (htx : ∀ j v, Fv j v → ∃ u, v = .str (tx j) u)
    (hok : JoinOk sep ((List.range n).map tx) = true) (hz : n ≤ 1000)
    (hQ : ∀ h' g' tk' t', Fr h₀ L h' m → News h₀ L h' news → AllBare g' → Q (.str (Txt.join sep ((List.range n).map tx)) t') ⟨h', g', s.drawn, tk', s.os⟩) : wpAny (model prog w) A (call (.builtin "str.join") [.str sep t, .ref a]) Q E s :=
  join_pile G X tx htx hok hz fun s' t' hk hG hd ho => by
    obtain ⟨h', g', d', tk', os'⟩ := s'
    cases hd
    cases ho
    exact hQ h' g' tk' t' (fr_upto F hL hk) (news_upto N hn hk) hG
end
end
section
section
variable {prog : Program} {w : World} {M : Model} {A : Around} {E : Value → Shared → Prop} {s : Shared} {env : Env} {h₀ : Heap} {m mg mb : Str → Option Value} {mean : ExcName → Option Value}
theorem nm_local {y : Str} {v : Value} {p : Pos} {Q : Value → Shared → Prop} (hk : env.scope.kind = .function) (hy : env.kindOf y = some .local) (F : Fr h₀ env.locals s.heap m) (hv : m y = some v) (h : Q v s) (hd : (y == ("__debug__" : Str)) = false := by decide) :
    wpAny M A (eval (.Name y p) env) Q E s := wpAny_Name (wpAny_loadName_local hk hy F.ns hv h) hd
theorem nm_builtin {L : Addr} {y : Str} {v : Value} {p : Pos} {Q : Value → Shared → Prop} (hk : env.scope.kind = .function) (hy : env.kindOf y = some .globalImplicit) (hg : env.globals = mainGlobals) (hb : env.builtins = builtinsNs) (F : Fr h₀ L s.heap m) (X : (Mine.hd.heap_1 w.params).In h₀) (T : Top pz lz mean mg mb h₀)
    (hn : nsIn (Mine.hd.heap_1 w.params) mainGlobals y = some none) (hne : y ≠ Str.ofString "__name__") (hboot : bootBuiltins y = some v) (h : Q v s) (hd : (y == ("__debug__" : Str)) = false := by decide) :
    wpAny M A (eval (.Name y p) env) Q E s :=
  wpAny_Name (ks_loadName_global hk hy (loadGlobal_builtin (env := env) (hg ▸ T.g.keeps F.keep) (mg_none_of X T.g hn) (hb ▸ T.b.keeps F.keep) ((T.builtins _ hne).trans hboot) h)) hd
theorem nm_global {L : Addr} {y : Str} {v : Value} {p : Pos} {Q : Value → Shared → Prop} (hk : env.scope.kind = .function) (hy : env.kindOf y = some .globalImplicit) (hg : env.globals = mainGlobals) (F : Fr h₀ L s.heap m) (X : (Mine.hd.heap_1 w.params).In h₀) (T : Top pz lz mean mg mb h₀)
    (hn : nsIn (Mine.hd.heap_1 w.params) mainGlobals y = some (some v)) (h : Q v s) (hd : (y == ("__debug__" : Str)) = false := by decide) :
    wpAny M A (eval (.Name y p) env) Q E s :=
  wpAny_Name (ks_loadName_global hk hy (by
    unfold loadGlobal
    refine wpAny_bind (wpAny_nsGet (hg ▸ T.g.keeps F.keep) ?_)
    rw [mg_of X T.g hn]
    exact wpAny_pure h)) hd
theorem len_call {y f : Str} {t : Tok} {p1 p2 p3 : Pos} {Q : Value → Shared → Prop} (hk : env.scope.kind = .function) (hl : env.kindOf (Str.ofString "len") = some .globalImplicit) (hy : env.kindOf y = some .local) (hg : env.globals = mainGlobals) (hb : env.builtins = builtinsNs) (F : Fr h₀ env.locals s.heap m) (X : (Mine.hd.heap_1 w.params).In h₀) (T : Top pz lz mean mg mb h₀)
    (hv : m y = some (.str f t)) (hz : f.length ≤ 1000) (h : ∀ tk t', Q (.int f.length t') { s with toks := tk }) (hd : (y == ("__debug__" : Str)) = false := by decide) :
    wpAny (model prog w) A (eval (.Call (.Name (Str.ofString "len") p1) [.Name y p2] [] p3) env) Q E s := by
  refine wpAny_Call_NameR (nm_builtin hk hl hg hb F X T (by k_is) (by decide) (by first | boot_by_name | rfl | kernel_rfl) ?_ (by decide))
  refine callWith_method1 (args_cons (nm_local hk hy F hv (args_nil ?_) hd))
  exact SBL.len (by omega) (h _ _)
theorem mcall {o : PySem.Expr} {name : Str} {apos pos : Pos} {args : List PySem.Expr} {pl : Sem Bool} {Q : Value → Shared → Prop}
    (he : eval (.Call (.Attribute o name apos) args [] pos) env = (do
      let ov ← eval o env
      standAt apos.atName
      let (f, first) ← holding [ov] (getMethod ov name pl)
      callWith pos f first (backTo pos (starEach args env)) []))
    (h : wpAny M A (eval o env) (fun ov s₁ => wpAny M A (getMethod ov name pl) (fun fx s₂ => wpAny M A (callWith pos fx.1 fx.2 (backTo pos (starEach args env)) []) Q E s₂) E s₁) E s) :
    wpAny M A (eval (.Call (.Attribute o name apos) args [] pos) env) Q E s := by
  rw [he]
  exact wpAny_bind (wpAny_mono h (fun ov s₁ h₁ => wpAny_bind (wpAny_standAt (wpAny_bind (wpAny_holding (wpAny_mono h₁ (fun fx s₂ h₂ => h₂) fun _ _ x => x))))) fun _ _ x => x)
theorem join_call {ya yb fa fb : Str} {ta tb : Tok} {p1 p2 p3 p4 p5 p6 : Pos} {kt : Nat} {pl : Sem Bool} {Q : Value → Shared → Prop} (hk : env.scope.kind = .function) (hl : env.kindOf (Str.ofString "EMPTYSTRING") = some .globalImplicit) (hya : env.kindOf ya = some .local) (hyb : env.kindOf yb = some .local) (hg : env.globals = mainGlobals) (F : Fr h₀ env.locals s.heap m) (X : (Mine.hd.heap_1 w.params).In h₀) (T : Top pz lz mean mg mb h₀)
    (he : eval (.Call (.Attribute (.Name (Str.ofString "EMPTYSTRING") p1) (Str.ofString "join") p2) [.Tuple [.Name ya p3, .Name yb p4] kt p5] [] p6) env = (do
      let ov ← eval (.Name (Str.ofString "EMPTYSTRING") p1) env
      standAt p2.atName
      let (f, first) ← holding [ov] (getMethod ov (Str.ofString "join") pl)
      callWith p6 f first (backTo p6 (starEach [.Tuple [.Name ya p3, .Name yb p4] kt p5] env)) []))
    (hva : m ya = some (.str fa ta)) (hvb : m yb = some (.str fb tb)) (hza : fa.length ≤ 1000) (hzb : fb.length ≤ 1000)
    (h : ∀ tk t', Q (.str (Txt.join (Str.ofString "") [fa, fb]) t') { s with heap := s.heap.push { cls := .type "tuple", data := .seq #[.str fa ta, .str fb tb] }, toks := tk }) (hda : (ya == ("__debug__" : Str)) = false := by decide) (hdb : (yb == ("__debug__" : Str)) = false := by decide) :
    wpAny (model prog w) A (eval (.Call (.Attribute (.Name (Str.ofString "EMPTYSTRING") p1) (Str.ofString "join") p2) [.Tuple [.Name ya p3, .Name yb p4] kt p5] [] p6) env) Q E s := by
  refine mcall he (nm_global hk hl hg F X T (by k_is) ?_ (by decide))
  refine GM.join ?_
  refine callWith_method1 (args_cons (wpAny_Tuple_spliced (args_cons (nm_local hk hya F hva (args_cons (nm_local hk hyb F hvb (args_nil ⟨by rw [sizeLine_eq]; exact Nat.le_of_ble_eq_true rfl, args_nil ?_⟩) hdb)) hda))))
  refine join_tuple (items := #[.str fa ta, .str fb tb]) (ys := [fa, fb]) ⟨_, Heap.get?_push_size _ rfl, rfl, 0, rfl⟩ ?_ ?_ fun t' k => h k t'
  · exact .cons _ _ (.cons _ _ .nil)
  · simp only [List.map_cons, List.map_nil, List.sum_cons, List.sum_nil, List.length_cons, List.length_nil]
    have : (Str.ofString "").length = 0 := rfl
    omega
end
end
section
abbrev Pc := Addr × (Str × Tok) × (Str × Tok)
abbrev pcT (q : Pc) : Addr × Value × Value := (q.1, .str q.2.1.1 q.2.1.2, .str q.2.2.1 q.2.2.2)
abbrev pcLen (q : Pc) : Int := (q.2.1.1.length : Int) + (q.2.2.1.length : Int)
section
variable {w : World} {mean : ExcName → Option Value} {mg mb : Str → Option Value} {dp un : Nat} {gd : Option (List Code)} {cn : Str} {cs : Scope} {L a : Addr} {ccd : Value} {cl : List (Str × Addr)} {outer : List Env} {A₀ : Around} {base h₀ : Heap} {m : Str → Option Value} {news : List (Addr × Obj)} {s : Shared} {Q E : Value → Shared → Prop}
local macro_rules | `(tactic| k_all) => `(tactic| assumption)
local macro_rules | `(tactic| k_inst) => `(tactic| exact pile_at (by k_asm) (by k_mem) (by k_mem))
local macro_rules | `(tactic| walk_at "getAttr ref") => `(tactic| (k_here; k_dflt (refine' pile_size ?k1 ?k2 ?k3 ?k4 ?k5 ?k6 ?_; (case k1 | k2 | k3 => k_asm); (case k4 | k5 => k_mem); (case k6 => exact rfl); k_whole)))
local macro_rules | `(tactic| walk_at "eval GeneratorExp") => `(tactic| refine Held.out ?_)
abbrev pcStr (q : Pc) : Str := Txt.join (Str.ofString "") [q.2.1.1, q.2.2.1]
set_option maxHeartbeats 4000000 in
theorem len_ok (B : Below A₀ base outer h₀) (F : Fr h₀ L s.heap m) (X : (Mine.hd.heap_1 w.params).In h₀) {x d : Addr} {pcs : List Pc} {n : Nat} {ps : Array Value} {tk t : Tok} {k : Int} (N : News h₀ L s.heap ((131, tabObj ps) :: news)) (T : Top pz lz mean mg mb h₀) (hk : cs.kind = .function)
    (hd : dp + 30 < recursionLimit) (hu : un + 150 < cLine) (hPn : ∀ p ∈ news, p.1 ≠ 131) (ht : TriplesOk ps.toList) (G : AllBare s.gens)
    (hx : (x, pileOf d (pcs.map fun q => Value.ref q.1).toArray n) ∈ news) (hdi : (d, sizeD w.params tk (.int k t)) ∈ news) (htv : ∀ q ∈ pcs, (q.1, tup2 (pcT q).2.1 (pcT q).2.2) ∈ news)
    (hzz : ∀ q ∈ pcs, q.2.1.1.length ≤ 1000 ∧ q.2.2.1.length ≤ 1000)
    (ret : ∀ h' tk' g' ps' t', Fr h₀ L h' m → News h₀ L h' ((131, tabObj ps') :: news) → TriplesOk ps'.toList → AllBare g' → Q (.int (k + (pcs.map pcLen).sum) t') ⟨h', g', s.drawn, tk', s.os⟩) :
    wpAny (model PySem.Challenge.rw_xh0019_01.row.prog w) (ktrTop dp un gd cn cs L a ccd cl outer) (call (.ref 136) [.ref x]) Q E s := by
  walk_at "mine enter"
  k_steps
  refine ⟨?_⟩
  have e9 : (pcs.map fun q => Value.ref q.1) = (pcs.map pcT).map fun t => Value.ref t.1 := by simp
  rw [e9] at hx
  refine gen_pile (c := 135) (P := 131) (x := x) (tvs := pcs.map pcT) (Fv := fun i v => ∃ t, v = .int ((pcs.map pcLen).getD i 0) t) (by assumption) (by assumption) (by assumption) (by assumption) hPn hx (fun t ht => ?hv) (codeHd_of_K (by assumption) (by kernel_rfl)) ht G rfl rfl rfl rfl rfl (by decide) rfl rfl rfl (by decide) rfl ?room ?it ?g2 ?go ?hs
  case hv =>
    obtain ⟨q, hq, rfl⟩ := List.mem_map.mp ht
    exact htv q hq
  case room => walk_at "mine room"
  case it => intro Q hq; repeat (first | exact hq | walk1)
  case g2 =>
    intro code C' A' E' i t va vb u m₂ hA hD hU hget F₂ ha hb
    rw [List.getElem?_map] at hget
    obtain ⟨q, hq, e⟩ := Option.map_eq_some_iff.mp hget
    cases e
    have hz := hzz q (List.mem_of_getElem? hq)
    have e : (q.2.1.1.length : Int) + (q.2.2.1.length : Int) = (pcs.map pcLen).getD i 0 := by
      rw [List.getD_eq_getElem?_getD, List.getElem?_map, hq]
      rfl
    exact wpAny_BinOp (len_call rfl rfl rfl rfl rfl F₂ (by assumption) (by assumption) ha hz.1 (fun tk1 t1 => len_call (s := { u with toks := tk1 }) rfl rfl rfl rfl rfl F₂ (by assumption) (by assumption) hb hz.2 (fun tk2 t2 => wpAny_add_int ⟨⟨_, congrArg (Value.int · _) e⟩, u.heap, _, rfl, fun _ _ e => e⟩)))
  case go =>
    intro a5 h5 tk5 g5 ps5 Kb F5 N5 G5 t5 l1 l2 l3 X5
    have hall : ∀ p ∈ ((131, tabObj ps5) :: news), p.1 ≤ Kb := fun p hp => by
      rcases List.mem_cons.mp hp with rfl | hp
      · exact l2
      · exact l3 _ hp
    iterate 5 walk1
    show wpAny _ _ (call (.builtin "sum") [.ref a5, .int k t]) _ _ _
    refine sum_N F5 N5 l1 hall G5 (X5 _ (Nat.le_succ _)) (fun j => (pcs.map pcLen).getD j 0) (fun j v h => h) ?_
    intro h6 g6 tk6 t6 F6 N6 G6
    have e : preSum (fun j => (pcs.map pcLen).getD j 0) (pcs.map pcT).length = (pcs.map pcLen).sum := by
      rw [preSum_getD, List.take_of_length_le (by simp)]
    rw [e]
    k_steps
    exact ret _ _ _ _ _ (by assumption) (by assumption) t5 G6
  case hs => intro _; rfl
set_option maxHeartbeats 4000000 in
theorem str_ok (B : Below A₀ base outer h₀) (F : Fr h₀ L s.heap m) (X : (Mine.hd.heap_1 w.params).In h₀) {x d : Addr} {pcs : List Pc} {n : Nat} {ps : Array Value} (N : News h₀ L s.heap ((138, tabObj ps) :: news)) (T : Top pz lz mean mg mb h₀) (hk : cs.kind = .function)
    (hd : dp + 30 < recursionLimit) (hu : un + 150 < cLine) (hPn : ∀ p ∈ news, p.1 ≠ 138) (ht : TriplesOk ps.toList) (G : AllBare s.gens)
    (hx : (x, pileOf d (pcs.map fun q => Value.ref q.1).toArray n) ∈ news) (hpz : pcs.length ≤ 100) (hj : ((pcs.map pcStr).map (·.length)).sum ≤ 100000) (htv : ∀ q ∈ pcs, (q.1, tup2 (pcT q).2.1 (pcT q).2.2) ∈ news)
    (hzz : ∀ q ∈ pcs, q.2.1.1.length ≤ 1000 ∧ q.2.2.1.length ≤ 1000)
    (ret : ∀ h' tk' g' ps' t', Fr h₀ L h' m → News h₀ L h' ((138, tabObj ps') :: news) → TriplesOk ps'.toList → AllBare g' → Q (.str (Txt.join (Str.ofString "") (pcs.map pcStr)) t') ⟨h', g', s.drawn, tk', s.os⟩) :
    wpAny (model PySem.Challenge.rw_xh0019_01.row.prog w) (ktrTop dp un gd cn cs L a ccd cl outer) (call (.ref 143) [.ref x]) Q E s := by
  walk_at "mine enter"
  k_steps
  refine ⟨?_⟩
  have e9 : (pcs.map fun q => Value.ref q.1) = (pcs.map pcT).map fun t => Value.ref t.1 := by simp
  rw [e9] at hx
  refine gen_pile (c := 142) (P := 138) (x := x) (tvs := pcs.map pcT) (Fv := fun i v => ∃ t, v = .str ((pcs.map pcStr).getD i (Str.ofString "")) t) (by assumption) (by assumption) (by assumption) (by assumption) hPn hx (fun t ht => ?hv) (codeHd_of_K (by assumption) (by kernel_rfl)) ht G rfl rfl rfl rfl rfl (by decide) rfl rfl rfl (by decide) rfl ?room ?it ?g2 ?go ?hs
  case hv =>
    obtain ⟨q, hq, rfl⟩ := List.mem_map.mp ht
    exact htv q hq
  case room => walk_at "mine room"
  case it => intro Q hq; repeat (first | exact hq | walk1)
  case g2 =>
    intro code C' A' E' i t va vb u m₂ hA hD hU hget F₂ ha hb
    rw [List.getElem?_map] at hget
    obtain ⟨q, hq, e⟩ := Option.map_eq_some_iff.mp hget
    cases e
    have hz := hzz q (List.mem_of_getElem? hq)
    have e : Txt.join (Str.ofString "") [q.2.1.1, q.2.2.1] = (pcs.map pcStr).getD i (Str.ofString "") := by
      rw [List.getD_eq_getElem?_getD, List.getElem?_map, hq]
      rfl
    refine join_call (pl := ?pl) rfl rfl rfl rfl rfl F₂ (by assumption) (by assumption) ?he ha hb hz.1 hz.2 (fun tk1 t1 => ⟨⟨_, congrArg (Value.str · _) e⟩, _, _, rfl, fun _ _ e => Heap.get?_push_of_some _ e⟩)
    case he => rfl
  case go =>
    intro a5 h5 tk5 g5 ps5 Kb F5 N5 G5 t5 l1 l2 l3 X5
    have hall : ∀ p ∈ ((138, tabObj ps5) :: news), p.1 ≤ Kb := fun p hp => by
      rcases List.mem_cons.mp hp with rfl | hp
      · exact l2
      · exact l3 _ hp
    iterate 1 walk1
    show wpAny _ _ (call (.builtin "str.join") [.str _ _, .ref a5]) _ _ _
    have e : (List.range (pcs.map pcT).length).map (fun j => (pcs.map pcStr).getD j (Str.ofString "")) = pcs.map pcStr := by
      apply List.ext_getElem?
      intro j
      simp only [List.getElem?_map, List.length_map, List.getD_eq_getElem?_getD]
      by_cases hj : j < pcs.length
      · simp [List.getElem?_range hj, List.getElem?_eq_getElem hj]
      · rw [List.getElem?_eq_none (by simp; omega), List.getElem?_eq_none (by omega)]; rfl
    have hok : JoinOk (Str.ofString "") (pcs.map pcStr) = true := joinOk_of (by
      have : (Str.ofString "").length = 0 := rfl
      rw [this, Nat.mul_zero]
      omega)
    refine join_N F5 N5 l1 hall G5 (X5 _ (Nat.le_refl _)) (fun j => (pcs.map pcStr).getD j (Str.ofString "")) (fun j v h => h) (by rw [e]; exact hok) (by rw [List.length_map]; omega) ?go2
    case go2 =>
      intro h6 g6 tk6 t6 F6 N6 G6
      rw [e]
      k_steps
      exact ret _ _ _ _ _ (by assumption) (by assumption) t5 G6
  case hs => intro _; rfl
end
end
section
section
variable {w : World} {mean : ExcName → Option Value} {mg mb : Str → Option Value} {dp un : Nat} {gd : Option (List Code)} {cn : Str} {cs : Scope} {L a : Addr} {ccd : Value} {cl : List (Str × Addr)} {outer : List Env} {A₀ : Around} {base h₀ : Heap} {m : Str → Option Value} {news : List (Addr × Obj)} {s : Shared} {E : Value → Shared → Prop}
theorem K_ln : findIn (Mine.hd.heap_1 w.params) (.ref 169) (Str.ofString "__len__") = some (some (.ref 136)) := by k_is
theorem K_st : findIn (Mine.hd.heap_1 w.params) (.ref 169) (Str.ofString "__str__") = some (some (.ref 143)) := by k_is
theorem K_bo : findIn (Mine.hd.heap_1 w.params) (.ref 169) (Str.ofString "__bool__") = some none := by k_is
theorem K_f1 : isFn (Mine.hd.heap_1 w.params) (.ref 136) = true := by k_is
theorem K_f2 : isFn (Mine.hd.heap_1 w.params) (.ref 143) = true := by k_is
theorem len_body {prog : Program} {A : Around} {s : Shared} {x C f : Addr} {ox : Obj} {od : Option Obj} {K : Frag} {Q : Value → Shared → Prop} (X : K.In s.heap) (I : InstAt s.heap x ox C od) (hs : findIn K (.ref C) "__len__" = some (some (.ref f))) (hf : isFn K (.ref f) = true)
    (h : wpAny (model prog w) A (call (.ref f) [.ref x]) (PySem.W.LenBack Q) E s) : wpAny (model prog w) A (Builtin.«len» ⟨[.ref x], []⟩) (fun fin s' => ∃ v, fin = .done (.ret v) ∧ Q v s') E s := by
  unfold Builtin.«len»
  refine wpAny_bind (m := oneArg "len" _) (wpAny_pure ?_)
  refine wpAny_bind (m := callSpecial? (.ref x) (Str.ofString "__len__")) (special_fn X I hs (beq_iff_eq.mp hf) (wpAny_mono h (fun r s' hr => ?_) fun _ _ y => y))
  cases r <;> first | exact hr.elim | skip
  rename_i n u
  obtain ⟨⟨h0, h1⟩, hq⟩ := hr
  refine wpAny_bind (wpAny_holding (wpAny_pure ?_))
  refine wpAny_bind (wpAny_letGo ?_)
  show wpAny _ _ (if n < 0 then _ else _) _ _ _
  rw [if_neg (by omega)]
  show wpAny _ _ (if n ≥ 2 ^ 63 then _ else _) _ _ _
  rw [if_neg (by omega)]
  exact wpAny_bind (wpAny_mkInt (wpAny_pure ⟨_, rfl, hq⟩))
theorem lenb_ok {Q : Value → Shared → Prop} (B : Below A₀ base outer h₀) (F : Fr h₀ L s.heap m) (X : (Mine.hd.heap_1 w.params).In h₀) {x d : Addr} {pcs : List Pc} {n : Nat} {ps : Array Value} {tk t : Tok} {k : Int} (N : News h₀ L s.heap ((131, tabObj ps) :: news)) (T : Top pz lz mean mg mb h₀) (hk : cs.kind = .function)
    (hd : dp + 30 < recursionLimit) (hu : un + 160 < cLine) (hPn : ∀ p ∈ news, p.1 ≠ 131) (ht : TriplesOk ps.toList) (G : AllBare s.gens)
    (hx : (x, pileOf d (pcs.map fun q => Value.ref q.1).toArray n) ∈ news) (hdi : (d, sizeD w.params tk (.int k t)) ∈ news) (htv : ∀ q ∈ pcs, (q.1, tup2 (pcT q).2.1 (pcT q).2.2) ∈ news)
    (hzz : ∀ q ∈ pcs, q.2.1.1.length ≤ 1000 ∧ q.2.2.1.length ≤ 1000) (h0 : 0 ≤ k + (pcs.map pcLen).sum) (h1 : k + (pcs.map pcLen).sum < 1000000)
    (ret : ∀ h' tk' g' ps' t', Fr h₀ L h' m → News h₀ L h' ((131, tabObj ps') :: news) → TriplesOk ps'.toList → AllBare g' → Q (.int (k + (pcs.map pcLen).sum) t') ⟨h', g', s.drawn, tk', s.os⟩) :
    wpAny (model PySem.Challenge.rw_xh0019_01.row.prog w) (ktrTop dp un gd cn cs L a ccd cl outer) (call (.builtin "len") [.ref x]) Q E s := by
  refine len_K F X (pile_at N (.tail _ hx) (.tail _ hdi)) K_ln K_f1 ?_
  exact len_ok (dp := dp) (un := un + 1) B F X N T hk hd (by omega) hPn ht G hx hdi htv hzz fun h' tk' g' ps' t' F' N' t5 G' => ⟨⟨h0, by omega⟩, ret h' _ g' ps' _ F' N' t5 G'⟩
theorem truthy_ok {Q : Bool → Shared → Prop} (B : Below A₀ base outer h₀) (F : Fr h₀ L s.heap m) (X : (Mine.hd.heap_1 w.params).In h₀) {x d : Addr} {pcs : List Pc} {n : Nat} {ps : Array Value} {tk t : Tok} {k : Int} (N : News h₀ L s.heap ((131, tabObj ps) :: news)) (T : Top pz lz mean mg mb h₀) (hk : cs.kind = .function)
    (hd : dp + 30 < recursionLimit) (hu : un + 160 < cLine) (hPn : ∀ p ∈ news, p.1 ≠ 131) (ht : TriplesOk ps.toList) (G : AllBare s.gens)
    (hx : (x, pileOf d (pcs.map fun q => Value.ref q.1).toArray n) ∈ news) (hdi : (d, sizeD w.params tk (.int k t)) ∈ news) (htv : ∀ q ∈ pcs, (q.1, tup2 (pcT q).2.1 (pcT q).2.2) ∈ news)
    (hzz : ∀ q ∈ pcs, q.2.1.1.length ≤ 1000 ∧ q.2.2.1.length ≤ 1000) (h0 : 0 ≤ k + (pcs.map pcLen).sum) (h1 : k + (pcs.map pcLen).sum < 1000000)
    (ret : ∀ h' tk' g' ps', Fr h₀ L h' m → News h₀ L h' ((131, tabObj ps') :: news) → TriplesOk ps'.toList → AllBare g' → Q (k + (pcs.map pcLen).sum != 0) ⟨h', g', s.drawn, tk', s.os⟩) :
    wpAny (model PySem.Challenge.rw_xh0019_01.row.prog w) (ktrTop dp un gd cn cs L a ccd cl outer) (truthy (.ref x)) Q E s := by
  have X' := X.keeps F.keep
  have I := pile_at N (.tail _ hx) (.tail _ hdi)
  unfold truthy
  refine wpAny_bind (m := callSpecial? (.ref x) (Str.ofString "__bool__")) (wpAny_bind (wpAny_bind (I.type.here ((looks_findIn X' K_bo).here (wpAny_pure ?_)))))
  refine wpAny_bind (wpAny_bind (I.type.here ((looks_findIn X' K_ln).here ?_)))
  show wpAny _ _ (runValue (.builtin "len" ⟨[.ref x], []⟩) >>= _) _ _ _
  refine wpAny_bind (wpAny_runValue (codeAny_builtin entry_len ?_))
  rw [Around.under_plainId plain_len _]
  refine wpAny_mono (len_body X' I K_ln K_f1 (Q := fun v s' => ∃ n u, v = .int n u ∧ Q (n != 0) s') (len_ok (dp := dp) (un := un + 1) B F X N T hk hd (by omega) hPn ht G hx hdi htv hzz fun h' tk' g' ps' t' F' N' t5 G' => ⟨⟨h0, by omega⟩, _, _, rfl, ret h' _ g' ps' F' N' t5 G'⟩)) (fun fin s' hr => ?_) fun _ _ y => y
  obtain ⟨v, rfl, n, u, rfl, hq⟩ := hr
  exact wpAny_pure hq
theorem strb_ok {Q : Value → Shared → Prop} (B : Below A₀ base outer h₀) (F : Fr h₀ L s.heap m) (X : (Mine.hd.heap_1 w.params).In h₀) {x d : Addr} {pcs : List Pc} {n : Nat} {ps : Array Value} {od : Obj} (N : News h₀ L s.heap ((138, tabObj ps) :: news)) (T : Top pz lz mean mg mb h₀) (hk : cs.kind = .function)
    (hd : dp + 30 < recursionLimit) (hu : un + 160 < cLine) (hPn : ∀ p ∈ news, p.1 ≠ 138) (ht : TriplesOk ps.toList) (G : AllBare s.gens)
    (hx : (x, pileOf d (pcs.map fun q => Value.ref q.1).toArray n) ∈ news) (hdi : (d, od) ∈ news) (hpz : pcs.length ≤ 100) (hj : ((pcs.map pcStr).map (·.length)).sum ≤ 100000) (htv : ∀ q ∈ pcs, (q.1, tup2 (pcT q).2.1 (pcT q).2.2) ∈ news)
    (hzz : ∀ q ∈ pcs, q.2.1.1.length ≤ 1000 ∧ q.2.2.1.length ≤ 1000)
    (ret : ∀ h' tk' g' ps' t', Fr h₀ L h' m → News h₀ L h' ((138, tabObj ps') :: news) → TriplesOk ps'.toList → AllBare g' → Q (.str (Txt.join (Str.ofString "") (pcs.map pcStr)) t') ⟨h', g', s.drawn, tk', s.os⟩) :
    wpAny (model PySem.Challenge.rw_xh0019_01.row.prog w) (ktrTop dp un gd cn cs L a ccd cl outer) (call (.type "str") [.ref x]) Q E s := by
  refine kso_call ?_ (X.keeps F.keep) (pile_at N (.tail _ hx) (.tail _ hdi)) K_st K_f2 ?_
  · show un + 1 + 1 < cLine
    omega
  · exact str_ok (dp := dp) (un := un + 2) B F X N T hk hd (by omega) hPn ht G hx hpz hj htv hzz fun h' tk' g' ps' t' F' N' t5 G' => ret h' _ g' ps' _ F' N' t5 G'
local macro_rules | `(tactic| k_all) => `(tactic| assumption)
local macro_rules | `(tactic| walk_at "getAttr ref") => `(tactic| (k_here; k_dflt (refine' pile_size ?k1 ?k2 ?k3 ?k4 ?k5 ?k6 ?_; (case k1 | k2 | k3 => k_asm); (case k4 | k5 => k_mem); (case k6 => exact rfl); k_whole)))
local macro_rules | `(tactic| walk_at "truthy ref") => `(tactic| refine Held.out ?_)
local macro_rules | `(tactic| walk_at "call type:str") => `(tactic| refine Held.out ?_)
set_option maxHeartbeats 4000000 in
theorem ws_no {Q : Value → Shared → Prop} (B : Below A₀ base outer h₀) (F : Fr h₀ L s.heap m) (X : (Mine.hd.heap_1 w.params).In h₀) {x d : Addr} {vs : Array Value} {n : Nat} {tk t : Tok} {k : Int} (N : News h₀ L s.heap news) (T : Top pz lz mean mg mb h₀) (hk : cs.kind = .function)
    (hd : dp + 60 < recursionLimit) (hu : un + 300 < cLine) (hx : (x, pileOf d vs n) ∈ news) (hdi : (d, sizeD w.params tk (.int k t)) ∈ news) (hk0 : k ≠ 0)
    (ret : ∀ h' tk', Fr h₀ L h' m → News h₀ L h' news → Q (.bool false) { s with heap := h', toks := tk' }) :
    wpAny (model PySem.Challenge.rw_xh0019_01.row.prog w) (ktrTop dp un gd cn cs L a ccd cl outer) (call (.ref 158) [.ref x]) Q E s := by
  walk_at "mine enter"
  k_steps
  · exact absurd (by first | assumption | (rename (k == 0) = true => e; simpa using e)) hk0
  · have e : (k == 0) = false := by simp [hk0]
    rw [e]
    exact ret _ _ (by assumption) (by assumption)
set_option maxHeartbeats 4000000 in
theorem ws_yes {Q : Value → Shared → Prop} (B : Below A₀ base outer h₀) (F : Fr h₀ L s.heap m) (X : (Mine.hd.heap_1 w.params).In h₀) {x d : Addr} {pcs : List Pc} {n : Nat} {ps1 ps2 : Array Value} {tk t : Tok} (N : News h₀ L s.heap ((131, tabObj ps1) :: (138, tabObj ps2) :: news)) (T : Top pz lz mean mg mb h₀) (hk : cs.kind = .function)
    (hd : dp + 60 < recursionLimit) (hu : un + 300 < cLine) (hP1 : ∀ p ∈ news, p.1 ≠ 131) (hP2 : ∀ p ∈ news, p.1 ≠ 138) (ht1 : TriplesOk ps1.toList) (ht2 : TriplesOk ps2.toList) (G : AllBare s.gens)
    (hx : (x, pileOf d (pcs.map fun q => Value.ref q.1).toArray n) ∈ news) (hdi : (d, sizeD w.params tk (.int 0 t)) ∈ news) (hpz : pcs.length ≤ 100) (hj : ((pcs.map pcStr).map (·.length)).sum ≤ 100000) (htv : ∀ q ∈ pcs, (q.1, tup2 (pcT q).2.1 (pcT q).2.2) ∈ news)
    (hzz : ∀ q ∈ pcs, q.2.1.1.length ≤ 1000 ∧ q.2.2.1.length ≤ 1000) (h0 : 0 ≤ (pcs.map pcLen).sum) (h1 : (pcs.map pcLen).sum < 1000000)
    (ret : ∀ h' tk' g' ps1' ps2', Fr h₀ L h' m → News h₀ L h' ((131, tabObj ps1') :: (138, tabObj ps2') :: news) → TriplesOk ps1'.toList → TriplesOk ps2'.toList → AllBare g' → Q (.bool (decide ((pcs.map pcLen).sum = 0) || Txt.isspace (Txt.join (Str.ofString "") (pcs.map pcStr)))) ⟨h', g', s.drawn, tk', s.os⟩) :
    wpAny (model PySem.Challenge.rw_xh0019_01.row.prog w) (ktrTop dp un gd cn cs L a ccd cl outer) (call (.ref 158) [.ref x]) Q E s := by
  walk_at "mine enter"
  k_steps
  refine ⟨?_⟩
  have hQ1 : ∀ p ∈ ((138, tabObj ps2) :: news), p.1 ≠ 131 := fun p hp => by
    rcases List.mem_cons.mp hp with rfl | hp
    · exact (by decide : (138 : Nat) ≠ 131)
    · exact hP1 p hp
  have hQ2 : ∀ ps, ∀ p ∈ ((131, tabObj ps) :: news), p.1 ≠ 138 := fun ps p hp => by
    rcases List.mem_cons.mp hp with rfl | hp
    · exact (by decide : (131 : Nat) ≠ 138)
    · exact hP2 p hp
  refine truthy_ok (by assumption) (by assumption) (by assumption) (by assumption) (by assumption) rfl (by dsimp only [ktrTop, Around.deeper]; omega) (by dsimp only [ktrTop, Around.deeper]; omega) hQ1 ht1 G (.tail _ hx) (.tail _ hdi) (fun q hq => .tail _ (htv q hq)) hzz (by omega) (by omega) ?_
  intro h5 tk5 g5 ps5 F5 N5 t5 G5
  by_cases hs : (pcs.map pcLen).sum = 0
  · have e : (0 + (pcs.map pcLen).sum != 0) = false := by simp [hs]
    rw [e]
    k_steps
    have e2 : (decide ((pcs.map pcLen).sum = 0) || Txt.isspace (Txt.join (Str.ofString "") (pcs.map pcStr))) = !false := by simp [hs]
    rw [← e2]
    exact ret _ _ _ _ _ (by assumption) (by assumption) t5 ht2 G5
  · have e : (0 + (pcs.map pcLen).sum != 0) = true := by simp [hs]
    rw [e]
    k_steps
    refine ⟨?_⟩
    have N6 := News.sub N5 (news' := (138, tabObj ps2) :: (131, tabObj ps5) :: news) fun p hp => by
      rcases List.mem_cons.mp hp with rfl | hp
      · exact .tail _ (.head _)
      · rcases List.mem_cons.mp hp with rfl | hp
        · exact .head _
        · exact .tail _ (.tail _ hp)
    refine strb_ok (by assumption) F5 (by assumption) N6 (by assumption) rfl (by dsimp only [ktrTop, Around.deeper]; omega) (by dsimp only [ktrTop, Around.deeper]; omega) (hQ2 _) ht2 G5 (.tail _ hx) (.tail _ hdi) hpz hj (fun q hq => .tail _ (htv q hq)) hzz ?_
    intro h6 tk6 g6 ps6 t6 F6 N7 t7 G6
    k_steps
    have e2 : (decide ((pcs.map pcLen).sum = 0) || Txt.isspace (Txt.join (Str.ofString "") (pcs.map pcStr))) = Txt.isspace (Txt.join (Str.ofString "") (pcs.map pcStr)) := by simp [hs]
    rw [← e2]
    rename News h₀ L _ _ => N8
    refine ret _ _ _ _ _ (by assumption) (News.sub N8 fun p hp => ?_) t5 t7 G6
    rcases List.mem_cons.mp hp with rfl | hp
    · exact .tail _ (.head _)
    · rcases List.mem_cons.mp hp with rfl | hp
      · exact .head _
      · exact .tail _ (.tail _ hp)
end
end
section
local macro_rules | `(tactic| walk_at "mine pad") => `(tactic| skip)
section
variable {prog : Program} {w : World} {A : Around} {E : Value → Shared → Prop} {s : Shared} {h₀ : Heap} {L l : Addr} {m : Str → Option Value} {news news' : List (Addr × Obj)}
theorem getI {vs : Array Value} {n j : Nat} {k : Int} {t : Tok} {v : Value} {Q : Value → Shared → Prop} (hl : s.heap.get? l = some (listOf vs n)) (hk : k = j) (hj : j ≤ 1000) (hx : vs[j]? = some v) (h : Q v s) : wpAny (model prog w) A (getItem (.ref l) (.int k t)) Q E s := by
  subst hk
  exact wpAny_getItem_list (show s.heap.IsList l vs from ⟨_, hl, rfl, n, rfl⟩) (by omega) (by omega) hx h
theorem lenL {vs : Array Value} {Q : Value → Shared → Prop} (hl : s.heap.IsList l vs) (hz : vs.size ≤ 1000) (h : Q (.int (vs.size : Int) (s.toks + 1)) { s with toks := s.toks + 1 + 1 }) : wpAny (model prog w) A (call (.builtin "len") [.ref l]) Q E s :=
  call_len_list hl (by omega) h
theorem getL_ {vs : Array Value} {j : Nat} {k : Int} {t : Tok} {v : Value} {Q : Value → Shared → Prop} (hl : s.heap.IsList l vs) (hk : k = j) (hj : j ≤ 1000) (hx : vs[j]? = some v) (h : Q v s) : wpAny (model prog w) A (getItem (.ref l) (.int k t)) Q E s := by
  subst hk
  exact wpAny_getItem_list hl (by omega) (by omega) hx h
theorem lenI {vs : Array Value} {n : Nat} {Q : Value → Shared → Prop} (hl : s.heap.get? l = some (listOf vs n)) (hz : vs.size ≤ 1000) (h : Q (.int (vs.size : Int) (s.toks + 1)) { s with toks := s.toks + 1 + 1 }) : wpAny (model prog w) A (call (.builtin "len") [.ref l]) Q E s :=
  call_len_list (show s.heap.IsList l vs from ⟨_, hl, rfl, n, rfl⟩) (by omega) h
theorem set_at {vs : Array Value} {n : Nat} {k : Int} {t : Tok} {v : Value} {Q : Unit → Shared → Prop} (ho : s.heap.get? l = some (listOf vs n)) (h0 : 0 ≤ k) (hfit : k < 2 ^ 63) (hn : k < vs.size)
    (h : Q () { s with heap := s.heap.update l (Obj.mapSeq (·.setIfInBounds k.toNat v)) }) : wpAny (model prog w) A (setItem (.ref l) (.int k t) v) Q E s := by
  have hl : s.heap.IsList l vs := ⟨_, ho, rfl, n, rfl⟩
  unfold setItem
  try with_reducible refine wpAny_holding ?_
  first | refine wpAny_bind (wpAny_pure ?_) | skip
  refine wpAny_bind (wpAny_sequenceKey hl.typeIs (by decide) ?_)
  refine wpAny_bind (wpAny_callSpecial?_slot (name := Str.ofString "__setitem__") hl.typeIs slot_list_setitem
    (wpAny_call_entry slot_list_setitem hl.typeIs entry_list_setitem ?_ (args_list_setitem _ _ _)))
  show wpAny _ _ (Builtin.List.listSubscript? (.int k t) >>= _) _ _ s
  refine wpAny_bind (wpAny_listSubscript_int (fitsIndex_of h0 hfit) ?_)
  clear hfit
  obtain ⟨j, rfl⟩ := Int.eq_ofNat_of_zero_le h0
  have hj : j < vs.size := by omega
  have hx' : vs[j]? = some vs[j] := Array.getElem?_eq_getElem hj
  show wpAny _ _ ((seqItemAt l j >>= fun r => pure (r.map (j, ·))) >>= _) _ _ s
  refine wpAny_bind (wpAny_bind (wpAny_seqItemAt ho rfl (wpAny_pure ?_)))
  rw [hx']
  show wpAny _ _ (setSeqItemAt l j v >>= _) _ _ s
  refine wpAny_bind (wpAny_setSeqItemAt ho rfl ?_)
  first
    | exact wpAny_bind (wpAny_pure (wpAny_pure ⟨.none, rfl, wpAny_pure h⟩))
    | exact wpAny_pure ⟨.none, rfl, wpAny_pure h⟩
theorem setI {vs : Array Value} {n : Nat} {k : Int} {t : Tok} {v : Value} {Q : Unit → Shared → Prop} (F : Fr h₀ L s.heap m) (N : News h₀ L s.heap news) (h0 : 0 ≤ k) (hn : k < vs.size) (hz : vs.size ≤ 1000) (U : Upd l (listOf vs n) (listOf (vs.setIfInBounds k.toNat v) n) news news')
    (h : ∀ h', Fr h₀ L h' m → News h₀ L h' news' → Q () { s with heap := h' }) : wpAny (model prog w) A (setItem (.ref l) (.int k t) v) Q E s := by
  obtain ⟨pre, post, rfl, rfl, a, b⟩ := U.split
  have ho := (N (l, listOf vs n) (List.mem_append_right _ (.head _))).1
  have e2 : Obj.mapSeq (·.setIfInBounds k.toNat v) (listOf vs n) = listOf (vs.setIfInBounds k.toNat v) n := by
    unfold Obj.mapSeq
    have e3 : ((vs.setIfInBounds k.toNat v).size == vs.size) = true := by simp
    simp only [e3]
    rfl
  obtain ⟨F', N'⟩ := news_upd F N a b e2 rfl
  exact set_at ho h0 (by omega) hn (h _ F' N')
end
section
variable {w : World} {mean : ExcName → Option Value} {mg mb : Str → Option Value} {dp un : Nat} {gd : Option (List Code)} {cn : Str} {cs : Scope} {L a : Addr} {ccd : Value} {cl : List (Str × Addr)} {outer : List Env} {A₀ : Around} {base h₀ : Heap} {m : Str → Option Value} {news : List (Addr × Obj)} {s : Shared} {Q E : Value → Shared → Prop}
local macro_rules | `(tactic| k_all) => `(tactic| assumption)
local macro_rules | `(tactic| walk_at "call builtin:len") => `(tactic| (refine lenL (Heap.IsList.at (Heap.IsList.at (by assumption) (Fr.keep (by assumption) _)) (Fr.keep (by assumption) _)) (by omega) ?_))
theorem script_at {L' : Addr} {m' : Str → Option Value} {value slice : PySem.Expr} {its : Array Value} {i : Nat} {sl : Addr} {g : Heap} {prog : Program} {A : Around} {k : Int} {t u : Tok} {Q : Value → Shared → Prop} (hS : h₀.IsList sl its) (F1 : Fr h₀ L g m) (F2 : Fr g L' s.heap m') (hz : its.size ≤ 63) (hlt : i < its.size) (hx : its[i]? = some (.int k t)) (h : Q (.int k t) s)
    (hs : subscripted slice false (.ref sl) (.int (0 + (i : Nat)) u) = operate [.ref sl, .int (0 + (i : Nat)) u] (getItem (.ref sl) (.int (0 + (i : Nat)) u)) := by with_unfolding_all rfl) : wpAny (model prog w) A (subscriptTail value slice (.ref sl) (.int (0 + (i : Nat)) u)) Q E s :=
  have hl : s.heap.IsList sl its := (hS.at (F1.keep _)).at (F2.keep _)
  tail_any hl.typeIs slot_list_getitem.lookup (getL_ (j := i) hl (by omega) (by omega) hx h) hs
local macro_rules | `(tactic| walk_at "subscriptTail") => `(tactic| (k_here; k_dflt (refine' script_at ?a ?b ?c ?d ?e ?f ?_; (case a | b | c | d | e | f => assumption); k_whole)))
local macro_rules | `(tactic| walk_at "setItem ref int") => `(tactic| (k_here; k_dflt (refine' setI ?F ?N ?a ?b ?c ?U ?_; (case F | N => k_asm); (case a => omega); (case b => (show _ < ((4 : Nat) : Int); omega)); (case c => exact Nat.le_of_ble_eq_true rfl); (case U => exact Upd.tail (by assumption) (Upd.head (by assumption))); k_whole; intro h' F' N')))
set_option maxHeartbeats 4000000 in
theorem cells_ok (B : Below A₀ base outer h₀) (F : Fr h₀ L s.heap m) (X : (Mine.hd.heap_1 w.params).In h₀) (N : News h₀ L s.heap news) (T : Top pz lz mean mg mb h₀) (hk : cs.kind = .function)
    (hd : dp + 10 < recursionLimit) (hu : un + 50 < cLine) {sl : Addr} {its : Array Value} (hS : h₀.IsList sl its) (hz : its.size ≤ 63) (hi' : ∀ i, i < its.size → ∃ k t, its[i]? = some (.int k t))
    (ret : ∀ h' tk' l c0 c1 c2 c3 t0 t1 t2 t3 n, Fr h₀ L h' m → News h₀ L h' ((l, listOf #[.int c0 t0, .int c1 t1, .int c2 t2, .int c3 t3] n) :: news) → (∀ p ∈ news, p.1 < l) → Q (.ref l) { s with heap := h', toks := tk' }) :
    wpAny (model PySem.Challenge.rw_xh0019_01.row.prog w) (ktrTop dp un gd cn cs L a ccd cl outer) (call (.ref 180) [.ref sl]) Q E s := by
  walk_at "mine enter"
  k_steps
  refine ⟨?_⟩
  refine' range_loop (n := its.size) (fun i m₁ ns g => ∃ l c0 c1 c2 c3 t0 t1 t2 t3 e, ns = (l, listOf #[.int c0 t0, .int c1 t1, .int c2 t2, .int c3 t3] e) :: news ∧ (∀ p ∈ news, p.1 < l) ∧ g = s.gens ∧ m₁ (Str.ofString "cells") = some (.ref l) ∧ m₁ (Str.ofString "script") = some (.ref sl)) rfl (by assumption) ?sm ?sz rfl rfl ?hE ?F ?N ?hj ?_ ?_
  case F => k_asm
  case N => k_asm
  case hE => first | passes_own | walk1
  case hj => exact ⟨_, 7, 13, 261, 2, _, _, _, _, _, rfl, by assumption, rfl, rfl, rfl⟩
  case sm => exact rng_small (by omega) (by omega)
  case sz => exact rng_size (by omega)
  · rintro i it m₁ ns h g tk t hi ⟨l, c0, c1, c2, c3, t0, t1, t2, t3, e, rfl, hl, rfl, e1, e2⟩ hne F₁ N₁
    have F₂ := Fr.ovP [(Str.ofString "cells", _), (Str.ofString "script", _)] F₁ ⟨e1, e2, trivial⟩
    clear F₁ e1 e2
    obtain ⟨k9, t9, hx9⟩ := hi' i hi
    have hm0 : 0 ≤ (0 + (i : Int)).fmod 4 := Int.fmod_nonneg_of_pos _ (by decide)
    have hm1 : (0 + (i : Int)).fmod 4 < 4 := Int.fmod_lt_of_pos _ (by decide)
    have hnl : ∀ p ∈ news, p.1 ≠ l := fun p hp => Nat.ne_of_lt (hl p hp)
    have hne' : ∀ v, ∀ p ∈ (l, (v : Obj)) :: news, p.1 ≠ it := fun v p hp => by
      rcases List.mem_cons.mp hp with rfl | hp
      · exact (hne _ List.mem_cons_self : l ≠ it)
      · exact hne _ (.tail _ hp)
    have hil : it ≠ l := Ne.symm (hne _ List.mem_cons_self : l ≠ it)
    k_steps
    refine setI (by assumption) N₁ hm0 (by rw [show (#[Value.int c0 t0, Value.int c1 t1, Value.int c2 t2, Value.int c3 t3] : Array Value).size = 4 from rfl]; exact hm1) (Nat.le_of_ble_eq_true rfl) (Upd.tail hil (Upd.head hnl)) ?_
    intro h9 F9 N9
    k_steps
    refine LpStep.go F9 N9 (hne' _) ?_
    have hm : (0 + (i : Int)).fmod 4 = 0 ∨ (0 + (i : Int)).fmod 4 = 1 ∨ (0 + (i : Int)).fmod 4 = 2 ∨ (0 + (i : Int)).fmod 4 = 3 := by omega
    rcases hm with hm | hm | hm | hm <;> rw [hm] <;> exact ⟨l, _, _, _, _, _, _, _, _, _, rfl, hl, rfl, rfl, rfl⟩
  · rintro m₁ ns h g tk ⟨l, c0, c1, c2, c3, t0, t1, t2, t3, e, rfl, hl, rfl, e1, e2⟩ F₁ N₁
    have F₂ := Fr.ovP [(Str.ofString "cells", _), (Str.ofString "script", _)] F₁ ⟨e1, e2, trivial⟩
    clear F₁ e1 e2
    k_steps
    exact ret _ _ _ _ _ _ _ _ _ _ _ _ (by assumption) (by assumption) hl
end
end
section
abbrev qt : Str := Str.ofString "\""
theorem cat_l (a b : Str) : (a ++ b).cps.toList = a.cps.toList ++ b.cps.toList := by rw [Str.cps_append, Array.toList_append]
theorem str_eq {a b : Str} (h : a.cps.toList = b.cps.toList) : a = b := Str.ext' (Array.toList_inj.mp h)
theorem len_l (a : Str) : a.length = a.cps.toList.length := by simp [Str.length]
theorem fold_q : ∀ (n : Nat) (z : Array Nat), ((List.replicate n (qt.cps)).foldl (· ++ ·) z).toList = z.toList ++ List.replicate n 34
  | 0, z => by simp
  | n + 1, z => by
    rw [List.replicate_succ, List.foldl_cons, fold_q n, Array.toList_append, List.replicate_succ, List.append_assoc]
    rfl
theorem mul_q (n : Nat) : (Txt.mul qt (n : Int)).cps.toList = List.replicate n 34 := by
  unfold Txt.mul
  split
  · have : n = 0 := by omega
    subst this; rfl
  · split
    · rename_i h1 h2
      have : n = 1 := by
        have e : (qt.length == 0) = false := rfl
        rw [e, Bool.or_false] at h2
        have := eq_of_beq h2
        omega
      subst this; rfl
    · rw [Int.toNat_natCast, fold_q]; rfl
theorem slice_to (x : Str) {k : Nat} (h : k ≤ x.length) : (Txt.slice x none (some (k : Int))).cps.toList = x.cps.toList.take k := by
  have := eq_of_beq (slice_closes_to (x := x) (j := (k : Int)) ⟨by omega, by rw [← len_l]; omega⟩)
  rw [this]
  simp
theorem slice_fr (x : Str) {i j : Nat} (h1 : i ≤ j) (h2 : j ≤ x.length) : (Txt.slice x (some (i : Int)) (some (j : Int))).cps.toList = (x.cps.toList.drop i).take (j - i) := by
  have := eq_of_beq (slice_closes (x := x) (i := (i : Int)) (j := (j : Int)) ⟨by omega, by omega, by rw [← len_l]; omega⟩)
  rw [this]
  have : ((j : Int) - (i : Int)).toNat = j - i := by omega
  simp [this]
theorem slice_last (x : Str) {k : Nat} (hk : 0 < k) : (Txt.slice x (some (-(k : Int))) none).cps.toList = x.cps.toList.drop (x.length - k) := by
  have e : Txt.slice x (some (-(k : Int))) none = Txt.slice x (some ((x.length - k : Nat) : Int)) none := by
    have : Builtin.Str.strSliceIndices (some (-(k : Int))) none 1 x.length = Builtin.Str.strSliceIndices (some ((x.length - k : Nat) : Int)) none 1 x.length := by
      have a : (-(k : Int)) < 0 := by omega
      have b : ¬ (((x.length - k : Nat) : Int) < 0) := by omega
      have c : max (0 : Int) (min (-(k : Int) + (x.length : Int)) (x.length : Int)) = max (0 : Int) (min ((x.length - k : Nat) : Int) (x.length : Int)) := by omega
      simp only [Builtin.Str.strSliceIndices, a, b, if_true, if_false, show (1 : Int) > 0 from by decide, c]
    unfold Txt.slice
    rw [this]
  rw [e]
  have := eq_of_beq (slice_closes_from (x := x) (i := ((x.length - k : Nat) : Int)) ⟨by omega, by rw [← len_l]; omega⟩)
  rw [this]
  have h2 : ((x.cps.toList.length : Int) - ((x.length - k : Nat) : Int)).toNat = x.length - (x.length - k) := by rw [← len_l]; omega
  simp only [List.toList_toArray, Int.toNat_natCast, h2]
  rw [List.take_of_length_le]
  rw [List.length_drop, ← len_l]
  omega

theorem pl_pair (r : List Nat) : pl (34 :: 34 :: r) = 34 :: pl r := by simp [pl]
theorem pl_stop {c : Nat} (hc : c ≠ 34) (r : List Nat) : pl (34 :: c :: r) = [] := by simp [pl, hc]
theorem pl_sign {c : Nat} (hc : c ≠ 34) : ∀ (r : List Nat), pl (c :: r) = c :: pl r
  | [] => by simp [pl, hc]
  | d :: r => by simp [pl, hc]
theorem rep2 (h : Nat) : List.replicate (2 * (h + 1)) 34 = 34 :: 34 :: List.replicate (2 * h) 34 := by
  rw [show 2 * (h + 1) = (2 * h + 1) + 1 by omega, List.replicate_succ, List.replicate_succ]
theorem pl_even {sg : Nat} (hs : sg ≠ 34) {tl : List Nat} (ht : pl tl = []) : ∀ h : Nat, pl (List.replicate (2 * h) 34 ++ sg :: 34 :: 34 :: sg :: tl) = List.replicate h 34 ++ [sg, 34, sg]
  | 0 => by
    show pl (sg :: 34 :: 34 :: sg :: tl) = [sg, 34, sg]
    rw [pl_sign hs, pl_pair, pl_sign hs, ht]
  | h + 1 => by
    rw [rep2, List.cons_append, List.cons_append, pl_pair, pl_even hs ht h, List.replicate_succ]
    rfl
theorem pl_odd {sg : Nat} (hs : sg ≠ 34) {tl : List Nat} : ∀ h : Nat, pl (List.replicate (2 * h + 1) 34 ++ sg :: 34 :: 34 :: sg :: tl) = List.replicate h 34
  | 0 => pl_stop hs _
  | h + 1 => by
    rw [show 2 * (h + 1) + 1 = ((2 * h + 1) + 1) + 1 by omega, List.replicate_succ, List.replicate_succ, List.cons_append, List.cons_append, pl_pair, pl_odd hs h, List.replicate_succ]

section
variable {sign tail : Str} {sg : Nat}
abbrev lawText (n : Int) (sign tail : Str) : Str := Str.ofString " \"" ++ Txt.mul qt n ++ sign ++ Str.ofString "\"\"" ++ sign ++ tail
theorem text_l (hsg : sign.cps.toList = [sg]) (c : Nat) : (lawText (c : Int) sign tail).cps.toList = 32 :: 34 :: (List.replicate c 34 ++ sg :: 34 :: 34 :: sg :: tail.cps.toList) := by
  have e1 : (Str.ofString " \"").cps.toList = [32, 34] := rfl
  have e2 : (Str.ofString "\"\"").cps.toList = [34, 34] := rfl
  simp only [lawText, cat_l, mul_q, hsg, e1, e2, List.append_assoc, List.cons_append, List.nil_append]
theorem full_l (hsg : sign.cps.toList = [sg]) (c : Nat) : (Str.ofString "257" ++ lawText (c : Int) sign tail).cps.toList = 50 :: 53 :: 55 :: 32 :: 34 :: (List.replicate c 34 ++ sg :: 34 :: 34 :: sg :: tail.cps.toList) := by
  have e1 : (Str.ofString "257").cps.toList = [50, 53, 55] := rfl
  rw [cat_l, text_l hsg, e1]
  rfl
theorem full_len (hsg : sign.cps.toList = [sg]) (c : Nat) : (Str.ofString "257" ++ lawText (c : Int) sign tail).length = c + 9 + tail.length := by
  rw [len_l, full_l hsg, len_l tail]
  simp only [List.length_cons, List.length_append, List.length_replicate]
  omega
theorem full_3 (hsg : sign.cps.toList = [sg]) (c : Nat) : (Txt.slice (Str.ofString "257" ++ lawText (c : Int) sign tail) none (some 3) != Str.ofString "257") = false := by
  have h := slice_to (Str.ofString "257" ++ lawText (c : Int) sign tail) (k := 3) (by rw [full_len hsg]; omega)
  rw [full_l hsg] at h
  have : Txt.slice (Str.ofString "257" ++ lawText (c : Int) sign tail) none (some 3) = Str.ofString "257" := str_eq (h.trans rfl)
  rw [this]
  rfl
theorem full_5 (hsg : sign.cps.toList = [sg]) (c : Nat) : (Txt.slice (Str.ofString "257" ++ lawText (c : Int) sign tail) (some 3) (some 5) != Str.ofString " \"") = false := by
  have h := slice_fr (Str.ofString "257" ++ lawText (c : Int) sign tail) (i := 3) (j := 5) (by decide) (by rw [full_len hsg]; omega)
  rw [full_l hsg] at h
  have : Txt.slice (Str.ofString "257" ++ lawText (c : Int) sign tail) (some 3) (some 5) = Str.ofString " \"" := str_eq (h.trans rfl)
  rw [this]
  rfl
theorem told_even (hsg : sign.cps.toList = [sg]) (hs : sg ≠ 34) (ht : pl tail.cps.toList = []) {h : Nat} {d : Str} (hd : d.cps.toList = pl ((Str.ofString "257" ++ lawText ((2 * h : Nat) : Int) sign tail).cps.toList.drop 5)) :
    d.length = h + 3 ∧ (Txt.slice d (some (-3)) none == sign ++ qt ++ sign) = true ∧ (Txt.slice d none (some ((d.length : Int) - 3)) != Txt.mul qt ((d.length : Int) - 3)) = false := by
  rw [full_l hsg] at hd
  have hd : d.cps.toList = List.replicate h 34 ++ [sg, 34, sg] := hd.trans (pl_even hs ht h)
  have hl : d.length = h + 3 := by rw [len_l, hd]; simp
  refine ⟨hl, ?_, ?_⟩
  · have e := slice_last d (k := 3) (by decide)
    rw [hd, hl] at e
    have : Txt.slice d (some (-3)) none = sign ++ qt ++ sign := str_eq (e.trans (by
      have e2 : qt.cps.toList = [34] := rfl
      simp [cat_l, hsg, e2]))
    rw [this]
    exact beq_self_eq_true _
  · have e1 : ((d.length : Int) - 3) = ((h : Nat) : Int) := by omega
    rw [e1]
    have e := slice_to d (k := h) (by omega)
    rw [hd] at e
    have : Txt.slice d none (some ((h : Nat) : Int)) = Txt.mul qt ((h : Nat) : Int) := str_eq (e.trans (by rw [mul_q]; simp))
    rw [this]
    exact bne_self_eq_false' _
theorem told_odd (hsg : sign.cps.toList = [sg]) (hs : sg ≠ 34) {h : Nat} {d : Str} (hd : d.cps.toList = pl ((Str.ofString "257" ++ lawText ((2 * h + 1 : Nat) : Int) sign tail).cps.toList.drop 5)) :
    d.length = h ∧ (Txt.slice d (some (-3)) none == sign ++ qt ++ sign) = false ∧ (Txt.slice d none (some (d.length : Int)) != Txt.mul qt (d.length : Int)) = false := by
  rw [full_l hsg] at hd
  have hd : d.cps.toList = List.replicate h 34 := hd.trans (pl_odd hs h)
  have hl : d.length = h := by rw [len_l, hd]; simp
  refine ⟨hl, ?_, ?_⟩
  · have e : (Txt.slice d (some (-3)) none).cps.toList = d.cps.toList.drop (d.length - 3) := slice_last d (k := 3) (by decide)
    rw [hd, hl] at e
    rw [beq_eq_false_iff_ne]
    intro q
    rw [q, cat_l, cat_l, hsg] at e
    have : sg ∈ (List.replicate h 34).drop (h - 3) := by rw [← e]; simp
    exact hs (List.eq_of_mem_replicate (List.mem_of_mem_drop this))
  · rw [hl]
    have e := slice_to d (k := h) (by omega)
    rw [hd] at e
    have : Txt.slice d none (some ((h : Nat) : Int)) = Txt.mul qt ((h : Nat) : Int) := str_eq (e.trans (by rw [mul_q]; simp))
    rw [this]
    exact bne_self_eq_false' _
end
end
section
def wst (f ad r : Int) : Nat → List Bool × Int
  | 0 => ([], r)
  | i + 1 => if (wst f ad r i).2.fmod 2 = 0 then ((wst f ad r i).1 ++ [false], (wst f ad r i).2.fdiv 2) else ((wst f ad r i).1 ++ [true], f * ((wst f ad r i).2 - 1).fdiv 2 + (f + ad).fdiv 2)
def pcOf (b : Bool) : Str × Str := if b then (Str.ofString "\t", Str.ofString "o") else (Str.ofString " ", Str.ofString "")
abbrev pcsOf (pcs : List Pc) : List (Str × Str) := pcs.map fun q => (q.2.1.1, q.2.2.1)
theorem News.p4 {h₀ h : Heap} {L : Addr} {a b c d : Addr × Obj} {l : List (Addr × Obj)} (N : News h₀ L h (a :: d :: b :: c :: l)) : News h₀ L h (a :: b :: c :: d :: l) :=
  News.sub N fun p hp => by
    simp only [List.mem_cons] at hp ⊢
    rcases hp with h | h | h | h | h <;> first | ((repeat (first | with_reducible exact h | with_reducible exact Or.inl h | apply Or.inr)); done) | (simp [h]; done)
theorem News.p2 {h₀ h : Heap} {L : Addr} {a b : Addr × Obj} {l : List (Addr × Obj)} (N : News h₀ L h (a :: b :: l)) : News h₀ L h (b :: a :: l) :=
  News.sub N fun p hp => by
    simp only [List.mem_cons] at hp ⊢
    rcases hp with h | h | h <;> first | ((repeat (first | with_reducible exact h | with_reducible exact Or.inl h | apply Or.inr)); done) | (simp [h]; done)
theorem News.p5 {h₀ h : Heap} {L : Addr} {a b c d e : Addr × Obj} {l : List (Addr × Obj)} (N : News h₀ L h (a :: b :: c :: d :: e :: l)) : News h₀ L h (c :: a :: d :: e :: b :: l) :=
  News.sub N fun p hp => by
    simp only [List.mem_cons] at hp ⊢
    rcases hp with h | h | h | h | h | h <;> first | ((repeat (first | with_reducible exact h | with_reducible exact Or.inl h | apply Or.inr)); done) | (simp [h]; done)
theorem wst_len (f ad r : Int) : ∀ i, (wst f ad r i).1.length = i
  | 0 => rfl
  | i + 1 => by
    unfold wst
    split <;> simp [wst_len f ad r i]
def WJ (P : Params) (f ad r fs : Int) (t1 t4 t5 t6 t7 : Tok) (sign tail : Str) (news : List (Addr × Obj)) (ps1 ps2 : Array Value) (g₀ : Array GenState) (i : Nat) (m₁ : Str → Option Value) (ns : List (Addr × Obj)) (g : Array GenState) : Prop :=
  ∃ x d n' tkd v pcs rest t8, ns = (x, pileOf d (pcs.map fun q : Pc => Value.ref q.1).toArray n') :: (131, tabObj ps1) :: (138, tabObj ps2) :: rest ∧ g = g₀ ∧ pcsOf pcs = (wst f ad r i).1.map pcOf ∧ (∀ p ∈ news, p ∈ rest) ∧ (d, sizeD P tkd (.int fs v)) ∈ rest ∧ (∀ q ∈ pcs, (q.1, tup2 (pcT q).2.1 (pcT q).2.2) ∈ rest) ∧
      (∀ p ∈ rest, p.1 ≠ 131 ∧ p.1 ≠ 138 ∧ p.1 ≠ x) ∧ 138 < x ∧ (∀ p ∈ news, p.1 < x) ∧ m₁ (Str.ofString "pile") = some (.ref x) ∧ m₁ (Str.ofString "reached") = some (.int (wst f ad r i).2 t8) ∧ m₁ (Str.ofString "number") = some (.int r t1) ∧ m₁ (Str.ofString "factor") = some (.int f t4) ∧ m₁ (Str.ofString "addend") = some (.int ad t5) ∧ m₁ (Str.ofString "sign") = some (.str sign t6) ∧ m₁ (Str.ofString "tail") = some (.str tail t7)
theorem WJ.step {P : Params} {f ad r fs : Int} {t1 t4 t5 t6 t7 : Tok} {sign tail : Str} {news : List (Addr × Obj)} {ps1 ps2 : Array Value} {g₀ : Array GenState} {i n' : Nat} {m₁ : Str → Option Value} {x d tu it : Addr} {o : Obj} {tkd v ta tb t8 : Tok} {pcs : List Pc} {rest : List (Addr × Obj)} {b : Bool} {fa fb : Str} {c : Int}
    (hs : wst f ad r (i + 1) = ((wst f ad r i).1 ++ [b], c)) (hpc : pcOf b = (fa, fb)) (hp1 : pcsOf pcs = (wst f ad r i).1.map pcOf) (hsub : ∀ p ∈ news, p ∈ rest) (hdm : (d, sizeD P tkd (.int fs v)) ∈ rest) (htm : ∀ q ∈ pcs, (q.1, tup2 (pcT q).2.1 (pcT q).2.2) ∈ rest)
    (hfr : ∀ p ∈ rest, p.1 ≠ 131 ∧ p.1 ≠ 138 ∧ p.1 ≠ x) (hx138 : 138 < x) (hxn : ∀ p ∈ news, p.1 < x) (lt9 : ∀ p ∈ ((it, o) :: (131, tabObj ps1) :: (138, tabObj ps2) :: rest), p.1 < tu) (lx9 : x < tu)
    (e1 : m₁ (Str.ofString "pile") = some (.ref x)) (e2 : m₁ (Str.ofString "reached") = some (.int c t8)) (e3 : m₁ (Str.ofString "number") = some (.int r t1)) (e4 : m₁ (Str.ofString "factor") = some (.int f t4)) (e5 : m₁ (Str.ofString "addend") = some (.int ad t5)) (e6 : m₁ (Str.ofString "sign") = some (.str sign t6)) (e7 : m₁ (Str.ofString "tail") = some (.str tail t7)) :
    WJ P f ad r fs t1 t4 t5 t6 t7 sign tail news ps1 ps2 g₀ (i + 1) m₁ ((x, pileOf d ((pcs.map fun q : Pc => Value.ref q.1) ++ [Value.ref tu]).toArray n') :: (131, tabObj ps1) :: (138, tabObj ps2) :: (tu, tup2 (.str fa ta) (.str fb tb)) :: rest) g₀ := by
  refine ⟨x, d, n', tkd, v, pcs ++ [(tu, (fa, ta), (fb, tb))], (tu, tup2 (.str fa ta) (.str fb tb)) :: rest, t8, ?_, rfl, ?_, fun p hp => .tail _ (hsub p hp), .tail _ hdm, fun q hq => ?_, fun p hp => ?_, hx138, hxn, e1, ?_, e3, e4, e5, e6, e7⟩
  · rw [List.map_append]; rfl
  · rw [hs, List.map_append, pcsOf, List.map_append, show List.map (fun q : Pc => (q.2.1.1, q.2.2.1)) pcs = _ from hp1]
    show _ ++ [(fa, fb)] = _ ++ [pcOf b]
    rw [hpc]
  · rcases List.mem_append.mp hq with hq | hq
    · exact .tail _ (htm q hq)
    · obtain rfl := List.mem_singleton.mp hq
      exact .head _
  · rcases List.mem_cons.mp hp with rfl | hp
    · exact ⟨Nat.ne_of_gt (lt9 _ (.tail _ (.head _))), Nat.ne_of_gt (lt9 _ (.tail _ (.tail _ (.head _)))), Nat.ne_of_gt lx9⟩
    · exact hfr p hp
  · rw [hs]; exact e2
theorem wst_even {f ad r : Int} {i h : Nat} (hc : (wst f ad r i).2 = ((2 * h : Nat) : Int)) : wst f ad r (i + 1) = ((wst f ad r i).1 ++ [false], ((h : Nat) : Int)) := by
  rw [wst, hc, if_pos (by rw [Int.fmod_eq_emod_of_nonneg _ (by decide)]; omega)]
  rw [Int.fdiv_eq_ediv_of_nonneg _ (by decide)]
  congr 1
  omega
theorem wst_odd {f ad r : Int} {i h : Nat} (hc : (wst f ad r i).2 = ((2 * h + 1 : Nat) : Int)) : wst f ad r (i + 1) = ((wst f ad r i).1 ++ [true], f * ((h : Nat) : Int) + (f + ad).fdiv 2) := by
  rw [wst, hc, if_neg (by rw [Int.fmod_eq_emod_of_nonneg _ (by decide)]; omega)]
  have : (((2 * h + 1 : Nat) : Int) - 1).fdiv 2 = ((h : Nat) : Int) := by
    rw [Int.fdiv_eq_ediv_of_nonneg _ (by decide)]
    omega
  rw [this]
theorem pc_small {pcs : List Pc} {bs : List Bool} (h : pcsOf pcs = bs.map pcOf) : ∀ q ∈ pcs, q.2.1.1.length ≤ 1 ∧ q.2.2.1.length ≤ 1 := fun q hq => by
  have : (q.2.1.1, q.2.2.1) ∈ bs.map pcOf := by rw [← h]; exact List.mem_map.mpr ⟨q, hq, rfl⟩
  obtain ⟨b, _, e⟩ := List.mem_map.mp this
  cases b <;> (obtain ⟨e1, e2⟩ := Prod.mk.inj e; rw [← e1, ← e2]; decide)
theorem pcStr_len (q : Pc) : (pcStr q).length ≤ q.2.1.1.length + q.2.2.1.length := by
  have := StrLaws.join_length_le (Str.ofString "") [q.2.1.1, q.2.2.1]
  have e : (Str.ofString "").length = 0 := rfl
  unfold pcStr Txt.join
  rw [StrLaws.glued_eq_join]
  simp only [List.map_cons, List.map_nil, List.sum_cons, List.sum_nil, List.length_cons, List.length_nil, e] at this
  omega
theorem pc_sum {pcs : List Pc} (h : ∀ q ∈ pcs, q.2.1.1.length ≤ 1 ∧ q.2.2.1.length ≤ 1) : ((pcs.map pcStr).map (·.length)).sum ≤ 2 * pcs.length := by
  induction pcs with
  | nil => exact Nat.le_refl _
  | cons q r ih =>
    simp only [List.map_cons, List.sum_cons, List.length_cons]
    have h1 := h q (.head _)
    have h2 := pcStr_len q
    have h3 := ih fun q hq => h q (.tail _ hq)
    omega
theorem pc_lens {pcs : List Pc} (h : ∀ q ∈ pcs, q.2.1.1.length ≤ 1 ∧ q.2.2.1.length ≤ 1) : 0 ≤ (pcs.map pcLen).sum ∧ (pcs.map pcLen).sum ≤ 2 * pcs.length := by
  induction pcs with
  | nil => exact ⟨Int.le_refl _, Int.le_refl _⟩
  | cons q r ih =>
    simp only [List.map_cons, List.sum_cons, List.length_cons]
    have h1 := h q (.head _)
    have h3 := ih fun q hq => h q (.tail _ hq)
    have e : pcLen q = (q.2.1.1.length : Int) + (q.2.2.1.length : Int) := rfl
    omega
end
section
section
variable {prog : Program} {w : World} {A : Around} {E : Value → Shared → Prop} {s : Shared}
theorem add_N {x y : Str} {t u : Tok} {Q : Value → Shared → Prop} (hz : (x ++ y).length ≤ 1000) (h : ∀ t' tk, Q (.str (x ++ y) t') { s with toks := tk }) : wpAny (model prog w) A (binaryOp .Add (.str x t) (.str y u)) Q E s :=
  add_str h (by have := Str.length_append x y; rw [sizeLine_eq]; omega)
end
section
variable {w : World} {mean : ExcName → Option Value} {mg mb : Str → Option Value} {dp un : Nat} {gd : Option (List Code)} {cn : Str} {cs : Scope} {L a : Addr} {ccd : Value} {cl : List (Str × Addr)} {outer : List Env} {A₀ : Around} {base h₀ : Heap} {m : Str → Option Value} {news : List (Addr × Obj)} {s : Shared} {Q E : Value → Shared → Prop}
local macro_rules | `(tactic| k_all) => `(tactic| assumption)
local macro_rules | `(tactic| walk_at "getMethod ref") => `(tactic| (k_here; k_dflt (refine' pile_meth ?k1 ?k2 ?k3 ?k4 ?k5 ?k6 ?k7 ?k8 ?k9 ?_; (case k1 | k2 | k3 => k_asm); (case k4 | k5 => k_mem); (case k6 | k7 => k_is); (case k8 => decide); (case k9 => kernel_rfl); k_whole)))
local macro_rules | `(tactic| walk_at "call ref") => `(tactic| (k_here; k_dflt (refine' text_ok ?B ?F ?X ?N ?T ?hk ?hd ?hu ?h0 ?h1 ?hx ?hy ?_; walk_at "mine std"; (case h0 | h1 | hx | hy => assumption); k_whole); intro h' tk' tk' F' N'))
local macro_rules | `(tactic| walk_at "call ref") => `(tactic| (k_here; k_dflt (refine' parse_ok ?B ?F ?X ?N ?T ?hk ?hd ?hu ?hx ?h3 ?h4 ?_; walk_at "mine std"; (case hx | h3 | h4 => assumption); k_whole); intro h' tk' tk' d' hd' F' N'; (rename ∀ _ : PySem.Str, _ → _ => hf'); (obtain ⟨a', b', c'⟩ := hf' d' hd')))
local macro_rules | `(tactic| walk_at "call ref") => `(tactic| (k_here; k_dflt (refine' new_ok ?B ?F ?X ?hv ?N ?T ?hk ?hd ?hu ?_; walk_at "mine std"; (case hv => exact rfl); k_whole); intro h' tk' x' d' tk' F' N' l1' l2'))
local macro_rules | `(tactic| walk_at "call ref") => `(tactic| (k_here; k_dflt (refine' push_ok ?B ?F ?X ?N ?T ?hk ?hd ?hu ?hne ?hz ?hdi ?_; walk_at "mine std"; (case hne | hz => assumption); (case hdi => k_mem); k_whole); intro h' tk' tu' n' F' N' l1' l2'))
local macro_rules | `(tactic| walk_at "binaryOp Add") => `(tactic| ((with_reducible show wpAny _ _ (binaryOp _ (Value.str _ _) (Value.str _ _)) _ _ _); refine add_N (by assumption) ?_; intro t' tk'))
local macro_rules | `(tactic| walk_at "call type:str") => `(tactic| refine Held.out ?_)
set_option maxHeartbeats 4000000 in
theorem walk_ok (B : Below A₀ base outer h₀) (F : Fr h₀ L s.heap m) (X : (Mine.hd.heap_1 w.params).In h₀) {ps1 ps2 : Array Value} (N : News h₀ L s.heap ((131, tabObj ps1) :: (138, tabObj ps2) :: news)) (T : Top pz lz mean mg mb h₀) (hk : cs.kind = .function)
    (hd : dp + 60 < recursionLimit) (hu : un + 300 < cLine) (hP1 : ∀ p ∈ news, p.1 ≠ 131) (hP2 : ∀ p ∈ news, p.1 ≠ 138) (ht2 : TriplesOk ps2.toList) (G : AllBare s.gens)
    {r k f ad fs : Int} {t1 t2 t3 t4 t5 t6 t7 : Tok} {sign tail : Str} {sg : Nat} (n : Nat) (hkn : k = n) (hn : n ≤ 3) (hf : 1 ≤ f ∧ f ≤ 3) (ha : -1 ≤ ad ∧ ad ≤ 5)
    (hsg : sign.cps.toList = [sg]) (hs34 : sg ≠ 34) (htl : pl tail.cps.toList = []) (hty : tail.length ≤ 10)
    (hb : ∀ i, i ≤ n → 0 ≤ (wst f ad r i).2 ∧ (wst f ad r i).2 ≤ 800)
    (ret : ∀ h' tk' g' ps2' e x d n' tk v (pcs : List Pc) rest t8 t9 t10, pcsOf pcs = (wst f ad r n).1.map pcOf → (∀ p ∈ news, p ∈ rest) → (d, sizeD w.params tk (.int fs v)) ∈ rest → (∀ q ∈ pcs, (q.1, tup2 (pcT q).2.1 (pcT q).2.2) ∈ rest) →
      (∀ p ∈ rest, p.1 ≠ 131 ∧ p.1 ≠ 138 ∧ p.1 ≠ x ∧ p.1 ≠ e) → 138 < x → x < e → (∀ p ∈ news, p.1 < x) →
      Fr h₀ L h' m → News h₀ L h' ((e, listOf #[.int r t8, .str (Txt.join (Str.ofString "") (pcs.map pcStr)) t9, .ref x, .int (wst f ad r n).2 t10] 0) :: (x, pileOf d (pcs.map fun q => Value.ref q.1).toArray n') :: (131, tabObj ps1) :: (138, tabObj ps2') :: rest) →
      TriplesOk ps2'.toList → AllBare g' → Q (.ref e) ⟨h', g', s.drawn, tk', s.os⟩) :
    wpAny (model PySem.Challenge.rw_xh0019_01.row.prog w) (ktrTop dp un gd cn cs L a ccd cl outer) (call (.ref 194) [.int r t1, .int k t2, .int fs t3, .int f t4, .int ad t5, .str sign t6, .str tail t7]) Q E s := by
  walk_at "mine enter"
  k_steps
  refine ⟨?_⟩
  subst hkn
  rename ∀ p ∈ (131, tabObj ps1) :: (138, tabObj ps2) :: news, p.1 < _ => l1
  rename _ < _ => l2
  have d138 : 138 < _ := l1 (138, tabObj ps2) (.tail _ (.head _))
  have d131 : 131 < _ := l1 (131, tabObj ps1) (.head _)
  refine' range_loop (n := n) (WJ w.params f ad r fs t1 t4 t5 t6 t7 sign tail news ps1 ps2 s.gens) rfl (by assumption) ?sm ?sz rfl rfl ?hE ?F ?N ?hj ?_ ?_
  case F => k_asm
  case N => exact News.p4 (by assumption)
  case hE => first | passes_own | walk1
  case hj =>
    refine ⟨_, _, _, _, _, [], _ :: news, _, rfl, rfl, rfl, fun p hp => .tail _ hp, .head _, fun _ h => (nomatch h), fun p hp => ?_, Nat.lt_trans d138 l2, fun p hp => Nat.lt_trans (l1 p (.tail _ (.tail _ hp))) l2, rfl, rfl, rfl, rfl, rfl, rfl, rfl⟩
    rcases List.mem_cons.mp hp with rfl | hp
    · exact ⟨Nat.ne_of_gt d131, Nat.ne_of_gt d138, Nat.ne_of_lt l2⟩
    · exact ⟨hP1 p hp, hP2 p hp, Nat.ne_of_lt (Nat.lt_trans (l1 p (.tail _ (.tail _ hp))) l2)⟩
  case sm => exact rng_small (by omega) (by omega)
  case sz => exact rng_size (by omega)
  · rintro i it m₁ ns h g tk t hi ⟨x, d, n', tkd, v, pcs, rest, t8, rfl, rfl, hp1, hsub, hdm, htm, hfr, hx138, hxn, e1, e2, e3, e4, e5, e6, e7⟩ hne F₁ N₁
    have F₂ := Fr.ovP [(Str.ofString "pile", _), (Str.ofString "reached", _), (Str.ofString "number", _), (Str.ofString "factor", _), (Str.ofString "addend", _), (Str.ofString "sign", _), (Str.ofString "tail", _)] F₁ ⟨e1, e2, e3, e4, e5, e6, e7, trivial⟩
    clear F₁ e1 e2 e3 e4 e5 e6 e7
    obtain ⟨b0, b1⟩ := hb i (by omega)
    have N₂ := News.p2 N₁
    clear N₁
    have hlen : pcs.length = i := by
      have e1 := congrArg List.length hp1
      simp only [List.length_map, wst_len] at e1
      exact e1
    have hz : (pcs.map fun q : Pc => Value.ref q.1).length ≤ 1000 := by rw [List.length_map]; omega
    have hsl : sign.length = 1 := by rw [len_l, hsg]; rfl
    have hnx : ∀ p ∈ ((it, rngIt (0 + ((i + 1 : Nat) : Int)) ((n : Int) - ((i + 1 : Nat) : Int))) :: (131, tabObj ps1) :: (138, tabObj ps2) :: rest), p.1 ≠ x := fun p hp => by
      simp only [List.mem_cons] at hp
      rcases hp with rfl | rfl | rfl | hp
      · exact Ne.symm (hne _ (.head _) : x ≠ it)
      · exact Nat.ne_of_lt (Nat.lt_trans (by decide : (131 : Nat) < 138) hx138)
      · exact Nat.ne_of_lt hx138
      · exact (hfr p hp).2.2
    obtain ⟨c, hc⟩ : ∃ c : Nat, (wst f ad r i).2 = c := ⟨(wst f ad r i).2.toNat, by omega⟩
    rw [hc] at F₂ b0 b1
    have hb1 : (c : Int) ≤ 1000 := by omega
    have fl : (Str.ofString "257" ++ lawText (c : Int) sign tail).length ≤ 1000 := by rw [full_len hsg]; omega
    have f3 := full_3 (tail := tail) hsg c
    have f5 := full_5 (tail := tail) hsg c
    have s2 : (sign ++ qt).length ≤ 1000 := by rw [Str.length_append, hsl]; decide
    have s3 : (sign ++ qt ++ sign).length ≤ 1000 := by rw [Str.length_append, Str.length_append, hsl]; decide
    by_cases hpar : c % 2 = 0
    · obtain ⟨h2, rfl⟩ : ∃ h2, c = 2 * h2 := ⟨c / 2, by omega⟩
      have hfact := fun d hd => told_even (d := d) (tail := tail) hsg hs34 htl (h := h2) hd
      k_steps
      rename News _ _ _ _ => N9
      rename Fr _ _ _ _ => F9
      rename ∀ p ∈ (it, _) :: _, p.1 < _ => lt9
      rename x < _ => lx9
      rename Str.length _ = h2 + 3 => hl9
      refine LpStep.go F9 (News.p5 N9) (fun p hp => ?_) (WJ.step (b := false) ((wst_even hc).trans (by rw [show ((h2 : Nat) : Int) = (Str.length _ : Int) - 3 from by rw [hl9]; omega])) rfl hp1 hsub hdm htm hfr hx138 hxn lt9 lx9 rfl rfl rfl rfl rfl rfl rfl)
      simp only [List.mem_cons] at hp
      rcases hp with rfl | rfl | rfl | rfl | hp
      · exact (hne _ (.head _) : x ≠ it)
      · exact (hne _ (.tail _ (.head _)) : 131 ≠ it)
      · exact (hne _ (.tail _ (.tail _ (.head _))) : 138 ≠ it)
      · exact Nat.ne_of_gt (lt9 _ (.head _))
      · exact hne _ (.tail _ (.tail _ (.tail _ hp)))
    · obtain ⟨h2, rfl⟩ : ∃ h2, c = 2 * h2 + 1 := ⟨c / 2, by omega⟩
      have hfact := fun d hd => told_odd (d := d) (tail := tail) hsg hs34 (h := h2) hd
      k_steps
      rename News _ _ _ _ => N9
      rename Fr _ _ _ _ => F9
      rename ∀ p ∈ (it, _) :: _, p.1 < _ => lt9
      rename x < _ => lx9
      rename Str.length _ = h2 => hl9
      refine LpStep.go F9 (News.p5 N9) (fun p hp => ?_) (WJ.step (b := true) ((wst_odd hc).trans (by rw [show ((h2 : Nat) : Int) = (Str.length _ : Int) from by rw [hl9]])) rfl hp1 hsub hdm htm hfr hx138 hxn lt9 lx9 rfl rfl rfl rfl rfl rfl rfl)
      simp only [List.mem_cons] at hp
      rcases hp with rfl | rfl | rfl | rfl | hp
      · exact (hne _ (.head _) : x ≠ it)
      · exact (hne _ (.tail _ (.head _)) : 131 ≠ it)
      · exact (hne _ (.tail _ (.tail _ (.head _))) : 138 ≠ it)
      · exact Nat.ne_of_gt (lt9 _ (.head _))
      · exact hne _ (.tail _ (.tail _ (.tail _ hp)))
  · rintro m₁ ns h g tk ⟨x, d, n', tkd, v, pcs, rest, t8, rfl, rfl, hp1, hsub, hdm, htm, hfr, hx138, hxn, e1, e2, e3, e4, e5, e6, e7⟩ F₁ N₁
    have F₂ := Fr.ovP [(Str.ofString "pile", _), (Str.ofString "reached", _), (Str.ofString "number", _), (Str.ofString "factor", _), (Str.ofString "addend", _), (Str.ofString "sign", _), (Str.ofString "tail", _)] F₁ ⟨e1, e2, e3, e4, e5, e6, e7, trivial⟩
    clear F₁ e1 e2 e3 e4 e5 e6 e7
    k_steps
    refine ⟨?_⟩
    have hsm := pc_small hp1
    have hlen : pcs.length = n := by
      have e1 := congrArg List.length hp1
      simp only [List.length_map, wst_len] at e1
      exact e1
    have N2 : News _ _ h ((138, tabObj ps2) :: (x, pileOf d (pcs.map fun q : Pc => Value.ref q.1).toArray n') :: (131, tabObj ps1) :: rest) := News.sub N₁ fun p hp => by
      simp only [List.mem_cons] at hp ⊢
      rcases hp with h | h | h | h <;> first | ((repeat (first | with_reducible exact h | with_reducible exact Or.inl h | apply Or.inr)); done) | (simp [h]; done)
    have hPn : ∀ p ∈ ((x, pileOf d (pcs.map fun q : Pc => Value.ref q.1).toArray n') :: (131, tabObj ps1) :: rest), p.1 ≠ 138 := fun p hp => by
      simp only [List.mem_cons] at hp
      rcases hp with rfl | rfl | hp
      · exact Nat.ne_of_gt hx138
      · exact (by decide : (131 : Nat) ≠ 138)
      · exact (hfr p hp).2.1
    refine strb_ok (by assumption) (by assumption) (by assumption) N2 (by assumption) rfl (by dsimp only [ktrTop, Around.deeper]; omega) (by dsimp only [ktrTop, Around.deeper]; omega) hPn ht2 G (.head _) (.tail _ (.tail _ hdm)) (by omega) (by have := pc_sum hsm; omega) (fun q hq => .tail _ (.tail _ (htm q hq))) (fun q hq => by have := hsm q hq; omega) ?_
    intro h6 tk6 g6 ps6 t6' F6 N7 t7' G6
    k_steps
    rename _ < _ ∧ _ ∧ _ => l9
    rename News h₀ L _ _ => N9
    obtain ⟨la, lb, lc, ld⟩ := l9
    refine ret _ _ g6 ps6 _ x d n' tkd v pcs rest _ _ _ hp1 hsub hdm htm (fun p hp => ⟨(hfr p hp).1, (hfr p hp).2.1, (hfr p hp).2.2, Nat.ne_of_lt (all_of ld p hp)⟩) hx138 lb hxn (by assumption) (News.p4 N9) t7' G6
end
end
section
section
variable {w : World} {mean : ExcName → Option Value} {mg mb : Str → Option Value} {dp un : Nat} {gd : Option (List Code)} {cn : Str} {cs : Scope} {L a : Addr} {ccd : Value} {cl : List (Str × Addr)} {outer : List Env} {A₀ : Around} {base h₀ : Heap} {m : Str → Option Value} {news : List (Addr × Obj)} {s : Shared} {Q E : Value → Shared → Prop}
local macro_rules | `(tactic| k_all) => `(tactic| assumption)
local macro_rules | `(tactic| walk_at "getMethod ref") => `(tactic| (k_here; k_dflt (refine' pile_meth ?k1 ?k2 ?k3 ?k4 ?k5 ?k6 ?k7 ?k8 ?k9 ?_; (case k1 | k2 | k3 => k_asm); (case k4 | k5 => k_mem); (case k6 | k7 => k_is); (case k8 => decide); (case k9 => kernel_rfl); k_whole)))
local macro_rules | `(tactic| walk_at "call ref") => `(tactic| (k_here; k_dflt (refine' pop_ok ?B ?F ?X ?N ?T ?hk ?hd ?hu ?hne ?hz ?hdi ?_; walk_at "mine std"; (case hne | hz => assumption); (case hdi => k_mem); k_whole); intro h' tk' F' N'))
local macro_rules | `(tactic| walk_at "call ref") => `(tactic| (k_here; k_dflt (refine' pop0_ok ?B ?F ?X ?N ?T ?hk ?hd ?hu ?hdi ?_; walk_at "mine std"; (case hdi => k_mem); k_whole); intro h' tk' tu' t1' t2' F' N' l1'))
/-- what the pile tells backwards: from the number reached, the last piece first -/
def bst (f ad : Int) : List Bool → Int → Int
  | [], c => c
  | b :: r, c => if b then (2 * bst f ad r c - ad).fdiv f else 2 * bst f ad r c
set_option maxHeartbeats 4000000 in
theorem back_ok (B : Below A₀ base outer h₀) (F : Fr h₀ L s.heap m) (X : (Mine.hd.heap_1 w.params).In h₀) {x d : Addr} {pcs : List Pc} {bs : List Bool} {n' : Nat} {tkd v t1 t2 t3 t4 : Tok} {c k f ad fs : Int} (N : News h₀ L s.heap ((x, pileOf d (pcs.map fun q : Pc => Value.ref q.1).toArray n') :: news)) (T : Top pz lz mean mg mb h₀) (hk : cs.kind = .function)
    (hd : dp + 60 < recursionLimit) (hu : un + 300 < cLine) (n : Nat) (hkn : k = n) (hbl : bs.length = n) (hn : n ≤ 3) (hf : 1 ≤ f ∧ f ≤ 3) (ha : -1 ≤ ad ∧ ad ≤ 5)
    (hp1 : pcsOf pcs = bs.map pcOf) (hdm : (d, sizeD w.params tkd (.int fs v)) ∈ news) (htm : ∀ q ∈ pcs, (q.1, tup2 (pcT q).2.1 (pcT q).2.2) ∈ news) (hfr : ∀ p ∈ news, p.1 ≠ x)
    (hodd : ∀ i, i < n → bs[i]? = some true → (2 * bst f ad (bs.drop (i + 1)) c - ad).fmod f = 0)
    (ret : ∀ h' tk' n'' t5, Fr h₀ L h' m → News h₀ L h' ((x, pileOf d [].toArray n'') :: news) → Q (.int (bst f ad bs c) t5) { s with heap := h', toks := tk' }) :
    wpAny (model PySem.Challenge.rw_xh0019_01.row.prog w) (ktrTop dp un gd cn cs L a ccd cl outer) (call (.ref 215) [.ref x, .int c t1, .int k t2, .int f t3, .int ad t4]) Q E s := by
  walk_at "mine enter"
  k_steps
  refine ⟨?_⟩
  subst hkn
  have hpl : pcs.length = n := by
    have e1 := congrArg List.length hp1
    simp only [List.length_map, hbl] at e1
    exact e1
  refine' range_loop (n := n) (fun i m₁ ns g => ∃ n'' t5, ns = (x, pileOf d ((pcs.take (n - i)).map fun q : Pc => Value.ref q.1).toArray n'') :: news ∧ g = s.gens ∧ m₁ (Str.ofString "pile") = some (.ref x) ∧ m₁ (Str.ofString "number") = some (.int (bst f ad (bs.drop (n - i)) c) t5) ∧ m₁ (Str.ofString "factor") = some (.int f t3) ∧ m₁ (Str.ofString "addend") = some (.int ad t4)) rfl (by assumption) ?sm ?sz rfl rfl ?hE ?F ?N ?hj ?_ ?_
  case F => k_asm
  case N => k_asm
  case hE => first | passes_own | walk1
  case hj =>
    refine ⟨n', t1, ?_, rfl, rfl, ?_, rfl, rfl⟩
    · rw [Nat.sub_zero, ← hpl, List.take_length]
    · rw [Nat.sub_zero, ← hbl, List.drop_length]; rfl
  case sm => exact rng_small (by omega) (by omega)
  case sz => exact rng_size (by omega)
  · rintro i it m₁ ns h g tk t hi ⟨n'', t5, rfl, rfl, e1, e2, e3, e4⟩ hne F₁ N₁
    have F₂ := Fr.ovP [(Str.ofString "pile", _), (Str.ofString "number", _), (Str.ofString "factor", _), (Str.ofString "addend", _)] F₁ ⟨e1, e2, e3, e4, trivial⟩
    clear F₁ e1 e2 e3 e4
    obtain ⟨j, hj⟩ : ∃ j, n - i = j + 1 := ⟨n - i - 1, by omega⟩
    have hj2 : n - (i + 1) = j := by omega
    have hjp : j < pcs.length := by omega
    have hjb : j < bs.length := by omega
    rw [hj] at F₂ N₁
    have et : (pcs.take (j + 1)).map (fun q : Pc => Value.ref q.1) = (pcs.take j).map (fun q : Pc => Value.ref q.1) ++ [Value.ref pcs[j].1] := by
      rw [List.take_succ_eq_append_getElem hjp, List.map_append]; rfl
    have eb : bs.drop j = bs[j] :: bs.drop (j + 1) := List.drop_eq_getElem_cons hjb
    have hq := htm pcs[j] (List.getElem_mem hjp)
    have hpq : (pcs[j].2.1.1, pcs[j].2.2.1) = pcOf bs[j] := by
      have e : (pcsOf pcs)[j]? = (bs.map pcOf)[j]? := by rw [hp1]
      simp only [pcsOf, List.getElem?_map, List.getElem?_eq_getElem hjp, List.getElem?_eq_getElem hjb, Option.map_some] at e
      exact Option.some.inj e
    have hod := hodd j (by omega)
    rw [List.getElem?_eq_getElem hjb] at hod
    have N₂ := News.p2 N₁
    rw [et] at N₂
    have hnx : ∀ p ∈ ((it, rngIt (0 + ((i + 1 : Nat) : Int)) ((n : Int) - ((i + 1 : Nat) : Int))) :: news), p.1 ≠ x := fun p hp => by
      rcases List.mem_cons.mp hp with rfl | hp
      · exact Ne.symm (hne _ (.head _) : x ≠ it)
      · exact hfr p hp
    have hz : ((pcs.take j).map fun q : Pc => Value.ref q.1).length ≤ 900 := by rw [List.length_map, List.length_take]; omega
    clear N₁
    generalize bs[j] = b at *
    generalize pcs[j] = q at *
    obtain ⟨qa, ⟨fa, ta⟩, ⟨fb, tb⟩⟩ := q
    generalize hnum : bst f ad (bs.drop (j + 1)) c = num at *
    cases b
    · obtain ⟨rfl, rfl⟩ := Prod.mk.inj hpq
      dsimp only [pcT] at hq
      k_steps
      rename News _ _ _ _ => N9
      rename Fr _ _ _ _ => F9
      refine LpStep.go F9 (News.sub N9 (news' := (it, rngIt (0 + ((i + 1 : Nat) : Int)) ((n : Int) - ((i + 1 : Nat) : Int))) :: (x, pileOf d ((pcs.take j).map (fun q : Pc => Value.ref q.1)).toArray (n'' + 1)) :: news) fun p hp => ?_) (fun p hp => ?_) ⟨n'' + 1, _, by rw [hj2], rfl, rfl, by rw [hj2, eb, bst, hnum]; rfl, rfl, rfl⟩
      · simp only [List.mem_cons] at hp ⊢
        rcases hp with h | h | h <;> first | ((repeat (first | with_reducible exact h | with_reducible exact Or.inl h | apply Or.inr)); done) | (simp [h]; done)
      · rcases List.mem_cons.mp hp with rfl | hp
        · exact (hne _ (.head _) : x ≠ it)
        · exact hne _ (.tail _ hp)
    · obtain ⟨rfl, rfl⟩ := Prod.mk.inj hpq
      dsimp only [pcT] at hq
      have hod := hod rfl
      k_steps
      all_goals first | exact absurd hod (by assumption) | skip
      rename News _ _ _ _ => N9
      rename Fr _ _ _ _ => F9
      refine LpStep.go F9 (News.sub N9 (news' := (it, rngIt (0 + ((i + 1 : Nat) : Int)) ((n : Int) - ((i + 1 : Nat) : Int))) :: (x, pileOf d ((pcs.take j).map (fun q : Pc => Value.ref q.1)).toArray (n'' + 1)) :: news) fun p hp => ?_) (fun p hp => ?_) ⟨n'' + 1, _, by rw [hj2], rfl, rfl, by rw [hj2, eb, bst, hnum]; rfl, rfl, rfl⟩
      · simp only [List.mem_cons] at hp ⊢
        rcases hp with h | h | h <;> first | ((repeat (first | with_reducible exact h | with_reducible exact Or.inl h | apply Or.inr)); done) | (simp [h]; done)
      · rcases List.mem_cons.mp hp with rfl | hp
        · exact (hne _ (.head _) : x ≠ it)
        · exact hne _ (.tail _ hp)
  · rintro m₁ ns h g tk ⟨n'', t5, rfl, rfl, e1, e2, e3, e4⟩ F₁ N₁
    have F₂ := Fr.ovP [(Str.ofString "pile", _), (Str.ofString "number", _), (Str.ofString "factor", _), (Str.ofString "addend", _)] F₁ ⟨e1, e2, e3, e4, trivial⟩
    clear F₁ e1 e2 e3 e4
    rw [Nat.sub_self] at F₂ N₁
    rw [List.take_zero, List.map_nil] at N₁
    k_steps
    rename News h₀ L _ _ => N9
    rw [List.drop_zero]
    refine ret _ _ n'' _ (by assumption) (News.sub N9 fun p hp => ?_)
    simp only [List.mem_cons] at hp ⊢
    rcases hp with h | h <;> first | ((repeat (first | with_reducible exact h | with_reducible exact Or.inl h | apply Or.inr)); done) | (simp [h]; done)
end
end
section
/-- the law's end: a bool, the old heap (but for the tables) as it was, the tables grown -/
def GoodX (cw : ClaimW) (args : List WData) (tabs : List (Addr × Addr)) (s₁ : Shared) (r : Result) (s' : Shared) : Prop :=
  (∃ b, r = .ok (.ret (.bool b)) ∧ (∀ cls, cw.raises args cls = false) ∧ cw.post args (.bool b) args = true) ∧ (∀ b o, (ghostOf s₁.heap tabs).get? b = some o → s'.heap.get? b = some o) ∧ GrownAll tabs s'.heap ∧ s'.os = s₁.os ∧ AllBare s'.gens
theorem postX {M : Model} {A : Around} {cd : Code} {s s₁ : Shared} {cw : ClaimW} {cl : Str → Option Addr} {mean : ExcName → Option Value} {args : List WData} {tabs : List (Addr × Addr)} (hT : TabsAt tabs s₁.heap)
    (h : codeAny M A cd (GoodX cw args tabs s₁) s) : codeAny M A cd (GoodWG cw cl mean args s₁) s :=
  codeAny_mono h fun r s' ⟨⟨b, hr, hra, hp⟩, hk, hgr, hos, hg⟩ => by
    have keep : ∀ b o, b ∉ tabs.map (·.2) → s₁.heap.get? b = some o → s'.heap.get? b = some o := fun b o hb e => hk b o (ghost_ne e hb)
    have grown : ∀ b o, b ∈ tabs.map (·.2) → s₁.heap.get? b = some o → isCodeTable s₁.heap b ∧ o = tabObj #[] ∧ ∃ ps, s'.heap.get? b = some (tabObj ps) := fun b o hb e => by
      obtain ⟨q, hq, rfl⟩ := List.mem_map.mp hb
      have e2 := (hT q hq).2
      rw [e] at e2
      exact ⟨((hT q hq).1.tab (hT q hq).2).isCodeTable, Option.some.inj e2, hgr.get q hq⟩
    subst hr
    refine ⟨.inl ⟨_, _, [], rfl, hra, ReadsW.bool b, hp, fun _ => ⟨List.nodup_nil, fun _ hm => (nomatch hm)⟩⟩, ⟨fun b o e => ?_, fun b o e => ?_⟩, hos, hg⟩
    · by_cases hb : b ∈ tabs.map (·.2)
      · obtain ⟨ht, rfl, ps, hP⟩ := grown b o hb e
        exact .inr (.inl ⟨ht, rfl, #[], ps, rfl, by rw [Array.empty_append]; exact hP⟩)
      · exact .inl (keep b o hb e)
    · by_cases hb : b ∈ tabs.map (·.2)
      · obtain ⟨_, _, ps, hP⟩ := grown b o hb e
        exact ⟨_, hP⟩
      · exact ⟨o, keep b o hb e⟩
end
section
section
variable {prog : Program} {w : World} {A : Around} {E : Value → Shared → Prop} {env : Env} {body : List Stmt} {Q : Flow → Shared → Prop} {s : Shared} {h₀ : Heap} {m₀ : Str → Option Value} {news news₀ : List (Addr × Obj)}
theorem push_none {h : Heap} {L : Addr} {m : Str → Option Value} (F : Fr h₀ L h m) : h₀.get? h.objs.size = none := by
  cases z : h₀.get? h.objs.size with
  | none => rfl
  | some o => exact absurd (Heap.lt_size (F.keep _ _ z)) (Nat.lt_irrefl _)
/-- a turn over a list leaves the ledger as it was -/
def LsStep (h₀ : Heap) (L : Addr) (s : Shared) (all : List (Addr × Obj)) (Q : Flow → Shared → Prop) (J : (Str → Option Value) → Prop) (f : Flow) (s₃ : Shared) : Prop :=
  match f with
  | .next => ∃ h tk m, s₃ = { s with heap := h, toks := tk } ∧ Fr h₀ L h m ∧ News h₀ L h all ∧ J m
  | .cont => ∃ h tk m, s₃ = { s with heap := h, toks := tk } ∧ Fr h₀ L h m ∧ News h₀ L h all ∧ J m
  | .brk => Q .next s₃
  | .ret v => Q (.ret v) s₃
theorem LsStep.go {L : Addr} {all : List (Addr × Obj)} {J : (Str → Option Value) → Prop} {h : Heap} {tk : Nat} {m : Str → Option Value} (F : Fr h₀ L h m) (N : News h₀ L h all) (hJ : J m) :
    LsStep h₀ L s all Q J .next { s with heap := h, toks := tk } := ⟨h, tk, m, rfl, F, N, hJ⟩
theorem list_loop {x : Str} {px : Pos} {l : Addr} {its : Array Value} {ne : Nat} (J : Nat → (Str → Option Value) → Prop)
    (hh : A.handled = none) (hx : env.kindOf x = some .local)
    (hp : (env.scope.kind == .class || (env.scope.kind == .module && env.locals != env.globals)) = false) (hE : PassesOwn (model prog w) A env E)
    (F : Fr h₀ env.locals s.heap m₀) (N : News h₀ env.locals s.heap news) (hl : (l, listOf its ne) ∈ news) (hj : J 0 m₀)
    (turn : ∀ i it oI m₁ h tk v, its[i]? = some v → J i m₁ → (∀ p ∈ news, p.1 ≠ it) → Fr h₀ env.locals h (fun y => if y = x then some v else m₁ y) → News h₀ env.locals h ((it, oI) :: news) →
      wpAny (model prog w) A (execs body env) (LsStep h₀ env.locals s ((it, oI) :: news) Q (J (i + 1))) E { s with heap := h, toks := tk })
    (done : ∀ m₁ h tk, J its.size m₁ → Fr h₀ env.locals h m₁ → News h₀ env.locals h news → Q .next { s with heap := h, toks := tk }) :
    wpAny (model prog w) A (pyIter (.ref l)) (fun it s₂ => codeAny (model prog w) A (.forLoop (.Name x px) it body [] env) (fun r s' => match r with | .ok f => Q f s' | .error e => cameBackBy (model prog w) A env E e s') s₂) E s := by
  have hls : s.heap.IsList l its := ⟨_, (N _ hl).1, rfl, ne, rfl⟩
  have hlt : l < s.heap.objs.size := Heap.lt_size (N _ hl).1
  refine wpAny_pyIter_list hls ?_
  have W := Walks.list (prog := prog) (w := w) hh s.heap.objs.size l (Nat.ne_of_lt hlt) its
  have hI0 := push_none F
  have hIL : s.heap.objs.size ≠ env.locals := fun q => absurd F.ns.lt (by rw [← q]; exact Nat.lt_irrefl _)
  have hne : ∀ p ∈ news, p.1 ≠ s.heap.objs.size := fun p hp => Nat.ne_of_lt (Heap.lt_size (N p hp).1)
  refine codeAny_forLoop (fun k s' => ∃ i h tk m, s' = { s with heap := h, toks := tk } ∧ Fr h₀ env.locals h m ∧ News h₀ env.locals h news ∧ h.IsListIter s.heap.objs.size l i ∧ J i m ∧ i ≤ its.size ∧ k = its.size + 1 - i) ?_ (its.size + 1)
    ⟨0, _, _, m₀, rfl, F.push _, N.grown fun _ _ e => Heap.get?_push_of_some _ e, ⟨_, Heap.get?_push_size _ rfl, rfl, rfl⟩, hj, Nat.zero_le _, rfl⟩
  rintro k s' ⟨i, h, tk, m, rfl, F', N', hst, hJ, hi, rfl⟩
  have hls' : h.IsList l its := ⟨_, (N' _ hl).1, rfl, ne, rfl⟩
  have next : ∀ h₁ : Heap, (∀ b o, b ∉ [s.heap.objs.size] → h.get? b = some o → h₁.get? b = some o) → Fr h₀ env.locals h₁ m ∧ News h₀ env.locals h₁ news := fun h₁ hk₁ =>
    ⟨⟨F'.ns.at' fun o e => hk₁ _ o (fun hm => hIL (List.mem_singleton.mp hm).symm) e, fun b o e => hk₁ b o (fun hm => by
        rw [List.mem_singleton.mp hm, hI0] at e; cases e) (F'.keep b o e), F'.above⟩,
      fun p hp => ⟨hk₁ _ _ (fun hm => hne p hp (List.mem_singleton.mp hm)) (N' p hp).1, (N' p hp).2⟩⟩
  by_cases hlt : i < its.size
  · refine W.item i _ _ _ hlt ⟨hst, hls'⟩ fun v h₁ tk₁ hP hst₁ hk₁ => ?_
    obtain ⟨F₁, N₁⟩ := next h₁ hk₁
    obtain ⟨oI, heI, hoI⟩ := hst₁.1
    have N₂ : News h₀ env.locals h₁ ((s.heap.objs.size, oI) :: news) := fun p hp => by
      rcases List.mem_cons.mp hp with rfl | hp
      · exact ⟨heI, hIL, hI0⟩
      · exact N₁ p hp
    refine wpAny_assign_Name (wpAny_storeName_local hx F₁.ns (fun h₂ hn₂ hs₂ => ?_) hp)
    have F₂ := F₁.set hn₂ hs₂
    refine wpAny_passesOwn hE (wpAny_mono (turn i _ oI m h₂ _ v hP hJ hne F₂ (N₂.set hs₂)) (fun f s₃ h₃ => ?_) fun _ _ e => e)
    cases f with
    | ret v => exact h₃
    | brk => exact h₃
    | next =>
      obtain ⟨h₃', tk₃, m₃, rfl, F₃, N₃, hJ₃⟩ := h₃
      exact ⟨its.size + 1 - (i + 1), by omega, i + 1, h₃', tk₃, m₃, rfl, F₃, fun p hp => N₃ p (.tail _ hp), ⟨oI, (N₃ _ (.head _)).1, hoI⟩, hJ₃, hlt, rfl⟩
    | cont =>
      obtain ⟨h₃', tk₃, m₃, rfl, F₃, N₃, hJ₃⟩ := h₃
      exact ⟨its.size + 1 - (i + 1), by omega, i + 1, h₃', tk₃, m₃, rfl, F₃, fun p hp => N₃ p (.tail _ hp), ⟨oI, (N₃ _ (.head _)).1, hoI⟩, hJ₃, hlt, rfl⟩
  · have hin : i = its.size := by omega
    subst hin
    refine W.done _ _ _ ⟨hst, hls'⟩ fun h₁ tk₁ hk₁ => wpAny_execs_nil ?_
    obtain ⟨F₁, N₁⟩ := next h₁ hk₁
    exact done m h₁ tk₁ hJ F₁ N₁
end
section
variable {prog : Program} {w : World} {A : Around} {E : Value → Shared → Prop} {name : Str} {scope : Scope} {L a c : Addr} {cd : Value} {body : List Stmt} {Q : Flow → Shared → Prop} {s : Shared} {h₀ : Heap} {m₀ : Str → Option Value} {news news₀ : List (Addr × Obj)}
/-- a range whose letter is a cell -/
theorem range_loopC {x : Str} {px : Pos} {r : Addr} {k0 b : Int} {t u v : Tok} {n : Nat} {o₀ : Obj} {v₀ : Option Value} (J : Nat → (Str → Option Value) → List (Addr × Obj) → Array GenState → Prop)
    (hh : A.handled = none) (hr : IsRange s.heap r k0 b 1 t u v) (hsmall : Builtin.Range.small k0 b 1 = true) (hn : Builtin.Range.rangeSize k0 b 1 = (n : Int))
    (hk : scope.kind = .function) (hx : (envOfC name scope L a cd).kindOf x = some .cell) (hc : (cellsFrom (L + 1) scope.names []).lookup x = some c) (hE : PassesOwn (model prog w) A (envOfC name scope L a cd) E)
    (F : Fr h₀ L s.heap m₀) (N : News h₀ L s.heap ((c, o₀) :: news₀)) (ho : o₀.data = .cell v₀) (hcn : ∀ p ∈ news₀, p.1 ≠ c) (hj : J 0 m₀ news₀ s.gens)
    (turn : ∀ i it m₁ ns h g tk t o, i < n → J i m₁ ns g → (∀ p ∈ ns, p.1 ≠ it) → it ≠ c → (∀ p ∈ ns, p.1 ≠ c) → o.data = .cell (some (.int (k0 + (i : Nat)) t)) → Fr h₀ L h m₁ → News h₀ L h ((it, rngIt (k0 + ((i + 1 : Nat) : Int)) ((n : Int) - ((i + 1 : Nat) : Int))) :: (c, o) :: ns) →
      wpAny (model prog w) A (execs body (envOfC name scope L a cd)) (LpStep h₀ L s it (rngIt (k0 + ((i + 1 : Nat) : Int)) ((n : Int) - ((i + 1 : Nat) : Int))) Q (fun m ns' g => ∃ o' v' ns'', ns' = (c, o') :: ns'' ∧ o'.data = .cell v' ∧ (∀ p ∈ ns'', p.1 ≠ c) ∧ J (i + 1) m ns'' g)) E ⟨h, g, s.drawn, tk, s.os⟩)
    (done : ∀ m₁ ns h g tk o, J n m₁ ns g → Fr h₀ L h m₁ → News h₀ L h ((c, o) :: ns) → Q .next ⟨h, g, s.drawn, tk, s.os⟩) :
    wpAny (model prog w) A (pyIter (.ref r)) (fun it s₂ => codeAny (model prog w) A (.forLoop (.Name x px) it body [] (envOfC name scope L a cd)) (fun r s' => match r with | .ok f => Q f s' | .error e => cameBackBy (model prog w) A (envOfC name scope L a cd) E e s') s₂) E s := by
  refine wpAny_pyIter_range hr hsmall ?_
  have W := Walks.range (prog := prog) (w := w) hh s.heap.objs.size k0 1 n
  have e1 : ∀ i : Nat, k0 + (i : Int) * 1 = k0 + (i : Int) := fun i => by rw [Int.mul_one]
  have hcI : c ≠ s.heap.objs.size := Nat.ne_of_lt (Heap.lt_size (N _ (.head _)).1)
  refine codeAny_forLoop (fun k s' => ∃ i h g tk m ns o v', s' = ⟨h, g, s.drawn, tk, s.os⟩ ∧ Fr h₀ L h m ∧ News h₀ L h ((s.heap.objs.size, rngIt (k0 + (i : Nat)) ((n : Int) - (i : Nat))) :: (c, o) :: ns) ∧ (∀ p ∈ ns, p.1 ≠ s.heap.objs.size) ∧ (∀ p ∈ ns, p.1 ≠ c) ∧ o.data = .cell v' ∧ J i m ns g ∧ i ≤ n ∧ k = n + 1 - i) ?_ (n + 1)
    ⟨0, _, _, _, m₀, news₀, o₀, v₀, rfl, F.push _, ?_, fun p hp => Nat.ne_of_lt (Heap.lt_size (N p (.tail _ hp)).1), hcn, ho, hj, Nat.zero_le _, rfl⟩
  · rintro k s' ⟨i, h, g, tk, m, ns, o, v', rfl, F', N', hne, hcn', ho', hJ, hi, rfl⟩
    have hst : IsRangeIter h s.heap.objs.size (k0 + (i : Nat) * 1) ((n : Int) - (i : Nat)) 1 := by rw [e1]; exact (N' _ (.head _)).1
    have hItn := (N' _ (.head _)).2
    have next : ∀ h₁ : Heap, (∀ b o, b ∉ [s.heap.objs.size] → h.get? b = some o → h₁.get? b = some o) → Fr h₀ L h₁ m ∧ News h₀ L h₁ ((c, o) :: ns) := fun h₁ hk₁ =>
      ⟨⟨F'.ns.at' fun o e => hk₁ _ o (fun hm => hItn.1 (List.mem_singleton.mp hm).symm) e, fun b o e => hk₁ b o (fun hm => by
          have := hItn.2; rw [← List.mem_singleton.mp hm, e] at this; cases this) (F'.keep b o e), F'.above⟩,
        fun p hp => ⟨hk₁ _ _ (fun hm => by
          rcases List.mem_cons.mp hp with rfl | hp
          · exact hcI (List.mem_singleton.mp hm)
          · exact hne p hp (List.mem_singleton.mp hm)) (N' p (.tail _ hp)).1, (N' p (.tail _ hp)).2⟩⟩
    by_cases hlt : i < n
    · refine W.item i _ _ _ hlt hst fun v h₁ tk₁ hP hst₁ hk₁ => ?_
      obtain ⟨t', rfl⟩ := hP
      obtain ⟨F₁, N₁⟩ := next h₁ hk₁
      have N₂ : News h₀ L h₁ ([(s.heap.objs.size, rngIt (k0 + ((i + 1 : Nat) : Int)) ((n : Int) - ((i + 1 : Nat) : Int)))] ++ (c, o) :: ns) := fun p hp => by
        rcases List.mem_cons.mp hp with rfl | hp
        · exact ⟨by rw [e1] at hst₁; exact hst₁, hItn⟩
        · exact N₁ p hp
      refine wpAny_assign_Name (stCN (s := { s with heap := h₁, gens := g, toks := tk₁ }) F₁ N₂ hc ho' (fun p hp => ?_) hcn' (fun h₂ o₂ F₂ N₃ hd₂ => ?_) hk hx)
      · rw [List.mem_singleton.mp hp]; exact Ne.symm hcI
      rw [e1] at hd₂
      refine wpAny_passesOwn hE (wpAny_mono (turn i _ m ns h₂ g _ t' o₂ hlt hJ hne (Ne.symm hcI) hcn' hd₂ F₂ N₃) (fun f s₃ h₃ => ?_) fun _ _ e => e)
      cases f with
      | ret v => exact h₃
      | brk => exact h₃
      | next =>
        obtain ⟨h₃', g₃, tk₃, m₃, ns₃, rfl, F₃, N₃, hn₃, o₃, v₃, ns₄, rfl, hd₃, hc₃, hJ₃⟩ := h₃
        exact ⟨n + 1 - (i + 1), by omega, i + 1, h₃', g₃, tk₃, m₃, ns₄, o₃, v₃, rfl, F₃, N₃, fun p hp => hn₃ p (.tail _ hp), hc₃, hd₃, hJ₃, hlt, rfl⟩
      | cont =>
        obtain ⟨h₃', g₃, tk₃, m₃, ns₃, rfl, F₃, N₃, hn₃, o₃, v₃, ns₄, rfl, hd₃, hc₃, hJ₃⟩ := h₃
        exact ⟨n + 1 - (i + 1), by omega, i + 1, h₃', g₃, tk₃, m₃, ns₄, o₃, v₃, rfl, F₃, N₃, fun p hp => hn₃ p (.tail _ hp), hc₃, hd₃, hJ₃, hlt, rfl⟩
    · have hin : i = n := by omega
      subst hin
      refine W.done _ _ _ hst fun h₁ tk₁ hk₁ => wpAny_execs_nil ?_
      obtain ⟨F₁, N₁⟩ := next h₁ hk₁
      exact done m ns h₁ g tk₁ o hJ F₁ N₁
  · intro p hp
    rcases List.mem_cons.mp hp with rfl | hp
    · refine ⟨?_, fun q => absurd F.ns.lt (by rw [← q]; exact Nat.lt_irrefl _), push_none F⟩
      rw [hn]
      have := Heap.get?_push_size (h := s.heap) (o := rngIt k0 n) rfl
      simpa using this
    · exact ⟨Heap.get?_push_of_some _ (N p hp).1, (N p hp).2⟩
end
end
section
def lawParts : List Stmt × Scope := match PySem.Challenge.pw_xh0019_01.main.body.getLast? with
  | some (.FunctionDef _ _ b _ _ _ sc _ _ _) => (b, sc)
  | _ => ([], default)
def lawScope : Scope := lawParts.2
def forBody : Option Stmt → List Stmt
  | some (.For _ _ b _ _) => b
  | _ => []
def lawAt (k : Nat) : List Stmt := lawParts.1.drop k
def lawFor1 : List Stmt := forBody lawParts.1[13]?
def lawFor2 : List Stmt := forBody lawParts.1[16]?
def lawFor3 : List Stmt := forBody lawFor2[6]?
theorem law_len : lawParts.1.length = 22 := by rfl
theorem cut3 {c t : Str} (hc : c.length = 3) (hn : c.cps.toList ≠ [50, 53, 55]) : (Txt.slice (c ++ t) none (some 3) != Str.ofString "257") = true := by
  have h := slice_to (c ++ t) (k := 3) (by rw [Str.length_append]; omega)
  rw [bne_iff_ne]
  intro e
  apply hn
  have e2 : (c ++ t).cps.toList.take 3 = c.cps.toList := by
    rw [cat_l]
    have : c.cps.toList.length = 3 := by rw [← len_l]; exact hc
    rw [List.take_append_of_le_length (by omega), List.take_of_length_le (by omega)]
  rw [e2, show ((3 : Nat) : Int) = 3 from rfl, e] at h
  rw [← h]
  rfl
theorem text_len {sign tail : Str} {sg : Nat} (hsg : sign.cps.toList = [sg]) (c : Nat) : (lawText (c : Int) sign tail).length = c + 6 + tail.length := by
  rw [len_l, text_l hsg, len_l tail]
  simp only [List.length_cons, List.length_append, List.length_replicate]
  omega
/-- what _law_text gave -/
def IsText (c : Nat) (x : Str) : Prop := x.length ≤ 100 ∧ ∃ r, x.cps.toList = 32 :: 34 :: r
theorem text_is {sign tail : Str} {sg : Nat} (hsg : sign.cps.toList = [sg]) {c : Nat} (hc : c ≤ 4) (hty : tail.length ≤ 10) : IsText c (lawText (c : Int) sign tail) :=
  ⟨by rw [text_len hsg]; omega, _, text_l hsg c⟩
section
variable {w : World} {mean : ExcName → Option Value} {mg mb : Str → Option Value} {dp un : Nat} {gd : Option (List Code)} {cn : Str} {cs : Scope} {L a : Addr} {ccd : Value} {cl : List (Str × Addr)} {outer : List Env} {A₀ : Around} {base h₀ : Heap} {m : Str → Option Value} {news : List (Addr × Obj)} {s : Shared} {Q E : Value → Shared → Prop}
theorem text_ok2 (B : Below A₀ base outer h₀) (F : Fr h₀ L s.heap m) (X : (Mine.hd.heap_1 w.params).In h₀) (N : News h₀ L s.heap news) (T : Top pz lz mean mg mb h₀) (hk : cs.kind = .function)
    (hd : dp + 10 < recursionLimit) (hu : un + 50 < cLine) {n : Int} {t1 t2 t3 : Tok} {x y : Str} {sg : Nat}
    (h0 : 0 ≤ n) (h1 : n ≤ 4) (hsg : x.cps.toList = [sg]) (hy : y.length ≤ 10)
    (ret : ∀ h' tk' tk z, IsText n.toNat z → Fr h₀ L h' m → News h₀ L h' news → Q (.str z tk) { s with heap := h', toks := tk' }) :
    wpAny (model PySem.Challenge.rw_xh0019_01.row.prog w) (ktrTop dp un gd cn cs L a ccd cl outer) (call (.ref 187) [.int n t1, .str x t2, .str y t3]) Q E s := by
  refine text_ok B F X N T hk hd hu h0 (by omega) (by rw [len_l, hsg]; rfl) hy fun h' tk' tk F' N' => ret h' tk' tk _ ?_ F' N'
  obtain ⟨c, rfl⟩ := Int.eq_ofNat_of_zero_le h0
  exact text_is hsg (by omega) hy
end
theorem cut_blank {c : Nat} {x : Str} (h : IsText c x) (k : Nat) (hk : k ≤ 2) : (Txt.slice x (some (k : Int)) none).cps.toList = x.cps.toList.drop k := by
  obtain ⟨h1, r, h2⟩ := h
  have hl := len_l x
  rw [h2] at hl
  simp only [List.length_cons] at hl
  have := eq_of_beq (slice_closes_from (x := x) (i := (k : Int)) ⟨by omega, by rw [h2]; simp only [List.length_cons]; omega⟩)
  rw [this]
  simp only [List.toList_toArray, Int.toNat_natCast]
  rw [List.take_of_length_le]
  rw [List.length_drop]
  omega
/-- replies that begin with 257 but do not go on with a blank and a mark -/
theorem nil5 {x : Str} {a b : Nat} {r : List Nat} (hx : x.cps.toList = 50 :: 53 :: 55 :: a :: b :: r) (hab : [a, b] ≠ [32, 34]) : (Txt.slice x none (some 3) != Str.ofString "257") = false ∧ (Txt.slice x (some 3) (some 5) != Str.ofString " \"") = true := by
  have hl := len_l x
  rw [hx] at hl
  simp only [List.length_cons] at hl
  have a3 : (Txt.slice x none (some 3)).cps.toList = x.cps.toList.take 3 := slice_to x (k := 3) (by omega)
  have a5 : (Txt.slice x (some 3) (some 5)).cps.toList = (x.cps.toList.drop 3).take (5 - 3) := slice_fr x (i := 3) (j := 5) (by decide) (by omega)
  rw [hx] at a3 a5
  have e3 : (Str.ofString "257").cps.toList = [50, 53, 55] := by decide +kernel
  have e5 : (Str.ofString " \"").cps.toList = [32, 34] := by decide +kernel
  constructor
  · have : Txt.slice x none (some 3) = Str.ofString "257" := str_eq (by rw [a3, e3]; rfl)
    rw [this]; exact bne_self_eq_false' _
  · rw [bne_iff_ne]
    intro q
    rw [q, e5] at a5
    exact hab a5.symm
theorem nil_a {c : Nat} {z : Str} (h : IsText c z) : (Str.ofString "257-" ++ Txt.slice z (some 1) none).length ≤ 1000 ∧ (Txt.slice (Str.ofString "257-" ++ Txt.slice z (some 1) none) none (some 3) != Str.ofString "257") = false ∧ (Txt.slice (Str.ofString "257-" ++ Txt.slice z (some 1) none) (some 3) (some 5) != Str.ofString " \"") = true := by
  have h1 : (Txt.slice z (some 1) none).cps.toList = z.cps.toList.drop 1 := cut_blank h 1 (by omega)
  obtain ⟨h0, r, h2⟩ := h
  have hz := len_l z
  rw [h2] at h1 hz
  simp only [List.length_cons] at hz
  have e4 : (Str.ofString "257-").cps.toList = [50, 53, 55, 45] := by decide +kernel
  have e : (Str.ofString "257-" ++ Txt.slice z (some 1) none).cps.toList = 50 :: 53 :: 55 :: 45 :: 34 :: r := by rw [cat_l, h1, e4]; rfl
  have hl := len_l (Str.ofString "257-" ++ Txt.slice z (some 1) none)
  rw [e] at hl
  simp only [List.length_cons] at hl
  exact ⟨by omega, nil5 e (by decide)⟩
theorem nil_b {c : Nat} {z : Str} (h : IsText c z) : (Str.ofString "257 '" ++ Txt.slice z (some 2) none).length ≤ 1000 ∧ (Txt.slice (Str.ofString "257 '" ++ Txt.slice z (some 2) none) none (some 3) != Str.ofString "257") = false ∧ (Txt.slice (Str.ofString "257 '" ++ Txt.slice z (some 2) none) (some 3) (some 5) != Str.ofString " \"") = true := by
  have h1 : (Txt.slice z (some 2) none).cps.toList = z.cps.toList.drop 2 := cut_blank h 2 (by omega)
  obtain ⟨h0, r, h2⟩ := h
  have hz := len_l z
  rw [h2] at h1 hz
  simp only [List.length_cons] at hz
  have e4 : (Str.ofString "257 '").cps.toList = [50, 53, 55, 32, 39] := by decide +kernel
  have e : (Str.ofString "257 '" ++ Txt.slice z (some 2) none).cps.toList = 50 :: 53 :: 55 :: 32 :: 39 :: r := by rw [cat_l, h1, e4]; rfl
  have hl := len_l (Str.ofString "257 '" ++ Txt.slice z (some 2) none)
  rw [e] at hl
  simp only [List.length_cons] at hl
  exact ⟨by omega, nil5 e (by decide)⟩
theorem nil_c : (Txt.slice (Str.ofString "257") none (some 3) != Str.ofString "257") = false ∧ (Txt.slice (Str.ofString "257") (some 3) (some 5) != Str.ofString " \"") = true := by
  constructor <;> decide +kernel
theorem len_25 : (Str.ofString "25").length ≤ 1000 := by decide +kernel
theorem len_257 : (Str.ofString "257").length ≤ 1000 := by decide +kernel
theorem ref_c : (Txt.slice (Str.ofString "25") none (some 3) != Str.ofString "257") = true := by decide +kernel
/-- refused replies -/
theorem ref_is {k : Nat} {z c : Str} (h : IsText k z) (hc : c = Str.ofString "157" ∨ c = Str.ofString "207" ∨ c = Str.ofString "250" ∨ c = Str.ofString "258" ∨ c = Str.ofString "357") : (c ++ z).length ≤ 1000 ∧ (Txt.slice (c ++ z) none (some 3) != Str.ofString "257") = true := by
  have hl : c.length = 3 := by rcases hc with rfl | rfl | rfl | rfl | rfl <;> decide +kernel
  exact ⟨by rw [Str.length_append]; have := h.1; omega, cut3 hl (by rcases hc with rfl | rfl | rfl | rfl | rfl <;> decide +kernel)⟩
end
section
def bitsOf (S : Nat) (f ad : Int) (r : Nat) : List Bool := (wst f ad r S).1
def reach (S : Nat) (f ad : Int) (r : Nat) : Int := (wst f ad r S).2
def bn : List Bool → Nat → Nat
  | [], a => a
  | b :: r, a => bn r (2 * a + if b then 0 else 1)
def ky (S : Nat) (f ad : Int) (r : Nat) : Nat := bn (bitsOf S f ad r) 0
def wdS (b : List Bool) : Str := Txt.join (Str.ofString "") (b.map fun b => Txt.join (Str.ofString "") [(pcOf b).1, (pcOf b).2])
def Sf : List (Nat × Int × Int) := [(2, 1, -1), (2, 1, 1), (2, 1, 3), (2, 1, 5), (2, 3, -1), (2, 3, 1), (2, 3, 3), (2, 3, 5), (3, 1, -1), (3, 1, 1), (3, 1, 3), (3, 1, 5), (3, 3, -1), (3, 3, 1), (3, 3, 3), (3, 3, 5)]
def okN (S : Nat) (f ad : Int) (r : Nat) : Bool :=
  ((List.range (S + 1)).all fun i => decide (0 ≤ (wst f ad r i).2) && decide ((wst f ad r i).2 ≤ 800)) &&
  (bitsOf S f ad r == bitsOf S f ad (r % 2 ^ S)) &&
  (reach S f ad r == reach S f ad (r % 2 ^ S) + f ^ ((bitsOf S f ad (r % 2 ^ S)).count true) * ((r / 2 ^ S : Nat) : Int)) &&
  (bst f ad (bitsOf S f ad r) (reach S f ad r) == (r : Int)) &&
  ((List.range S).all fun i => !((bitsOf S f ad r)[i]? == some true) || decide ((2 * bst f ad ((bitsOf S f ad r).drop (i + 1)) (reach S f ad r) - ad).fmod f = 0))
def okR (S : Nat) (f ad : Int) (r : Nat) : Bool :=
  ((List.range (S + 1)).all fun i => decide (-1000 ≤ (prun f ad r i).2.2) && decide ((prun f ad r i).2.2 ≤ 1000) && decide ((prun f ad r i).1.length ≤ 100) && decide (0 ≤ (prun f ad r i).2.1) && decide ((prun f ad r i).2.1 ≤ 100)) &&
  ((prun f ad r S).1 == wdS (bitsOf S f ad r)) && ((prun f ad r S).2.1 == (((bitsOf S f ad r).count true : Nat) : Int)) && ((prun f ad r S).2.2 == reach S f ad r) &&
  (Txt.isspace (wdS (bitsOf S f ad r)) == decide (r = 0)) && ((List.range (2 ^ S)).all fun q => decide (q = r) || !(ky S f ad q == ky S f ad r))
theorem okN_all : (Sf.all fun p => (List.range 17).all fun r => okN p.1 p.2.1 p.2.2 r) = true := by decide +kernel
theorem okR_all : (Sf.all fun p => (List.range (2 ^ p.1)).all fun r => okR p.1 p.2.1 p.2.2 r) = true := by decide +kernel
def allB : Nat → List (List Bool)
  | 0 => [[]]
  | n + 1 => (allB n).flatMap fun l => [true :: l, false :: l]
def okB (b b' : List Bool) : Bool := decide ((wdS b).cps.toList < (wdS b').cps.toList) == decide (bn b 0 < bn b' 0)
theorem okB_all : ([2, 3].all fun S => (allB S).all fun b => (allB S).all fun b' => okB b b') = true := by decide +kernel
end
section
def putR (k : Nat → Nat) (l : List Nat) (x : Nat) : List Nat := l.takeWhile (fun y => decide (k y ≤ k x)) ++ x :: l.dropWhile (fun y => decide (k y ≤ k x))
def putL (k : Nat → Nat) (l : List Nat) (x : Nat) : List Nat := l.takeWhile (fun y => decide (k y < k x)) ++ x :: l.dropWhile (fun y => decide (k y < k x))
def rowR (k : Nat → Nat) (st n : Nat) : List Nat := (List.range' st n).foldl (putR k) []
def rowL (k : Nat → Nat) (st n : Nat) : List Nat := (List.range' st n).foldl (putL k) []
def cntL (k : Nat → Nat) (l : List Nat) (x : Nat) : Nat := (l.takeWhile (fun y => decide (k y < k x))).length
def cntR (k : Nat → Nat) (l : List Nat) (x : Nat) : Nat := (l.takeWhile (fun y => decide (k y ≤ k x))).length
/-- what is asked of the two rows -/
def okRow (k : Nat → Nat) (W st n : Nat) : Bool :=
  (List.range W).all fun q =>
    let b := cntL k (rowL k st n) q
    let h := cntR k (rowR k st n) q
    (cntL k (rowR k st n) q == b) && decide (b ≤ h) && decide (h ≤ n) &&
    (((rowR k st n).drop b).take (h - b) == (List.range' st n).filter (fun x => decide (x % W = q))) &&
    ((List.range (h - b)).all fun j => (rowL k st n)[h - 1 - j]? == (rowR k st n)[b + j]?)
def okK (S : Nat) (f ad : Int) : Bool := (List.range 5).all fun st => [5, 1, 2].all fun c => okRow (ky S f ad) (2 ^ S) st (2 ^ S + c)
theorem okK_0 : okK 2 1 (-1) = true := by decide +kernel
theorem okK_1 : okK 2 1 (1) = true := by decide +kernel
theorem okK_2 : okK 2 1 (3) = true := by decide +kernel
theorem okK_3 : okK 2 1 (5) = true := by decide +kernel
theorem okK_4 : okK 2 3 (-1) = true := by decide +kernel
theorem okK_5 : okK 2 3 (1) = true := by decide +kernel
theorem okK_6 : okK 2 3 (3) = true := by decide +kernel
theorem okK_7 : okK 2 3 (5) = true := by decide +kernel
theorem okK_8 : okK 3 1 (-1) = true := by decide +kernel
theorem okK_9 : okK 3 1 (1) = true := by decide +kernel
theorem okK_10 : okK 3 1 (3) = true := by decide +kernel
theorem okK_11 : okK 3 1 (5) = true := by decide +kernel
theorem okK_12 : okK 3 3 (-1) = true := by decide +kernel
theorem okK_13 : okK 3 3 (1) = true := by decide +kernel
theorem okK_14 : okK 3 3 (3) = true := by decide +kernel
theorem okK_15 : okK 3 3 (5) = true := by decide +kernel
theorem okK_all : ∀ p ∈ Sf, okK p.1 p.2.1 p.2.2 = true := by
  simp only [Sf, List.forall_mem_cons]
  exact ⟨okK_0, okK_1, okK_2, okK_3, okK_4, okK_5, okK_6, okK_7, okK_8, okK_9, okK_10, okK_11, okK_12, okK_13, okK_14, okK_15, fun _ h => nomatch h⟩
theorem put_perm {f : Nat → Bool} {l : List Nat} {x : Nat} : (l.takeWhile f ++ x :: l.dropWhile f).Perm (x :: l) := by
  refine List.perm_middle.trans (List.Perm.cons _ ?_)
  rw [List.takeWhile_append_dropWhile]
theorem rowR_succ (k : Nat → Nat) (st n : Nat) : rowR k st (n + 1) = putR k (rowR k st n) (st + n) := by
  unfold rowR
  rw [List.range'_concat, List.foldl_append, Nat.one_mul]
  rfl
theorem rowL_succ (k : Nat → Nat) (st n : Nat) : rowL k st (n + 1) = putL k (rowL k st n) (st + n) := by
  unfold rowL
  rw [List.range'_concat, List.foldl_append, Nat.one_mul]
  rfl
theorem rowR_perm (k : Nat → Nat) (st : Nat) : ∀ n, (rowR k st n).Perm (List.range' st n)
  | 0 => .refl _
  | n + 1 => by
    rw [rowR_succ, List.range'_concat, Nat.one_mul]
    exact put_perm.trans ((List.Perm.cons _ (rowR_perm k st n)).trans (List.perm_append_comm (l₁ := [st + n])))
theorem rowL_perm (k : Nat → Nat) (st : Nat) : ∀ n, (rowL k st n).Perm (List.range' st n)
  | 0 => .refl _
  | n + 1 => by
    rw [rowL_succ, List.range'_concat, Nat.one_mul]
    exact put_perm.trans ((List.Perm.cons _ (rowL_perm k st n)).trans (List.perm_append_comm (l₁ := [st + n])))
theorem put_pos {α : Type} {f : α → Bool} : ∀ (l : List α) (p : Nat), p ≤ l.length → (∀ i, (h : i < l.length) → i < p → f l[i] = true) → (∀ i, (h : i < l.length) → p ≤ i → f l[i] = false) → l.takeWhile f = l.take p ∧ l.dropWhile f = l.drop p
  | [], p, _, _, _ => by simp
  | a :: l, 0, _, _, h2 => by
    have := h2 0 (by simp) (Nat.le_refl _)
    simp only [List.getElem_cons_zero] at this
    simp [this]
  | a :: l, p + 1, hp, h1, h2 => by
    have := h1 0 (by simp) (Nat.succ_pos _)
    simp only [List.getElem_cons_zero] at this
    obtain ⟨e1, e2⟩ := put_pos (f := f) l p (Nat.le_of_succ_le_succ hp) (fun i h hi => by have := h1 (i + 1) (by simpa using h) (Nat.succ_lt_succ hi); simpa using this) (fun i h hi => by have := h2 (i + 1) (by simpa using h) (Nat.succ_le_succ hi); simpa using this)
    simp [this, e1, e2]
abbrev Up (k : Nat → Nat) (l : List Nat) : Prop := l.Pairwise fun a b => k a ≤ k b
theorem up_at {k : Nat → Nat} {l : List Nat} (h : Up k l) {i j : Nat} (hij : i ≤ j) (hj : j < l.length) : k l[i] ≤ k l[j] := by
  rcases Nat.lt_or_eq_of_le hij with hlt | rfl
  · exact List.pairwise_iff_getElem.mp h i j (by omega) hj hlt
  · exact Nat.le_refl _
theorem up_putR {k : Nat → Nat} {x : Nat} : ∀ {l : List Nat}, Up k l → Up k (putR k l x)
  | [], _ => by simp [putR, Up]
  | a :: l, h => by
    have h' := List.pairwise_cons.mp h
    unfold putR
    by_cases c : k a ≤ k x
    · simp only [List.takeWhile_cons, List.dropWhile_cons, decide_eq_true c, if_true, List.cons_append]
      refine List.pairwise_cons.mpr ⟨fun b hb => ?_, up_putR h'.2⟩
      have : b ∈ x :: l := put_perm.mem_iff.mp hb
      rcases List.mem_cons.mp this with rfl | hb
      · exact c
      · exact h'.1 b hb
    · simp only [List.takeWhile_cons, List.dropWhile_cons, decide_eq_false c, Bool.false_eq_true, if_false, List.nil_append]
      refine List.pairwise_cons.mpr ⟨fun b hb => ?_, h⟩
      rcases List.mem_cons.mp hb with rfl | hb
      · omega
      · have := h'.1 b hb; omega
theorem up_putL {k : Nat → Nat} {x : Nat} : ∀ {l : List Nat}, Up k l → Up k (putL k l x)
  | [], _ => by simp [putL, Up]
  | a :: l, h => by
    have h' := List.pairwise_cons.mp h
    unfold putL
    by_cases c : k a < k x
    · simp only [List.takeWhile_cons, List.dropWhile_cons, decide_eq_true c, if_true, List.cons_append]
      refine List.pairwise_cons.mpr ⟨fun b hb => ?_, up_putL h'.2⟩
      have : b ∈ x :: l := put_perm.mem_iff.mp hb
      rcases List.mem_cons.mp this with rfl | hb
      · omega
      · exact h'.1 b hb
    · simp only [List.takeWhile_cons, List.dropWhile_cons, decide_eq_false c, Bool.false_eq_true, if_false, List.nil_append]
      refine List.pairwise_cons.mpr ⟨fun b hb => ?_, h⟩
      rcases List.mem_cons.mp hb with rfl | hb
      · omega
      · have := h'.1 b hb; omega
theorem up_rowR (k : Nat → Nat) (st : Nat) : ∀ n, Up k (rowR k st n)
  | 0 => List.Pairwise.nil
  | n + 1 => by rw [rowR_succ]; exact up_putR (up_rowR k st n)
theorem up_rowL (k : Nat → Nat) (st : Nat) : ∀ n, Up k (rowL k st n)
  | 0 => List.Pairwise.nil
  | n + 1 => by rw [rowL_succ]; exact up_putL (up_rowL k st n)
end
section
structure Dat where
  r : Nat
  e : Addr
  x : Addr
  d : Addr
  n : Nat
  tk : Tok
  v : Tok
  t8 : Tok
  t9 : Tok
  t10 : Tok
  pcs : List Pc
/-- the law's numbers -/
structure Cfg where
  S : Nat
  f : Int
  ad : Int
  st : Nat
  ct : Nat
  fs : Int
abbrev Cfg.wd (c : Cfg) (r : Nat) : Str := wdS (bitsOf c.S c.f c.ad r)
abbrev Cfg.k (c : Cfg) (r : Nat) : Nat := ky c.S c.f c.ad r
abbrev Cfg.go (c : Cfg) (r : Nat) : Int := reach c.S c.f c.ad r
structure Cfg.Ok (c : Cfg) : Prop where
  mem : (c.S, c.f, c.ad) ∈ Sf
  st : c.st ≤ 4
  ct : c.ct = 2 ^ c.S + 5 ∨ c.ct = 2 ^ c.S + 1 ∨ c.ct = 2 ^ c.S + 2
  fs : 0 ≤ c.fs ∧ c.fs ≤ 2
abbrev Dat.ref (q : Dat) : Value := .ref q.e
def Dat.ent (c : Cfg) (q : Dat) : Addr × Obj := (q.e, listOf #[.int ((q.r : Nat) : Int) q.t8, .str (c.wd q.r) q.t9, .ref q.x, .int (c.go q.r) q.t10] 0)
def Dat.pil (q : Dat) : Addr × Obj := (q.x, pileOf q.d (q.pcs.map fun p : Pc => Value.ref p.1).toArray q.n)
def Dat.own (P : Params) (c : Cfg) (q : Dat) : List (Addr × Obj) := q.ent c :: (q.d, sizeD P q.tk (.int c.fs q.v)) :: q.pcs.map fun p : Pc => (p.1, tup2 (pcT p).2.1 (pcT p).2.2)
def Dat.ok (c : Cfg) (q : Dat) : Prop := pcsOf q.pcs = (bitsOf c.S c.f c.ad q.r).map pcOf
abbrev rowObj (l : List Dat) (n : Nat) : Obj := listOf (l.map Dat.ref).toArray n

/-- kinds of objects -/
def kd (o : Obj) : Nat := match o.data with
  | .cell _ => 0
  | .dict _ _ => 1
  | .fields _ => 2
  | .seq vs _ => (match vs[0]? with | some (.int _ _) => 3 | some (.str _ _) => 4 | _ => 5) + (match o.cls with | .ref _ => 10 | _ => 0)
  | _ => 20
theorem kd_cell {o : Obj} {v : Option Value} (h : o.data = .cell v) : kd o = 0 := by unfold kd; rw [h]
theorem kd_tab (ps : Array Value) : kd (tabObj ps) = 2 := rfl
theorem kd_row (l : List Dat) (n : Nat) : kd (rowObj l n) = 5 := by cases l <;> rfl
theorem kd_pil (q : Dat) : kd q.pil.2 = 15 := by
  unfold Dat.pil kd
  cases q.pcs <;> rfl
theorem kd_ent (c : Cfg) (q : Dat) : kd (q.ent c).2 = 3 := rfl
theorem kd_size (P : Params) (tk : Tok) (v : Value) : kd (sizeD P tk v) = 1 := rfl
theorem kd_tup (p : Pc) : kd (tup2 (pcT p).2.1 (pcT p).2.2) = 4 := rfl
theorem kd_own {P : Params} {c : Cfg} {q : Dat} {p : Addr × Obj} (h : p ∈ q.own P c) : kd p.2 = 1 ∨ kd p.2 = 3 ∨ kd p.2 = 4 := by
  unfold Dat.own at h
  rcases List.mem_cons.mp h with rfl | h
  · exact .inr (.inl rfl)
  · rcases List.mem_cons.mp h with rfl | h
    · exact .inl rfl
    · obtain ⟨x, _, rfl⟩ := List.mem_map.mp h
      exact .inr (.inr rfl)
theorem News.kd {h₀ h : Heap} {L a b : Addr} {o o' : Obj} {news : List (Addr × Obj)} (N : News h₀ L h news) (h1 : (a, o) ∈ news) (h2 : (b, o') ∈ news) (hk : kd o ≠ kd o') : a ≠ b := News.fun N h1 h2 fun e => hk (e ▸ rfl)

/-- the rest of the ledger behind the two rows and the tables -/
def led (P : Params) (c : Cfg) (piles late : List Dat) : List (Addr × Obj) := piles.map Dat.pil ++ late.flatMap (Dat.own P c)
theorem led_kd {P : Params} {c : Cfg} {piles late : List Dat} {p : Addr × Obj} (h : p ∈ led P c piles late) : kd p.2 = 15 ∨ kd p.2 = 1 ∨ kd p.2 = 3 ∨ kd p.2 = 4 := by
  rcases List.mem_append.mp h with h | h
  · obtain ⟨q, _, rfl⟩ := List.mem_map.mp h
    exact .inl (kd_pil q)
  · obtain ⟨q, _, hq⟩ := List.mem_flatMap.mp h
    exact .inr (kd_own hq)
theorem led_pil {P : Params} {c : Cfg} {piles late : List Dat} {q : Dat} (h : q ∈ piles) : q.pil ∈ led P c piles late := List.mem_append_left _ (List.mem_map_of_mem h)
theorem led_own {P : Params} {c : Cfg} {piles late : List Dat} {q : Dat} {p : Addr × Obj} (h : q ∈ late) (hp : p ∈ q.own P c) : p ∈ led P c piles late := List.mem_append_right _ (List.mem_flatMap.mpr ⟨q, h, hp⟩)
theorem led_ent {P : Params} {c : Cfg} {piles late : List Dat} {q : Dat} (h : q ∈ late) : q.ent c ∈ led P c piles late := led_own h (.head _)

theorem row_of {c : Cfg} {news : List (Addr × Obj)} {l : List Dat} (h : ∀ q ∈ l, q.ent c ∈ news) : Row news (l.map Dat.ref).toArray (l.map fun q => c.wd q.r) := by
  refine ⟨by simp, fun i hi => ?_⟩
  have hi' : i < l.length := by simpa using hi
  refine ⟨l[i].e, .int ((l[i].r : Nat) : Int) l[i].t8, l[i].t9, .ref l[i].x, .int (c.go l[i].r) l[i].t10, 0, by simp [hi'], ?_⟩
  have := h l[i] (List.getElem_mem hi')
  simpa [Dat.ent] using this

theorem wst_bits (S : Nat) (f ad : Int) (r : Nat) : (wst f ad (r : Int) S).1 = bitsOf S f ad r := rfl
theorem wst_go (S : Nat) (f ad : Int) (r : Nat) : (wst f ad (r : Int) S).2 = reach S f ad r := rfl
theorem pcStr_wd {pcs : List Pc} {b : List Bool} (h : pcsOf pcs = b.map pcOf) : Txt.join (Str.ofString "") (pcs.map pcStr) = wdS b := by
  have : pcs.map pcStr = (pcsOf pcs).map fun p => Txt.join (Str.ofString "") [p.1, p.2] := by simp [pcsOf]
  rw [this, h, List.map_map]
  rfl
end
section
theorem mem_allB : ∀ l : List Bool, l ∈ allB l.length
  | [] => .head _
  | b :: l => by
    refine List.mem_flatMap.mpr ⟨l, mem_allB l, ?_⟩
    cases b <;> simp
theorem bits_len (S : Nat) (f ad : Int) (r : Nat) : (bitsOf S f ad r).length = S := wst_len f ad r S
def okL (b : List Bool) : Bool := (((b.map pcOf).map fun p => (p.1.length : Int) + (p.2.length : Int)).sum == ((wdS b).length : Int)) && decide (0 < (wdS b).length) && decide ((wdS b).length ≤ 6)
theorem okL_all : ([2, 3].all fun S => (allB S).all okL) = true := by decide +kernel
theorem pc_lenS {pcs : List Pc} {b : List Bool} (h : pcsOf pcs = b.map pcOf) : (pcs.map pcLen).sum = ((b.map pcOf).map fun p => (p.1.length : Int) + (p.2.length : Int)).sum := by
  rw [← h, pcsOf, List.map_map]
  rfl
namespace Cfg.Ok
variable {c : Cfg}
theorem S23 (h : c.Ok) : c.S = 2 ∨ c.S = 3 := by
  have h1 := h.mem
  simp only [Sf, List.mem_cons, List.not_mem_nil, or_false, Prod.mk.injEq] at h1
  rcases h1 with h | h | h | h | h | h | h | h | h | h | h | h | h | h | h | h <;> simp [h.1]
theorem f13 (h : c.Ok) : c.f = 1 ∨ c.f = 3 := by
  have h1 := h.mem
  simp only [Sf, List.mem_cons, List.not_mem_nil, or_false, Prod.mk.injEq] at h1
  rcases h1 with h | h | h | h | h | h | h | h | h | h | h | h | h | h | h | h <;> simp [h.2.1]
theorem ad4 (h : c.Ok) : c.ad = -1 ∨ c.ad = 1 ∨ c.ad = 3 ∨ c.ad = 5 := by
  have h1 := h.mem
  simp only [Sf, List.mem_cons, List.not_mem_nil, or_false, Prod.mk.injEq] at h1
  rcases h1 with h | h | h | h | h | h | h | h | h | h | h | h | h | h | h | h <;> simp [h.2.2]
theorem W48 (h : c.Ok) : c.S = 2 ∧ 2 ^ c.S = 4 ∨ c.S = 3 ∧ 2 ^ c.S = 8 := by
  rcases h.S23 with e | e <;> rw [e] <;> decide
theorem ct13 (h : c.Ok) : c.ct ≤ 13 := by
  have h1 := h.ct
  have h2 := h.W48
  omega
theorem bInMem (h : c.Ok) (r : Nat) : bitsOf c.S c.f c.ad r ∈ allB c.S := by
  have := mem_allB (bitsOf c.S c.f c.ad r)
  rwa [bits_len] at this
theorem num (h : c.Ok) {r : Nat} (hr : r ≤ 16) : okN c.S c.f c.ad r = true :=
  List.all_eq_true.mp (List.all_eq_true.mp okN_all _ h.mem) r (List.mem_range.mpr (by omega))
theorem n1 (h : c.Ok) {r : Nat} (hr : r ≤ 16) : ∀ i, i ≤ c.S → 0 ≤ (wst c.f c.ad r i).2 ∧ (wst c.f c.ad r i).2 ≤ 800 := by
  have := h.num hr
  simp only [okN, Bool.and_eq_true] at this
  intro i hi
  have := List.all_eq_true.mp this.1.1.1.1 i (List.mem_range.mpr (by omega))
  simpa using this
theorem n2 (h : c.Ok) {r : Nat} (hr : r ≤ 16) : bitsOf c.S c.f c.ad r = bitsOf c.S c.f c.ad (r % 2 ^ c.S) := by
  have := h.num hr
  simp only [okN, Bool.and_eq_true] at this
  exact eq_of_beq this.1.1.1.2
theorem n3 (h : c.Ok) {r : Nat} (hr : r ≤ 16) : c.go r = c.go (r % 2 ^ c.S) + c.f ^ ((bitsOf c.S c.f c.ad (r % 2 ^ c.S)).count true) * ((r / 2 ^ c.S : Nat) : Int) := by
  have := h.num hr
  simp only [okN, Bool.and_eq_true] at this
  exact eq_of_beq this.1.1.2
theorem n4 (h : c.Ok) {r : Nat} (hr : r ≤ 16) : bst c.f c.ad (bitsOf c.S c.f c.ad r) (c.go r) = (r : Int) := by
  have := h.num hr
  simp only [okN, Bool.and_eq_true] at this
  exact eq_of_beq this.1.2
theorem n5 (h : c.Ok) {r : Nat} (hr : r ≤ 16) : ∀ i, i < c.S → (bitsOf c.S c.f c.ad r)[i]? = some true → (2 * bst c.f c.ad ((bitsOf c.S c.f c.ad r).drop (i + 1)) (c.go r) - c.ad).fmod c.f = 0 := by
  have := h.num hr
  simp only [okN, Bool.and_eq_true] at this
  intro i hi hb
  have := List.all_eq_true.mp this.2 i (List.mem_range.mpr hi)
  rw [hb] at this
  simpa using this
theorem rst (h : c.Ok) {r : Nat} (hr : r < 2 ^ c.S) : okR c.S c.f c.ad r = true :=
  List.all_eq_true.mp (List.all_eq_true.mp okR_all _ h.mem) r (List.mem_range.mpr hr)
theorem r1 (h : c.Ok) {r : Nat} (hr : r < 2 ^ c.S) : ∀ i, i ≤ c.S → -1000 ≤ (prun c.f c.ad r i).2.2 ∧ (prun c.f c.ad r i).2.2 ≤ 1000 ∧ (prun c.f c.ad r i).1.length ≤ 100 ∧ 0 ≤ (prun c.f c.ad r i).2.1 ∧ (prun c.f c.ad r i).2.1 ≤ 100 := by
  have := h.rst hr
  simp only [okR, Bool.and_eq_true] at this
  intro i hi
  have := List.all_eq_true.mp this.1.1.1.1.1 i (List.mem_range.mpr (by omega))
  simp only [Bool.and_eq_true, decide_eq_true_eq] at this
  exact ⟨this.1.1.1.1, this.1.1.1.2, this.1.1.2, this.1.2, this.2⟩
theorem r2 (h : c.Ok) {r : Nat} (hr : r < 2 ^ c.S) : prun c.f c.ad r c.S = (c.wd r, (((bitsOf c.S c.f c.ad r).count true : Nat) : Int), c.go r) := by
  have := h.rst hr
  simp only [okR, Bool.and_eq_true] at this
  exact Prod.ext (eq_of_beq this.1.1.1.1.2) (Prod.ext (eq_of_beq this.1.1.1.2) (eq_of_beq this.1.1.2))
theorem r5 (h : c.Ok) {r : Nat} (hr : r < 2 ^ c.S) : Txt.isspace (c.wd r) = decide (r = 0) := by
  have := h.rst hr
  simp only [okR, Bool.and_eq_true] at this
  exact eq_of_beq this.1.2
theorem r6 (h : c.Ok) {r q : Nat} (hr : r < 2 ^ c.S) (hq : q < 2 ^ c.S) (e : c.k q = c.k r) : q = r := by
  have := h.rst hr
  simp only [okR, Bool.and_eq_true] at this
  have := List.all_eq_true.mp this.2 q (List.mem_range.mpr hq)
  have e' : (ky c.S c.f c.ad q == ky c.S c.f c.ad r) = true := beq_iff_eq.mpr e
  rw [e'] at this
  simpa using this
theorem kmod (h : c.Ok) {r : Nat} (hr : r ≤ 16) : c.k r = c.k (r % 2 ^ c.S) := congrArg (bn · 0) (h.n2 hr)
theorem wmod (h : c.Ok) {r : Nat} (hr : r ≤ 16) : c.wd r = c.wd (r % 2 ^ c.S) := congrArg wdS (h.n2 hr)
theorem lt (h : c.Ok) (r q : Nat) : (c.wd r).cps.toList < (c.wd q).cps.toList ↔ c.k r < c.k q := by
  have hS : c.S ∈ [2, 3] := by have := h.S23; simp [this]
  have := List.all_eq_true.mp (List.all_eq_true.mp (List.all_eq_true.mp okB_all _ hS) _ (h.bInMem r)) _ (h.bInMem q)
  have := eq_of_beq this
  exact decide_eq_decide.mp this
theorem len (h : c.Ok) {pcs : List Pc} {r : Nat} (e : pcsOf pcs = (bitsOf c.S c.f c.ad r).map pcOf) : (pcs.map pcLen).sum = ((c.wd r).length : Int) ∧ 0 < (c.wd r).length ∧ (c.wd r).length ≤ 6 := by
  have hS : c.S ∈ [2, 3] := by have := h.S23; simp [this]
  have := List.all_eq_true.mp (List.all_eq_true.mp okL_all _ hS) _ (h.bInMem r)
  simp only [okL, Bool.and_eq_true, decide_eq_true_eq] at this
  exact ⟨(pc_lenS e).trans (eq_of_beq this.1.1), this.1.2, this.2⟩
theorem row (h : c.Ok) : ∀ q, q < 2 ^ c.S → cntL c.k (rowR c.k c.st c.ct) q = cntL c.k (rowL c.k c.st c.ct) q ∧ cntL c.k (rowL c.k c.st c.ct) q ≤ cntR c.k (rowR c.k c.st c.ct) q ∧ cntR c.k (rowR c.k c.st c.ct) q ≤ c.ct ∧
    ((rowR c.k c.st c.ct).drop (cntL c.k (rowL c.k c.st c.ct) q)).take (cntR c.k (rowR c.k c.st c.ct) q - cntL c.k (rowL c.k c.st c.ct) q) = (List.range' c.st c.ct).filter (fun x => decide (x % 2 ^ c.S = q)) ∧
    ∀ j, j < cntR c.k (rowR c.k c.st c.ct) q - cntL c.k (rowL c.k c.st c.ct) q → (rowL c.k c.st c.ct)[cntR c.k (rowR c.k c.st c.ct) q - 1 - j]? = (rowR c.k c.st c.ct)[cntL c.k (rowL c.k c.st c.ct) q + j]? := by
  have h1 := okK_all _ h.mem
  have h2 := List.all_eq_true.mp h1 c.st (List.mem_range.mpr (by have := h.st; omega))
  have hc : ∃ d ∈ [5, 1, 2], c.ct = 2 ^ c.S + d := by
    rcases h.ct with e | e | e
    · exact ⟨5, by simp, e⟩
    · exact ⟨1, by simp, e⟩
    · exact ⟨2, by simp, e⟩
  obtain ⟨d, hd, e⟩ := hc
  have h3 := List.all_eq_true.mp h2 d hd
  rw [e]
  intro q hq
  have h4 := List.all_eq_true.mp h3 q (List.mem_range.mpr hq)
  simp only [Bool.and_eq_true, decide_eq_true_eq] at h4
  obtain ⟨⟨⟨⟨a1, a2⟩, a3⟩, a4⟩, a5⟩ := h4
  exact ⟨eq_of_beq a1, a2, a3, eq_of_beq a4, fun j hj => eq_of_beq (List.all_eq_true.mp a5 j (List.mem_range.mpr hj))⟩
end Cfg.Ok
end
section
section
variable {P : Params} {c : Cfg} {la lb c1 c2 it L : Addr} {o1 o2 : Obj} {v1 v2 : Option Value} {ps1 ps2 : Array Value} {x1 x2 : Int} {early late piles own : List Dat} {nE nL : Nat} {h₀ h : Heap} {q : Dat}
abbrev L1 (P : Params) (c : Cfg) (la lb c1 c2 : Addr) (o1 o2 : Obj) (ps1 ps2 : Array Value) (early late : List Dat) (nE nL : Nat) (piles own : List Dat) : List (Addr × Obj) :=
  (la, rowObj early nE) :: (lb, rowObj late nL) :: (131, tabObj ps1) :: (138, tabObj ps2) :: (c1, o1) :: (c2, o2) :: led P c piles own
theorem kd_rng (x1 x2 : Int) : kd (rngIt x1 x2) = 2 := rfl
theorem ne_la (N : News h₀ L h ((it, rngIt x1 x2) :: L1 P c la lb c1 c2 o1 o2 ps1 ps2 early late nE nL piles own)) (ho1 : o1.data = .cell v1) (ho2 : o2.data = .cell v2) (hlab : la ≠ lb) :
    ∀ p ∈ ((it, rngIt x1 x2) :: (lb, rowObj late nL) :: (131, tabObj ps1) :: (138, tabObj ps2) :: (c1, o1) :: (c2, o2) :: led P c piles own), p.1 ≠ la := by
  have hla : (la, rowObj early nE) ∈ ((it, rngIt x1 x2) :: L1 P c la lb c1 c2 o1 o2 ps1 ps2 early late nE nL piles own) := .tail _ (.head _)
  intro p hp
  by_cases hk : p.1 = lb
  · rw [hk]; exact Ne.symm hlab
  · refine News.kd N (o := p.2) (o' := rowObj early nE) ?_ hla ?_
    · exact (sub_c (.head _) (sub_c (.tail _ (.tail _ (.head _))) (sub_c (.tail _ (.tail _ (.tail _ (.head _)))) (sub_c (.tail _ (.tail _ (.tail _ (.tail _ (.head _))))) (sub_c (.tail _ (.tail _ (.tail _ (.tail _ (.tail _ (.head _)))))) (sub_c (.tail _ (.tail _ (.tail _ (.tail _ (.tail _ (.tail _ (.head _))))))) (fun p hp => (.tail _ (.tail _ (.tail _ (.tail _ (.tail _ (.tail _ (.tail _ hp)))))))))))))) p hp
    · rw [kd_row]
      simp only [List.mem_cons] at hp
      rcases hp with rfl | rfl | rfl | rfl | rfl | rfl | hp
      · rw [kd_rng]; decide
      · exact absurd rfl hk
      · rw [kd_tab]; decide
      · rw [kd_tab]; decide
      · rw [kd_cell ho1]; decide
      · rw [kd_cell ho2]; decide
      · rcases led_kd hp with e | e | e | e <;> rw [e] <;> decide
theorem ne_lb (N : News h₀ L h ((it, rngIt x1 x2) :: L1 P c la lb c1 c2 o1 o2 ps1 ps2 early late nE nL piles own)) (ho1 : o1.data = .cell v1) (ho2 : o2.data = .cell v2) (hlab : la ≠ lb) :
    ∀ p ∈ ((it, rngIt x1 x2) :: (la, rowObj early nE) :: (131, tabObj ps1) :: (138, tabObj ps2) :: (c1, o1) :: (c2, o2) :: led P c piles own), p.1 ≠ lb := by
  have hlb : (lb, rowObj late nL) ∈ ((it, rngIt x1 x2) :: L1 P c la lb c1 c2 o1 o2 ps1 ps2 early late nE nL piles own) := .tail _ (.tail _ (.head _))
  intro p hp
  by_cases hk : p.1 = la
  · rw [hk]; exact hlab
  · refine News.kd N (o := p.2) (o' := rowObj late nL) ?_ hlb ?_
    · exact (sub_c (.head _) (sub_c (.tail _ (.head _)) (sub_c (.tail _ (.tail _ (.tail _ (.head _)))) (sub_c (.tail _ (.tail _ (.tail _ (.tail _ (.head _))))) (sub_c (.tail _ (.tail _ (.tail _ (.tail _ (.tail _ (.head _)))))) (sub_c (.tail _ (.tail _ (.tail _ (.tail _ (.tail _ (.tail _ (.head _))))))) (fun p hp => (.tail _ (.tail _ (.tail _ (.tail _ (.tail _ (.tail _ (.tail _ hp)))))))))))))) p hp
    · rw [kd_row]
      simp only [List.mem_cons] at hp
      rcases hp with rfl | rfl | rfl | rfl | rfl | rfl | hp
      · rw [kd_rng]; decide
      · exact absurd rfl hk
      · rw [kd_tab]; decide
      · rw [kd_tab]; decide
      · rw [kd_cell ho1]; decide
      · rw [kd_cell ho2]; decide
      · rcases led_kd hp with e | e | e | e <;> rw [e] <;> decide
theorem ne_it (N : News h₀ L h ((it, rngIt x1 x2) :: L1 P c la lb c1 c2 o1 o2 ps1 ps2 early late nE nL piles own)) (ho1 : o1.data = .cell v1) (ho2 : o2.data = .cell v2) :
    ∀ p ∈ L1 P c la lb c1 c2 o1 o2 ps1 ps2 early late nE nL piles own, p.1 ≠ it := by
  intro p hp
  refine News.fun N (o := p.2) (o' := rngIt x1 x2) (.tail _ hp) (.head _) ?_
  have key : kd p.2 ≠ 2 → p.2 ≠ rngIt x1 x2 := fun h e => h (e ▸ rfl)
  simp only [List.mem_cons] at hp
  rcases hp with rfl | rfl | rfl | rfl | rfl | rfl | hp
  · exact key (by rw [kd_row]; decide)
  · exact key (by rw [kd_row]; decide)
  · intro e; injection e with e; cases e
  · intro e; injection e with e; cases e
  · exact key (by rw [kd_cell ho1]; decide)
  · exact key (by rw [kd_cell ho2]; decide)
  · exact key (by rcases led_kd hp with e | e | e | e <;> rw [e] <;> decide)
/-- the tables are apart from the rest -/
theorem ne_tabs (N : News h₀ L h ((it, rngIt x1 x2) :: L1 P c la lb c1 c2 o1 o2 ps1 ps2 early late nE nL piles own)) (ho1 : o1.data = .cell v1) (ho2 : o2.data = .cell v2) :
    ∀ p ∈ ((it, rngIt x1 x2) :: (la, rowObj early nE) :: (lb, rowObj late nL) :: (c1, o1) :: (c2, o2) :: led P c piles own), p.1 ≠ 131 ∧ p.1 ≠ 138 := by
  intro p hp
  have hp' : p ∈ ((it, rngIt x1 x2) :: L1 P c la lb c1 c2 o1 o2 ps1 ps2 early late nE nL piles own) := by
    exact (sub_c (.head _) (sub_c (.tail _ (.head _)) (sub_c (.tail _ (.tail _ (.head _))) (sub_c (.tail _ (.tail _ (.tail _ (.tail _ (.tail _ (.head _)))))) (sub_c (.tail _ (.tail _ (.tail _ (.tail _ (.tail _ (.tail _ (.head _))))))) (fun p hp => (.tail _ (.tail _ (.tail _ (.tail _ (.tail _ (.tail _ (.tail _ hp))))))))))))) p hp
  have h1 : ((131 : Addr), tabObj ps1) ∈ ((it, rngIt x1 x2) :: L1 P c la lb c1 c2 o1 o2 ps1 ps2 early late nE nL piles own) := (.tail _ (.tail _ (.tail _ (.head _))))
  have h2 : ((138 : Addr), tabObj ps2) ∈ ((it, rngIt x1 x2) :: L1 P c la lb c1 c2 o1 o2 ps1 ps2 early late nE nL piles own) := (.tail _ (.tail _ (.tail _ (.tail _ (.head _)))))
  have go : (∀ ps, p.2 ≠ tabObj ps) → p.1 ≠ 131 ∧ p.1 ≠ 138 := fun hne => ⟨News.fun N (o := p.2) hp' h1 (hne _), News.fun N (o := p.2) hp' h2 (hne _)⟩
  have key : kd p.2 ≠ 2 → ∀ ps, p.2 ≠ tabObj ps := fun h ps e => h (e ▸ rfl)
  apply go
  simp only [List.mem_cons] at hp
  rcases hp with rfl | rfl | rfl | rfl | rfl | hp
  · intro ps e; injection e with e; cases e
  · exact key (by rw [kd_row]; decide)
  · exact key (by rw [kd_row]; decide)
  · exact key (by rw [kd_cell ho1]; decide)
  · exact key (by rw [kd_cell ho2]; decide)
  · exact key (by rcases led_kd hp with e | e | e | e <;> rw [e] <;> decide)
theorem mem_led {p : Addr × Obj} : p ∈ led P c piles own ↔ (∃ q ∈ piles, p = q.pil) ∨ ∃ q ∈ own, p ∈ q.own P c := by
  unfold led
  rw [List.mem_append, List.mem_map, List.mem_flatMap]
  constructor
  · rintro (⟨q, h, rfl⟩ | h)
    · exact .inl ⟨q, h, rfl⟩
    · exact .inr h
  · rintro (⟨q, h, rfl⟩ | h)
    · exact .inl ⟨q, h, rfl⟩
    · exact .inr h
theorem led_sub {piles' own' : List Dat} (h1 : ∀ q ∈ piles, q ∈ piles') (h2 : ∀ q ∈ own, q ∈ own') : ∀ p ∈ led P c piles own, p ∈ led P c piles' own' := fun p hp => by
  rcases mem_led.mp hp with ⟨q, h, e⟩ | ⟨q, h, e⟩
  · exact mem_led.mpr (.inl ⟨q, h1 q h, e⟩)
  · exact mem_led.mpr (.inr ⟨q, h2 q h, e⟩)
theorem ins_mem {α : Type} (l : List α) (p : Nat) (q x : α) : x ∈ l.take p ++ q :: l.drop p ↔ x = q ∨ x ∈ l := by
  have : (l.take p ++ q :: l.drop p).Perm (q :: l) := List.perm_middle.trans (List.Perm.cons _ (by rw [List.take_append_drop]))
  rw [this.mem_iff, List.mem_cons]
theorem ins_map {α β : Type} (f : α → β) (l : List α) (p : Nat) (q : α) : (l.take p ++ q :: l.drop p).map f = (l.map f).take p ++ f q :: (l.map f).drop p := by
  rw [List.map_append, List.map_cons, List.map_take, List.map_drop]
end
def bL (c : Cfg) (l : List Dat) (r : Nat) (i : Nat) : Bool := match l[i]? with | some q => decide (c.k q.r < c.k r) | none => false
def bR (c : Cfg) (l : List Dat) (r : Nat) (i : Nat) : Bool := match l[i]? with | some q => decide (c.k q.r ≤ c.k r) | none => false
theorem bL_at {c : Cfg} {l : List Dat} {r i : Nat} (h : i < l.length) : bL c l r i = decide (c.k l[i].r < c.k r) := by unfold bL; rw [List.getElem?_eq_getElem h]
theorem bR_at {c : Cfg} {l : List Dat} {r i : Nat} (h : i < l.length) : bR c l r i = decide (c.k l[i].r ≤ c.k r) := by unfold bR; rw [List.getElem?_eq_getElem h]
theorem bL_mono {c : Cfg} {l : List Dat} {r : Nat} (hu : Up c.k (l.map Dat.r)) : ∀ i j, i ≤ j → j < (l.map fun q => c.wd q.r).length → bL c l r j = true → bL c l r i = true := fun i j hij hj hb => by
  rw [List.length_map] at hj
  rw [bL_at (by omega), decide_eq_true_eq]
  rw [bL_at hj, decide_eq_true_eq] at hb
  have := up_at hu hij (by rw [List.length_map]; exact hj)
  simp only [List.getElem_map] at this
  omega
theorem bR_mono {c : Cfg} {l : List Dat} {r : Nat} (hu : Up c.k (l.map Dat.r)) : ∀ i j, i ≤ j → j < (l.map fun q => c.wd q.r).length → bR c l r j = true → bR c l r i = true := fun i j hij hj hb => by
  rw [List.length_map] at hj
  rw [bR_at (by omega), decide_eq_true_eq]
  rw [bR_at hj, decide_eq_true_eq] at hb
  have := up_at hu hij (by rw [List.length_map]; exact hj)
  simp only [List.getElem_map] at this
  omega
theorem bL_iff {c : Cfg} (hc : c.Ok) {l : List Dat} {r : Nat} : ∀ i, (h : i < (l.map fun q => c.wd q.r).length) → (bL c l r i = true ↔ (l.map fun q => c.wd q.r)[i].cps.toList < (c.wd r).cps.toList) := fun i h => by
  have h' : i < l.length := by simpa using h
  rw [bL_at h', decide_eq_true_eq, List.getElem_map]
  exact (hc.lt _ _).symm
theorem bR_iff {c : Cfg} (hc : c.Ok) {l : List Dat} {r : Nat} : ∀ i, (h : i < (l.map fun q => c.wd q.r).length) → (bR c l r i = true ↔ ¬ ((c.wd r).cps.toList < (l.map fun q => c.wd q.r)[i].cps.toList)) := fun i h => by
  have h' : i < l.length := by simpa using h
  rw [bR_at h', decide_eq_true_eq, List.getElem_map, hc.lt]
  omega
theorem posL {c : Cfg} {l : List Dat} {r p : Nat} (hp : p ≤ (l.map fun q => c.wd q.r).length) (h1 : ∀ i, i < p → bL c l r i = true) (h2 : ∀ i, p ≤ i → i < (l.map fun q => c.wd q.r).length → bL c l r i = false) :
    (l.map Dat.r).takeWhile (fun y => decide (c.k y < c.k r)) = (l.map Dat.r).take p ∧ (l.map Dat.r).dropWhile (fun y => decide (c.k y < c.k r)) = (l.map Dat.r).drop p := by
  rw [List.length_map] at hp h2
  refine put_pos _ p (by rw [List.length_map]; exact hp) (fun i h hi => ?_) (fun i h hi => ?_)
  · have := h1 i hi
    rw [bL_at (by omega)] at this
    rw [List.getElem_map]; exact this
  · rw [List.length_map] at h
    have := h2 i hi h
    rw [bL_at h] at this
    rw [List.getElem_map]; exact this
theorem posR {c : Cfg} {l : List Dat} {r p : Nat} (hp : p ≤ (l.map fun q => c.wd q.r).length) (h1 : ∀ i, i < p → bR c l r i = true) (h2 : ∀ i, p ≤ i → i < (l.map fun q => c.wd q.r).length → bR c l r i = false) :
    (l.map Dat.r).takeWhile (fun y => decide (c.k y ≤ c.k r)) = (l.map Dat.r).take p ∧ (l.map Dat.r).dropWhile (fun y => decide (c.k y ≤ c.k r)) = (l.map Dat.r).drop p := by
  rw [List.length_map] at hp h2
  refine put_pos _ p (by rw [List.length_map]; exact hp) (fun i h hi => ?_) (fun i h hi => ?_)
  · have := h1 i hi
    rw [bR_at (by omega)] at this
    rw [List.getElem_map]; exact this
  · rw [List.length_map] at h
    have := h2 i hi h
    rw [bR_at h] at this
    rw [List.getElem_map]; exact this
theorem insL_row {c : Cfg} {l : List Dat} {q : Dat} {p i : Nat} (hl : l.map Dat.r = rowL c.k c.st i) (hq : q.r = c.st + i) (hp : p ≤ (l.map fun q => c.wd q.r).length) (h1 : ∀ i, i < p → bL c l q.r i = true) (h2 : ∀ i, p ≤ i → i < (l.map fun q => c.wd q.r).length → bL c l q.r i = false) :
    (l.take p ++ q :: l.drop p).map Dat.r = rowL c.k c.st (i + 1) := by
  obtain ⟨e1, e2⟩ := posL hp h1 h2
  rw [ins_map, rowL_succ, putL, ← hl, ← hq, e1, e2]
theorem insR_row {c : Cfg} {l : List Dat} {q : Dat} {p i : Nat} (hl : l.map Dat.r = rowR c.k c.st i) (hq : q.r = c.st + i) (hp : p ≤ (l.map fun q => c.wd q.r).length) (h1 : ∀ i, i < p → bR c l q.r i = true) (h2 : ∀ i, p ≤ i → i < (l.map fun q => c.wd q.r).length → bR c l q.r i = false) :
    (l.take p ++ q :: l.drop p).map Dat.r = rowR c.k c.st (i + 1) := by
  obtain ⟨e1, e2⟩ := posR hp h1 h2
  rw [ins_map, rowR_succ, putR, ← hl, ← hq, e1, e2]
theorem len_rowL {c : Cfg} {l : List Dat} {i : Nat} (hl : l.map Dat.r = rowL c.k c.st i) : l.length = i := by
  have := congrArg List.length hl
  rw [List.length_map, (rowL_perm _ _ _).length_eq, List.length_range'] at this
  exact this
theorem len_rowR {c : Cfg} {l : List Dat} {i : Nat} (hl : l.map Dat.r = rowR c.k c.st i) : l.length = i := by
  have := congrArg List.length hl
  rw [List.length_map, (rowR_perm _ _ _).length_eq, List.length_range'] at this
  exact this
section
variable {prog : Program} {w : World} {A : Around} {E : Value → Shared → Prop} {s : Shared} {h₀ : Heap} {L l : Addr} {news : List (Addr × Obj)}
theorem row_item {value slice : PySem.Expr} {rw : List Dat} {n i : Nat} {k : Int} {u : Tok} {q : Dat} {Q : Value → Shared → Prop} (N : News h₀ L s.heap news) (hm : (l, rowObj rw n) ∈ news) (hz : rw.length ≤ 20) (hq : rw[i]? = some q) (hk : k = (i : Nat)) (h : Q (.ref q.e) s)
    (hs : subscripted slice false (.ref l) (.int k u) = operate [.ref l, .int k u] (getItem (.ref l) (.int k u)) := by with_unfolding_all rfl) : wpAny (model prog w) A (subscriptTail value slice (.ref l) (.int k u)) Q E s := by
  have hi : i < rw.length := by
    rw [List.getElem?_eq_some_iff] at hq
    exact hq.1
  refine item_N N hm (by omega) (by omega) ?_ h hs
  subst hk
  rw [Int.toNat_natCast, List.getElem?_toArray, List.getElem?_map, hq]
  rfl
end
theorem cntL_is {c : Cfg} {l : List Dat} {r p : Nat} (hp : p ≤ (l.map fun q => c.wd q.r).length) (h1 : ∀ i, i < p → bL c l r i = true) (h2 : ∀ i, p ≤ i → i < (l.map fun q => c.wd q.r).length → bL c l r i = false) : cntL c.k (l.map Dat.r) r = p := by
  have := (posL hp h1 h2).1
  unfold cntL
  rw [this, List.length_take, List.length_map]
  rw [List.length_map] at hp
  omega
theorem cntR_is {c : Cfg} {l : List Dat} {r p : Nat} (hp : p ≤ (l.map fun q => c.wd q.r).length) (h1 : ∀ i, i < p → bR c l r i = true) (h2 : ∀ i, p ≤ i → i < (l.map fun q => c.wd q.r).length → bR c l r i = false) : cntR c.k (l.map Dat.r) r = p := by
  have := (posR hp h1 h2).1
  unfold cntR
  rw [this, List.length_take, List.length_map]
  rw [List.length_map] at hp
  omega
end
section
section
variable {prog : Program} {w : World} {A : Around} {E : Value → Shared → Prop} {s : Shared} {t u : Tok} {Q : Value → Shared → Prop}
theorem pow_F {f : Int} {n : Nat} (hf : f = 1 ∨ f = 3) (hn : n ≤ 3) (h : ∀ P t tk, P = f ^ n → 1 ≤ P ∧ P ≤ 27 → Q (.int P t) { s with toks := tk }) : wpAny (model prog w) A (binaryOp .Pow (.int f t) (.int ((n : Nat) : Int) u)) Q E s := by
  refine pow_int_small (by omega) (by omega) (by omega) ?_
  rw [Int.toNat_natCast]
  refine h _ _ _ rfl ?_
  have : n = 0 ∨ n = 1 ∨ n = 2 ∨ n = 3 := by omega
  rcases hf with rfl | rfl <;> rcases this with rfl | rfl | rfl | rfl <;> decide
theorem fdiv_F {a W : Nat} (hW : 0 < W) (h8 : W ≤ 8) (h : ∀ D t tk, D = ((a / W : Nat) : Int) → Q (.int D t) { s with toks := tk }) : wpAny (model prog w) A (binaryOp .FloorDiv (.int ((a : Nat) : Int) t) (.int ((W : Nat) : Int) u)) Q E s := by
  refine floordiv_int (by omega) ?_ (.inl (PyProof.noPylong_small (by omega)))
  refine h _ _ _ ?_
  rw [Int.fdiv_eq_ediv_of_nonneg _ (by omega)]
  rfl
theorem bv_eq {fs : Int} {rs : Nat} (h : fs = 0) : (((rs : Nat) : Int) == 0) = (decide (fs = 0) && decide (rs = 0)) := by
  subst h
  by_cases e : rs = 0
  · subst e; rfl
  · rw [decide_eq_false e, Bool.and_false, beq_eq_false_iff_ne]
    omega
theorem bv_ne {fs : Int} {rs : Nat} (h : fs ≠ 0) : (fs == 0) = (decide (fs = 0) && decide (rs = 0)) := by
  rw [decide_eq_false h, Bool.false_and, beq_eq_false_iff_ne]
  exact h
theorem bne_no {b : Bool} {P : Prop} (h : (b != b) = true) : P := by rw [bne_self_eq_false] at h; cases h
theorem bool_join {M : Model} {t : Sem Value} (b : Bool) (h1 : wpAny M A t (fun v s' => v = .bool b ∧ ∃ tk, s' = { s with toks := tk }) E s) (h2 : ∀ tk, Q (.bool b) { s with toks := tk }) : wpAny M A t Q E s :=
  wpAny_mono h1 (fun v s' ⟨e1, tk, e2⟩ => e1 ▸ e2 ▸ h2 tk) fun _ _ e => e
theorem ne_F {x y : Int} (e : x = y) (h : Q (.bool false) s) : wpAny (model prog w) A (compareOp .NotEq (.int x t) (.int y u)) Q E s := by
  refine ne_int ?_
  rw [e, bne_self_eq_false]
  exact h
end
section
variable {w : World} {mean : ExcName → Option Value} {mg mb : Str → Option Value} {dp un : Nat} {gd : Option (List Code)} {cn : Str} {cs : Scope} {L a : Addr} {ccd : Value} {cl : List (Str × Addr)} {outer : List Env} {A₀ : Around} {base h₀ : Heap} {m : Str → Option Value} {news : List (Addr × Obj)} {s : Shared} {E : Value → Shared → Prop}
theorem ws_ok {Q : Value → Shared → Prop} (B : Below A₀ base outer h₀) (F : Fr h₀ L s.heap m) (X : (Mine.hd.heap_1 w.params).In h₀) {x d : Addr} {pcs : List Pc} {n : Nat} {ps1 ps2 : Array Value} {tk t : Tok} {k : Int} (N : News h₀ L s.heap ((131, tabObj ps1) :: (138, tabObj ps2) :: news)) (T : Top pz lz mean mg mb h₀) (hk : cs.kind = .function)
    (hd : dp + 60 < recursionLimit) (hu : un + 300 < cLine) (hP1 : ∀ p ∈ news, p.1 ≠ 131) (hP2 : ∀ p ∈ news, p.1 ≠ 138) (ht1 : TriplesOk ps1.toList) (ht2 : TriplesOk ps2.toList) (G : AllBare s.gens)
    (hx : (x, pileOf d (pcs.map fun q => Value.ref q.1).toArray n) ∈ news) (hdi : (d, sizeD w.params tk (.int k t)) ∈ news) (hpz : pcs.length ≤ 100) (hj : ((pcs.map pcStr).map (·.length)).sum ≤ 100000) (htv : ∀ q ∈ pcs, (q.1, tup2 (pcT q).2.1 (pcT q).2.2) ∈ news)
    (hzz : ∀ q ∈ pcs, q.2.1.1.length ≤ 1000 ∧ q.2.2.1.length ≤ 1000) (h0 : 0 ≤ (pcs.map pcLen).sum) (h1 : (pcs.map pcLen).sum < 1000000)
    (ret : ∀ h' tk' g' ps1' ps2', Fr h₀ L h' m → News h₀ L h' ((131, tabObj ps1') :: (138, tabObj ps2') :: news) → TriplesOk ps1'.toList → TriplesOk ps2'.toList → AllBare g' → Q (.bool (decide (k = 0) && (decide ((pcs.map pcLen).sum = 0) || Txt.isspace (Txt.join (Str.ofString "") (pcs.map pcStr))))) ⟨h', g', s.drawn, tk', s.os⟩) :
    wpAny (model PySem.Challenge.rw_xh0019_01.row.prog w) (ktrTop dp un gd cn cs L a ccd cl outer) (call (.ref 158) [.ref x]) Q E s := by
  by_cases hk0 : k = 0
  · subst hk0
    refine ws_yes B F X N T hk hd hu hP1 hP2 ht1 ht2 G hx hdi hpz hj htv hzz h0 h1 fun h' tk' g' ps1' ps2' F' N' a b c => ?_
    have := ret h' tk' g' ps1' ps2' F' N' a b c
    simpa using this
  · refine ws_no B F X N T hk hd hu (.tail _ (.tail _ hx)) (.tail _ (.tail _ hdi)) hk0 fun h' tk' F' N' => ?_
    have := ret h' tk' s.gens ps1 ps2 F' N' ht1 ht2 G
    rw [decide_eq_false hk0, Bool.false_and] at this
    exact this
theorem ws_last {Q : Value → Shared → Prop} (B : Below A₀ base outer h₀) (F : Fr h₀ L s.heap m) (X : (Mine.hd.heap_1 w.params).In h₀) {x d tu : Addr} {n : Nat} {ps1 ps2 : Array Value} {ta tb tk t : Tok} {k : Int} {R : List (Addr × Obj)}
    (N : News h₀ L s.heap ((x, pileOf d ([] ++ [Value.ref tu]).toArray n) :: (tu, { cls := .type "tuple", data := .seq #[.str (Str.ofString "\t") ta, .str (Str.ofString "") tb] 0 }) :: (131, tabObj ps1) :: (138, tabObj ps2) :: R)) (T : Top pz lz mean mg mb h₀) (hk : cs.kind = .function)
    (hd : dp + 60 < recursionLimit) (hu : un + 300 < cLine) (hR : ∀ p ∈ R, p.1 ≠ x ∧ p.1 ≠ 131 ∧ p.1 ≠ 138) (hx1 : x ≠ 131) (hx2 : x ≠ 138) (hl : ∀ p ∈ ((131, tabObj ps1) :: (138, tabObj ps2) :: R), p.1 < tu) (ht1 : TriplesOk ps1.toList) (ht2 : TriplesOk ps2.toList) (G : AllBare s.gens)
    (hdi : (d, sizeD w.params tk (.int k t)) ∈ R)
    (ret : ∀ h' tk' g' ps1' ps2', Fr h₀ L h' m → News h₀ L h' ((131, tabObj ps1') :: (138, tabObj ps2') :: R) → TriplesOk ps1'.toList → TriplesOk ps2'.toList → AllBare g' → Q (.bool (k == 0)) ⟨h', g', s.drawn, tk', s.os⟩) :
    wpAny (model PySem.Challenge.rw_xh0019_01.row.prog w) (ktrTop dp un gd cn cs L a ccd cl outer) (call (.ref 158) [.ref x]) Q E s := by
  have tu1 : (131 : Nat) < tu := hl (131, tabObj ps1) (.head _)
  have tu2 : (138 : Nat) < tu := hl (138, tabObj ps2) (.tail _ (.head _))
  have ND : News h₀ L s.heap ((131, tabObj ps1) :: (138, tabObj ps2) :: (x, pileOf d (([(tu, (Str.ofString "\t", ta), (Str.ofString "", tb))] : List Pc).map fun p : Pc => Value.ref p.1).toArray n) :: (tu, tup2 (.str (Str.ofString "\t") ta) (.str (Str.ofString "") tb)) :: R) := News.sub N fun p hp => by
    simp only [List.mem_cons] at hp
    rcases hp with rfl | rfl | rfl | rfl | h
    · exact .tail _ (.tail _ (.head _))
    · exact .tail _ (.tail _ (.tail _ (.head _)))
    · exact .head _
    · exact .tail _ (.head _)
    · exact .tail _ (.tail _ (.tail _ (.tail _ h)))
  have hv : (decide (k = 0) && (decide ((([(tu, (Str.ofString "\t", ta), (Str.ofString "", tb))] : List Pc).map pcLen).sum = 0) || Txt.isspace (Txt.join (Str.ofString "") (([(tu, (Str.ofString "\t", ta), (Str.ofString "", tb))] : List Pc).map pcStr)))) = (k == 0) := by
    rw [show Txt.isspace (Txt.join (Str.ofString "") (([(tu, (Str.ofString "\t", ta), (Str.ofString "", tb))] : List Pc).map pcStr)) = true from by show Txt.isspace (Txt.join (Str.ofString "") [Txt.join (Str.ofString "") [Str.ofString "\t", Str.ofString ""]]) = true; decide +kernel, Bool.or_true, Bool.and_true]
    rfl
  have hs : (([(tu, (Str.ofString "\t", ta), (Str.ofString "", tb))] : List Pc).map pcLen).sum = 1 := by
    show ((Str.ofString "\t").length : Int) + ((Str.ofString "").length : Int) + 0 = 1
    decide +kernel
  refine ws_ok B F X ND T hk hd hu ?hP1 ?hP2 ht1 ht2 G (.head _) (.tail _ (.tail _ hdi)) (Nat.le_of_ble_eq_true rfl) ?hj (fun p hp => ?htv) (fun p hp => ?hzz) (by rw [hs]; decide) (by rw [hs]; decide) ?_
  case hP1 =>
    intro p hp
    rcases List.mem_cons.mp hp with rfl | hp
    · exact hx1
    · rcases List.mem_cons.mp hp with rfl | hp
      · exact Nat.ne_of_gt tu1
      · exact (hR p hp).2.1
  case hP2 =>
    intro p hp
    rcases List.mem_cons.mp hp with rfl | hp
    · exact hx2
    · rcases List.mem_cons.mp hp with rfl | hp
      · exact Nat.ne_of_gt tu2
      · exact (hR p hp).2.2
  case hj =>
    show (Txt.join (Str.ofString "") [Str.ofString "\t", Str.ofString ""]).length + 0 ≤ 100000
    decide +kernel
  case htv =>
    obtain rfl := List.mem_singleton.mp hp
    exact .tail _ (.head _)
  case hzz =>
    obtain rfl := List.mem_singleton.mp hp
    exact ⟨by show (Str.ofString "\t").length ≤ 1000; decide +kernel, by show (Str.ofString "").length ≤ 1000; decide +kernel⟩
  intro h' tk' g' ps1' ps2' F' N' a b c
  have := ret h' tk' g' ps1' ps2' F' (News.sub N' fun p hp => by
    simp only [List.mem_cons] at hp
    rcases hp with rfl | rfl | h
    · exact .head _
    · exact .tail _ (.head _)
    · exact .tail _ (.tail _ (.tail _ (.tail _ h)))) a b c
  rw [hv]
  exact this
end
end
section
open PyProof.Rows.LCg PyProof.Rows.LCt
section
variable {prog : Program} {w : World} {A : Around} {s : Shared} {h₀ : Heap} {L : Addr} {m : Str → Option Value} {env : Env} {elt ct : PySem.Expr} {x : Str} {scope : Scope} {cl : List (Str × Addr)} {S : List (Addr × Obj) → Prop} {P : Nat → Value → Prop} {Fin : List Value → List (Addr × Obj) → Prop} {news : List (Addr × Obj)}
/-- a list comprehension whose elements leave the ledger as it was -/
theorem rest_U (R : Nat → Value → Prop) (n : Nat) (hS : S news)
    (helt : ∀ i v I oI C oC D ys m₂ h tk (E' : Value → Shared → Prop), i < n → P i v → NsObj oC m₂ → m₂ x = some v → Fr h₀ L h m → News h₀ L h ((I, oI) :: (C, oC) :: (D, lst ys) :: news) →
      wpAny (model prog w) A (eval elt (compEnvC scope cl C env)) (fun y s' => ∃ h' tk', s' = { s with heap := h', toks := tk' } ∧ Fr h₀ L h' m ∧ News h₀ L h' ((I, oI) :: (C, oC) :: (D, lst ys) :: news) ∧ R i y) E' { s with heap := h, toks := tk }) :
    ∀ k i ys, i + k = n → (∀ vs : List Value, vs.length = k → (∀ j, (h : j < vs.length) → R (i + j) vs[j]) → Fin (ys ++ vs) news) → CompRest prog w A h₀ L m env elt x scope cl s S P Fin k i ys news
  | 0, i, ys, _, hF => by
    have := hF [] rfl (fun j h => absurd h (Nat.not_lt_zero _))
    rw [List.append_nil] at this
    exact CompRest.zero this
  | k + 1, i, ys, hk, hF => by
    refine CompRest.succ fun v I oI C oC D m₂ h tk E' hP hC hx F N off ne => ?_
    refine wpAny_mono (helt i v I oI C oC D ys m₂ h tk E' (by omega) hP hC hx F N) (fun y s' hy => ?_) fun _ _ e => e
    obtain ⟨h', tk', rfl, F', N', hR⟩ := hy
    refine CompEnd.intro (s₁ := { s with heap := h, toks := tk }) F' N' news (fun p hp => hp) off hS (rest_U R n hS helt k (i + 1) (ys ++ [y]) (by omega) fun vs hl hv => ?_)
    have := hF (y :: vs) (by rw [List.length_cons, hl]) (fun j h => ?_)
    · rwa [List.append_assoc]
    · cases j with
      | zero => exact hR
      | succ j =>
        have := hv j (by simpa using h)
        rw [show i + (j + 1) = i + 1 + j by omega]
        simpa using this
/-- the numbers of a range that pass a test -/
theorem rest_T (p : Nat → Bool) (a : Int) (n : Nat) (hS : S news)
    (htest : ∀ i t I oI C oC D ys m₂ h tk (E' : Value → Shared → Prop), i < n → NsObj oC m₂ → m₂ x = some (.int (a + (i : Nat)) t) → Fr h₀ L h m → News h₀ L h ((I, oI) :: (C, oC) :: (D, lst ys) :: news) →
      wpAny (model prog w) A (isTrue ct (compEnvC scope cl C env) (eval ct (compEnvC scope cl C env))) (fun ok s' => ok = p i ∧ ∃ tk', s' = { s with heap := h, toks := tk' }) E' { s with heap := h, toks := tk })
    (helt : ∀ i t I oI C oC D ys m₂ h tk (E' : Value → Shared → Prop), i < n → NsObj oC m₂ → m₂ x = some (.int (a + (i : Nat)) t) → Fr h₀ L h m → News h₀ L h ((I, oI) :: (C, oC) :: (D, lst ys) :: news) →
      wpAny (model prog w) A (eval elt (compEnvC scope cl C env)) (fun y s' => (∃ t, y = .int (a + (i : Nat)) t) ∧ ∃ tk', s' = { s with heap := h, toks := tk' }) E' { s with heap := h, toks := tk }) :
    ∀ k i ys, i + k = n → (∀ vs : List Value, IntsAre vs (((List.range' i k).filter p).map fun j => a + ((j : Nat) : Int)) → Fin (ys ++ vs) news) → CompRestT prog w A h₀ L m env ct elt x scope cl s S (fun i v => ∃ t, v = .int (a + (i : Int)) t) Fin k i ys news
  | 0, i, ys, _, hF => by
    have := hF [] .nil
    rw [List.append_nil] at this
    exact CompRestT.zero this
  | k + 1, i, ys, hk, hF => by
    refine CompRestT.succ fun v I oI C oC D m₂ h tk E' hP hC hx F N off ne => ?_
    obtain ⟨t, rfl⟩ := hP
    refine wpAny_mono (htest i t I oI C oC D ys m₂ h tk E' (by omega) hC hx F N) (fun ok s' hy => ?_) fun _ _ e => e
    obtain ⟨rfl, tk', rfl⟩ := hy
    have step : ∀ ys', (∀ vs : List Value, IntsAre vs (((List.range' (i + 1) k).filter p).map fun j => a + ((j : Nat) : Int)) → Fin (ys' ++ vs) news) → CompRestT prog w A h₀ L m env ct elt x scope cl s S (fun i v => ∃ t, v = .int (a + (i : Int)) t) Fin k (i + 1) ys' news :=
      fun ys' hF' => rest_T p a n hS htest helt k (i + 1) ys' (by omega) hF'
    rw [List.range'_succ] at hF
    cases hp : p i with
    | true =>
      rw [if_pos rfl]
      refine wpAny_mono (helt i t I oI C oC D ys m₂ h tk' E' (by omega) hC hx F N) (fun y s' hy => ?_) fun _ _ e => e
      obtain ⟨⟨t', rfl⟩, tk'', rfl⟩ := hy
      refine CompEnd.intro (s₁ := { s with heap := h, toks := tk }) F N news (fun p hp => hp) off hS (step _ fun vs hv => ?_)
      rw [List.append_assoc]
      refine hF _ ?_
      rw [List.filter_cons, if_pos hp, List.map_cons]
      exact .cons _ _ hv
    | false =>
      rw [if_neg (by decide)]
      refine CompEnd.intro (s₁ := { s with heap := h, toks := tk }) F N news (fun p hp => hp) off hS (step _ fun vs hv => ?_)
      refine hF _ ?_
      rw [List.filter_cons, if_neg (by rw [hp]; decide)]
      exact hv
end
theorem fm_dec {st i W rs : Nat} (hW : 0 < W) : ((((st : Nat) : Int) + ((i : Nat) : Int)).fmod ((W : Nat) : Int) == ((rs : Nat) : Int)) = decide ((st + i) % W = rs) := by
  rw [Int.fmod_eq_emod_of_nonneg _ (by omega)]
  have : (((st : Nat) : Int) + ((i : Nat) : Int)) % ((W : Nat) : Int) = (((st + i) % W : Nat) : Int) := by push_cast; rfl
  rw [this]
  by_cases h : (st + i) % W = rs
  · rw [decide_eq_true h, h, beq_self_eq_true]
  · rw [decide_eq_false h, beq_eq_false_iff_ne]
    omega
theorem filt_range (f : Nat → Bool) (st n : Nat) : (((List.range' 0 n).filter fun i => f (st + i)).map fun j => ((st : Nat) : Int) + ((j : Nat) : Int)) = ((List.range' st n).filter f).map fun x => ((x : Nat) : Int) := by
  have e : List.range' st n = (List.range' 0 n).map (st + ·) := by
    rw [List.map_add_range', Nat.add_zero]
  rw [e, List.filter_map, List.map_map]
  refine List.map_congr_left fun j _ => ?_
  show _ = (((st + j : Nat)) : Int)
  push_cast; rfl
theorem intsAre_of : ∀ (vs : List Value) (ns : List Int), vs.length = ns.length → (∀ j, (h : j < vs.length) → ∃ n t, ns[j]? = some n ∧ vs[j] = .int n t) → IntsAre vs ns
  | [], [], _, _ => .nil
  | [], _ :: _, h, _ => by simp at h
  | _ :: _, [], h, _ => by simp at h
  | v :: vs, n :: ns, h, hv => by
    obtain ⟨n', t, e1, e2⟩ := hv 0 (by simp)
    simp only [List.getElem?_cons_zero, Option.some.injEq] at e1
    simp only [List.getElem_cons_zero] at e2
    subst e1 e2
    refine .cons _ _ (intsAre_of vs ns (by simpa using h) fun j hj => ?_)
    have := hv (j + 1) (by simpa using hj)
    simpa using this
theorem strsAre_of : ∀ (vs : List Value) (ns : List Str), vs.length = ns.length → (∀ j, (h : j < vs.length) → ∃ n t, ns[j]? = some n ∧ vs[j] = .str n t) → StrsAre vs ns
  | [], [], _, _ => .nil
  | [], _ :: _, h, _ => by simp at h
  | _ :: _, [], h, _ => by simp at h
  | v :: vs, n :: ns, h, hv => by
    obtain ⟨n', t, e1, e2⟩ := hv 0 (by simp)
    simp only [List.getElem?_cons_zero, Option.some.injEq] at e1
    simp only [List.getElem_cons_zero] at e2
    subst e1 e2
    refine .cons _ _ (strsAre_of vs ns (by simpa using h) fun j hj => ?_)
    have := hv (j + 1) (by simpa using hj)
    simpa using this
end
section
abbrev leS (a b : Str) : Prop := a.cps.toList ≤ b.cps.toList
theorem rise_le : ∀ (l : List Str) (p : Str), risingS p l = true → (p :: l).Pairwise leS
  | [], p, _ => List.pairwise_singleton _ _
  | x :: r, p, h => by
    simp only [risingS, Bool.and_eq_true, Bool.not_eq_true', ltCps_eq, decide_eq_false_iff_not] at h
    have h2 := rise_le r x h.2
    have h1 : leS p x := h.1
    refine List.pairwise_cons.mpr ⟨fun y hy => ?_, h2⟩
    rcases List.mem_cons.mp hy with rfl | hy
    · exact h1
    · exact List.le_trans h1 ((List.pairwise_cons.mp h2).1 y hy)
theorem sorted_le {l : List Str} (h : sortedS l = true) : l.Pairwise leS := by
  cases l with
  | nil => exact List.Pairwise.nil
  | cons x r => exact rise_le r x h
theorem sorted_same {l l' : List Str} (h : l.Pairwise leS) (hp : l'.Perm l) (hs : sortedS l' = true) : l' = l :=
  List.Perm.eq_of_pairwise (le := leS) (fun a b _ _ h1 h2 => str_eq (List.le_antisymm h1 h2)) (sorted_le hs) h hp
theorem row_le {c : Cfg} (hc : c.Ok) {l : List Dat} (h : Up c.k (l.map Dat.r)) : (l.map fun q => c.wd q.r).Pairwise leS := by
  have h2 : l.Pairwise fun p q => c.k p.r ≤ c.k q.r := (List.pairwise_map (R := fun a b => c.k a ≤ c.k b) (f := Dat.r)).mp h
  refine List.pairwise_map.mpr (h2.imp fun {p q} hpq => ?_)
  intro hlt
  have := (hc.lt _ _).mp hlt
  omega
theorem carried_strs : ∀ {vs : List Value} {ss : List Str}, StrsAre vs ss → CarriedAll vs (ss.map PyData.str)
  | _, _, .nil => .nil
  | _, _, .cons _ t r => .cons (.str _ t) (carried_strs r)
theorem shaped_strs {ss : List Str} (h : ss.all PyData.strOk = true) : SeqAt.shaped (.list (ss.map PyData.str)) = true := by
  simp [SeqAt.shaped, PyData.canLay0, PyData.depth, canLayAll_strs', depthAll_strs', h]
theorem sameAll_strs : ∀ ss : List Str, PySem.Spec.sameAll (ss.map PyData.str) (ss.map PyData.str) = true
  | [] => by simp [PySem.Spec.sameAll]
  | a :: r => by simp [PySem.Spec.sameAll, PySem.Spec.same, sameAll_strs r]
section
variable {prog : Program} {w : World} {A : Around} {E : Value → Shared → Prop} {s : Shared} {a b : Addr} {xs ys : List Value} {ss : List Str} {Q : Value → Shared → Prop}
theorem ne_strs (ha : s.heap.IsList a xs.toArray) (hb : s.heap.IsList b ys.toArray) (hi : StrsAre xs ss) (hj : StrsAre ys ss) (hok : ss.all PyData.strOk = true) (hu : A.units + 64 < cLine) (h : Q (.bool false) s) :
    wpAny (model prog w) A (compareOp .NotEq (.ref a) (.ref b)) Q E s :=
  ne_dataH_same (reads_newData ha (carried_strs hi)) (reads_newData hb (carried_strs hj)) (shaped_strs hok) (shaped_strs hok) hu (SeqAt.noMix_of_shape (.list .str) rfl _ _ (list_map_has fun _ => rfl) (list_map_has fun _ => rfl)) (by
    rw [show PySem.Spec.same (.list (ss.map PyData.str)) (.list (ss.map PyData.str)) = true from by simp only [PySem.Spec.same]; exact sameAll_strs ss]
    exact h)
end
theorem okW_all : ([2, 3].all fun S => (allB S).all fun b => PyData.strOk (wdS b)) = true := by decide +kernel
theorem wd_ok {c : Cfg} (hc : c.Ok) (r : Nat) : PyData.strOk (c.wd r) = true := by
  have hS : c.S ∈ [2, 3] := by have := hc.S23; simp [this]
  exact List.all_eq_true.mp (List.all_eq_true.mp okW_all _ hS) _ (hc.bInMem r)
theorem wds_ok {c : Cfg} (hc : c.Ok) (l : List Dat) : (l.map fun q => c.wd q.r).all PyData.strOk = true := by
  rw [List.all_eq_true]
  intro x hx
  obtain ⟨q, _, rfl⟩ := List.mem_map.mp hx
  exact wd_ok hc q.r
theorem rowS_of {vs : List Value} {ss : List Str} (h : StrsAre vs ss) : RowS vs.toArray ss := by
  refine ⟨by rw [List.size_toArray, h.length], fun i hi => ?_⟩
  rw [List.getElem?_toArray]
  induction h generalizing i with
  | nil => exact absurd hi (Nat.not_lt_zero _)
  | cons x t r ih =>
    cases i with
    | zero => exact ⟨t, rfl⟩
    | succ i => simpa using ih i (by simpa using hi)
end
section
section
variable {w : World} {mean : ExcName → Option Value} {mg mb : Str → Option Value} {L a : Addr} {ccd : Value} {A₀ : Around} {h₀ : Heap} {m : Str → Option Value} {news : List (Addr × Obj)} {s : Shared} {Q : Flow → Shared → Prop} {E : Value → Shared → Prop}
local macro_rules | `(tactic| k_all) => `(tactic| assumption)
local macro_rules | `(tactic| walk_at "mine std") => `(tactic| ((case B | F | X | N | T => k_asm); (case hk => exact rfl); (case hd | hu => exact Nat.le_of_ble_eq_true rfl)))
local macro_rules | `(tactic| walk_at "call ref") => `(tactic| ((with_reducible show wpAny _ _ (call (Value.ref 187) _) _ _ _); k_here; k_dflt (refine' text_ok2 ?B ?F ?X ?N ?T ?hk ?hd ?hu ?h0 ?h1 ?hx ?hy ?_; walk_at "mine std"; (case h0 | h1 => omega); (case hx | hy => assumption); k_whole); intro h' tk' tk' z' hz' F' N'))
local macro_rules | `(tactic| walk_at "call ref") => `(tactic| ((with_reducible show wpAny _ _ (call (Value.ref 53) _) _ _ _); k_here; k_dflt (refine' parse_nil ?B ?F ?X ?N ?T ?hk ?hd ?hu ?hx ?h3 ?h4 ?_; walk_at "mine std"; (case hx => first | (with_reducible assumption) | exact len_257); (case h3 => first | (with_reducible assumption) | exact nil_c.1); (case h4 => first | (with_reducible assumption) | exact nil_c.2); k_whole); intro h' tk' tk' F' N'))
local macro_rules | `(tactic| walk_at "call ref") => `(tactic| ((with_reducible show wpAny _ _ (call (Value.ref 222) _) _ _ _); k_here; k_dflt (refine' refused_ok ?B ?F ?X ?N ?T ?hk ?hx ?h3 ?_; (case B | F | X | N | T => k_asm); (case hk => exact rfl); (case hx => first | (with_reducible assumption) | exact len_25); (case h3 => first | (with_reducible assumption) | exact ref_c); k_whole); intro h' tk' F' N'))
local macro_rules | `(tactic| walk_at "binaryOp Add str str") => `(tactic| ((with_reducible show wpAny _ _ (binaryOp _ (Value.str _ _) (Value.str _ _)) _ _ _); refine add_N (by with_reducible assumption) ?_; intro t' tk'))
local macro_rules | `(tactic| walk_at "subscriptTail Name Slice str ref") => `(tactic| ((with_reducible show wpAny _ _ (subscriptTail _ (Expr.Slice (some _) none none _) _ _) _ _ _); (with_reducible rename Fr _ _ _ _ => F'); (with_reducible rename News _ _ _ _ => N'); (refine slice_strN_sn (hsz := by with_reducible assumption) (s := ⟨_, _, _, _, _⟩) F' N' ?_); intro _ _ _ _ _))
local macro_rules | `(tactic| walk_at "exec For Name List cons nil") => `(tactic| (k_here; k_dflt (refine' for_at ?_ ?hs; (case hs => (intro _; with_unfolding_all rfl)); k_whole)))
theorem five_is {v : Value} {i : Nat} {t1 t2 t3 t4 t5 : Tok} (h : #[Value.str (Str.ofString "157") t1, .str (Str.ofString "207") t2, .str (Str.ofString "250") t3, .str (Str.ofString "258") t4, .str (Str.ofString "357") t5][i]? = some v) :
    ∃ c t, v = .str c t ∧ (c = Str.ofString "157" ∨ c = Str.ofString "207" ∨ c = Str.ofString "250" ∨ c = Str.ofString "258" ∨ c = Str.ofString "357") := by
  match i, h with
  | 0, h => cases h; exact ⟨_, _, rfl, .inl rfl⟩
  | 1, h => cases h; exact ⟨_, _, rfl, .inr (.inl rfl)⟩
  | 2, h => cases h; exact ⟨_, _, rfl, .inr (.inr (.inl rfl))⟩
  | 3, h => cases h; exact ⟨_, _, rfl, .inr (.inr (.inr (.inl rfl)))⟩
  | 4, h => cases h; exact ⟨_, _, rfl, .inr (.inr (.inr (.inr rfl)))⟩
  | _ + 5, h => cases h
set_option maxHeartbeats 700000 in
theorem tail_ok (B : Below A₀ h₀ [] h₀) (F : Fr h₀ L s.heap m) (X : (Mine.hd.heap_1 w.params).In h₀) (N : News h₀ L s.heap news) (T : Top pz lz mean mg mb h₀)
    (hE : PassesOwn (model PySem.Challenge.rw_xh0019_01.row.prog w) (callerA.deeper (envOfC (Str.ofString "law") lawScope L a ccd)) (envOfC (Str.ofString "law") lawScope L a ccd) E)
    {st : Int} {sign tail : Str} {sg : Nat} {t1 t2 t3 : Tok} (e1 : m (Str.ofString "start") = some (.int st t1)) (e2 : m (Str.ofString "sign") = some (.str sign t2)) (e3 : m (Str.ofString "tail") = some (.str tail t3))
    (hst : 0 ≤ st ∧ st ≤ 4) (hsg : sign.cps.toList = [sg]) (hty : tail.length ≤ 10)
    (ret : ∀ h' tk' m', Fr h₀ L h' m' → News h₀ L h' news → Q (.ret (.bool true)) { s with heap := h', toks := tk' }) :
    wpAny (model PySem.Challenge.rw_xh0019_01.row.prog w) (callerA.deeper (envOfC (Str.ofString "law") lawScope L a ccd)) (execs (lawAt 17) (envOfC (Str.ofString "law") lawScope L a ccd)) Q E s := by
  have F₂ := Fr.ov [(Str.ofString "start", _), (Str.ofString "sign", _), (Str.ofString "tail", _)] F (all_c e1 (all_c e2 (all_c e3 all_n)))
  clear F e1 e2 e3
  show wpAny _ (callerA.deeper (envOfC _ ⟨_, _, _, _, _⟩ _ _ _)) (execs (_ :: _) (envOfC _ ⟨_, _, _, _, _⟩ _ _ _)) _ _ _
  k_steps
  refine ⟨?_⟩
  rename IsText _ _ => hz
  refine' list_loop (fun i m₁ => ∃ z t, IsText st.toNat z ∧ m₁ (Str.ofString "text") = some (.str z t)) rfl rfl rfl hE ?F ?N ?hl ?hj ?_ ?_
  case F => k_asm
  case N => k_asm
  case hl => exact .head _
  case hj => exact ⟨_, _, hz, rfl⟩
  clear hz
  · rintro i it oI m₁ h tk v hv ⟨z, t, hz, e1⟩ hne F₁ N₁
    obtain ⟨c, t', rfl, hc⟩ := five_is hv
    have F₂ := Fr.ovP [(Str.ofString "text", _)] F₁ ⟨e1, trivial⟩
    clear F₁ e1
    obtain ⟨r1, r2⟩ := ref_is hz hc
    k_steps
    exact LsStep.go (by assumption) (by assumption) ⟨_, _, hz, rfl⟩
  · rintro m₁ h tk ⟨z, t, hz, e1⟩ F₁ N₁
    have F₂ := Fr.ovP [(Str.ofString "text", _)] F₁ ⟨e1, trivial⟩
    clear F₁ e1
    have hzl : z.length ≤ sizeLine := by have := hz.1; rw [sizeLine_eq]; omega
    obtain ⟨r1, r2, r3⟩ := nil_a hz
    obtain ⟨r4, r5, r6⟩ := nil_b hz
    k_steps
    rename News h₀ L _ _ => N9
    exact ret _ _ _ (by assumption) (News.sub N9 fun p hp => .tail _ hp)
end
end
section
/-- the law's names that the loops read -/
abbrev lawPs (c : Cfg) (la lb : Addr) (sign tail : Str) (t1 t2 t3 t4 t5 t6 t7 t8 : Tok) : List (Str × Value) :=
  [(Str.ofString "steps", .int ((c.S : Nat) : Int) t1), (Str.ofString "factor", .int c.f t2), (Str.ofString "addend", .int c.ad t3), (Str.ofString "start", .int ((c.st : Nat) : Int) t4), (Str.ofString "count", .int ((c.ct : Nat) : Int) t5), (Str.ofString "first", .int c.fs t6), (Str.ofString "sign", .str sign t7), (Str.ofString "tail", .str tail t8), (Str.ofString "early", .ref la), (Str.ofString "late", .ref lb)]
/-- the names behind the searches -/
abbrev lawPs2 (c : Cfg) (la lb lw : Addr) (sign tail : Str) (t1 t2 t3 t4 t5 t6 t7 t8 : Tok) : List (Str × Value) := (Str.ofString "words", .ref lw) :: lawPs c la lb sign tail t1 t2 t3 t4 t5 t6 t7 t8
abbrev lawPs3 (c : Cfg) (la lb lw : Addr) (sign tail : Str) (rs b hh : Nat) (u1 u2 u3 u4 u5 t1 t2 t3 t4 t5 t6 t7 t8 : Tok) : List (Str × Value) :=
  (Str.ofString "word", .str (c.wd rs) u1) :: (Str.ofString "odds", .int (((bitsOf c.S c.f c.ad rs).count true : Nat) : Int) u2) :: (Str.ofString "goal", .int (c.go rs) u3) :: (Str.ofString "begin", .int ((b : Nat) : Int) u4) :: (Str.ofString "behind", .int ((hh : Nat) : Int) u5) :: lawPs2 c la lb lw sign tail t1 t2 t3 t4 t5 t6 t7 t8
def J1 (P : Params) (c : Cfg) (la lb c1 c2 : Addr) (o1 o2 : Obj) (ps1 : Array Value) (ps : List (Str × Value)) (i : Nat) (m₁ : Str → Option Value) (ns : List (Addr × Obj)) (g : Array GenState) : Prop :=
  ∃ early late nE nL ps2, ns = (la, rowObj early nE) :: (lb, rowObj late nL) :: (131, tabObj ps1) :: (138, tabObj ps2) :: (c1, o1) :: (c2, o2) :: led P c late late ∧ TriplesOk ps2.toList ∧ AllBare g ∧
    late.map Dat.r = rowR c.k c.st i ∧ early.map Dat.r = rowL c.k c.st i ∧ (∀ q ∈ early, q ∈ late) ∧ (∀ q ∈ late, q.ok c) ∧ (late.Pairwise fun p q => p.x ≠ q.x) ∧ ∀ p ∈ ps, m₁ p.1 = some p.2
section
variable {w : World} {mean : ExcName → Option Value} {mg mb : Str → Option Value} {L a : Addr} {ccd : Value} {A₀ : Around} {h₀ : Heap} {m : Str → Option Value} {news : List (Addr × Obj)} {s : Shared} {Q : Flow → Shared → Prop} {E : Value → Shared → Prop}
local macro_rules | `(tactic| k_all) => `(tactic| assumption)
local macro_rules | `(tactic| walk_at "call ref") => `(tactic| refine Held.out ?_)
set_option maxHeartbeats 700000 in
theorem turn1 {c : Cfg} (hc : c.Ok) (B : Below A₀ h₀ [] h₀) (X : (Mine.hd.heap_1 w.params).In h₀) (T : Top pz lz mean mg mb h₀)
    {la lb c1 c2 it : Addr} {o1 o2 : Obj} {v1 v2 : Option Value} {ps1 : Array Value} {sign tail : Str} {sg : Nat} {t1 t2 t3 t4 t5 t6 t7 t8 t : Tok} {i tk : Nat} {x1 x2 : Int} {m₁ : Str → Option Value} {ns : List (Addr × Obj)} {h : Heap} {g : Array GenState}
    (hsg : sign.cps.toList = [sg]) (hs34 : sg ≠ 34) (htl : pl tail.cps.toList = []) (hty : tail.length ≤ 10) (ho1 : o1.data = .cell v1) (ho2 : o2.data = .cell v2) (hlab : la ≠ lb)
    (hi : i < c.ct) (J : J1 w.params c la lb c1 c2 o1 o2 ps1 (lawPs c la lb sign tail t1 t2 t3 t4 t5 t6 t7 t8) i m₁ ns g) (hne : ∀ p ∈ ns, p.1 ≠ it)
    (F₁ : Fr h₀ L h (fun y => if y = Str.ofString "number" then some (.int (((c.st : Nat) : Int) + (i : Nat)) t) else m₁ y)) (N₁ : News h₀ L h ((it, rngIt x1 x2) :: ns)) :
    wpAny (model PySem.Challenge.rw_xh0019_01.row.prog w) (callerA.deeper (envOfC (Str.ofString "law") lawScope L a ccd)) (execs lawFor1 (envOfC (Str.ofString "law") lawScope L a ccd))
      (LpStep h₀ L s it (rngIt x1 x2) Q (J1 w.params c la lb c1 c2 o1 o2 ps1 (lawPs c la lb sign tail t1 t2 t3 t4 t5 t6 t7 t8) (i + 1))) E ⟨h, g, s.drawn, tk, s.os⟩ := by
  obtain ⟨early, late, nE, nL, ps2, rfl, ht2, G, hlr, her, hel, hok, hpw, hps⟩ := J
  have F₂ := Fr.ov ((Str.ofString "number", .int ((c.st + i : Nat) : Int) t) :: lawPs c la lb sign tail t1 t2 t3 t4 t5 t6 t7 t8) F₁ (all_if hps (by kernel_rfl))
  clear F₁ hps
  show wpAny _ (callerA.deeper (envOfC _ ⟨_, _, _, _, _⟩ _ _ _)) (execs (_ :: _) (envOfC _ ⟨_, _, _, _, _⟩ _ _ _)) _ _ _
  k_steps
  refine ⟨?_⟩
  have hr16 : c.st + i ≤ 16 := by have := hc.st; have := hc.ct13; omega
  have hE := ne_tabs N₁ ho1 ho2
  have hfr' := hc.f13
  have had' := hc.ad4
  have hS' := hc.S23
  have NA := News.sub N₁ (news' := (131, tabObj ps1) :: (138, tabObj ps2) :: (it, rngIt x1 x2) :: (la, rowObj early nE) :: (lb, rowObj late nL) :: (c1, o1) :: (c2, o2) :: led w.params c late late) fun p hp => by
    simp only [List.mem_cons] at hp ⊢
    rcases hp with h | h | h | h | h | h | h | h <;> first | ((repeat (first | with_reducible exact h | with_reducible exact Or.inl h | apply Or.inr)); done) | (simp [h]; done)
  refine walk_ok B (by assumption) X NA T rfl (Nat.le_of_ble_eq_true rfl) (Nat.le_of_ble_eq_true rfl) (fun p hp => (hE p hp).1) (fun p hp => (hE p hp).2) ht2 G c.S rfl (by omega) (by omega) (by omega) hsg hs34 htl hty (hc.n1 hr16) ?_
  intro h' tk' g' ps2' e x d n' tkd v pcs rest t8' t9' t10' hp1 hsub hdm htm hfr hx138 hxe hxn F9 N9 ht2' G9
  rw [pcStr_wd hp1, wst_bits, wst_go] at N9
  have sub5 : ∀ p ∈ led w.params c late late, p ∈ rest := fun p hp => hsub p (by simp only [List.mem_cons]; simp [hp])
  have hq : ∃ q : Dat, q.r = c.st + i ∧ q.e = e ∧ q.x = x ∧ q.ok c ∧ q.ent c = (e, listOf #[.int ((c.st + i : Nat) : Int) t8', .str (c.wd (c.st + i)) t9', .ref x, .int (c.go (c.st + i)) t10'] 0) ∧ q.pil = (x, pileOf d (pcs.map fun q => Value.ref q.1).toArray n') ∧ q.own w.params c = q.ent c :: (d, sizeD w.params tkd (.int c.fs v)) :: pcs.map fun p : Pc => (p.1, tup2 (pcT p).2.1 (pcT p).2.2) :=
    ⟨⟨c.st + i, e, x, d, n', tkd, v, t8', t9', t10', pcs⟩, rfl, rfl, rfl, hp1, rfl, rfl, rfl⟩
  obtain ⟨q, hqr, rfl, rfl, hqok, hqe, hqp, hqo⟩ := hq
  have NN : News h₀ L h' ((it, rngIt x1 x2) :: L1 w.params c la lb c1 c2 o1 o2 ps1 ps2' early late nE nL (q :: late) (q :: late)) := News.sub N9 fun p hp => by
    rw [← hqe, ← hqp]
    simp only [List.mem_cons] at hp ⊢
    rcases hp with rfl | rfl | rfl | rfl | rfl | rfl | rfl | hp
    · exact .inr (.inr (.inr (.inr (hsub _ (by simp)))))
    · exact .inr (.inr (.inr (.inr (hsub _ (by simp)))))
    · exact .inr (.inr (.inr (.inr (hsub _ (by simp)))))
    · simp
    · simp
    · exact .inr (.inr (.inr (.inr (hsub _ (by simp)))))
    · exact .inr (.inr (.inr (.inr (hsub _ (by simp)))))
    · rcases mem_led.mp hp with ⟨q', h, e⟩ | ⟨q', h, e⟩
      · rcases List.mem_cons.mp h with rfl | h
        · exact .inr (.inl e)
        · exact .inr (.inr (.inr (.inr (sub5 _ (mem_led.mpr (.inl ⟨q', h, e⟩))))))
      · rcases List.mem_cons.mp h with rfl | h
        · rw [hqo] at e
          rcases List.mem_cons.mp e with e | e
          · exact .inl e
          · rcases List.mem_cons.mp e with rfl | e
            · exact .inr (.inr (.inr (.inr hdm)))
            · obtain ⟨z, hz, rfl⟩ := List.mem_map.mp e
              exact .inr (.inr (.inr (.inr (htm z hz))))
        · exact .inr (.inr (.inr (.inr (sub5 _ (mem_led.mpr (.inr ⟨q', h, e⟩))))))
  have hxq : ∀ q' ∈ late, q.x ≠ q'.x := fun q' h => Ne.symm (Nat.ne_of_lt (hxn q'.pil (by simp only [List.mem_cons]; simp [led_pil h])))
  clear N9 hsub hdm htm hfr hxn hx138 hxe hqe hqp hqo hp1 NA hE N₁ hne ht2
  k_steps
  refine ⟨?_⟩
  rename News h₀ L _ _ => NB
  rename Fr h₀ L _ _ => FB
  have hentB : q.ent c ∈ led w.params c (q :: late) (q :: late) := led_ent (.head _)
  have hearly : ∀ q' ∈ early, q'.ent c ∈ led w.params c (q :: late) (q :: late) := fun q' h => led_ent (.tail _ (hel q' h))
  have hlate : ∀ q' ∈ late, q'.ent c ∈ led w.params c (q :: late) (q :: late) := fun q' h => led_ent (.tail _ h)
  have hlenE := len_rowL her
  have hlenL := len_rowR hlr
  have hct := hc.ct13
  have N1 : News h₀ L _ ((la, listOf (early.map Dat.ref).toArray nE) :: (it, rngIt x1 x2) :: (lb, rowObj late nL) :: (131, tabObj ps1) :: (138, tabObj ps2') :: (c1, o1) :: (c2, o2) :: led w.params c (q :: late) (q :: late)) := News.p2 NB
  have hq9 : (q.e, listOf #[.int ((q.r : Nat) : Int) q.t8, .str (c.wd q.r) q.t9, .ref q.x, .int (c.go q.r) q.t10] 0) ∈ led w.params c (q :: late) (q :: late) := hentB
  refine insL B FB X (vs := early.map Dat.ref) (ws := early.map fun q => c.wd q.r) N1 (by assumption) rfl (Nat.le_of_ble_eq_true rfl) (Nat.le_of_ble_eq_true rfl) (ne_la NB ho1 ho2 hlab)
    (List.mem_cons_of_mem _ (List.mem_cons_of_mem _ (List.mem_cons_of_mem _ (List.mem_cons_of_mem _ (List.mem_cons_of_mem _ (List.mem_cons_of_mem _ hq9)))))) (row_of fun q' h => List.mem_cons_of_mem _ (List.mem_cons_of_mem _ (List.mem_cons_of_mem _ (List.mem_cons_of_mem _ (List.mem_cons_of_mem _ (List.mem_cons_of_mem _ (hearly q' h)))))))
    (by rw [List.length_map]; omega) (bL c early q.r) (bL_mono (her ▸ up_rowL _ _ _)) (bL_iff hc) ?_
  intro h2 tk2 p nE' hp1 hp2 hp3 F2 N2
  rw [← ins_map] at N2
  have her2 := insL_row her hqr hp1 hp2 hp3
  have hel2 : ∀ q' ∈ early.take p ++ q :: early.drop p, q' ∈ q :: late := fun q' h => by
    rcases (ins_mem _ _ _ _).mp h with rfl | h
    · exact .head _
    · exact .tail _ (hel q' h)
  generalize early.take p ++ q :: early.drop p = early2 at her2 hel2 N2
  replace N2 := News.p2 N2
  clear N1 NB FB hp1 hp2 hp3 her hel hearly hlenE
  k_steps
  refine ⟨?_⟩
  rename News h₀ L _ _ => NB
  rename Fr h₀ L _ _ => FB
  have N1 : News h₀ L _ ((lb, listOf (late.map Dat.ref).toArray nL) :: (it, rngIt x1 x2) :: (la, rowObj early2 nE') :: (131, tabObj ps1) :: (138, tabObj ps2') :: (c1, o1) :: (c2, o2) :: led w.params c (q :: late) (q :: late)) := News.sub NB fun p hp => by
    simp only [List.mem_cons] at hp ⊢
    rcases hp with h | h | h | h | h | h | h | h <;> first | ((repeat (first | with_reducible exact h | with_reducible exact Or.inl h | apply Or.inr)); done) | (simp [h]; done)
  refine insR B FB X (vs := late.map Dat.ref) (ws := late.map fun q => c.wd q.r) N1 (by assumption) rfl (Nat.le_of_ble_eq_true rfl) (Nat.le_of_ble_eq_true rfl) (ne_lb NB ho1 ho2 hlab)
    (List.mem_cons_of_mem _ (List.mem_cons_of_mem _ (List.mem_cons_of_mem _ (List.mem_cons_of_mem _ (List.mem_cons_of_mem _ (List.mem_cons_of_mem _ hq9)))))) (row_of fun q' h => List.mem_cons_of_mem _ (List.mem_cons_of_mem _ (List.mem_cons_of_mem _ (List.mem_cons_of_mem _ (List.mem_cons_of_mem _ (List.mem_cons_of_mem _ (hlate q' h)))))))
    (by rw [List.length_map]; omega) (bR c late q.r) (bR_mono (hlr ▸ up_rowR _ _ _)) (bR_iff hc) ?_
  intro h3 tk3 p nL' hp1 hp2 hp3 F3 N3
  rw [← ins_map] at N3
  have hlr2 := insR_row hlr hqr hp1 hp2 hp3
  have hperm : (late.take p ++ q :: late.drop p).Perm (q :: late) := List.perm_middle.trans (List.Perm.cons _ (by rw [List.take_append_drop]))
  have hpw2 : (late.take p ++ q :: late.drop p).Pairwise fun p q => p.x ≠ q.x := (hperm.pairwise_iff (fun h => Ne.symm h)).mpr (List.pairwise_cons.mpr ⟨hxq, hpw⟩)
  have hm2 : ∀ q', q' ∈ late.take p ++ q :: late.drop p ↔ q' ∈ q :: late := fun q' => hperm.mem_iff
  generalize late.take p ++ q :: late.drop p = late2 at hlr2 hpw2 hm2 N3
  have N4 : News h₀ L h3 ((it, rngIt x1 x2) :: L1 w.params c la lb c1 c2 o1 o2 ps1 ps2' early2 late2 nE' nL' late2 late2) := News.sub N3 fun p hp => by
    simp only [List.mem_cons] at hp ⊢
    rcases hp with h | h | h | h | h | h | h | h
    · first | ((repeat (first | with_reducible exact h | with_reducible exact Or.inl h | apply Or.inr)); done) | (simp [h]; done)
    · first | ((repeat (first | with_reducible exact h | with_reducible exact Or.inl h | apply Or.inr)); done) | (simp [h]; done)
    · first | ((repeat (first | with_reducible exact h | with_reducible exact Or.inl h | apply Or.inr)); done) | (simp [h]; done)
    · first | ((repeat (first | with_reducible exact h | with_reducible exact Or.inl h | apply Or.inr)); done) | (simp [h]; done)
    · first | ((repeat (first | with_reducible exact h | with_reducible exact Or.inl h | apply Or.inr)); done) | (simp [h]; done)
    · first | ((repeat (first | with_reducible exact h | with_reducible exact Or.inl h | apply Or.inr)); done) | (simp [h]; done)
    · first | ((repeat (first | with_reducible exact h | with_reducible exact Or.inl h | apply Or.inr)); done) | (simp [h]; done)
    · have := led_sub (fun q' h => (hm2 q').mp h) (fun q' h => (hm2 q').mp h) p h
      simp [this]
  clear N1 NB FB N3 hp1 hp2 hp3 hlr hlate hlenL hperm hpw hentB hq9
  k_steps
  rename News h₀ L _ _ => NB
  rename Fr h₀ L _ _ => FB
  refine LpStep.go FB NB (ne_it NB ho1 ho2) ⟨early2, late2, _, _, _, rfl, ht2', G9, hlr2, her2, fun q' h => (hm2 q').mpr (hel2 q' h), fun q' h => ?_, hpw2, ?_⟩
  · rcases List.mem_cons.mp ((hm2 q').mp h) with rfl | h
    · exact hqok
    · exact hok q' h
  · exact all_fr FB (by kernel_rfl)
end
end
section
section
variable {w : World} {mean : ExcName → Option Value} {mg mb : Str → Option Value} {L a : Addr} {ccd : Value} {A₀ : Around} {h₀ : Heap} {m : Str → Option Value} {news : List (Addr × Obj)} {s : Shared} {Q : Flow → Shared → Prop} {E : Value → Shared → Prop}
local macro_rules | `(tactic| k_all) => `(tactic| assumption)
local macro_rules | `(tactic| walk_at "call ref") => `(tactic| refine Held.out ?_)
local macro_rules | `(tactic| walk_at "call builtin:len") => `(tactic| ((with_reducible show wpAny _ _ (call (Value.builtin "len") [Value.ref _]) _ _ _); refine Held.out ?_))
local macro_rules | `(tactic| walk_at "getMethod ref") => `(tactic| (k_here; k_dflt (refine' pile_meth ?k1 ?k2 ?k3 ?k4 ?k5 ?k6 ?k7 ?k8 ?k9 ?_; (case k1 | k2 | k3 => k_asm); (case k4 | k5 => k_mem); (case k6 | k7 => k_is); (case k8 => decide); (case k9 => kernel_rfl); k_whole)))
local macro_rules | `(tactic| walk_at "eval BoolOp") => `(tactic| ((fail_if_success (rename Held True => mk')); refine Held.out ?_))
local macro_rules | `(tactic| walk_at "compareOp IsNot") => `(tactic| ((with_reducible show wpAny _ _ (compareOp CmpOp.IsNot (Value.bool _) (Value.bool _)) _ _ _); refine Held.out ?_))
local macro_rules | `(tactic| walk_at "subscriptTail") => `(tactic| (k_here; k_dflt (refine' row_item ?N ?m ?z ?q ?k ?_; (case N => k_asm); (case m => k_mem); (case z | q => with_reducible assumption); (case k => omega); k_whole)))
local macro_rules | `(tactic| walk_at "binaryOp Pow int int") => `(tactic| (k_here; k_dflt (refine' pow_F ?a ?b ?_; (case a | b => with_reducible assumption); k_whole); intro P' t' tk' hP' hPb'))
local macro_rules | `(tactic| walk_at "binaryOp FloorDiv int int") => `(tactic| (k_here; k_dflt (refine' fdiv_F ?a ?b ?_; (case a | b => with_reducible assumption); k_whole); intro D' t' tk' hD'))
local macro_rules | `(tactic| walk_at "compareOp NotEq int int") => `(tactic| refine Held.out ?_)
set_option maxHeartbeats 700000 in
theorem turn3b {c : Cfg} (hc : c.Ok) (B : Below A₀ h₀ [] h₀) (X : (Mine.hd.heap_1 w.params).In h₀) (T : Top pz lz mean mg mb h₀)
    {la lb lw : Addr} {o2 : Obj} {ps1 ps2 : Array Value} {sign tail : Str} {u1 u2 u3 u4 u5 t1 t2 t3 t4 t5 t6 t7 t8 v1 v2 tr : Tok} {tk b hh rs : Nat} {m₁ : Str → Option Value} {R : List (Addr × Obj)} {q : Dat} {h : Heap} {g : Array GenState}
    (ho2 : o2.data = .cell (some (.int ((rs : Nat) : Int) tr))) (hrs : rs < 2 ^ c.S)
    (hm : ∀ p ∈ ((Str.ofString "number", .int ((q.r : Nat) : Int) v1) :: (Str.ofString "pile", .ref q.x) :: (Str.ofString "reached", .int (c.go q.r) v2) :: lawPs3 c la lb lw sign tail rs b hh u1 u2 u3 u4 u5 t1 t2 t3 t4 t5 t6 t7 t8), m₁ p.1 = some p.2)
    (F₁ : Fr h₀ L h m₁) (N₁ : News h₀ L h (q.pil :: (131, tabObj ps1) :: (138, tabObj ps2) :: R)) (ht1 : TriplesOk ps1.toList) (ht2 : TriplesOk ps2.toList) (G : AllBare g)
    (hR : ∀ p ∈ R, p.1 ≠ q.x ∧ p.1 ≠ 131 ∧ p.1 ≠ 138) (hx1 : q.x ≠ 131) (hx2 : q.x ≠ 138) (hown : ∀ p ∈ q.own w.params c, p ∈ R) (hc2 : (L + 2, o2) ∈ R)
    (hqr : q.r ≤ 16) (hqm : q.r % 2 ^ c.S = rs) (hqo : q.ok c)
    (ret : ∀ h' tk' g' ps1' ps2' m', (∀ p ∈ lawPs3 c la lb lw sign tail rs b hh u1 u2 u3 u4 u5 t1 t2 t3 t4 t5 t6 t7 t8, m' p.1 = some p.2) → Fr h₀ L h' m' → News h₀ L h' ((131, tabObj ps1') :: (138, tabObj ps2') :: R) → TriplesOk ps1'.toList → TriplesOk ps2'.toList → AllBare g' → Q .next ⟨h', g', s.drawn, tk', s.os⟩) :
    wpAny (model PySem.Challenge.rw_xh0019_01.row.prog w) (callerA.deeper (envOfC (Str.ofString "law") lawScope L a ccd)) (execs (lawFor3.drop 3) (envOfC (Str.ofString "law") lawScope L a ccd)) Q E ⟨h, g, s.drawn, tk, s.os⟩ := by
  have F₂ := Fr.ov ((Str.ofString "number", .int ((q.r : Nat) : Int) v1) :: (Str.ofString "pile", .ref q.x) :: (Str.ofString "reached", .int (c.go q.r) v2) :: lawPs3 c la lb lw sign tail rs b hh u1 u2 u3 u4 u5 t1 t2 t3 t4 t5 t6 t7 t8) F₁ hm
  clear F₁ hm
  have N1 : News h₀ L h ((q.x, pileOf q.d (q.pcs.map fun p : Pc => Value.ref p.1).toArray q.n) :: (131, tabObj ps1) :: (138, tabObj ps2) :: R) := N₁
  clear N₁
  have hsz : (q.d, sizeD w.params q.tk (.int c.fs q.v)) ∈ R := hown _ (.tail _ (.head _))
  have htv : ∀ p ∈ q.pcs, (p.1, tup2 (pcT p).2.1 (pcT p).2.2) ∈ R := fun p hp => hown _ (.tail _ (.tail _ (List.mem_map.mpr ⟨p, hp, rfl⟩)))
  have hsm := pc_small hqo
  have hzz : ∀ p ∈ q.pcs, p.2.1.1.length ≤ 1000 ∧ p.2.2.1.length ≤ 1000 := fun p hp => by have := hsm p hp; omega
  obtain ⟨hl1, hl2, hl3⟩ := hc.len hqo
  have hwm : c.wd q.r = c.wd rs := by rw [hc.wmod hqr, hqm]
  rw [hwm] at hl1 hl2 hl3
  have hfs := hc.fs
  show wpAny _ (callerA.deeper (envOfC _ ⟨_, _, _, _, _⟩ _ _ _)) (execs (_ :: _) (envOfC _ ⟨_, _, _, _, _⟩ _ _ _)) _ _ _
  have hX1 : ∀ p ∈ ((q.x, pileOf q.d (q.pcs.map fun p : Pc => Value.ref p.1).toArray q.n) :: (138, tabObj ps2) :: R), p.1 ≠ 131 := fun p hp => by
    rcases List.mem_cons.mp hp with rfl | hp
    · exact hx1
    · rcases List.mem_cons.mp hp with rfl | hp
      · exact (by decide : (138 : Nat) ≠ 131)
      · exact (hR p hp).2.1
  k_steps
  refine ⟨?_⟩
  rename Fr h₀ L _ _ => FB
  rename News h₀ L _ _ => NB
  refine lenb_ok B FB X (News.p2 NB) T rfl (Nat.le_of_ble_eq_true rfl) (Nat.le_of_ble_eq_true rfl) hX1 ht1 G (.head _) (.tail _ (.tail _ hsz)) (fun q hq => .tail _ (.tail _ (htv q hq))) hzz (by omega) (by omega) ?_
  intro h3 tk3 g3 ps3 tk4 F3 N3 ht3 G3
  clear FB NB hX1
  rw [hl1]
  k_steps
  refine ⟨?_⟩
  refine ne_F rfl ?_
  k_steps
  refine ⟨?_⟩
  rename Fr h₀ L _ _ => FB
  rename News h₀ L _ _ => NB
  have hpl : q.pcs.length = c.S := by
    have := congrArg List.length hqo
    rwa [pcsOf, List.length_map, List.length_map, bits_len] at this
  have hS3 := hc.S23
  dsimp only [List.cons_append, List.nil_append]
  refine part_ok B FB X NB (.tail _ (.head _)) T rfl (Nat.le_of_ble_eq_true rfl) (Nat.le_of_ble_eq_true rfl) (by rw [List.length_map]; omega) (.tail _ (.tail _ (.tail _ hsz))) ?_
  intro h4 tk4 tk5 F4 N4
  clear FB NB
  k_steps
  refine ⟨?_⟩
  refine ne_F (by rw [List.length_map, hpl]) ?_
  k_steps
  refine ⟨?_⟩
  rename Fr h₀ L _ _ => FB
  rename News h₀ L _ _ => NB
  dsimp only [List.cons_append, List.nil_append]
  have hY1 : ∀ vs n, ∀ p ∈ ((q.x, pileOf q.d vs n) :: R), p.1 ≠ 131 := fun vs n p hp => by
    rcases List.mem_cons.mp hp with rfl | hp
    · exact hx1
    · exact (hR p hp).2.1
  have hY2 : ∀ vs n, ∀ p ∈ ((q.x, pileOf q.d vs n) :: R), p.1 ≠ 138 := fun vs n p hp => by
    rcases List.mem_cons.mp hp with rfl | hp
    · exact hx2
    · exact (hR p hp).2.2
  have hps := pc_sum hsm
  have N5 : News h₀ L h4 ((131, tabObj ps3) :: (138, tabObj ps2) :: (q.x, pileOf q.d (q.pcs.map fun p : Pc => Value.ref p.1).toArray q.n) :: R) := News.sub NB fun p hp => by
    simp only [List.mem_cons] at hp ⊢
    rcases hp with h | h | h | h <;> first | ((repeat (first | with_reducible exact h | with_reducible exact Or.inl h | apply Or.inr)); done) | (simp [h]; done)
  refine ws_ok (s := ⟨_, _, _, _, _⟩) B FB X N5 T rfl (Nat.le_of_ble_eq_true rfl) (Nat.le_of_ble_eq_true rfl) (hY1 _ _) (hY2 _ _) ht3 ht2 G3 (.head _) (.tail _ hsz) (by omega) (by omega) (fun q hq => .tail _ (htv q hq)) hzz (by omega) (by omega) ?_
  intro h5 tk5 g5 ps5 ps6 F5 N5 ht5 ht6 G5
  clear FB NB ht3 ht2 G3
  have hv : (decide (c.fs = 0) && (decide ((q.pcs.map pcLen).sum = 0) || Txt.isspace (Txt.join (Str.ofString "") (q.pcs.map pcStr)))) = (decide (c.fs = 0) && decide (rs = 0)) := by
    rw [decide_eq_false (show ¬ (q.pcs.map pcLen).sum = 0 by omega), Bool.false_or, pcStr_wd hqo, show wdS (bitsOf c.S c.f c.ad q.r) = c.wd rs from hwm, hc.r5 hrs]
  rw [hv]
  clear hv
  k_steps
  refine ⟨?_⟩
  refine bool_join (decide (c.fs = 0) && decide (rs = 0)) ?_ ?_
  · have mk0 : Held True := ⟨trivial⟩
    k_steps
    · exact congrArg Value.bool (bv_eq (by assumption))
    · exact congrArg Value.bool (bv_ne (by assumption))
  intro tk6
  generalize (decide (c.fs = 0) && decide (rs = 0)) = bv at *
  k_steps
  · exact bne_no (by assumption)
  refine ⟨?_⟩
  rename (bv != bv) = false => hbv
  clear hbv
  clear bv
  have N6 : News h₀ L h5 ((q.x, pileOf q.d (q.pcs.map fun p : Pc => Value.ref p.1).toArray q.n) :: (131, tabObj ps5) :: (138, tabObj ps6) :: R) := News.sub N5 fun p hp => by
    simp only [List.mem_cons] at hp ⊢
    rcases hp with h | h | h | h <;> first | ((repeat (first | with_reducible exact h | with_reducible exact Or.inl h | apply Or.inr)); done) | (simp [h]; done)
  clear N5 hl1 hl2 hl3 hwm hps hsm hzz
  have hf13 := hc.f13
  have had4 := hc.ad4
  have hRx : ∀ ps5 ps6, ∀ p ∈ ((131, tabObj ps5) :: (138, tabObj ps6) :: R), p.1 ≠ q.x := fun ps5 ps6 p hp => by
    rcases List.mem_cons.mp hp with rfl | hp
    · exact Ne.symm hx1
    · rcases List.mem_cons.mp hp with rfl | hp
      · exact Ne.symm hx2
      · exact (hR p hp).1
  refine back_ok (s := ⟨_, _, _, _, _⟩) (bs := bitsOf c.S c.f c.ad q.r) (fs := c.fs) B F5 X N6 T rfl (Nat.le_of_ble_eq_true rfl) (Nat.le_of_ble_eq_true rfl) c.S rfl (bits_len _ _ _ _) (by omega) (by omega) (by omega) hqo (.tail _ (.tail _ hsz)) (fun q hq => .tail _ (.tail _ (htv q hq))) (hRx _ _) (hc.n5 hqr) ?_
  intro h6 tk6 n6 tk7 F6 N7
  rw [hc.n4 hqr]
  clear F5 N6 htv hf13 had4 hpl hS3
  k_steps
  refine ⟨?_⟩
  refine ne_F rfl ?_
  k_steps
  refine ⟨?_⟩
  rename Fr h₀ L _ _ => FB
  rename News h₀ L _ _ => NB
  have hX1 : ∀ vs n, ∀ p ∈ ((q.x, pileOf q.d vs n) :: (138, tabObj ps6) :: R), p.1 ≠ 131 := fun vs n p hp => by
    rcases List.mem_cons.mp hp with rfl | hp
    · exact hx1
    · rcases List.mem_cons.mp hp with rfl | hp
      · exact (by decide : (138 : Nat) ≠ 131)
      · exact (hR p hp).2.1
  refine lenb_ok (s := ⟨_, _, _, _, _⟩) (pcs := []) (n := n6) (k := c.fs) B FB X (News.p2 NB) T rfl (Nat.le_of_ble_eq_true rfl) (Nat.le_of_ble_eq_true rfl) (hX1 _ _) ht5 G5 (.head _) (.tail _ (.tail _ hsz)) (fun _ h => nomatch h) (fun _ h => nomatch h) (show 0 ≤ c.fs + 0 by omega) (show c.fs + 0 < 1000000 by omega) ?_
  intro h7 tk7 g7 ps7 tk8 F7 N7 ht7 G7
  clear NB FB ht5 G5 hX1
  k_steps
  refine ⟨?_⟩
  refine ne_F (show c.fs + 0 = c.fs by omega) ?_
  k_steps
  refine ⟨?_⟩
  rename Fr h₀ L _ _ => FB
  rename News h₀ L _ _ => NB
  dsimp only [List.cons_append, List.nil_append]
  have N8 : News h₀ L h7 ((131, tabObj ps7) :: (138, tabObj ps6) :: (q.x, pileOf q.d (([] : List Pc).map fun p : Pc => Value.ref p.1).toArray n6) :: R) := News.sub NB fun p hp => by
    simp only [List.mem_cons] at hp ⊢
    rcases hp with h | h | h | h <;> first | ((repeat (first | with_reducible exact h | with_reducible exact Or.inl h | apply Or.inr)); done) | (simp [h]; done)
  refine ws_ok (s := ⟨_, _, _, _, _⟩) (pcs := []) B FB X N8 T rfl (Nat.le_of_ble_eq_true rfl) (Nat.le_of_ble_eq_true rfl) (hY1 _ _) (hY2 _ _) ht7 ht6 G7 (.head _) (.tail _ hsz) (by decide) (by decide) (fun _ h => nomatch h) (fun _ h => nomatch h) (by decide) (by decide) ?_
  intro h8 tk8 g8 ps8 ps9 F8 N9 ht8 ht9 G8
  clear FB NB N8 ht7 ht6 G7
  have hv : (decide (c.fs = 0) && (decide ((([] : List Pc).map pcLen).sum = 0) || Txt.isspace (Txt.join (Str.ofString "") (([] : List Pc).map pcStr)))) = (c.fs == 0) := by
    rw [show decide ((([] : List Pc).map pcLen).sum = 0) = true from rfl, Bool.true_or, Bool.and_true]
    rfl
  rw [hv]
  clear hv
  k_steps
  · exact bne_no (by assumption)
  refine ⟨?_⟩
  rename ((c.fs == 0) != (c.fs == 0)) = false => hbv
  clear hbv
  rename Fr h₀ L _ _ => FB
  rename News h₀ L _ _ => NB
  have NC : News h₀ L h8 ((q.x, pileOf q.d ([] : List Value).toArray n6) :: (131, tabObj ps8) :: (138, tabObj ps9) :: R) := News.sub NB fun p hp => by
    simp only [List.mem_cons] at hp ⊢
    rcases hp with h | h | h | h <;> first | ((repeat (first | with_reducible exact h | with_reducible exact Or.inl h | apply Or.inr)); done) | (simp [h]; done)
  refine push_ok (s := ⟨_, _, _, _, _⟩) (vs := []) B FB X NC T rfl (Nat.le_of_ble_eq_true rfl) (Nat.le_of_ble_eq_true rfl) (hRx _ _) (by decide) (.tail _ (.tail _ hsz)) ?_
  intro h9 tk9 tu n9 F9 N9 l1 l2
  clear FB NB NC
  have tu1 : (131 : Nat) < tu := l1 (131, tabObj ps8) (.head _)
  have tu2 : (138 : Nat) < tu := l1 (138, tabObj ps9) (.tail _ (.head _))
  k_steps
  refine ⟨?_⟩
  rename Fr h₀ L _ _ => FB
  rename News h₀ L _ _ => NB
  dsimp only [List.cons_append, List.nil_append]
  refine ws_last (s := ⟨_, _, _, _, _⟩) B FB X NB T rfl (Nat.le_of_ble_eq_true rfl) (Nat.le_of_ble_eq_true rfl) hR hx1 hx2 l1 ht8 ht9 G8 hsz ?_
  intro hA tkA gA psA psB FA NA htA htB GA
  clear FB NB
  k_steps
  · exact bne_no (by assumption)
  · refine ret _ _ _ _ _ _ ?_ FA NA htA htB GA
    exact all_fr FA (by kernel_rfl)
end
end
section
section
variable {w : World} {mean : ExcName → Option Value} {mg mb : Str → Option Value} {L a : Addr} {ccd : Value} {A₀ : Around} {h₀ : Heap} {m : Str → Option Value} {news : List (Addr × Obj)} {s : Shared} {Q : Flow → Shared → Prop} {E : Value → Shared → Prop}
local macro_rules | `(tactic| k_all) => `(tactic| assumption)
local macro_rules | `(tactic| walk_at "call ref") => `(tactic| refine Held.out ?_)
local macro_rules | `(tactic| walk_at "call builtin:len") => `(tactic| ((with_reducible show wpAny _ _ (call (Value.builtin "len") [Value.ref _]) _ _ _); refine Held.out ?_))
local macro_rules | `(tactic| walk_at "getMethod ref") => `(tactic| (k_here; k_dflt (refine' pile_meth ?k1 ?k2 ?k3 ?k4 ?k5 ?k6 ?k7 ?k8 ?k9 ?_; (case k1 | k2 | k3 => k_asm); (case k4 | k5 => k_mem); (case k6 | k7 => k_is); (case k8 => decide); (case k9 => kernel_rfl); k_whole)))
local macro_rules | `(tactic| walk_at "eval BoolOp") => `(tactic| refine Held.out ?_)
local macro_rules | `(tactic| walk_at "subscriptTail") => `(tactic| (k_here; k_dflt (refine' row_item ?N ?m ?z ?q ?k ?_; (case N => k_asm); (case m => k_mem); (case z | q => with_reducible assumption); (case k => omega); k_whole)))
local macro_rules | `(tactic| walk_at "binaryOp Pow int int") => `(tactic| (k_here; k_dflt (refine' pow_F ?a ?b ?_; (case a | b => with_reducible assumption); k_whole); intro P' t' tk' hP' hPb'))
local macro_rules | `(tactic| walk_at "binaryOp FloorDiv int int") => `(tactic| (k_here; k_dflt (refine' fdiv_F ?a ?b ?_; (case a | b => with_reducible assumption); k_whole); intro D' t' tk' hD'))
local macro_rules | `(tactic| walk_at "compareOp NotEq int int") => `(tactic| refine Held.out ?_)
set_option maxHeartbeats 700000 in
theorem turn3 {c : Cfg} (hc : c.Ok) (B : Below A₀ h₀ [] h₀) (X : (Mine.hd.heap_1 w.params).In h₀) (T : Top pz lz mean mg mb h₀)
    {la lb lw : Addr} {o1 o2 : Obj} {ps1 ps2 : Array Value} {sign tail : Str} {u1 u2 u3 u4 u5 t1 t2 t3 t4 t5 t6 t7 t8 t tw tr : Tok} {tk b hh pl' rs : Nat} {m₁ : Str → Option Value} {R : List (Addr × Obj)} {q : Dat} {early late : List Dat} {nE nL : Nat} {h : Heap} {g : Array GenState}
    (ho1 : o1.data = .cell (some (.int ((2 ^ c.S : Nat) : Int) tw))) (ho2 : o2.data = .cell (some (.int ((rs : Nat) : Int) tr))) (hrs : rs < 2 ^ c.S)
    (hm : ∀ p ∈ ((Str.ofString "place", .int ((pl' : Nat) : Int) t) :: lawPs3 c la lb lw sign tail rs b hh u1 u2 u3 u4 u5 t1 t2 t3 t4 t5 t6 t7 t8), m₁ p.1 = some p.2)
    (F₁ : Fr h₀ L h m₁) (N₁ : News h₀ L h (q.pil :: (131, tabObj ps1) :: (138, tabObj ps2) :: R)) (ht1 : TriplesOk ps1.toList) (ht2 : TriplesOk ps2.toList) (G : AllBare g)
    (hR : ∀ p ∈ R, p.1 ≠ q.x ∧ p.1 ≠ 131 ∧ p.1 ≠ 138) (hx1 : q.x ≠ 131) (hx2 : q.x ≠ 138) (hla : (la, rowObj early nE) ∈ R) (hlb : (lb, rowObj late nL) ∈ R) (hown : ∀ p ∈ q.own w.params c, p ∈ R) (hc1 : (L + 1, o1) ∈ R) (hc2 : (L + 2, o2) ∈ R)
    (hz : late.length ≤ 20) (hze : early.length ≤ 20) (hql : late[pl']? = some q) (hbh : b ≤ pl' ∧ pl' < hh) (hqe : early[b + hh - 1 - pl']? = some q) (hqr : q.r ≤ 16) (hqm : q.r % 2 ^ c.S = rs) (hqo : q.ok c)
    (ret : ∀ h' tk' g' ps1' ps2' m', (∀ p ∈ lawPs3 c la lb lw sign tail rs b hh u1 u2 u3 u4 u5 t1 t2 t3 t4 t5 t6 t7 t8, m' p.1 = some p.2) → Fr h₀ L h' m' → News h₀ L h' ((131, tabObj ps1') :: (138, tabObj ps2') :: R) → TriplesOk ps1'.toList → TriplesOk ps2'.toList → AllBare g' → Q .next ⟨h', g', s.drawn, tk', s.os⟩) :
    wpAny (model PySem.Challenge.rw_xh0019_01.row.prog w) (callerA.deeper (envOfC (Str.ofString "law") lawScope L a ccd)) (execs lawFor3 (envOfC (Str.ofString "law") lawScope L a ccd)) Q E ⟨h, g, s.drawn, tk, s.os⟩ := by
  have F₂ := Fr.ov ((Str.ofString "place", .int ((pl' : Nat) : Int) t) :: lawPs3 c la lb lw sign tail rs b hh u1 u2 u3 u4 u5 t1 t2 t3 t4 t5 t6 t7 t8) F₁ hm
  clear F₁ hm
  show wpAny _ (callerA.deeper (envOfC _ ⟨_, _, _, _, _⟩ _ _ _)) (execs (_ :: _) (envOfC _ ⟨_, _, _, _, _⟩ _ _ _)) _ _ _
  have hent : (q.e, listOf #[.int ((q.r : Nat) : Int) q.t8, .str (c.wd q.r) q.t9, .ref q.x, .int (c.go q.r) q.t10] 0) ∈ R := hown _ (.head _)
  have hf13 := hc.f13
  have hcn : (bitsOf c.S c.f c.ad rs).count true ≤ 3 := by
    have h1 := List.count_le_length (a := true) (l := bitsOf c.S c.f c.ad rs)
    rw [bits_len] at h1
    have := hc.S23
    omega
  have hn3 := hc.n3 hqr
  rw [hqm] at hn3
  have hW0 : 0 < 2 ^ c.S := by have := hc.W48; omega
  have hW8 : 2 ^ c.S ≤ 8 := by have := hc.W48; omega
  generalize hW : 2 ^ c.S = W at *
  k_steps
  refine ⟨?_⟩
  rename _ = c.f ^ _ => hP
  rename _ = ((q.r / W : Nat) : Int) => hD
  refine ne_F (by rw [hP, hD]; exact hn3) ?_
  clear hP hD
  subst hW
  iterate 4 walk1
  rename Fr h₀ L _ _ => FB
  rename News h₀ L _ _ => NB
  refine turn3b (s := ⟨_, _, _, _, _⟩) (v1 := q.t8) (v2 := q.t10) hc B X T ho2 hrs ?_ FB NB ht1 ht2 G hR hx1 hx2 hown hc2 hqr hqm hqo ret
  exact all_fr FB (by kernel_rfl)
end
end
section
section
variable {w : World} {mean : ExcName → Option Value} {mg mb : Str → Option Value} {L a : Addr} {ccd : Value} {A₀ : Around} {h₀ : Heap} {m : Str → Option Value} {news : List (Addr × Obj)} {s : Shared} {Q : Flow → Shared → Prop} {E : Value → Shared → Prop}
local macro_rules | `(tactic| k_all) => `(tactic| assumption)
local macro_rules | `(tactic| walk_at "call ref") => `(tactic| refine Held.out ?_)
set_option maxHeartbeats 700000 in
theorem tn2a {c : Cfg} (hc : c.Ok) (B : Below A₀ h₀ [] h₀) (X : (Mine.hd.heap_1 w.params).In h₀) (T : Top pz lz mean mg mb h₀)
    {la lb lw : Addr} {o2 : Obj} {sign tail : Str} {t1 t2 t3 t4 t5 t6 t7 t8 tr : Tok} {rs : Nat} {m₁ : Str → Option Value} {early late : List Dat} {nE nL : Nat}
    (ho2 : o2.data = .cell (some (.int ((rs : Nat) : Int) tr))) (hrs : rs < 2 ^ c.S)
    (hm : ∀ p ∈ lawPs2 c la lb lw sign tail t1 t2 t3 t4 t5 t6 t7 t8, m₁ p.1 = some p.2)
    (F₁ : Fr h₀ L s.heap m₁) (N₁ : News h₀ L s.heap news) (hla : (la, rowObj early nE) ∈ news) (hlb : (lb, rowObj late nL) ∈ news) (hentE : ∀ q ∈ early, q.ent c ∈ news) (hentL : ∀ q ∈ late, q.ent c ∈ news) (hc2 : (L + 2, o2) ∈ news)
    (her : early.map Dat.r = rowL c.k c.st c.ct) (hlr : late.map Dat.r = rowR c.k c.st c.ct)
    (ret : ∀ h' tk' m' u1 u2 u3 u4 u5, (∀ p ∈ lawPs3 c la lb lw sign tail rs (cntL c.k (rowL c.k c.st c.ct) rs) (cntR c.k (rowR c.k c.st c.ct) rs) u1 u2 u3 u4 u5 t1 t2 t3 t4 t5 t6 t7 t8, m' p.1 = some p.2) → Fr h₀ L h' m' → News h₀ L h' news →
      wpAny (model PySem.Challenge.rw_xh0019_01.row.prog w) (callerA.deeper (envOfC (Str.ofString "law") lawScope L a ccd)) (execs (lawFor2.drop 3) (envOfC (Str.ofString "law") lawScope L a ccd)) Q E { s with heap := h', toks := tk' }) :
    wpAny (model PySem.Challenge.rw_xh0019_01.row.prog w) (callerA.deeper (envOfC (Str.ofString "law") lawScope L a ccd)) (execs lawFor2 (envOfC (Str.ofString "law") lawScope L a ccd)) Q E s := by
  have F₂ := Fr.ov (lawPs2 c la lb lw sign tail t1 t2 t3 t4 t5 t6 t7 t8) F₁ hm
  clear F₁ hm
  have hf13 := hc.f13
  have had4 := hc.ad4
  have hS23 := hc.S23
  have hlE := len_rowL her
  have hlL := len_rowR hlr
  have hct := hc.ct13
  show wpAny _ (callerA.deeper (envOfC _ ⟨_, _, _, _, _⟩ _ _ _)) (execs (_ :: _) (envOfC _ ⟨_, _, _, _, _⟩ _ _ _)) _ _ _
  k_steps
  refine ⟨?_⟩
  refine plain_ok B F₂ X N₁ T rfl (Nat.le_of_ble_eq_true rfl) (Nat.le_of_ble_eq_true rfl) c.S rfl (by omega) (by omega) (by omega) (hc.r1 hrs) ?_
  intro h2 tk2 l u1 u2 u3 F3 N3 l1
  rw [hc.r2 hrs] at N3
  dsimp only at N3
  clear F₂ N₁
  k_steps
  refine ⟨?_⟩
  rename Fr h₀ L _ _ => FB
  rename News h₀ L _ _ => NB
  refine bisL_key (vs := (early.map Dat.ref).toArray) (ws := early.map fun q => c.wd q.r) B FB X NB T rfl (Nat.le_of_ble_eq_true rfl) (Nat.le_of_ble_eq_true rfl) (.tail _ hla) (row_of fun q h => .tail _ (hentE q h)) (by rw [List.length_map]; omega) (bL c early rs) (bL_mono (her ▸ up_rowL _ _ _)) (bL_iff hc) ?_
  intro h4 tk4 u4 b hp1 hp2 hp3 F4 N4
  obtain rfl := cntL_is hp1 hp2 hp3
  rw [her] at *
  clear FB NB hp1 hp2 hp3
  k_steps
  refine ⟨?_⟩
  rename Fr h₀ L _ _ => FB
  rename News h₀ L _ _ => NB
  refine bisR_key (vs := (late.map Dat.ref).toArray) (ws := late.map fun q => c.wd q.r) B FB X NB T rfl (Nat.le_of_ble_eq_true rfl) (Nat.le_of_ble_eq_true rfl) (.tail _ hlb) (row_of fun q h => .tail _ (hentL q h)) (by rw [List.length_map]; omega) (bR c late rs) (bR_mono (hlr ▸ up_rowR _ _ _)) (bR_iff hc) ?_
  intro h5 tk5 u5 b2 hp1 hp2 hp3 F5 N5
  obtain rfl := cntR_is hp1 hp2 hp3
  rw [hlr]
  clear FB NB hp1 hp2 hp3
  walk1
  rename Fr h₀ L _ _ => FB
  rename News h₀ L _ _ => NB
  refine ret _ _ _ u1 u2 u3 u4 u5 ?_ FB (News.sub NB fun p hp => .tail _ hp)
  exact all_fr FB (by kernel_rfl)
end
end
section
open PyProof.Rows.LCg PyProof.Rows.LCt
section
variable {w : World} {mean : ExcName → Option Value} {mg mb : Str → Option Value} {L a : Addr} {ccd : Value} {A₀ : Around} {h₀ : Heap} {m : Str → Option Value} {news : List (Addr × Obj)} {s : Shared} {Q : Flow → Shared → Prop} {E : Value → Shared → Prop}
local macro_rules | `(tactic| k_all) => `(tactic| assumption)
local macro_rules | `(tactic| walk_at "exec Assign cons ListComp") => `(tactic| (k_here; k_dflt (refine LCt.Assign_ListComp_T (F₀ := by k_asm) (by rfl) (by with_unfolding_all rfl) (by with_unfolding_all rfl) (by decide) (by rfl) (by decide) (by rfl) (by rfl) (by rfl) ?_); k_dflt lct_toSrc))
local macro_rules | `(tactic| walk_at "eval ListComp") => `(tactic| (k_here; k_dflt (refine LCg.ListComp_U (F₀ := by k_asm) (by rfl) (by decide) (by rfl) (by decide) (by rfl) ?_)))
local macro_rules | `(tactic| walk_at "CompSrc") => `(tactic| refine Held.out ?_)
local macro_rules | `(tactic| walk_at "compareOp NotEq ref ref") => `(tactic| refine Held.out ?_)
local macro_rules | `(tactic| walk_at "subscriptTail Name Constant ref int") => `(tactic| (k_here; k_dflt (refine' item_N ?N ?m ?a ?b ?x ?_; (case N => k_asm); (case m => k_mem); (case a | b => decide); (case x => rfl); k_whole)))
local macro_rules | `(tactic| walk_at "subscriptTail Name Slice") => `(tactic| refine Held.out ?_)
local macro_rules | `(tactic| walk_at "CompSrcT") => `(tactic| refine Held.out ?_)
theorem pick_row (late : List Dat) {b hh : Nat} (h1 : b ≤ hh) (h2 : hh ≤ late.length) : kms_pick ((late.map Dat.ref).toArray.toList) (some ((b : Nat) : Int)) (some ((hh : Nat) : Int)) = ((late.drop b).take (hh - b)).map Dat.ref := by
  unfold kms_pick kms_lo kms_hi
  simp only [List.length_map]
  rw [if_neg (by omega), if_neg (by omega), Int.toNat_natCast, Int.toNat_natCast, Nat.min_eq_left h2, Nat.min_eq_left (Nat.le_trans h1 h2), List.map_take, List.map_drop]
set_option maxHeartbeats 700000 in
theorem tn2b {c : Cfg} (hc : c.Ok) (B : Below A₀ h₀ [] h₀) (X : (Mine.hd.heap_1 w.params).In h₀) (T : Top pz lz mean mg mb h₀)
    {la lb lw : Addr} {o1 o2 : Obj} {sign tail : Str} {u1 u2 u3 u4 u5 t1 t2 t3 t4 t5 t6 t7 t8 tr tw : Tok} {rs b hh : Nat} {m₁ : Str → Option Value} {late : List Dat} {nL : Nat}
    (ho1 : o1.data = .cell (some (.int ((2 ^ c.S : Nat) : Int) tw))) (ho2 : o2.data = .cell (some (.int ((rs : Nat) : Int) tr))) (hrs : rs < 2 ^ c.S)
    (hm : ∀ p ∈ lawPs3 c la lb lw sign tail rs b hh u1 u2 u3 u4 u5 t1 t2 t3 t4 t5 t6 t7 t8, m₁ p.1 = some p.2)
    (F₁ : Fr h₀ L s.heap m₁) (N₁ : News h₀ L s.heap news) (hlb : (lb, rowObj late nL) ∈ news) (hentL : ∀ q ∈ late, q.ent c ∈ news) (hc1 : (L + 1, o1) ∈ news) (hc2 : (L + 2, o2) ∈ news)
    (hz : late.length = c.ct) (hbh : b ≤ hh ∧ hh ≤ c.ct) (hal : ((late.map Dat.r).drop b).take (hh - b) = (List.range' c.st c.ct).filter (fun x => decide (x % 2 ^ c.S = rs)))
    (ret : ∀ h' tk' m', (∀ p ∈ lawPs3 c la lb lw sign tail rs b hh u1 u2 u3 u4 u5 t1 t2 t3 t4 t5 t6 t7 t8, m' p.1 = some p.2) → Fr h₀ L h' m' → News h₀ L h' news →
      wpAny (model PySem.Challenge.rw_xh0019_01.row.prog w) (callerA.deeper (envOfC (Str.ofString "law") lawScope L a ccd)) (execs (lawFor2.drop 5) (envOfC (Str.ofString "law") lawScope L a ccd)) Q E { s with heap := h', toks := tk' }) :
    wpAny (model PySem.Challenge.rw_xh0019_01.row.prog w) (callerA.deeper (envOfC (Str.ofString "law") lawScope L a ccd)) (execs (lawFor2.drop 3) (envOfC (Str.ofString "law") lawScope L a ccd)) Q E s := by
  have F₂ := Fr.ov (lawPs3 c la lb lw sign tail rs b hh u1 u2 u3 u4 u5 t1 t2 t3 t4 t5 t6 t7 t8) F₁ hm
  clear F₁ hm
  have hct := hc.ct13
  have hst := hc.st
  show wpAny _ (callerA.deeper (envOfC _ ⟨_, _, _, _, _⟩ _ _ _)) (execs (_ :: _) (envOfC _ ⟨_, _, _, _, _⟩ _ _ _)) _ _ _
  k_steps
  refine ⟨?_⟩
  rename Fr h₀ L _ _ => FB
  rename News h₀ L _ _ => NB
  refine LCt.CompSrcT.range (n := c.ct) rfl FB NB (by assumption) (rng_small (by omega) (by omega)) (rng_size (by omega)) (by rw [sizeLine_eq]; omega) fun g => ?_
  refine rest_T (fun i => decide ((c.st + i) % 2 ^ c.S = rs)) ((c.st : Nat) : Int) c.ct trivial ?_ ?_ c.ct 0 [] (Nat.zero_add _) ?_
  · intro i t I oI C oC D ys m₂ h tk E' hi hC hx FC NC
    clear NB FB
    k_steps
    exact fm_dec (by have := hc.W48; omega)
  · intro i t I oI C oC D ys m₂ h tk E' hi hC hx FC NC
    clear NB FB
    k_steps
  intro vs hvs
  rw [filt_range (fun x => decide (x % 2 ^ c.S = rs)), ← hal] at hvs
  intro D h tk FD ND oD
  clear FB NB oD
  k_steps
  refine ⟨?_⟩
  refine kms_slice_lit (s := ⟨h, _, _, _, _⟩) FD ND (News.isList ND (.tail _ hlb)) (.int _ _) (.int _ _) (pick_row late hbh.1 (by omega)) ?_ (by with_unfolding_all rfl) (by intro _; with_unfolding_all rfl) (by rw [sizeLine_eq, List.size_toArray, List.length_map]; omega)
  intro D2 h2 F2 N2 l2
  clear FD ND l2
  have hsub : ∀ q ∈ (late.drop b).take (hh - b), q ∈ late := fun q hq => List.mem_of_mem_drop (List.mem_of_mem_take hq)
  have hsl : ((late.drop b).take (hh - b)).length ≤ 13 := by rw [List.length_take, List.length_drop]; omega
  generalize hsl' : (late.drop b).take (hh - b) = sl at *
  refine LCg.CompSrc.ledger (its := (sl.map Dat.ref).toArray) (k := 0) rfl F2 N2 (.head _) (by rw [sizeLine_eq, List.size_toArray, List.length_map]; omega) fun g => ?_
  refine rest_U (fun i y => ∃ q t, sl[i]? = some q ∧ y = .int ((q.r : Nat) : Int) t) (sl.map Dat.ref).toArray.size (.inr ⟨_, .head _, rfl, _, rfl⟩) ?_ _ 0 [] (Nat.zero_add _) ?_
  · intro i v I oI C oC D' ys m₂ h tk E' hi hP hC hx FC NC
    have hi' : i < sl.length := by simpa using hi
    have hq : sl[i]? = some sl[i] := List.getElem?_eq_getElem hi'
    have hv : v = .ref sl[i].e := by
      rw [List.getElem?_toArray, List.getElem?_map, hq] at hP
      exact (Option.some.inj hP).symm
    subst hv
    have hen : (sl[i].e, listOf #[.int ((sl[i].r : Nat) : Int) sl[i].t8, .str (c.wd sl[i].r) sl[i].t9, .ref sl[i].x, .int (c.go sl[i].r) sl[i].t10] 0) ∈ news := hentL _ (hsub _ (List.getElem_mem hi'))
    generalize sl[i] = q at *
    clear N2 F2
    k_steps
    · exact FC
    · exact NC
  intro vs' hl' hv'
  rw [← List.map_drop, ← List.map_take, hsl', List.map_map] at hvs
  have hvs' : IntsAre vs' (sl.map fun q => ((q.r : Nat) : Int)) := intsAre_of _ _ (by rw [hl', List.size_toArray, List.length_map, List.length_map]) fun j hj => by
    obtain ⟨q, t, e1, e2⟩ := hv' j hj
    rw [Nat.zero_add] at e1
    exact ⟨_, t, by rw [List.getElem?_map, e1]; rfl, e2⟩
  clear hv' hl' hsl' hsub hsl
  intro D3 h3 tk3 F3 N3 o3
  clear F2 N2 o3
  k_steps
  refine ⟨?_⟩
  rename Fr h₀ L _ _ => FB
  rename News h₀ L _ _ => NB
  refine ke_ne_ints (xs := [] ++ vs') (ys := [] ++ vs) (News.isList NB (.head _)) (News.isList NB (.tail _ (.tail _ (.head _)))) hvs' hvs (by ke_room) ?_
  rw [decide_eq_true (by rfl)]
  dsimp only [Bool.not_true]
  iterate 3 walk1
  refine ret _ _ _ ?_ FB (News.sub NB fun p hp => .tail _ (.tail _ (.tail _ hp)))
  exact all_fr FB (by kernel_rfl)
end
end
section
section
variable {w : World} {mean : ExcName → Option Value} {mg mb : Str → Option Value} {L a : Addr} {ccd : Value} {A₀ : Around} {h₀ : Heap} {m : Str → Option Value} {news : List (Addr × Obj)} {s : Shared} {Q : Flow → Shared → Prop} {E : Value → Shared → Prop}
local macro_rules | `(tactic| k_all) => `(tactic| assumption)
local macro_rules | `(tactic| walk_at "call ref") => `(tactic| refine Held.out ?_)
local macro_rules | `(tactic| walk_at "compareOp NotEq int int") => `(tactic| refine Held.out ?_)
set_option maxHeartbeats 700000 in
theorem tn2c {c : Cfg} (hc : c.Ok) (B : Below A₀ h₀ [] h₀) (X : (Mine.hd.heap_1 w.params).In h₀) (T : Top pz lz mean mg mb h₀)
    {la lb lw : Addr} {sign tail : Str} {u1 u2 u3 u4 u5 t1 t2 t3 t4 t5 t6 t7 t8 : Tok} {rs b hh : Nat} {m₁ : Str → Option Value} {late : List Dat} {wv : Array Value} {nw : Nat} (hrs : rs < 2 ^ c.S)
    (hm : ∀ p ∈ lawPs3 c la lb lw sign tail rs b hh u1 u2 u3 u4 u5 t1 t2 t3 t4 t5 t6 t7 t8, m₁ p.1 = some p.2)
    (F₁ : Fr h₀ L s.heap m₁) (N₁ : News h₀ L s.heap news) (hlw : (lw, listOf wv nw) ∈ news) (hws : RowS wv (late.map fun q => c.wd q.r))
    (hz : late.length = c.ct) (hu : Up c.k (late.map Dat.r)) (hb : cntL c.k (late.map Dat.r) rs = b) (hhh : cntR c.k (late.map Dat.r) rs = hh)
    (ret : ∀ h' tk' m', (∀ p ∈ lawPs3 c la lb lw sign tail rs b hh u1 u2 u3 u4 u5 t1 t2 t3 t4 t5 t6 t7 t8, m' p.1 = some p.2) → Fr h₀ L h' m' → News h₀ L h' news →
      wpAny (model PySem.Challenge.rw_xh0019_01.row.prog w) (callerA.deeper (envOfC (Str.ofString "law") lawScope L a ccd)) (execs (lawFor2.drop 6) (envOfC (Str.ofString "law") lawScope L a ccd)) Q E { s with heap := h', toks := tk' }) :
    wpAny (model PySem.Challenge.rw_xh0019_01.row.prog w) (callerA.deeper (envOfC (Str.ofString "law") lawScope L a ccd)) (execs (lawFor2.drop 5) (envOfC (Str.ofString "law") lawScope L a ccd)) Q E s := by
  have F₂ := Fr.ov (lawPs3 c la lb lw sign tail rs b hh u1 u2 u3 u4 u5 t1 t2 t3 t4 t5 t6 t7 t8) F₁ hm
  clear F₁ hm
  have hct := hc.ct13
  show wpAny _ (callerA.deeper (envOfC _ ⟨_, _, _, _, _⟩ _ _ _)) (execs (_ :: _) (envOfC _ ⟨_, _, _, _, _⟩ _ _ _)) _ _ _
  k_steps
  refine ⟨?_⟩
  rename Fr h₀ L _ _ => FB
  rename News h₀ L _ _ => NB
  refine bisL_str (vs := wv) (ws := late.map fun q => c.wd q.r) B FB X NB T rfl (Nat.le_of_ble_eq_true rfl) (Nat.le_of_ble_eq_true rfl) hlw hws (by rw [List.length_map]; omega) (bL c late rs) (bL_mono hu) (bL_iff hc) ?_
  intro h4 tk4 u6 b' hp1 hp2 hp3 F4 N4
  have hb' := cntL_is hp1 hp2 hp3
  clear FB NB hp1 hp2 hp3
  k_steps
  refine ⟨?_⟩
  refine ne_F (by rw [← hb', hb]) ?_
  clear hb'
  k_steps
  refine ⟨?_⟩
  rename Fr h₀ L _ _ => FB
  rename News h₀ L _ _ => NB
  refine bisR_str (vs := wv) (ws := late.map fun q => c.wd q.r) B FB X NB T rfl (Nat.le_of_ble_eq_true rfl) (Nat.le_of_ble_eq_true rfl) hlw hws (by rw [List.length_map]; omega) (bR c late rs) (bR_mono hu) (bR_iff hc) ?_
  intro h5 tk5 u7 b2 hp1 hp2 hp3 F5 N5
  have hb' := cntR_is hp1 hp2 hp3
  clear FB NB hp1 hp2 hp3
  k_steps
  refine ⟨?_⟩
  refine ne_F (by rw [← hb', hhh]) ?_
  iterate 5 walk1
  rename Fr h₀ L _ _ => FB
  rename News h₀ L _ _ => NB
  refine ret _ _ _ ?_ FB NB
  exact all_fr FB (by kernel_rfl)
end
end
section
theorem pw_ne {l : List Dat} (h : l.Pairwise fun p q => p.x ≠ q.x) {p q : Dat} (hp : p ∈ l) (hq : q ∈ l) (hne : p ≠ q) : p.x ≠ q.x := by
  obtain ⟨i, hi, rfl⟩ := List.getElem_of_mem hp
  obtain ⟨j, hj, rfl⟩ := List.getElem_of_mem hq
  rw [List.pairwise_iff_getElem] at h
  rcases Nat.lt_trichotomy i j with hij | rfl | hij
  · exact h i j hi hj hij
  · exact absurd rfl hne
  · exact Ne.symm (h j i hj hi hij)
theorem r_inj {l : List Dat} (h : (l.map Dat.r).Nodup) {p q : Dat} (hp : p ∈ l) (hq : q ∈ l) (e : p.r = q.r) : p = q := by
  obtain ⟨i, hi, rfl⟩ := List.getElem_of_mem hp
  obtain ⟨j, hj, rfl⟩ := List.getElem_of_mem hq
  have : (l.map Dat.r)[i]'(by simpa using hi) = (l.map Dat.r)[j]'(by simpa using hj) := by simpa using e
  have := (List.getElem_inj h).mp this
  subst this
  rfl
theorem kd_list (vs : Array Value) (n : Nat) : kd (listOf vs n) = 3 ∨ kd (listOf vs n) = 4 ∨ kd (listOf vs n) = 5 := by
  have e : kd (listOf vs n) = (match vs[0]? with | some (.int _ _) => 3 | some (.str _ _) => 4 | _ => 5) + 0 := rfl
  rw [e]
  split <;> simp
/-- the ledger of the second loop -/
abbrev L2 (P : Params) (c : Cfg) (L la lb lw : Addr) (o1 o2 : Obj) (wv : Array Value) (nw : Nat) (ps1 ps2 : Array Value) (early late : List Dat) (nE nL : Nat) (piles : List Dat) : List (Addr × Obj) :=
  (L + 2, o2) :: (la, rowObj early nE) :: (lb, rowObj late nL) :: (lw, listOf wv nw) :: (131, tabObj ps1) :: (138, tabObj ps2) :: (L + 1, o1) :: led P c piles late
def J3 (P : Params) (c : Cfg) (L la lb lw : Addr) (o1 o2 : Obj) (wv : Array Value) (nw : Nat) (early late : List Dat) (nE nL : Nat) (it : Addr) (x1 x2 : Int) (rs : Nat) (al : List Nat) (ps : List (Str × Value)) (j : Nat) (m₁ : Str → Option Value) (ns : List (Addr × Obj)) (g : Array GenState) : Prop :=
  ∃ ps1 ps2 piles, ns = (it, rngIt x1 x2) :: L2 P c L la lb lw o1 o2 wv nw ps1 ps2 early late nE nL piles ∧ TriplesOk ps1.toList ∧ TriplesOk ps2.toList ∧ AllBare g ∧ (∀ q ∈ piles, q ∈ late) ∧
    (∀ q ∈ late, (rs < q.r % 2 ^ c.S ∨ (q.r % 2 ^ c.S = rs ∧ q.r ∉ al.take j)) → q ∈ piles) ∧ ∀ p ∈ ps, m₁ p.1 = some p.2
section
variable {P : Params} {c : Cfg} {L la lb lw it it2 : Addr} {o1 o2 : Obj} {v1 v2 : Option Value} {wv : Array Value} {nw : Nat} {ps1 ps2 : Array Value} {early late piles : List Dat} {nE nL : Nat} {x1 x2 y1 y2 : Int} {h₀ h : Heap} {q : Dat}
/-- taking the pile at hand out of the ledger -/
theorem pull (N : News h₀ L h ((it2, rngIt y1 y2) :: (it, rngIt x1 x2) :: L2 P c L la lb lw o1 o2 wv nw ps1 ps2 early late nE nL piles)) (ho1 : o1.data = .cell v1) (ho2 : o2.data = .cell v2) (hq : q ∈ piles) (hql : q ∈ late) (hsub : ∀ q ∈ piles, q ∈ late)
    (hpw : late.Pairwise fun p q => p.x ≠ q.x) :
    News h₀ L h (q.pil :: (131, tabObj ps1) :: (138, tabObj ps2) :: (it2, rngIt y1 y2) :: (it, rngIt x1 x2) :: (L + 2, o2) :: (la, rowObj early nE) :: (lb, rowObj late nL) :: (lw, listOf wv nw) :: (L + 1, o1) :: led P c (piles.filter fun p => decide (p.r ≠ q.r)) late) ∧
    (∀ p ∈ ((it2, rngIt y1 y2) :: (it, rngIt x1 x2) :: (L + 2, o2) :: (la, rowObj early nE) :: (lb, rowObj late nL) :: (lw, listOf wv nw) :: (L + 1, o1) :: led P c (piles.filter fun p => decide (p.r ≠ q.r)) late), p.1 ≠ q.x ∧ p.1 ≠ 131 ∧ p.1 ≠ 138) ∧ q.x ≠ 131 ∧ q.x ≠ 138 := by
  have hpil : q.pil ∈ ((it2, rngIt y1 y2) :: (it, rngIt x1 x2) :: L2 P c L la lb lw o1 o2 wv nw ps1 ps2 early late nE nL piles) := (.tail _ (.tail _ (.tail _ (.tail _ (.tail _ (.tail _ (.tail _ (.tail _ (.tail _ (led_pil hq))))))))))
  have h1 : ((131 : Addr), tabObj ps1) ∈ ((it2, rngIt y1 y2) :: (it, rngIt x1 x2) :: L2 P c L la lb lw o1 o2 wv nw ps1 ps2 early late nE nL piles) := (.tail _ (.tail _ (.tail _ (.tail _ (.tail _ (.tail _ (.head _)))))))
  have h2 : ((138 : Addr), tabObj ps2) ∈ ((it2, rngIt y1 y2) :: (it, rngIt x1 x2) :: L2 P c L la lb lw o1 o2 wv nw ps1 ps2 early late nE nL piles) := (.tail _ (.tail _ (.tail _ (.tail _ (.tail _ (.tail _ (.tail _ (.head _))))))))
  have hs : ∀ p ∈ led P c (piles.filter fun p => decide (p.r ≠ q.r)) late, p ∈ led P c piles late := led_sub (fun q h => (List.mem_filter.mp h).1) fun _ h => h
  have hx1 : q.x ≠ 131 := News.kd N (show (q.x, q.pil.2) ∈ _ from hpil) h1 (by rw [kd_pil, kd_tab]; decide)
  have hx2 : q.x ≠ 138 := News.kd N (show (q.x, q.pil.2) ∈ _ from hpil) h2 (by rw [kd_pil, kd_tab]; decide)
  have hsub2 : ∀ p ∈ ((it2, rngIt y1 y2) :: (it, rngIt x1 x2) :: (L + 2, o2) :: (la, rowObj early nE) :: (lb, rowObj late nL) :: (lw, listOf wv nw) :: (L + 1, o1) :: led P c (piles.filter fun p => decide (p.r ≠ q.r)) late), p ∈ ((it2, rngIt y1 y2) :: (it, rngIt x1 x2) :: L2 P c L la lb lw o1 o2 wv nw ps1 ps2 early late nE nL piles) := (sub_c (.head _) (sub_c (.tail _ (.head _)) (sub_c (.tail _ (.tail _ (.head _))) (sub_c (.tail _ (.tail _ (.tail _ (.head _)))) (sub_c (.tail _ (.tail _ (.tail _ (.tail _ (.head _))))) (sub_c (.tail _ (.tail _ (.tail _ (.tail _ (.tail _ (.head _)))))) (sub_c (.tail _ (.tail _ (.tail _ (.tail _ (.tail _ (.tail _ (.tail _ (.tail _ (.head _))))))))) (fun p hp => (.tail _ (.tail _ (.tail _ (.tail _ (.tail _ (.tail _ (.tail _ (.tail _ (.tail _ (hs p hp))))))))))))))))))
  refine ⟨News.sub N (sub_c hpil (sub_c h1 (sub_c h2 hsub2))), fun p hp => ?_, hx1, hx2⟩
  · have hin : p ∈ ((it2, rngIt y1 y2) :: (it, rngIt x1 x2) :: L2 P c L la lb lw o1 o2 wv nw ps1 ps2 early late nE nL piles) := hsub2 p hp
    have go : kd p.2 ≠ 15 → (∀ ps, p.2 ≠ tabObj ps) → p.1 ≠ q.x ∧ p.1 ≠ 131 ∧ p.1 ≠ 138 := fun h3 h4 =>
      ⟨News.kd N (o := p.2) hin (show (q.x, q.pil.2) ∈ _ from hpil) (by rw [kd_pil]; exact h3), News.fun N (o := p.2) hin h1 (h4 _), News.fun N (o := p.2) hin h2 (h4 _)⟩
    have key : kd p.2 ≠ 2 → ∀ ps, p.2 ≠ tabObj ps := fun h ps e => h (e ▸ rfl)
    simp only [List.mem_cons] at hp
    rcases hp with rfl | rfl | rfl | rfl | rfl | rfl | rfl | hp
    · exact go (by rw [kd_rng]; decide) fun ps e => by injection e with e; cases e
    · exact go (by rw [kd_rng]; decide) fun ps e => by injection e with e; cases e
    · exact go (by rw [kd_cell ho2]; decide) (key (by rw [kd_cell ho2]; decide))
    · exact go (by rw [kd_row]; decide) (key (by rw [kd_row]; decide))
    · exact go (by rw [kd_row]; decide) (key (by rw [kd_row]; decide))
    · exact go (by rcases kd_list wv nw with e | e | e <;> rw [e] <;> decide) (key (by rcases kd_list wv nw with e | e | e <;> rw [e] <;> decide))
    · exact go (by rw [kd_cell ho1]; decide) (key (by rw [kd_cell ho1]; decide))
    · rcases mem_led.mp hp with ⟨q', hq', rfl⟩ | ⟨q', hq', hp'⟩
      · obtain ⟨hq1, hq2⟩ := List.mem_filter.mp hq'
        have hne : q' ≠ q := fun e => by rw [e] at hq2; simp at hq2
        refine ⟨pw_ne hpw (hsub _ hq1) hql hne, ?_⟩
        exact ⟨News.fun N (o := q'.pil.2) hin h1 (key (by rw [kd_pil]; decide) _), News.fun N (o := q'.pil.2) hin h2 (key (by rw [kd_pil]; decide) _)⟩
      · exact go (by rcases kd_own hp' with e | e | e <;> rw [e] <;> decide) (key (by rcases kd_own hp' with e | e | e <;> rw [e] <;> decide))
end
end
section
section
variable {w : World} {mean : ExcName → Option Value} {mg mb : Str → Option Value} {L a : Addr} {ccd : Value} {A₀ : Around} {h₀ : Heap} {m : Str → Option Value} {news : List (Addr × Obj)} {s : Shared} {Q : Flow → Shared → Prop} {E : Value → Shared → Prop}
local macro_rules | `(tactic| k_all) => `(tactic| assumption)
set_option maxHeartbeats 700000 in
theorem tn2e {c : Cfg} (hc : c.Ok) (B : Below A₀ h₀ [] h₀) (X : (Mine.hd.heap_1 w.params).In h₀) (T : Top pz lz mean mg mb h₀)
    (hE : PassesOwn (model PySem.Challenge.rw_xh0019_01.row.prog w) (callerA.deeper (envOfC (Str.ofString "law") lawScope L a ccd)) (envOfC (Str.ofString "law") lawScope L a ccd) E)
    {la lb lw it : Addr} {o1 o2 : Obj} {wv : Array Value} {nw : Nat} {ps1 ps2 : Array Value} {x1 x2 : Int} {sign tail : Str} {u1 u2 u3 u4 u5 t1 t2 t3 t4 t5 t6 t7 t8 tw tr : Tok} {rs b hh : Nat} {m₁ : Str → Option Value} {early late piles : List Dat} {nE nL : Nat}
    (ho1 : o1.data = .cell (some (.int ((2 ^ c.S : Nat) : Int) tw))) (ho2 : o2.data = .cell (some (.int ((rs : Nat) : Int) tr))) (hrs : rs < 2 ^ c.S)
    (hm : ∀ p ∈ lawPs3 c la lb lw sign tail rs b hh u1 u2 u3 u4 u5 t1 t2 t3 t4 t5 t6 t7 t8, m₁ p.1 = some p.2)
    (F₁ : Fr h₀ L s.heap m₁) (N₁ : News h₀ L s.heap ((it, rngIt x1 x2) :: L2 w.params c L la lb lw o1 o2 wv nw ps1 ps2 early late nE nL piles)) (ht1 : TriplesOk ps1.toList) (ht2 : TriplesOk ps2.toList) (G : AllBare s.gens)
    (hze : early.length = c.ct) (hz : late.length = c.ct) (hel : ∀ q ∈ early, q ∈ late) (hnd : (late.map Dat.r).Nodup) (hr16 : ∀ q ∈ late, q.r ≤ 16) (hok : ∀ q ∈ late, q.ok c) (hpw : late.Pairwise fun p q => p.x ≠ q.x)
    (hps : ∀ q ∈ piles, q ∈ late) (hpl : ∀ q ∈ late, rs ≤ q.r % 2 ^ c.S → q ∈ piles)
    (hbh : b ≤ hh ∧ hh ≤ c.ct) (hal : ((late.map Dat.r).drop b).take (hh - b) = (List.range' c.st c.ct).filter (fun x => decide (x % 2 ^ c.S = rs))) (hmem : ∀ q ∈ late, q.r ∈ List.range' c.st c.ct)
    (hmir : ∀ j, j < hh - b → (early.map Dat.r)[hh - 1 - j]? = (late.map Dat.r)[b + j]?)
    (ret : ∀ h' tk' g' m' ps1' ps2' piles', (∀ p ∈ lawPs3 c la lb lw sign tail rs b hh u1 u2 u3 u4 u5 t1 t2 t3 t4 t5 t6 t7 t8, m' p.1 = some p.2) → Fr h₀ L h' m' → News h₀ L h' ((it, rngIt x1 x2) :: L2 w.params c L la lb lw o1 o2 wv nw ps1' ps2' early late nE nL piles') → TriplesOk ps1'.toList → TriplesOk ps2'.toList → AllBare g' →
      (∀ q ∈ piles', q ∈ late) → (∀ q ∈ late, rs + 1 ≤ q.r % 2 ^ c.S → q ∈ piles') → Q .next ⟨h', g', s.drawn, tk', s.os⟩) :
    wpAny (model PySem.Challenge.rw_xh0019_01.row.prog w) (callerA.deeper (envOfC (Str.ofString "law") lawScope L a ccd)) (execs (lawFor2.drop 6) (envOfC (Str.ofString "law") lawScope L a ccd)) Q E s := by
  have F₂ := Fr.ov (lawPs3 c la lb lw sign tail rs b hh u1 u2 u3 u4 u5 t1 t2 t3 t4 t5 t6 t7 t8) F₁ hm
  clear F₁ hm
  have hct := hc.ct13
  show wpAny _ (callerA.deeper (envOfC _ ⟨_, _, _, _, _⟩ _ _ _)) (execs (_ :: _) (envOfC _ ⟨_, _, _, _, _⟩ _ _ _)) _ _ _
  k_steps
  refine ⟨?_⟩
  rename Fr h₀ L _ _ => FB
  rename News h₀ L _ _ => NB
  refine' range_loop (n := hh - b) (J3 w.params c L la lb lw o1 o2 wv nw early late nE nL it x1 x2 rs (((late.map Dat.r).drop b).take (hh - b)) (lawPs3 c la lb lw sign tail rs b hh u1 u2 u3 u4 u5 t1 t2 t3 t4 t5 t6 t7 t8)) rfl (by assumption) ?sm ?sz rfl rfl hE FB NB ?hj ?_ ?_
  case sm => exact rng_small (by omega) (by omega)
  case sz => exact rng_size (by omega)
  case hj =>
    refine ⟨ps1, ps2, piles, rfl, ht1, ht2, G, hps, fun q hq h => hpl q hq (by omega), ?_⟩
    exact all_fr FB (by kernel_rfl)
  · rintro j it2 m₂ ns h g tk t hj ⟨ps3, ps4, piles2, rfl, ht3, ht4, G2, hps2, hpl2, hm2⟩ hne F₂ N₂
    change Fr h₀ L h _ at F₂
    change News h₀ L h _ at N₂
    clear FB NB
    have hjl : b + j < late.length := by omega
    have hal' := hal
    generalize hAL : ((late.map Dat.r).drop b).take (hh - b) = al at *
    have hall : al.length = hh - b := by rw [← hAL, List.length_take, List.length_drop, List.length_map]; omega
    have hqj : al[j]? = some late[b + j].r := by
      rw [← hAL, List.getElem?_take_of_lt hj, List.getElem?_drop, List.getElem?_map, List.getElem?_eq_getElem hjl]; rfl
    have hand : al.Nodup := by rw [← hAL]; exact (hnd.sublist (List.drop_sublist _ _)).sublist (List.take_sublist _ _)
    have hql : late[b + j]? = some late[b + j] := List.getElem?_eq_getElem hjl
    have hqm : late[b + j] ∈ late := List.getElem_mem hjl
    have hmj := hmir j hj
    rw [List.getElem?_map (i := b + j), hql, List.getElem?_map] at hmj
    generalize late[b + j] = q at *
    have hqa : q.r ∈ al := List.mem_of_getElem? hqj
    have hqW : q.r % 2 ^ c.S = rs := by
      rw [hal] at hqa
      simpa using (List.mem_filter.mp hqa).2
    have hlt : j < al.length := by omega
    have hej : al[j] = q.r := by
      rw [List.getElem?_eq_getElem hlt] at hqj
      exact Option.some.inj hqj
    have hqn : q.r ∉ al.take j := fun hin => by
      obtain ⟨i, hi, e⟩ := List.getElem_of_mem hin
      rw [List.length_take] at hi
      rw [List.getElem_take] at e
      have := (List.getElem_inj (h₀ := by omega) (h₁ := hlt) hand).mp (e.trans hej.symm)
      omega
    have hqp : q ∈ piles2 := hpl2 q hqm (.inr ⟨hqW, hqn⟩)
    have hqe : early[b + hh - 1 - (b + j)]? = some q := by
      rw [show b + hh - 1 - (b + j) = hh - 1 - j by omega]
      cases he : early[hh - 1 - j]? with
      | none => rw [he] at hmj; cases hmj
      | some q' =>
        rw [he] at hmj
        have : q'.r = q.r := Option.some.inj hmj
        rw [r_inj hnd (hel q' (List.mem_of_getElem? he)) hqm this]
    obtain ⟨NP, hR, hx1, hx2⟩ := pull N₂ ho1 ho2 hqp hqm hps2 hpw
    refine turn3 (s := ⟨_, _, _, _, _⟩) (L := L) (pl' := b + j) (t := t) (sign := sign) (tail := tail) (b := b) (hh := hh) (rs := rs) (u1 := u1) (u2 := u2) (u3 := u3) (u4 := u4) (u5 := u5) (t1 := t1) (t2 := t2) (t3 := t3) (t4 := t4) (t5 := t5) (t6 := t6) (t7 := t7) (t8 := t8) (la := la) (lb := lb) (lw := lw) (early := early) (late := late) (nE := nE) (nL := nL) hc B X T ho1 ho2 hrs ?_ F₂ NP ht3 ht4 G2 hR hx1 hx2 (.tail _ (.tail _ (.tail _ (.head _)))) (.tail _ (.tail _ (.tail _ (.tail _ (.head _))))) (fun p hp => ?_) (.tail _ (.tail _ (.tail _ (.tail _ (.tail _ (.tail _ (.head _))))))) (.tail _ (.tail _ (.head _))) (by omega) (by omega) hql ⟨by omega, by omega⟩ hqe (hr16 q hqm) hqW (hok q hqm) ?_
    · exact all_if hm2 (by kernel_rfl)
    · simp only [List.mem_cons]
      exact .inr (.inr (.inr (.inr (.inr (.inr (.inr (led_own hqm hp)))))))
    · intro h' tk' g' ps1' ps2' m' hm' F' N' a1 a2 a3
      refine LpStep.go F' (News.sub N' fun p hp => ?_) (fun p hp => ?_) ⟨ps1', ps2', piles2.filter fun p => decide (p.r ≠ q.r), rfl, a1, a2, a3, fun q' h => hps2 q' (List.mem_filter.mp h).1, fun q' h hq' => ?_, hm'⟩
      · simp only [List.mem_cons] at hp ⊢
        rcases hp with h | h | h | h | h | h | h | h | h | h
        all_goals first | (exact .inr (.inr (.inr (.inr (.inr (.inr (.inr (.inr (.inr h)))))))) ; done) | ((repeat (first | with_reducible exact h | with_reducible exact Or.inl h | apply Or.inr)); done) | (simp [h]; done)
      · simp only [List.mem_cons] at hp
        rcases hp with rfl | rfl | rfl | rfl | rfl | rfl | rfl | rfl | hp
        · exact hne _ (by simp)
        · exact hne _ (by simp)
        · exact hne _ (by simp)
        · exact hne _ (by simp)
        · exact hne _ (by simp)
        · exact hne (131, tabObj ps3) (by simp)
        · exact hne (138, tabObj ps4) (by simp)
        · exact hne _ (by simp)
        · refine hne p ?_
          have := led_sub (fun q h => (List.mem_filter.mp h).1) (fun _ h => h) p hp
          simp only [List.mem_cons]
          simp [this]
      · refine List.mem_filter.mpr ⟨hpl2 q' h ?_, ?_⟩
        · rcases hq' with h1 | ⟨h1, h2⟩
          · exact .inl h1
          · refine .inr ⟨h1, fun h3 => h2 ?_⟩
            rw [List.take_succ_eq_append_getElem hlt]
            exact List.mem_append_left _ h3
        · rw [decide_eq_true_eq]
          intro e
          rcases hq' with h1 | ⟨h1, h2⟩
          · rw [e, hqW] at h1; omega
          · refine h2 ?_
            rw [List.take_succ_eq_append_getElem hlt, e, hej]
            simp
  · rintro m₂ ns h g tk ⟨ps3, ps4, piles2, rfl, ht3, ht4, G2, hps2, hpl2, hm2⟩ F₂ N₂
    clear FB NB
    refine wpAny_execs_nil (ret _ _ _ _ _ _ piles2 hm2 F₂ N₂ ht3 ht4 G2 hps2 fun q hq h => hpl2 q hq (.inl (by omega)))
end
end
section
def J2 (P : Params) (c : Cfg) (L la lb lw : Addr) (o1 : Obj) (wv : Array Value) (nw : Nat) (early late : List Dat) (nE nL : Nat) (ps : List (Str × Value)) (i : Nat) (m₁ : Str → Option Value) (ns : List (Addr × Obj)) (g : Array GenState) : Prop :=
  ∃ ps1 ps2 piles, ns = (la, rowObj early nE) :: (lb, rowObj late nL) :: (lw, listOf wv nw) :: (131, tabObj ps1) :: (138, tabObj ps2) :: (L + 1, o1) :: led P c piles late ∧ TriplesOk ps1.toList ∧ TriplesOk ps2.toList ∧ AllBare g ∧ (∀ q ∈ piles, q ∈ late) ∧
    (∀ q ∈ late, i ≤ q.r % 2 ^ c.S → q ∈ piles) ∧ ∀ p ∈ ps, m₁ p.1 = some p.2
section
variable {P : Params} {c : Cfg} {L la lb lw it : Addr} {o1 o2 : Obj} {v1 v2 : Option Value} {wv : Array Value} {nw : Nat} {ps1 ps2 : Array Value} {early late piles : List Dat} {nE nL : Nat} {x1 x2 : Int} {h₀ h : Heap}
theorem apart2 {news : List (Addr × Obj)} (N : News h₀ L h news) (hin : ∀ p ∈ L2 P c L la lb lw o1 o2 wv nw ps1 ps2 early late nE nL piles, p ∈ news) (ho1 : o1.data = .cell v1) (ho2 : o2.data = .cell v2) :
    (∀ p ∈ ((la, rowObj early nE) :: (lb, rowObj late nL) :: (lw, listOf wv nw) :: (131, tabObj ps1) :: (138, tabObj ps2) :: (L + 1, o1) :: led P c piles late), p.1 ≠ L + 2) ∧
    ((it, rngIt x1 x2) ∈ news → ∀ p ∈ L2 P c L la lb lw o1 o2 wv nw ps1 ps2 early late nE nL piles, p.1 ≠ it) := by
  refine ⟨fun p hp => ?_, fun hit p hp => ?_⟩
  · have hp' := hin p (.tail _ hp)
    have h2 := hin (L + 2, o2) (.head _)
    have go : kd p.2 ≠ 0 → p.1 ≠ L + 2 := fun h => News.kd N (o := p.2) hp' h2 (by rw [kd_cell ho2]; exact h)
    simp only [List.mem_cons] at hp
    rcases hp with rfl | rfl | rfl | rfl | rfl | rfl | hp
    · exact go (by rw [kd_row]; decide)
    · exact go (by rw [kd_row]; decide)
    · exact go (by rcases kd_list wv nw with e | e | e <;> rw [e] <;> decide)
    · exact go (by rw [kd_tab]; decide)
    · exact go (by rw [kd_tab]; decide)
    · exact Nat.ne_of_lt (Nat.lt_succ_self _)
    · exact go (by rcases led_kd hp with e | e | e | e <;> rw [e] <;> decide)
  · have hp' := hin p hp
    have go : kd p.2 ≠ 2 → p.1 ≠ it := fun h => News.kd N (o := p.2) hp' hit (by rw [kd_rng]; exact h)
    simp only [List.mem_cons] at hp
    rcases hp with rfl | rfl | rfl | rfl | rfl | rfl | rfl | hp
    · exact go (by rw [kd_cell ho2]; decide)
    · exact go (by rw [kd_row]; decide)
    · exact go (by rw [kd_row]; decide)
    · exact go (by rcases kd_list wv nw with e | e | e <;> rw [e] <;> decide)
    · exact News.fun N (o := tabObj ps1) hp' hit fun e => by injection e with e; cases e
    · exact News.fun N (o := tabObj ps2) hp' hit fun e => by injection e with e; cases e
    · exact go (by rw [kd_cell ho1]; decide)
    · exact go (by rcases led_kd hp with e | e | e | e <;> rw [e] <;> decide)
end
section
variable {w : World} {mean : ExcName → Option Value} {mg mb : Str → Option Value} {L a : Addr} {ccd : Value} {A₀ : Around} {h₀ : Heap} {m : Str → Option Value} {news : List (Addr × Obj)} {s : Shared} {Q : Flow → Shared → Prop} {E : Value → Shared → Prop}
set_option maxHeartbeats 700000 in
theorem turn2 {c : Cfg} (hc : c.Ok) (B : Below A₀ h₀ [] h₀) (X : (Mine.hd.heap_1 w.params).In h₀) (T : Top pz lz mean mg mb h₀)
    (hE : PassesOwn (model PySem.Challenge.rw_xh0019_01.row.prog w) (callerA.deeper (envOfC (Str.ofString "law") lawScope L a ccd)) (envOfC (Str.ofString "law") lawScope L a ccd) E)
    {la lb lw it : Addr} {o1 o2 : Obj} {wv : Array Value} {nw : Nat} {x1 x2 : Int} {sign tail : Str} {t1 t2 t3 t4 t5 t6 t7 t8 tw tr : Tok} {rs : Nat} {m₁ : Str → Option Value} {early late : List Dat} {nE nL : Nat} {ns : List (Addr × Obj)}
    (ho1 : o1.data = .cell (some (.int ((2 ^ c.S : Nat) : Int) tw))) (ho2 : o2.data = .cell (some (.int ((rs : Nat) : Int) tr))) (hrs : rs < 2 ^ c.S)
    (her : early.map Dat.r = rowL c.k c.st c.ct) (hlr : late.map Dat.r = rowR c.k c.st c.ct) (hel : ∀ q ∈ early, q ∈ late) (hok : ∀ q ∈ late, q.ok c) (hpw : late.Pairwise fun p q => p.x ≠ q.x) (hws : RowS wv (late.map fun q => c.wd q.r))
    (J : J2 w.params c L la lb lw o1 wv nw early late nE nL (lawPs2 c la lb lw sign tail t1 t2 t3 t4 t5 t6 t7 t8) rs m₁ ns s.gens) (F₁ : Fr h₀ L s.heap m₁) (N₁ : News h₀ L s.heap ((it, rngIt x1 x2) :: (L + 2, o2) :: ns)) (s₀ : Shared) (hs₀ : s.drawn = s₀.drawn ∧ s.os = s₀.os) :
    wpAny (model PySem.Challenge.rw_xh0019_01.row.prog w) (callerA.deeper (envOfC (Str.ofString "law") lawScope L a ccd)) (execs lawFor2 (envOfC (Str.ofString "law") lawScope L a ccd))
      (LpStep h₀ L s₀ it (rngIt x1 x2) Q (fun m ns' g => ∃ o' v' ns'', ns' = (L + 2, o') :: ns'' ∧ o'.data = .cell v' ∧ (∀ p ∈ ns'', p.1 ≠ L + 2) ∧ J2 w.params c L la lb lw o1 wv nw early late nE nL (lawPs2 c la lb lw sign tail t1 t2 t3 t4 t5 t6 t7 t8) (rs + 1) m ns'' g)) E s := by
  obtain ⟨ps1, ps2, piles, rfl, ht1, ht2, G, hps, hpl, hm⟩ := J
  obtain ⟨hrow1, hrow2, hrow3, hrow4, hrow5⟩ := hc.row rs hrs
  have hzE := len_rowL her
  have hzL := len_rowR hlr
  have hperm := rowR_perm c.k c.st c.ct
  have hnd : (late.map Dat.r).Nodup := by rw [hlr]; exact hperm.nodup_iff.mpr (List.nodup_range' 1 (by decide))
  have hmem : ∀ q ∈ late, q.r ∈ List.range' c.st c.ct := fun q hq => by
    have : q.r ∈ late.map Dat.r := List.mem_map_of_mem hq
    rw [hlr] at this
    exact hperm.mem_iff.mp this
  have hr16 : ∀ q ∈ late, q.r ≤ 16 := fun q hq => by
    have := hmem q hq
    rw [List.mem_range'_1] at this
    have := hc.st
    have := hc.ct13
    omega
  refine tn2a (s := s) hc B X T (la := la) (lb := lb) (lw := lw) (sign := sign) (tail := tail) (t1 := t1) (t2 := t2) (t3 := t3) (t4 := t4) (t5 := t5) (t6 := t6) (t7 := t7) (t8 := t8) (early := early) (late := late) (nE := nE) (nL := nL) ho2 hrs hm F₁ N₁ (.tail _ (.tail _ (.head _))) (.tail _ (.tail _ (.tail _ (.head _))))
    (fun q hq => ?_) (fun q hq => ?_) (.tail _ (.head _)) her hlr ?_
  · simp only [List.mem_cons]; exact .inr (.inr (.inr (.inr (.inr (.inr (.inr (.inr (led_ent (hel q hq)))))))))
  · simp only [List.mem_cons]; exact .inr (.inr (.inr (.inr (.inr (.inr (.inr (.inr (led_ent hq))))))))
  intro h2 tk2 m2 u1 u2 u3 u4 u5 hm2 F2 N2
  refine tn2b (s := ⟨_, _, _, _, _⟩) hc B X T (late := late) (nL := nL) ho1 ho2 hrs hm2 F2 N2 (.tail _ (.tail _ (.tail _ (.head _)))) (fun q hq => ?_) (.tail _ (.tail _ (.tail _ (.tail _ (.tail _ (.tail _ (.tail _ (.head _)))))))) (.tail _ (.head _)) hzL ⟨hrow2, hrow3⟩ (by rw [hlr]; exact hrow4) ?_
  · simp only [List.mem_cons]; exact .inr (.inr (.inr (.inr (.inr (.inr (.inr (.inr (led_ent hq))))))))
  intro h3 tk3 m3 hm3 F3 N3
  refine tn2c (s := ⟨_, _, _, _, _⟩) hc B X T (late := late) (wv := wv) (nw := nw) hrs hm3 F3 N3 (.tail _ (.tail _ (.tail _ (.tail _ (.head _))))) hws hzL (by rw [hlr]; exact up_rowR _ _ _) (by rw [hlr]; exact hrow1) (by rw [hlr]) ?_
  intro h4 tk4 m4 hm4 F4 N4
  refine tn2e (s := ⟨_, _, _, _, _⟩) hc B X T hE (early := early) (late := late) (nE := nE) (nL := nL) ho1 ho2 hrs hm4 F4 N4 ht1 ht2 G hzE hzL hel hnd hr16 hok hpw hps hpl ⟨hrow2, hrow3⟩ (by rw [hlr]; exact hrow4) hmem (by rw [her, hlr]; exact hrow5) ?_
  intro h5 tk5 g5 m5 ps5 ps6 piles5 hm5 F5 N5 ht5 ht6 G5 hps5 hpl5
  obtain ⟨ha1, ha2⟩ := apart2 (it := it) (x1 := x1) (x2 := x2) N5 (fun p hp => .tail _ hp) ho1 ho2
  obtain ⟨hd, ho⟩ := hs₀
  show LpStep _ _ _ _ _ _ _ _ ⟨h5, g5, s.drawn, tk5, s.os⟩
  rw [hd, ho]
  refine LpStep.go F5 N5 (ha2 (.head _)) ⟨o2, _, _, rfl, ho2, ha1, ps5, ps6, piles5, rfl, ht5, ht6, G5, hps5, hpl5, fun p hp => hm5 p ?_⟩
  exact .tail _ (.tail _ (.tail _ (.tail _ (.tail _ hp))))
end
end
section
local macro_rules | `(tactic| walk_at "mine pad") => `(tactic| skip)
section
variable {w : World} {mean : ExcName → Option Value} {mg mb : Str → Option Value} {L a : Addr} {ccd : Value} {A₀ : Around} {h₀ : Heap} {m : Str → Option Value} {news : List (Addr × Obj)} {s : Shared} {Q : Flow → Shared → Prop} {E : Value → Shared → Prop}
local macro_rules | `(tactic| k_all) => `(tactic| assumption)
set_option maxHeartbeats 700000 in
theorem law16 {c : Cfg} (hc : c.Ok) (B : Below A₀ h₀ [] h₀) (X : (Mine.hd.heap_1 w.params).In h₀) (T : Top pz lz mean mg mb h₀)
    (hE : PassesOwn (model PySem.Challenge.rw_xh0019_01.row.prog w) (callerA.deeper (envOfC (Str.ofString "law") lawScope L a ccd)) (envOfC (Str.ofString "law") lawScope L a ccd) E)
    {la lb lw : Addr} {o1 o2 : Obj} {wv : Array Value} {nw : Nat} {sign tail : Str} {sg : Nat} {t1 t2 t3 t4 t5 t6 t7 t8 tw : Tok} {v2 : Option Value} {m₁ : Str → Option Value} {early late : List Dat} {nE nL : Nat} {ps1 ps2 : Array Value}
    (ho1 : o1.data = .cell (some (.int ((2 ^ c.S : Nat) : Int) tw))) (ho2 : o2.data = .cell v2) (hsg : sign.cps.toList = [sg]) (hty : tail.length ≤ 10)
    (her : early.map Dat.r = rowL c.k c.st c.ct) (hlr : late.map Dat.r = rowR c.k c.st c.ct) (hel : ∀ q ∈ early, q ∈ late) (hok : ∀ q ∈ late, q.ok c) (hpw : late.Pairwise fun p q => p.x ≠ q.x) (hws : RowS wv (late.map fun q => c.wd q.r))
    (hm : ∀ p ∈ lawPs2 c la lb lw sign tail t1 t2 t3 t4 t5 t6 t7 t8, m₁ p.1 = some p.2) (F₁ : Fr h₀ L s.heap m₁) (N₁ : News h₀ L s.heap (L2 w.params c L la lb lw o1 o2 wv nw ps1 ps2 early late nE nL late)) (ht1 : TriplesOk ps1.toList) (ht2 : TriplesOk ps2.toList) (G : AllBare s.gens)
    (ret : ∀ h' tk' g' m' ps1 ps2, Fr h₀ L h' m' → News h₀ L h' [(131, tabObj ps1), (138, tabObj ps2)] → AllBare g' → Q (.ret (.bool true)) ⟨h', g', s.drawn, tk', s.os⟩) :
    wpAny (model PySem.Challenge.rw_xh0019_01.row.prog w) (callerA.deeper (envOfC (Str.ofString "law") lawScope L a ccd)) (execs (lawAt 16) (envOfC (Str.ofString "law") lawScope L a ccd)) Q E s := by
  obtain ⟨ha1, -⟩ := apart2 (it := 0) (x1 := 0) (x2 := 0) N₁ (fun p hp => hp) ho1 ho2
  have hm0 := hm
  have F₂ := Fr.ov (lawPs2 c la lb lw sign tail t1 t2 t3 t4 t5 t6 t7 t8) F₁ hm
  clear F₁ hm hm0
  have hW := hc.W48
  show wpAny _ (callerA.deeper (envOfC _ ⟨_, _, _, _, _⟩ _ _ _)) (execs (_ :: _) (envOfC _ ⟨_, _, _, _, _⟩ _ _ _)) _ _ _
  k_steps
  refine ⟨?_⟩
  rename Fr h₀ L _ _ => FB
  rename News h₀ L _ _ => NB
  refine range_loopC (n := 2 ^ c.S) (c := L + 2) (J2 w.params c L la lb lw o1 wv nw early late nE nL (lawPs2 c la lb lw sign tail t1 t2 t3 t4 t5 t6 t7 t8)) rfl (by assumption) (rng_small (by omega) (by omega)) (rng_size (by omega)) rfl rfl rfl hE FB NB ho2 ha1 ⟨ps1, ps2, late, rfl, ht1, ht2, G, fun _ h => h, fun _ h _ => h, ?_⟩ ?_ ?_
  · exact all_fr FB (by kernel_rfl)
  · intro i it m₂ ns h g tk t o hi hJ hne hitc hcn hd F₂ N₂
    rw [Int.zero_add] at hd
    exact turn2 (s := ⟨h, g, _, tk, _⟩) hc B X T hE ho1 hd hi her hlr hel hok hpw hws hJ F₂ N₂ _ ⟨rfl, rfl⟩
  · rintro m₂ ns h g tk o ⟨ps3, ps4, piles, rfl, ht3, ht4, G2, hps, hpl, hm2⟩ F₂ N₂
    refine tail_ok (s := ⟨h, g, _, tk, _⟩) B F₂ X N₂ T hE (hm2 _ (.tail _ (.tail _ (.tail _ (.tail _ (.head _)))))) (hm2 _ (.tail _ (.tail _ (.tail _ (.tail _ (.tail _ (.tail _ (.tail _ (.head _))))))))) (hm2 _ (.tail _ (.tail _ (.tail _ (.tail _ (.tail _ (.tail _ (.tail _ (.tail _ (.head _)))))))))) (by have := hc.st; omega) hsg hty ?_
    intro h' tk' m' F' N'
    refine ret _ _ _ _ ps3 ps4 F' (News.sub N' fun p hp => ?_) G2
    simp only [List.mem_cons, List.not_mem_nil, or_false] at hp ⊢
    rcases hp with h | h <;> first | ((repeat (first | with_reducible exact h | with_reducible exact Or.inl h | apply Or.inr)); done) | (simp [h]; done)
end
end
section
open PyProof.Rows.LCg PyProof.Rows.LCt
section
variable {w : World} {mean : ExcName → Option Value} {mg mb : Str → Option Value} {L a : Addr} {ccd : Value} {A₀ : Around} {h₀ : Heap} {m : Str → Option Value} {news : List (Addr × Obj)} {s : Shared} {Q : Flow → Shared → Prop} {E : Value → Shared → Prop}
local macro_rules | `(tactic| k_all) => `(tactic| assumption)
local macro_rules | `(tactic| walk_at "exec Assign cons ListComp") => `(tactic| (k_here; k_dflt (refine LCg.Assign_ListComp_U (F₀ := by k_asm) (by rfl) (by with_unfolding_all rfl) (by rfl) (by decide) (by rfl) (by decide) (by rfl) (by rfl) (by rfl) ?_)))
local macro_rules | `(tactic| walk_at "CompSrc") => `(tactic| refine Held.out ?_)
local macro_rules | `(tactic| walk_at "compareOp NotEq ref ref") => `(tactic| refine Held.out ?_)
local macro_rules | `(tactic| walk_at "call builtin:sorted") => `(tactic| refine Held.out ?_)
local macro_rules | `(tactic| walk_at "call ref") => `(tactic| refine Held.out ?_)
set_option maxHeartbeats 700000 in
theorem law14 {c : Cfg} (hc : c.Ok) (B : Below A₀ h₀ [] h₀) (X : (Mine.hd.heap_1 w.params).In h₀) (T : Top pz lz mean mg mb h₀)
    (hE : PassesOwn (model PySem.Challenge.rw_xh0019_01.row.prog w) (callerA.deeper (envOfC (Str.ofString "law") lawScope L a ccd)) (envOfC (Str.ofString "law") lawScope L a ccd) E)
    {la lb : Addr} {o1 o2 : Obj} {sign tail : Str} {sg : Nat} {t1 t2 t3 t4 t5 t6 t7 t8 tw : Tok} {v2 : Option Value} {m₁ : Str → Option Value} {early late : List Dat} {nE nL : Nat} {ps1 ps2 : Array Value}
    (ho1 : o1.data = .cell (some (.int ((2 ^ c.S : Nat) : Int) tw))) (ho2 : o2.data = .cell v2) (hsg : sign.cps.toList = [sg]) (hty : tail.length ≤ 10)
    (her : early.map Dat.r = rowL c.k c.st c.ct) (hlr : late.map Dat.r = rowR c.k c.st c.ct) (hel : ∀ q ∈ early, q ∈ late) (hok : ∀ q ∈ late, q.ok c) (hpw : late.Pairwise fun p q => p.x ≠ q.x)
    (hm : ∀ p ∈ lawPs c la lb sign tail t1 t2 t3 t4 t5 t6 t7 t8, m₁ p.1 = some p.2) (F₁ : Fr h₀ L s.heap m₁) (N₁ : News h₀ L s.heap (L1 w.params c la lb (L + 1) (L + 2) o1 o2 ps1 ps2 early late nE nL late late)) (ht1 : TriplesOk ps1.toList) (ht2 : TriplesOk ps2.toList) (G : AllBare s.gens)
    (ret : ∀ h' tk' g' m' ps1 ps2, Fr h₀ L h' m' → News h₀ L h' [(131, tabObj ps1), (138, tabObj ps2)] → AllBare g' → Q (.ret (.bool true)) ⟨h', g', s.drawn, tk', s.os⟩) :
    wpAny (model PySem.Challenge.rw_xh0019_01.row.prog w) (callerA.deeper (envOfC (Str.ofString "law") lawScope L a ccd)) (execs (lawAt 14) (envOfC (Str.ofString "law") lawScope L a ccd)) Q E s := by
  have F₂ := Fr.ov (lawPs c la lb sign tail t1 t2 t3 t4 t5 t6 t7 t8) F₁ hm
  clear F₁ hm
  have hzL := len_rowR hlr
  have hct := hc.ct13
  show wpAny _ (callerA.deeper (envOfC _ ⟨_, _, _, _, _⟩ _ _ _)) (execs (_ :: _) (envOfC _ ⟨_, _, _, _, _⟩ _ _ _)) _ _ _
  k_steps
  refine ⟨?_⟩
  rename Fr h₀ L _ _ => FB
  rename News h₀ L _ _ => NB
  refine LCg.CompSrc.ledger (its := (late.map Dat.ref).toArray) (k := nL) rfl FB NB (.tail _ (.head _)) (by rw [sizeLine_eq, List.size_toArray, List.length_map]; omega) fun g => ?_
  refine rest_U (fun i y => ∃ q t, late[i]? = some q ∧ y = .str (c.wd q.r) t) (late.map Dat.ref).toArray.size (.inr ⟨_, .tail _ (.head _), rfl, _, rfl⟩) ?_ _ 0 [] (Nat.zero_add _) ?_
  · intro i v I oI C oC D' ys m₂ h tk E' hi hP hC hx FC NC
    have hi' : i < late.length := by simpa using hi
    have hq : late[i]? = some late[i] := List.getElem?_eq_getElem hi'
    have hv : v = .ref late[i].e := by
      rw [List.getElem?_toArray, List.getElem?_map, hq] at hP
      exact (Option.some.inj hP).symm
    subst hv
    have hqm : late[i] ∈ late := List.getElem_mem hi'
    have hen : (late[i].e, listOf #[.int ((late[i].r : Nat) : Int) late[i].t8, .str (c.wd late[i].r) late[i].t9, .ref late[i].x, .int (c.go late[i].r) late[i].t10] 0) ∈ led w.params c late late := led_ent hqm
    generalize late[i] = q at *
    clear NB FB
    k_steps
    refine ⟨?_⟩
    have hen2 : (q.e, listOf #[.int ((q.r : Nat) : Int) q.t8, .str (c.wd q.r) q.t9, .ref q.x, .int (c.go q.r) q.t10] 0) ∈ ((I, oI) :: (C, oC) :: (D', lst ys) :: L1 w.params c la lb (L + 1) (L + 2) o1 o2 ps1 ps2 early late nE nL late late) := by
      simp only [List.mem_cons]
      exact .inr (.inr (.inr (.inr (.inr (.inr (.inr (.inr (.inr hen))))))))
    refine word_ok (s := ⟨_, _, _, _, _⟩) B FC X NC T rfl (Nat.le_of_ble_eq_true rfl) (Nat.le_of_ble_eq_true rfl) hen2 ?_
    intro h' tk' F' N'
    show ∃ _ _, _
    exact ⟨h', tk', rfl, F', N', q, _, hq, rfl⟩
  intro vs hl hv
  have hvs : StrsAre vs (late.map fun q => c.wd q.r) := strsAre_of _ _ (by rw [hl, List.size_toArray, List.length_map, List.length_map]) fun j hj => by
    obtain ⟨q, t, e1, e2⟩ := hv j hj
    rw [Nat.zero_add] at e1
    exact ⟨_, t, by rw [List.getElem?_map, e1]; rfl, e2⟩
  have hvl : vs.length = c.ct := by rw [hl, List.size_toArray, List.length_map, hzL]
  clear hv hl
  intro D h tk FD ND oD
  clear FB NB oD
  k_steps
  refine ⟨?_⟩
  rename Fr h₀ L _ _ => FB
  rename News h₀ L _ _ => NB
  refine sorted_N_str FB NB (News.isList NB (.head _)) (vs := [] ++ vs) hvs (by show vs.length < 64; omega) ?_
  intro h2 vs2 ss2 e2 F2 N2 hS2 hp2 hs2
  obtain rfl := sorted_same (row_le hc (by rw [hlr]; exact up_rowR _ _ _)) hp2 hs2
  clear FB NB hp2 hs2
  k_steps
  refine ⟨?_⟩
  rename Fr h₀ L _ _ => FB
  rename News h₀ L _ _ => NB
  refine ne_strs (xs := [] ++ vs) (ys := vs2) (News.isList NB (.tail _ (.head _))) (News.isList NB (.head _)) hvs hS2 (wds_ok hc late) (by ke_room) ?_
  iterate 4 walk1
  refine law16 (s := ⟨_, _, _, _, _⟩) (la := la) (lb := lb) (nE := nE) (nL := nL) (t1 := t1) (t2 := t2) (t3 := t3) (t4 := t4) (t5 := t5) (t6 := t6) (t7 := t7) (t8 := t8) hc B X T hE (lw := D) (wv := ([] ++ vs).toArray) (nw := ([] ++ vs).length) ho1 ho2 hsg hty her hlr hel hok hpw (rowS_of hvs) ?_ FB (News.sub NB fun p hp => ?_) ht1 ht2 G ret
  · exact all_fr FB (by kernel_rfl)
  · simp only [List.mem_cons] at hp ⊢
    rcases hp with h | h | h | h | h | h | h | h <;> first | ((repeat (first | with_reducible exact h | with_reducible exact Or.inl h | apply Or.inr)); done) | (simp [h]; done)
end
end
section
section
variable {w : World} {mean : ExcName → Option Value} {mg mb : Str → Option Value} {L a : Addr} {ccd : Value} {A₀ : Around} {h₀ : Heap} {m : Str → Option Value} {news : List (Addr × Obj)} {s : Shared} {Q : Flow → Shared → Prop} {E : Value → Shared → Prop}
/-- the law's names ahead of the rows -/
abbrev lawPs0 (c : Cfg) (sign tail : Str) (t1 t2 t3 t4 t5 t6 t7 t8 : Tok) : List (Str × Value) :=
  [(Str.ofString "steps", .int ((c.S : Nat) : Int) t1), (Str.ofString "factor", .int c.f t2), (Str.ofString "addend", .int c.ad t3), (Str.ofString "start", .int ((c.st : Nat) : Int) t4), (Str.ofString "count", .int ((c.ct : Nat) : Int) t5), (Str.ofString "first", .int c.fs t6), (Str.ofString "sign", .str sign t7), (Str.ofString "tail", .str tail t8)]
theorem two_named {a b : Nat} (h : a < b) : ∃ la lb : Nat, la ≠ lb ∧ la = a ∧ lb = b := ⟨a, b, Nat.ne_of_lt h, rfl, rfl⟩
local macro_rules | `(tactic| k_all) => `(tactic| assumption)
set_option maxHeartbeats 700000 in
theorem law11 {c : Cfg} (hc : c.Ok) (B : Below A₀ h₀ [] h₀) (X : (Mine.hd.heap_1 w.params).In h₀) (T : Top pz lz mean mg mb h₀)
    (hE : PassesOwn (model PySem.Challenge.rw_xh0019_01.row.prog w) (callerA.deeper (envOfC (Str.ofString "law") lawScope L a ccd)) (envOfC (Str.ofString "law") lawScope L a ccd) E)
    {o1 o2 : Obj} {sign tail : Str} {sg : Nat} {t1 t2 t3 t4 t5 t6 t7 t8 tw : Tok} {v2 : Option Value} {m₁ : Str → Option Value} {ps1 ps2 : Array Value}
    (ho1 : o1.data = .cell (some (.int ((2 ^ c.S : Nat) : Int) tw))) (ho2 : o2.data = .cell v2) (hsg : sign.cps.toList = [sg]) (hs34 : sg ≠ 34) (htl : pl tail.cps.toList = []) (hty : tail.length ≤ 10)
    (hm : ∀ p ∈ lawPs0 c sign tail t1 t2 t3 t4 t5 t6 t7 t8, m₁ p.1 = some p.2) (F₁ : Fr h₀ L s.heap m₁) (N₁ : News h₀ L s.heap [(131, tabObj ps1), (138, tabObj ps2), (L + 1, o1), (L + 2, o2)]) (ht1 : TriplesOk ps1.toList) (ht2 : TriplesOk ps2.toList) (G : AllBare s.gens)
    (ret : ∀ h' tk' g' m' ps1 ps2, Fr h₀ L h' m' → News h₀ L h' [(131, tabObj ps1), (138, tabObj ps2)] → AllBare g' → Q (.ret (.bool true)) ⟨h', g', s.drawn, tk', s.os⟩) :
    wpAny (model PySem.Challenge.rw_xh0019_01.row.prog w) (callerA.deeper (envOfC (Str.ofString "law") lawScope L a ccd)) (execs (lawAt 11) (envOfC (Str.ofString "law") lawScope L a ccd)) Q E s := by
  have F₂ := Fr.ov (lawPs0 c sign tail t1 t2 t3 t4 t5 t6 t7 t8) F₁ hm
  clear F₁ hm
  have hct := hc.ct13
  have hst := hc.st
  show wpAny _ (callerA.deeper (envOfC _ ⟨_, _, _, _, _⟩ _ _ _)) (execs (_ :: _) (envOfC _ ⟨_, _, _, _, _⟩ _ _ _)) _ _ _
  k_steps
  refine ⟨?_⟩
  rename Fr h₀ L _ _ => FB
  rename News h₀ L _ _ => NB
  rename _ < _ ∧ 131 < _ ∧ 138 < _ ∧ _ => lB
  obtain ⟨la, lb, hlab, e1, e2⟩ := two_named lB.1
  subst e1 e2
  have NC := News.sub NB (news' := L1 w.params c la lb (L + 1) (L + 2) o1 o2 ps1 ps2 [] [] 0 0 [] []) fun p hp => by
    simp only [List.mem_cons, List.not_mem_nil, or_false] at hp ⊢
    rcases hp with h | h | h | h | h | h | h
    · exact .inr (.inl h)
    · exact .inl h
    · first | ((repeat (first | with_reducible exact h | with_reducible exact Or.inl h | apply Or.inr)); done) | (simp [h]; done)
    · first | ((repeat (first | with_reducible exact h | with_reducible exact Or.inl h | apply Or.inr)); done) | (simp [h]; done)
    · first | ((repeat (first | with_reducible exact h | with_reducible exact Or.inl h | apply Or.inr)); done) | (simp [h]; done)
    · first | ((repeat (first | with_reducible exact h | with_reducible exact Or.inl h | apply Or.inr)); done) | (simp [h]; done)
    · cases h
  refine' range_loop (n := c.ct) (J1 w.params c la lb (L + 1) (L + 2) o1 o2 ps1 (lawPs c la lb sign tail t1 t2 t3 t4 t5 t6 t7 t8)) rfl (by assumption) ?sm ?sz rfl rfl hE FB NC ?hj ?_ ?_
  case sm => exact rng_small (by omega) (by omega)
  case sz => exact rng_size (by omega)
  case hj =>
    refine ⟨[], [], 0, 0, ps2, rfl, ht2, G, rfl, rfl, (fun _ h => nomatch h), (fun _ h => nomatch h), List.Pairwise.nil, ?_⟩
    exact all_fr FB (by kernel_rfl)
  · intro i it m₂ ns h g tk t hi hJ hne F₂ N₂
    exact turn1 (L := L) hc B X T hsg hs34 htl hty ho1 ho2 hlab hi hJ hne F₂ N₂
  · rintro m₂ ns h g tk ⟨early, late, nE, nL, ps3, rfl, ht3, G2, hlr, her, hel, hok, hpw, hm2⟩ F₂ N₂
    exact law14 (s := ⟨_, _, _, _, _⟩) hc B X T hE ho1 ho2 hsg hty her hlr hel hok hpw hm2 F₂ N₂ ht1 ht3 G2 ret
end
end
section
local macro_rules | `(tactic| walk_at "mine pad") => `(tactic| skip)
theorem all_frP {h₀ h : Heap} {L : Addr} {m : Str → Option Value} {l : List (Str × Value)} (_ : Fr h₀ L h m) (e : AllP m l) : ∀ p ∈ l, m p.1 = some p.2 := e.all
theorem top_z2 {L2 : List Str} {mean : ExcName → Option Value} {mg mb : Str → Option Value} {h : Heap} (T : Top topProg L2 mean mg mb h) (hs : ∀ x, x ∈ L2 → x ∈ lz) : Top pz lz mean mg mb h where
  g := T.g
  b := T.b
  nolimit := T.nolimit
  nodigits := T.nodigits
  fn := fun d hd => nomatch hd
  own := fun o ho => nomatch ho
  const := fun x d e => nomatch e
  free := fun x h1 h2 _ _ _ => T.free x h1 (fun m => h2 (hs x m)) (fun m => nomatch m) (fun m => nomatch m) (fun m => nomatch m)
  builtins := T.builtins
  tab := fun d hd => nomatch hd
  bmain := T.bmain
  seer := fun hi => nomatch (show importsNone pz = false from by decide +kernel) ▸ hi
theorem lz_mem (x : Str) (h : x ∈ loo ++ (recsOf view0).map (·.name) ++ (litsOf view0).map (·.1) ++ (clssOf view0 loo).map (·.name)) : x ∈ lz := by
  unfold lz
  simp only [List.mem_append] at h ⊢
  rcases h with ((h | h) | h) | h <;> simp [h]
theorem ints_at {vs : List Value} {ns : List Int} (h : IntsAre vs ns) : ∀ i, i < vs.toArray.size → ∃ k t, vs.toArray[i]? = some (.int k t) := by
  induction h with
  | nil => intro i hi; exact absurd hi (by simp)
  | cons k t _ ih =>
    intro i hi
    cases i with
    | zero => exact ⟨k, t, rfl⟩
    | succ i =>
      obtain ⟨k', t', e⟩ := ih i (by simpa using hi)
      exact ⟨k', t', by simpa using e⟩
theorem ints_len {vs : List Value} {ns : List Int} (h : IntsAre vs ns) : vs.length = ns.length := by
  induction h with
  | nil => rfl
  | cons k t _ ih => simp [ih]
theorem ints_size {vs : List Value} {ns : List Int} (h : IntsAre vs ns) (hn : ¬ ((63 : Nat) : Int) < ((ns.length : Nat) : Int)) : vs.toArray.size ≤ 63 := by
  rw [List.size_toArray, ints_len h]
  omega
section
variable {prog : Program} {w : World} {M : Model} {A : Around} {E : Value → Shared → Prop} {s : Shared} {h₀ : Heap} {L l : Addr} {news : List (Addr × Obj)}
theorem pick_int3 {value slice : PySem.Expr} {a b c k : Int} {ta tb tc u : Tok} {n : Nat} {Q : Value → Shared → Prop} (N : News h₀ L s.heap news) (hm : (l, listOf #[.int a ta, .int b tb, .int c tc] n) ∈ news) (h0 : 0 ≤ k) (h1 : k < 3)
    (h : ∀ v t, Held (v = a ∨ v = b ∨ v = c) → Q (.int v t) s)
    (hs : subscripted slice false (.ref l) (.int k u) = operate [.ref l, .int k u] (getItem (.ref l) (.int k u)) := by with_unfolding_all rfl) : wpAny (model prog w) A (subscriptTail value slice (.ref l) (.int k u)) Q E s := by
  have hk : k = 0 ∨ k = 1 ∨ k = 2 := by omega
  rcases hk with rfl | rfl | rfl
  · exact item_N N hm (by decide) (by decide) rfl (h _ _ ⟨(.inl rfl)⟩) hs
  · exact item_N N hm (by decide) (by decide) rfl (h _ _ ⟨(.inr (.inl rfl))⟩) hs
  · exact item_N N hm (by decide) (by decide) rfl (h _ _ ⟨(.inr (.inr rfl))⟩) hs
theorem pick_str4 {value slice : PySem.Expr} {a b c d : Str} {k : Int} {ta tb tc td u : Tok} {n : Nat} {Q : Value → Shared → Prop} (N : News h₀ L s.heap news) (hm : (l, listOf #[.str a ta, .str b tb, .str c tc, .str d td] n) ∈ news) (h0 : 0 ≤ k) (h1 : k < 4)
    (h : ∀ v t, Held (v = a ∨ v = b ∨ v = c ∨ v = d) → Q (.str v t) s)
    (hs : subscripted slice false (.ref l) (.int k u) = operate [.ref l, .int k u] (getItem (.ref l) (.int k u)) := by with_unfolding_all rfl) : wpAny (model prog w) A (subscriptTail value slice (.ref l) (.int k u)) Q E s := by
  have hk : k = 0 ∨ k = 1 ∨ k = 2 ∨ k = 3 := by omega
  rcases hk with rfl | rfl | rfl | rfl
  · exact item_N N hm (by decide) (by decide) rfl (h _ _ ⟨(.inl rfl)⟩) hs
  · exact item_N N hm (by decide) (by decide) rfl (h _ _ ⟨(.inr (.inl rfl))⟩) hs
  · exact item_N N hm (by decide) (by decide) rfl (h _ _ ⟨(.inr (.inr (.inl rfl)))⟩) hs
  · exact item_N N hm (by decide) (by decide) rfl (h _ _ ⟨(.inr (.inr (.inr rfl)))⟩) hs
theorem st_abs {env : Env} {x : Str} {e : Int} {t : Tok} {Q : Unit → Shared → Prop} (P : Int → Prop) (hp : P e) (h : ∀ v, P v → wpAny M A (storeName env x (.int v t)) Q E s) : wpAny M A (storeName env x (.int e t)) Q E s := h e hp
theorem st_absS {env : Env} {x : Str} {e : Str} {t : Tok} {Q : Unit → Shared → Prop} (P : Str → Prop) (hp : P e) (h : ∀ v, P v → wpAny M A (storeName env x (.str v t)) Q E s) : wpAny M A (storeName env x (.str e t)) Q E s := h e hp
theorem fm_b (y : Int) {k : Int} (hk : 0 < k) : 0 ≤ y.fmod k ∧ y.fmod k < k := ⟨Int.fmod_nonneg_of_pos _ hk, Int.fmod_lt_of_pos _ hk⟩
theorem pf_S (y : Int) : ∃ n : Nat, 2 + y.fmod 2 = ((n : Nat) : Int) ∧ (n = 2 ∨ n = 3) := by have := fm_b y (k := 2) (by decide); exact ⟨(2 + y.fmod 2).toNat, by omega, by omega⟩
theorem pf_f (y : Int) : 1 + 2 * y.fmod 2 = 1 ∨ 1 + 2 * y.fmod 2 = 3 := by have := fm_b y (k := 2) (by decide); omega
theorem pf_a (y : Int) : 2 * y.fmod 4 - 1 = -1 ∨ 2 * y.fmod 4 - 1 = 1 ∨ 2 * y.fmod 4 - 1 = 3 ∨ 2 * y.fmod 4 - 1 = 5 := by have := fm_b y (k := 4) (by decide); omega
theorem pf_s (y : Int) : ∃ n : Nat, y.fmod 5 = ((n : Nat) : Int) ∧ n ≤ 4 := by have := fm_b y (k := 5) (by decide); exact ⟨(y.fmod 5).toNat, by omega, by omega⟩
theorem pf_3 (y : Int) : 0 ≤ y.fmod 3 ∧ y.fmod 3 ≤ 2 := by have := fm_b y (k := 3) (by decide); omega
theorem pf_l (y : Int) : 0 ≤ y.fmod 1000 ∧ y.fmod 1000 ≤ 999 := by have := fm_b y (k := 1000) (by decide); omega
theorem pf_c {v : Int} {W : Nat} (h : Held (v = 5 ∨ v = 1 ∨ v = 2)) : ∃ n : Nat, ((W : Nat) : Int) + v = ((n : Nat) : Int) ∧ (n = W + 5 ∨ n = W + 1 ∨ n = W + 2) := by
  rcases h.out with rfl | rfl | rfl
  · exact ⟨W + 5, rfl, .inl rfl⟩
  · exact ⟨W + 1, rfl, .inr (.inl rfl)⟩
  · exact ⟨W + 2, rfl, .inr (.inr rfl)⟩
theorem pow_cases {S : Nat} : (2 : Int) ^ (((S : Nat) : Int)).toNat = ((2 ^ S : Nat) : Int) := by
  rw [Int.toNat_natCast]
  push_cast; rfl
theorem tail_is {v sign : Str} {sg : Nat} (hsg : sign.cps.toList = [sg]) (hs : sg ≠ 34) (h : Held (v = Str.ofString "\"" ∨ v = Str.ofString "" ∨ v = Str.ofString "\" made" ∨ v = Str.ofString "\"" ++ sign ++ Str.ofString "\"\"")) : pl v.cps.toList = [] ∧ v.length ≤ 10 := by
  rcases h.out with rfl | rfl | rfl | rfl
  · exact ⟨by decide +kernel, by decide +kernel⟩
  · exact ⟨by decide +kernel, by decide +kernel⟩
  · exact ⟨by decide +kernel, by decide +kernel⟩
  · have e1 : (Str.ofString "\"").cps.toList = [34] := by decide +kernel
    have e2 : (Str.ofString "\"\"").cps.toList = [34, 34] := by decide +kernel
    have e : (Str.ofString "\"" ++ sign ++ Str.ofString "\"\"").cps.toList = 34 :: sg :: [34, 34] := by rw [cat_l, cat_l, hsg, e1, e2]; rfl
    refine ⟨by rw [e]; exact pl_stop hs _, ?_⟩
    rw [len_l, e]
    simp
theorem post_true (a : WData) : PySem.Challenge.rw_xh0019_01.row.claim.post [a] (.bool true) [a] = true := by
  first | with_unfolding_all rfl | kernel_rfl | decide
theorem cfg_mem {S : Nat} {f ad : Int} (h1 : S = 2 ∨ S = 3) (h2 : f = 1 ∨ f = 3) (h3 : ad = -1 ∨ ad = 1 ∨ ad = 3 ∨ ad = 5) : (S, f, ad) ∈ Sf := by
  rcases h1 with rfl | rfl <;> rcases h2 with rfl | rfl <;> rcases h3 with rfl | rfl | rfl | rfl <;> decide
theorem int_join {t : Sem Value} {Q : Value → Shared → Prop} (P : Int → Prop) (h1 : wpAny M A t (fun v s' => ∃ k u tk, v = .int k u ∧ s' = { s with toks := tk } ∧ P k) E s) (h2 : ∀ k u tk, P k → Q (.int k u) { s with toks := tk }) : wpAny M A t Q E s :=
  wpAny_mono h1 (fun v s' ⟨k, u, tk, e1, e2, hp⟩ => e1 ▸ e2 ▸ h2 k u tk hp) fun _ _ e => e
end
local macro_rules | `(tactic| k_all) => `(tactic| assumption)
local macro_rules | `(tactic| walk_at "mine std") => `(tactic| ((case B | F | X | N | T => k_asm); (case hk => first | assumption | exact rfl); (case hd | hu => exact Nat.le_of_ble_eq_true rfl)))
local macro_rules | `(tactic| walk_at "call ref") => `(tactic| (k_here; k_dflt (refine' cells_ok ?B ?F ?X ?N ?T ?hk ?hd ?hu ?hS ?hz ?hi ?_; walk_at "mine std"; (case hS | hz | hi => assumption); k_whole); intro h' tk' l' c0' c1' c2' c3' t0' t1' t2' t3' n' F' N' l1'))
local macro_rules | `(tactic| walk_at "subscriptTail") => `(tactic| (k_here; k_dflt (refine' pick_int3 ?N ?m ?a ?b ?_; (case N => k_asm); (case m => k_mem); (case a => exact Int.fmod_nonneg_of_pos _ (by decide)); (case b => exact Int.fmod_lt_of_pos _ (by decide)); k_whole); intro v' t' hv'))
local macro_rules | `(tactic| walk_at "subscriptTail") => `(tactic| (k_here; k_dflt (refine' pick_str4 ?N ?m ?a ?b ?_; (case N => k_asm); (case m => k_mem); (case a => exact Int.fmod_nonneg_of_pos _ (by decide)); (case b => exact Int.fmod_lt_of_pos _ (by decide)); k_whole); intro v' t' hv'))
local macro_rules | `(tactic| walk_at "binaryOp Add str str") => `(tactic| ((with_reducible show wpAny _ _ (binaryOp _ (Value.str _ _) (Value.str _ _)) _ _ _); refine add_N (by with_reducible assumption) ?_; intro t' tk'))
local macro_rules | `(tactic| walk_at "eval IfExp") => `(tactic| ((fail_if_success (rename Held (1 = 1) => mk')); refine Held.out ?_))
/-- a store at which the walk stops, so that the value may be given a short name -/
local macro_rules | `(tactic| walk_at "storeName") => `(tactic| ((fail_if_success (rename Held True => mk')); (with_reducible show wpAny _ _ (storeName _ _ (Value.str _ _)) _ _ _); refine Held.out ?_))
local macro_rules | `(tactic| walk_at "storeName") => `(tactic| ((fail_if_success (rename Held True => mk')); (with_reducible show wpAny _ _ (storeName _ _ (Value.int _ _)) _ _ _); refine Held.out ?_))
/-- the kit's rule for a list of statements looks ahead and hangs here -/
local macro_rules | `(tactic| walk_at "execs cons") => `(tactic| ((with_reducible rename Held (0 = 0) => mkE'); refine wpAny_execs_cons ?_))
set_option maxHeartbeats 8000000 in
theorem law_main : PySem.Challenge.rw_xh0019_01.Holds := by
  w_on; refine holds_law said0 fun said => ?_
  refine holds_open (q := view0) (loose := loos) (Xt := fun s => xlAt view0 [] s && recOk [] s) (XP := XL view0 []) (Yf := Hook.obs hk0) (Ya := Hook.val hk0) (YP := Hook.says hk0) (N := 3010) left0 (Hook.of hk0) (Hook.keeps hk0) (fun s e => xl_of s (Bool.and_eq_true_iff.mp e).1) XL.keeps (by rfl) (by rfl) (by rfl) (fun s e => recFacts_of (Bool.and_eq_true_iff.mp e).2) (by rfl) (by first | assumption | decide +kernel) (by decide +kernel) ⟨rfl, rfl, rfl, rfl, rfl, by decide +kernel⟩ ?hw ?hc
  case hw => w_witness2
  intro w s₀ s₁ mg mb G Y fa o pm cd doc dV kV ho hd hcd hD hmg hg args vals as hpre hlay hrd hwl hlo
  have KX := km_in_of Y
  have hT8 := km_tabs_of Y
  have X := (Ground.X G).1
  have V := (Ground.X G).2
  refine Ground.open G ?_
  intro T B D TE TW
  try (refine guard_noD D (by decide +kernel) ?_; clear D)
  have hT9 : TabsAt [(135, 131), (142, 138)] s₁.heap := List.forall_mem_cons.mpr ⟨⟨codeHd_of_K (c := 135) (P := 131) KX (by kernel_rfl), hT8 131 (by k_mem)⟩, List.forall_mem_cons.mpr ⟨⟨codeHd_of_K (c := 142) (P := 138) KX (by kernel_rfl), hT8 138 (by k_mem)⟩, fun _ h => nomatch h⟩⟩
  clear hmg
  wrow_args hpre hlay hrd hwl hlo
  all_goals (first | refine callC_kw (enter_call ?_) | refine enter_call ?_)
  w_top off
  refine Mine.postX hT9 ?_
  w_call any ho hd hcd hD T F
  clear hd
  kn_ghosts F T
  k_drop
  clear ho G Y hT8 V B TE TW hD hcd said X
  rename Top _ _ _ _ _ _ => T0
  have T9 := top_z2 T0 lz_mem
  clear T0
  rename CodeHd _ _ _ => cH1
  clear cH1
  rename CodeHd _ _ _ => cH1
  clear cH1
  rename IntsAre _ _ => hI
  rename Obj.data _ = Data.cell (bindC _ _ _ (Str.ofString "rest")) => hrest
  have hi9 := ints_at hI
  have hz9 := ints_size hI (by assumption)
  k_steps
  refine ⟨?_⟩
  refine st_abs (fun v => ∃ n : Nat, v = ((n : Nat) : Int) ∧ (n = 2 ∨ n = 3)) (pf_S _) ?_
  rintro _ ⟨S, rfl, hS⟩
  have mk0 : Held True := ⟨trivial⟩
  walk1
  clear mk0
  k_steps
  refine ⟨?_⟩
  refine st_abs (fun v => v = 1 ∨ v = 3) (pf_f _) ?_
  intro f hf
  have mk0 : Held True := ⟨trivial⟩
  walk1
  clear mk0
  k_steps
  refine ⟨?_⟩
  refine st_abs (fun v => v = -1 ∨ v = 1 ∨ v = 3 ∨ v = 5) (pf_a _) ?_
  intro ad had
  have mk0 : Held True := ⟨trivial⟩
  walk1
  clear mk0
  k_steps
  refine ⟨?_⟩
  refine st_abs (fun v => v = ((2 ^ S : Nat) : Int)) pow_cases ?_
  rintro _ rfl
  have mk0 : Held True := ⟨trivial⟩
  walk1
  clear mk0
  k_steps
  refine ⟨?_⟩
  refine st_abs (fun v => ∃ n : Nat, v = ((n : Nat) : Int) ∧ n ≤ 4) (pf_s _) ?_
  rintro _ ⟨st, rfl, hst⟩
  have mk0 : Held True := ⟨trivial⟩
  walk1
  clear mk0
  k_steps
  refine ⟨?_⟩
  refine st_abs (fun v => ∃ n : Nat, v = ((n : Nat) : Int) ∧ (n = 2 ^ S + 5 ∨ n = 2 ^ S + 1 ∨ n = 2 ^ S + 2)) (pf_c (by assumption)) ?_
  rintro _ ⟨ct, rfl, hct⟩
  have mk0 : Held True := ⟨trivial⟩
  walk1
  clear mk0
  have mkE : Held (0 = 0) := ⟨rfl⟩
  k_steps
  refine ⟨?_⟩
  refine st_abs (fun v => 0 ≤ v ∧ v ≤ 2) (pf_3 _) ?_
  intro fs hfs
  have mk0 : Held True := ⟨trivial⟩
  walk1
  clear mk0
  k_steps
  refine ⟨?_⟩
  refine st_abs (fun v => 0 ≤ v ∧ v ≤ 999) (pf_l _) ?_
  intro lt hlt
  have mk0 : Held True := ⟨trivial⟩
  walk1
  clear mk0
  k_steps
  refine ⟨?_⟩
  refine int_join (fun v => 0 ≤ v ∧ v ≤ 1000 ∧ v ≠ 34) ?_ ?_
  · have mk1 : Held (1 = 1) := ⟨rfl⟩
    k_steps
    · decide
    · assumption
  intro lt2 u9 tk9 hlt2
  k_steps
  refine ⟨?_⟩
  refine st_absS (fun v => ∃ sg : Nat, v.cps.toList = [sg] ∧ sg ≠ 34) ⟨lt2.toNat, rfl, by omega⟩ ?_
  rintro sign ⟨sg, hsg, hs34⟩
  have mk0 : Held True := ⟨trivial⟩
  walk1
  clear mk0
  have sl1 : sign.length = 1 := by rw [len_l, hsg]; rfl
  have ql1 : (Str.ofString "\"").length = 1 := by decide +kernel
  have ql2 : (Str.ofString "\"\"").length = 2 := by decide +kernel
  have sl2 : (Str.ofString "\"" ++ sign).length ≤ 1000 := by rw [Str.length_append, sl1, ql1]; decide
  have sl3 : (Str.ofString "\"" ++ sign ++ Str.ofString "\"\"").length ≤ 1000 := by rw [Str.length_append, Str.length_append, sl1, ql1, ql2]; decide
  clear sl1 ql1 ql2
  k_steps
  refine ⟨?_⟩
  refine st_absS (fun v => pl v.cps.toList = [] ∧ v.length ≤ 10) (tail_is hsg hs34 (by assumption)) ?_
  intro tail htail
  have mk0 : Held True := ⟨trivial⟩
  walk1
  clear mk0
  rename News _ _ _ _ => NB
  rename Fr _ _ _ _ => FB
  refine' law11 (c := ⟨S, f, ad, st, ct, fs⟩) (s := ⟨_, _, _, _, _⟩) (ps1 := #[]) (ps2 := #[]) ⟨cfg_mem hS hf had, hst, hct, hfs⟩ (by assumption) (by assumption) T9 ?hE ?ho1 ?ho2 hsg hs34 htail.1 htail.2 ?hm FB (News.sub NB fun p hp => ?hN) ?t1 ?t2 ?G ?ret
  case ho1 => assumption
  case ho2 => exact hrest
  case hE => first | passes_own | walk1
  case hm =>
    exact all_frP FB ⟨rfl, rfl, rfl, rfl, rfl, rfl, rfl, rfl, trivial⟩
  case hN =>
    simp only [List.mem_cons, List.not_mem_nil, or_false, List.mem_append, List.cons_append, List.nil_append] at hp ⊢
    rcases hp with h | h | h | h <;> first | ((repeat (first | with_reducible exact h | with_reducible exact Or.inl h | apply Or.inr)); done) | (simp [h]; done)
  case t1 => exact trivial
  case t2 => exact trivial
  case G => exact AllBare.of_eq (by assumption)
  case ret =>
    intro h' tk' g' m' ps1 ps2 F' N' G'
    refine ⟨⟨true, rfl, fun _ => rfl, post_true _⟩, F'.keep, ?_, rfl, G'⟩
    exact ⟨GrownAt.of N' (.head _), GrownAt.of N' (.tail _ (.head _)), trivial⟩
end
end Mine
theorem PySem.Challenge.cw_xh0019_01_holds : PySem.Challenge.rw_xh0019_01.Holds :=
  Mine.law_main
