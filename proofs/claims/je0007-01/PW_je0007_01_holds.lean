import PyProof.Rows.All
import Wide.All
import OpenK.AllK
import Wide.FinOn
import PyProof.SetKind
import KE.LcTurns
import PySem.Challenge.RW_je0007_01
set_option Elab.async false
set_option compiler.extract_closed false
set_option linter.unusedVariables false
set_option linter.unusedSimpArgs false
set_option linter.unnecessarySimpa false
section -- HeadA
open PySem PySem.W PyProof.Rows
set_option maxRecDepth 100000
namespace Mine
def top (i : Nat) : Option Stmt := PySem.Challenge.pw_je0007_01.main.body[i]?
def mem (j : Nat) : Option Stmt → Option Stmt
  | some (.ClassDef _ _ _ b _ _ _ _ _ _ _) => b[j]?
  | _ => none
def fnOf : Option Stmt → Option (Arguments × List Stmt × Scope)
  | some (.FunctionDef _ a b _ _ _ s _ _ _) => some (a, b, s)
  | _ => none
def fnD (x : Option Stmt) : Arguments × List Stmt × Scope := match fnOf x with
  | some y => y
  | none => default
noncomputable def o2 : Params → Obj := fun P => (Obj.mk Value.none none (Data.dict ⟨[(DictEntry.mk (PyData.keyHash P (Str.ofString "type.__subclasses__.Exception.0")) (Value.str (Str.ofString "type.__subclasses__.Exception.0") 425) (Value.int 174 0)), (DictEntry.mk (PyData.keyHash P (Str.ofString "type.__subclasses__.Exception.n")) (Value.str (Str.ofString "type.__subclasses__.Exception.n") 426) (Value.int 1 0))]⟩ 2) ⟨[]⟩)
noncomputable def o3 : Params → Obj := fun P => (Obj.mk (Value.type "dict") none (Data.dict ⟨[(DictEntry.mk (PyData.keyHash P (Str.ofString "__name__")) (Value.str (Str.ofString "__name__") 165) (Value.str (Str.ofString "law_je0007_01") 672)), (DictEntry.mk (PyData.keyHash P (Str.ofString "__doc__")) (Value.str (Str.ofString "__doc__") 166) Value.none), (DictEntry.mk (PyData.keyHash P (Str.ofString "__package__")) (Value.str (Str.ofString "__package__") 167) Value.none), (DictEntry.mk (PyData.keyHash P (Str.ofString "__loader__")) (Value.str (Str.ofString "__loader__") 168) (Value.builtin "__main__.__loader__#opaque")), (DictEntry.mk (PyData.keyHash P (Str.ofString "__spec__")) (Value.str (Str.ofString "__spec__") 169) Value.none), (DictEntry.mk (PyData.keyHash P (Str.ofString "__annotations__")) (Value.str (Str.ofString "__annotations__") 170) (Value.ref 6)), (DictEntry.mk (PyData.keyHash P (Str.ofString "__builtins__")) (Value.str (Str.ofString "__builtins__") 171) (Value.ref 4)), (DictEntry.mk (PyData.keyHash P (Str.ofString "__file__")) (Value.str (Str.ofString "__file__") 173) (Value.str (Str.ofString "/claim/cut.py") 172)), (DictEntry.mk (PyData.keyHash P (Str.ofString "__cached__")) (Value.str (Str.ofString "__cached__") 174) Value.none), (DictEntry.mk (PyData.keyHash P (Str.ofString "_wall")) (Value.str (Str.ofString "_wall") 193) (Value.ref 21)), (DictEntry.mk (PyData.keyHash P (Str.ofString "pretty_message")) (Value.str (Str.ofString "pretty_message") 203) (Value.ref 28)), (DictEntry.mk (PyData.keyHash P (Str.ofString "type_name")) (Value.str (Str.ofString "type_name") 212) (Value.ref 35)), (DictEntry.mk (PyData.keyHash P (Str.ofString "Native")) (Value.str (Str.ofString "Native") 241) (Value.ref 52)), (DictEntry.mk (PyData.keyHash P (Str.ofString "Name")) (Value.str (Str.ofString "Name") 288) (Value.ref 87)), (DictEntry.mk (PyData.keyHash P (Str.ofString "Key")) (Value.str (Str.ofString "Key") 318) (Value.ref 108)), (DictEntry.mk (PyData.keyHash P (Str.ofString "Certificate")) (Value.str (Str.ofString "Certificate") 406) (Value.ref 160)), (DictEntry.mk (PyData.keyHash P (Str.ofString "ValidationError")) (Value.str (Str.ofString "ValidationError") 428) (Value.ref 174)), (DictEntry.mk (PyData.keyHash P (Str.ofString "PathValidationError")) (Value.str (Str.ofString "PathValidationError") 444) (Value.ref 187)), (DictEntry.mk (PyData.keyHash P (Str.ofString "InvalidCertificateError")) (Value.str (Str.ofString "InvalidCertificateError") 460) (Value.ref 199)), (DictEntry.mk (PyData.keyHash P (Str.ofString "CertificateRegistry")) (Value.str (Str.ofString "CertificateRegistry") 571) (Value.ref 276)), (DictEntry.mk (PyData.keyHash P (Str.ofString "ValidationContext")) (Value.str (Str.ofString "ValidationContext") 653) (Value.ref 326)), (DictEntry.mk (PyData.keyHash P (Str.ofString "validate_usage")) (Value.str (Str.ofString "validate_usage") 671) (Value.ref 337)), (DictEntry.mk (PyData.keyHash P (Str.ofString "law")) (Value.str (Str.ofString "law") 679) (Value.ref 342))]⟩ 23) ⟨[]⟩)
noncomputable def o27 : Params → Obj := fun _ => (Obj.mk (Value.type "code") none (Data.fields ⟨[(Value.str (Str.ofString "pretty_message") 196), (Value.str (Str.ofString "pretty_message") 197), (Value.str (Str.ofString "/claim/cut.py") 198), (Value.int 5 0), (Value.int 1 0), (Value.int 0 0), (Value.int 0 0), (Value.int 7 0), (Value.ref 22), (Value.bool true), (Value.int 181 0), (Value.ref 23), Value.none, (Value.ref 24), (Value.ref 25), (Value.ref 26), (Value.int 201 0), (Value.int 5 0), (Value.str (Str.ofString "/claim/cut.py") 202)]⟩) ⟨[]⟩)
noncomputable def o28 : Params → Obj := (fun (a : Arguments) (b : List Stmt) (s : Scope) (_ : some (a, b, s) = fnOf (top 2)) => fun _ => (Obj.mk (Value.type "function") none (Data.func (FuncData.mk (Str.ofString "pretty_message") (Str.ofString "pretty_message") a (FuncBody.stmts b) s 3 [] Value.none Value.none Value.none (Value.str (Str.ofString "certvalidator._errors") 194) none (Value.ref 27) Value.none 0)) ⟨[]⟩)) _ _ _ rfl
noncomputable def r28 : Params → Obj := fun _ => (Obj.mk (Value.type "function") none (Data.func (FuncData.mk (Str.ofString "pretty_message") (Str.ofString "pretty_message") (fnD (top 2)).1 (FuncBody.stmts (fnD (top 2)).2.1) (fnD (top 2)).2.2 3 [] Value.none Value.none Value.none (Value.str (Str.ofString "certvalidator._errors") 194) none (Value.ref 27) Value.none 0)) ⟨[]⟩)
noncomputable def o34 : Params → Obj := fun _ => (Obj.mk (Value.type "code") none (Data.fields ⟨[(Value.str (Str.ofString "type_name") 206), (Value.str (Str.ofString "type_name") 207), (Value.str (Str.ofString "/claim/cut.py") 208), (Value.int 8 0), (Value.int 1 0), (Value.int 0 0), (Value.int 0 0), (Value.int 3 0), (Value.ref 29), (Value.bool true), (Value.int 181 0), (Value.ref 30), Value.none, (Value.ref 31), (Value.ref 32), (Value.ref 33), (Value.int 210 0), (Value.int 8 0), (Value.str (Str.ofString "/claim/cut.py") 211)]⟩) ⟨[]⟩)
noncomputable def o35 : Params → Obj := (fun (a : Arguments) (b : List Stmt) (s : Scope) (_ : some (a, b, s) = fnOf (top 4)) => fun _ => (Obj.mk (Value.type "function") none (Data.func (FuncData.mk (Str.ofString "type_name") (Str.ofString "type_name") a (FuncBody.stmts b) s 3 [] Value.none Value.none Value.none (Value.str (Str.ofString "certvalidator._types") 204) none (Value.ref 34) Value.none 0)) ⟨[]⟩)) _ _ _ rfl
noncomputable def r35 : Params → Obj := fun _ => (Obj.mk (Value.type "function") none (Data.func (FuncData.mk (Str.ofString "type_name") (Str.ofString "type_name") (fnD (top 4)).1 (FuncBody.stmts (fnD (top 4)).2.1) (fnD (top 4)).2.2 3 [] Value.none Value.none Value.none (Value.str (Str.ofString "certvalidator._types") 204) none (Value.ref 34) Value.none 0)) ⟨[]⟩)
noncomputable def o48 : Params → Obj := fun _ => (Obj.mk (Value.type "code") none (Data.fields ⟨[(Value.str (Str.ofString "__init__") 225), (Value.str (Str.ofString "Native.__init__") 226), (Value.str (Str.ofString "/claim/cut.py") 227), (Value.int 12 0), (Value.int 2 0), (Value.int 0 0), (Value.int 0 0), (Value.int 3 0), (Value.ref 43), (Value.bool true), (Value.int 181 0), (Value.ref 44), Value.none, (Value.ref 45), (Value.ref 46), (Value.ref 47), (Value.int 230 0), (Value.int 12 0), (Value.str (Str.ofString "/claim/cut.py") 231)]⟩) ⟨[]⟩)
noncomputable def o49 : Params → Obj := (fun (a : Arguments) (b : List Stmt) (s : Scope) (_ : some (a, b, s) = fnOf (mem 0 (top 5))) => fun _ => (Obj.mk (Value.type "function") none (Data.func (FuncData.mk (Str.ofString "__init__") (Str.ofString "Native.__init__") a (FuncBody.stmts b) s 3 [] Value.none Value.none Value.none (Value.str (Str.ofString "certvalidator._types") 204) none (Value.ref 48) Value.none 0)) ⟨[]⟩)) _ _ _ rfl
noncomputable def r49 : Params → Obj := fun _ => (Obj.mk (Value.type "function") none (Data.func (FuncData.mk (Str.ofString "__init__") (Str.ofString "Native.__init__") (fnD (mem 0 (top 5))).1 (FuncBody.stmts (fnD (mem 0 (top 5))).2.1) (fnD (mem 0 (top 5))).2.2 3 [] Value.none Value.none Value.none (Value.str (Str.ofString "certvalidator._types") 204) none (Value.ref 48) Value.none 0)) ⟨[]⟩)
noncomputable def o51 : Params → Obj := fun P => (Obj.mk (Value.type "dict") none (Data.dict ⟨[(DictEntry.mk (PyData.keyHash P (Str.ofString "__module__")) (Value.str (Str.ofString "__module__") 220) (Value.str (Str.ofString "certvalidator._types") 204)), (DictEntry.mk (PyData.keyHash P (Str.ofString "__firstlineno__")) (Value.str (Str.ofString "__firstlineno__") 224) (Value.int 10 223)), (DictEntry.mk (PyData.keyHash P (Str.ofString "__init__")) (Value.str (Str.ofString "__init__") 232) (Value.ref 49)), (DictEntry.mk (PyData.keyHash P (Str.ofString "__static_attributes__")) (Value.str (Str.ofString "__static_attributes__") 234) (Value.ref 50)), (DictEntry.mk (PyData.keyHash P (Str.ofString "__dict__")) (Value.str (Str.ofString "__dict__") 236) (Value.ref 53)), (DictEntry.mk (PyData.keyHash P (Str.ofString "__weakref__")) (Value.str (Str.ofString "__weakref__") 238) (Value.ref 54)), (DictEntry.mk (PyData.keyHash P (Str.ofString "__doc__")) (Value.str (Str.ofString "__doc__") 239) Value.none)]⟩ 4) ⟨[]⟩)
noncomputable def o52 : Params → Obj := fun _ => (Obj.mk (Value.type "type") none (Data.cls (ClassData.mk (Str.ofString "Native") [(Value.type "object")] [(Value.ref 52), (Value.type "object")] 51 (Str.ofString "Native") true [] [] false none false)) ⟨[none, none, (some (Value.str (Str.ofString "Native") 213)), (some (Value.str (Str.ofString "Native") 221)), (some (Value.builtin "object.__new__")), (some (Value.bool true))]⟩)
noncomputable def o69 : Params → Obj := fun _ => (Obj.mk (Value.type "code") none (Data.fields ⟨[(Value.str (Str.ofString "__init__") 254), (Value.str (Str.ofString "Name.__init__") 255), (Value.str (Str.ofString "/claim/cut.py") 256), (Value.int 16 0), (Value.int 2 0), (Value.int 0 0), (Value.int 0 0), (Value.int 3 0), (Value.ref 64), (Value.bool true), (Value.int 181 0), (Value.ref 65), Value.none, (Value.ref 66), (Value.ref 67), (Value.ref 68), (Value.int 259 0), (Value.int 16 0), (Value.str (Str.ofString "/claim/cut.py") 260)]⟩) ⟨[]⟩)
noncomputable def o70 : Params → Obj := (fun (a : Arguments) (b : List Stmt) (s : Scope) (_ : some (a, b, s) = fnOf (mem 0 (top 6))) => fun _ => (Obj.mk (Value.type "function") none (Data.func (FuncData.mk (Str.ofString "__init__") (Str.ofString "Name.__init__") a (FuncBody.stmts b) s 3 [] Value.none Value.none Value.none (Value.str (Str.ofString "certvalidator._types") 204) none (Value.ref 69) Value.none 0)) ⟨[]⟩)) _ _ _ rfl
noncomputable def r70 : Params → Obj := fun _ => (Obj.mk (Value.type "function") none (Data.func (FuncData.mk (Str.ofString "__init__") (Str.ofString "Name.__init__") (fnD (mem 0 (top 6))).1 (FuncBody.stmts (fnD (mem 0 (top 6))).2.1) (fnD (mem 0 (top 6))).2.2 3 [] Value.none Value.none Value.none (Value.str (Str.ofString "certvalidator._types") 204) none (Value.ref 69) Value.none 0)) ⟨[]⟩)
noncomputable def o86 : Params → Obj := fun P => (Obj.mk (Value.type "dict") none (Data.dict ⟨[(DictEntry.mk (PyData.keyHash P (Str.ofString "__module__")) (Value.str (Str.ofString "__module__") 249) (Value.str (Str.ofString "certvalidator._types") 204)), (DictEntry.mk (PyData.keyHash P (Str.ofString "__firstlineno__")) (Value.str (Str.ofString "__firstlineno__") 253) (Value.int 14 252)), (DictEntry.mk (PyData.keyHash P (Str.ofString "__init__")) (Value.str (Str.ofString "__init__") 261) (Value.ref 70)), (DictEntry.mk (PyData.keyHash P (Str.ofString "__eq__")) (Value.str (Str.ofString "__eq__") 269) (Value.ref 77)), (DictEntry.mk (PyData.keyHash P (Str.ofString "__ne__")) (Value.str (Str.ofString "__ne__") 277) (Value.ref 84)), (DictEntry.mk (PyData.keyHash P (Str.ofString "__static_attributes__")) (Value.str (Str.ofString "__static_attributes__") 280) (Value.ref 85)), (DictEntry.mk (PyData.keyHash P (Str.ofString "__dict__")) (Value.str (Str.ofString "__dict__") 282) (Value.ref 88)), (DictEntry.mk (PyData.keyHash P (Str.ofString "__weakref__")) (Value.str (Str.ofString "__weakref__") 284) (Value.ref 89)), (DictEntry.mk (PyData.keyHash P (Str.ofString "__doc__")) (Value.str (Str.ofString "__doc__") 285) Value.none), (DictEntry.mk (PyData.keyHash P (Str.ofString "__hash__")) (Value.str (Str.ofString "__hash__") 286) Value.none)]⟩ 5) ⟨[]⟩)
noncomputable def o87 : Params → Obj := fun _ => (Obj.mk (Value.type "type") none (Data.cls (ClassData.mk (Str.ofString "Name") [(Value.type "object")] [(Value.ref 87), (Value.type "object")] 86 (Str.ofString "Name") true [] [] false none false)) ⟨[none, none, (some (Value.str (Str.ofString "Name") 242)), (some (Value.str (Str.ofString "Name") 250)), (some (Value.builtin "object.__new__")), (some (Value.bool true))]⟩)
noncomputable def o104 : Params → Obj := fun _ => (Obj.mk (Value.type "code") none (Data.fields ⟨[(Value.str (Str.ofString "__init__") 301), (Value.str (Str.ofString "Key.__init__") 302), (Value.str (Str.ofString "/claim/cut.py") 303), (Value.int 27 0), (Value.int 2 0), (Value.int 0 0), (Value.int 0 0), (Value.int 3 0), (Value.ref 99), (Value.bool true), (Value.int 181 0), (Value.ref 100), Value.none, (Value.ref 101), (Value.ref 102), (Value.ref 103), (Value.int 306 0), (Value.int 27 0), (Value.str (Str.ofString "/claim/cut.py") 307)]⟩) ⟨[]⟩)
noncomputable def o105 : Params → Obj := (fun (a : Arguments) (b : List Stmt) (s : Scope) (_ : some (a, b, s) = fnOf (mem 0 (top 7))) => fun _ => (Obj.mk (Value.type "function") none (Data.func (FuncData.mk (Str.ofString "__init__") (Str.ofString "Key.__init__") a (FuncBody.stmts b) s 3 [] Value.none Value.none Value.none (Value.str (Str.ofString "certvalidator._types") 204) none (Value.ref 104) Value.none 0)) ⟨[]⟩)) _ _ _ rfl
noncomputable def r105 : Params → Obj := fun _ => (Obj.mk (Value.type "function") none (Data.func (FuncData.mk (Str.ofString "__init__") (Str.ofString "Key.__init__") (fnD (mem 0 (top 7))).1 (FuncBody.stmts (fnD (mem 0 (top 7))).2.1) (fnD (mem 0 (top 7))).2.2 3 [] Value.none Value.none Value.none (Value.str (Str.ofString "certvalidator._types") 204) none (Value.ref 104) Value.none 0)) ⟨[]⟩)
noncomputable def o107 : Params → Obj := fun P => (Obj.mk (Value.type "dict") none (Data.dict ⟨[(DictEntry.mk (PyData.keyHash P (Str.ofString "__module__")) (Value.str (Str.ofString "__module__") 296) (Value.str (Str.ofString "certvalidator._types") 204)), (DictEntry.mk (PyData.keyHash P (Str.ofString "__firstlineno__")) (Value.str (Str.ofString "__firstlineno__") 300) (Value.int 25 299)), (DictEntry.mk (PyData.keyHash P (Str.ofString "__init__")) (Value.str (Str.ofString "__init__") 308) (Value.ref 105)), (DictEntry.mk (PyData.keyHash P (Str.ofString "__static_attributes__")) (Value.str (Str.ofString "__static_attributes__") 311) (Value.ref 106)), (DictEntry.mk (PyData.keyHash P (Str.ofString "__dict__")) (Value.str (Str.ofString "__dict__") 313) (Value.ref 109)), (DictEntry.mk (PyData.keyHash P (Str.ofString "__weakref__")) (Value.str (Str.ofString "__weakref__") 315) (Value.ref 110)), (DictEntry.mk (PyData.keyHash P (Str.ofString "__doc__")) (Value.str (Str.ofString "__doc__") 316) Value.none)]⟩ 4) ⟨[]⟩)
noncomputable def o108 : Params → Obj := fun _ => (Obj.mk (Value.type "type") none (Data.cls (ClassData.mk (Str.ofString "Key") [(Value.type "object")] [(Value.ref 108), (Value.type "object")] 107 (Str.ofString "Key") true [] [] false none false)) ⟨[none, none, (some (Value.str (Str.ofString "Key") 289)), (some (Value.str (Str.ofString "Key") 297)), (some (Value.builtin "object.__new__")), (some (Value.bool true))]⟩)
noncomputable def o125 : Params → Obj := fun _ => (Obj.mk (Value.type "code") none (Data.fields ⟨[(Value.str (Str.ofString "__init__") 331), (Value.str (Str.ofString "Certificate.__init__") 332), (Value.str (Str.ofString "/claim/cut.py") 333), (Value.int 32 0), (Value.int 6 0), (Value.int 0 0), (Value.int 0 0), (Value.int 3 0), (Value.ref 120), (Value.bool true), (Value.int 181 0), (Value.ref 121), Value.none, (Value.ref 122), (Value.ref 123), (Value.ref 124), (Value.int 340 0), (Value.int 32 0), (Value.str (Str.ofString "/claim/cut.py") 341)]⟩) ⟨[]⟩)
noncomputable def o126 : Params → Obj := (fun (a : Arguments) (b : List Stmt) (s : Scope) (_ : some (a, b, s) = fnOf (mem 0 (top 8))) => fun _ => (Obj.mk (Value.type "function") none (Data.func (FuncData.mk (Str.ofString "__init__") (Str.ofString "Certificate.__init__") a (FuncBody.stmts b) s 3 [] Value.none Value.none Value.none (Value.str (Str.ofString "certvalidator._types") 204) none (Value.ref 125) Value.none 0)) ⟨[]⟩)) _ _ _ rfl
noncomputable def r126 : Params → Obj := fun _ => (Obj.mk (Value.type "function") none (Data.func (FuncData.mk (Str.ofString "__init__") (Str.ofString "Certificate.__init__") (fnD (mem 0 (top 8))).1 (FuncBody.stmts (fnD (mem 0 (top 8))).2.1) (fnD (mem 0 (top 8))).2.2 3 [] Value.none Value.none Value.none (Value.str (Str.ofString "certvalidator._types") 204) none (Value.ref 125) Value.none 0)) ⟨[]⟩)
noncomputable def o159 : Params → Obj := fun P => (Obj.mk (Value.type "dict") none (Data.dict ⟨[(DictEntry.mk (PyData.keyHash P (Str.ofString "__module__")) (Value.str (Str.ofString "__module__") 326) (Value.str (Str.ofString "certvalidator._types") 204)), (DictEntry.mk (PyData.keyHash P (Str.ofString "__firstlineno__")) (Value.str (Str.ofString "__firstlineno__") 330) (Value.int 30 329)), (DictEntry.mk (PyData.keyHash P (Str.ofString "__init__")) (Value.str (Str.ofString "__init__") 342) (Value.ref 126)), (DictEntry.mk (PyData.keyHash P (Str.ofString "issuer_serial")) (Value.str (Str.ofString "issuer_serial") 350) (Value.ref 134)), (DictEntry.mk (PyData.keyHash P (Str.ofString "self_issued")) (Value.str (Str.ofString "self_issued") 358) (Value.ref 142)), (DictEntry.mk (PyData.keyHash P (Str.ofString "self_signed")) (Value.str (Str.ofString "self_signed") 366) (Value.ref 150)), (DictEntry.mk (PyData.keyHash P (Str.ofString "__getitem__")) (Value.str (Str.ofString "__getitem__") 374) (Value.ref 157)), (DictEntry.mk (PyData.keyHash P (Str.ofString "__static_attributes__")) (Value.str (Str.ofString "__static_attributes__") 399) (Value.ref 158)), (DictEntry.mk (PyData.keyHash P (Str.ofString "__dict__")) (Value.str (Str.ofString "__dict__") 401) (Value.ref 161)), (DictEntry.mk (PyData.keyHash P (Str.ofString "__weakref__")) (Value.str (Str.ofString "__weakref__") 403) (Value.ref 162)), (DictEntry.mk (PyData.keyHash P (Str.ofString "__doc__")) (Value.str (Str.ofString "__doc__") 404) Value.none)]⟩ 4) ⟨[]⟩)
noncomputable def o160 : Params → Obj := fun _ => (Obj.mk (Value.type "type") none (Data.cls (ClassData.mk (Str.ofString "Certificate") [(Value.type "object")] [(Value.ref 160), (Value.type "object")] 159 (Str.ofString "Certificate") true [] [] false none false)) ⟨[none, none, (some (Value.str (Str.ofString "Certificate") 319)), (some (Value.str (Str.ofString "Certificate") 327)), (some (Value.builtin "object.__new__")), (some (Value.bool true))]⟩)
noncomputable def o173 : Params → Obj := fun P => (Obj.mk (Value.type "dict") none (Data.dict ⟨[(DictEntry.mk (PyData.keyHash P (Str.ofString "__module__")) (Value.str (Str.ofString "__module__") 416) (Value.str (Str.ofString "certvalidator.errors") 407)), (DictEntry.mk (PyData.keyHash P (Str.ofString "__firstlineno__")) (Value.str (Str.ofString "__firstlineno__") 420) (Value.int 75 419)), (DictEntry.mk (PyData.keyHash P (Str.ofString "__static_attributes__")) (Value.str (Str.ofString "__static_attributes__") 421) (Value.ref 172)), (DictEntry.mk (PyData.keyHash P (Str.ofString "__weakref__")) (Value.str (Str.ofString "__weakref__") 423) (Value.ref 175)), (DictEntry.mk (PyData.keyHash P (Str.ofString "__doc__")) (Value.str (Str.ofString "__doc__") 424) Value.none)]⟩ 3) ⟨[]⟩)
noncomputable def o174 : Params → Obj := fun _ => (Obj.mk (Value.type "type") none (Data.cls (ClassData.mk (Str.ofString "ValidationError") [(Value.type "Exception")] [(Value.ref 174), (Value.type "Exception"), (Value.type "BaseException"), (Value.type "object")] 173 (Str.ofString "ValidationError") true [] [(Value.ref 187)] false none false)) ⟨[(some (Value.ref 165)), none, (some (Value.str (Str.ofString "ValidationError") 409)), (some (Value.str (Str.ofString "ValidationError") 417)), (some (Value.builtin "Exception.__new__")), (some (Value.bool true))]⟩)
noncomputable def o186 : Params → Obj := fun P => (Obj.mk (Value.type "dict") none (Data.dict ⟨[(DictEntry.mk (PyData.keyHash P (Str.ofString "__module__")) (Value.str (Str.ofString "__module__") 436) (Value.str (Str.ofString "certvalidator.errors") 407)), (DictEntry.mk (PyData.keyHash P (Str.ofString "__firstlineno__")) (Value.str (Str.ofString "__firstlineno__") 440) (Value.int 77 439)), (DictEntry.mk (PyData.keyHash P (Str.ofString "__static_attributes__")) (Value.str (Str.ofString "__static_attributes__") 441) (Value.ref 185)), (DictEntry.mk (PyData.keyHash P (Str.ofString "__doc__")) (Value.str (Str.ofString "__doc__") 442) Value.none)]⟩ 2) ⟨[]⟩)
noncomputable def o187 : Params → Obj := fun _ => (Obj.mk (Value.type "type") none (Data.cls (ClassData.mk (Str.ofString "PathValidationError") [(Value.ref 174)] [(Value.ref 187), (Value.ref 174), (Value.type "Exception"), (Value.type "BaseException"), (Value.type "object")] 186 (Str.ofString "PathValidationError") true [] [(Value.ref 199)] false none false)) ⟨[(some (Value.ref 178)), none, (some (Value.str (Str.ofString "PathValidationError") 429)), (some (Value.str (Str.ofString "PathValidationError") 437)), (some (Value.builtin "Exception.__new__")), (some (Value.bool true))]⟩)
noncomputable def o198 : Params → Obj := fun P => (Obj.mk (Value.type "dict") none (Data.dict ⟨[(DictEntry.mk (PyData.keyHash P (Str.ofString "__module__")) (Value.str (Str.ofString "__module__") 452) (Value.str (Str.ofString "certvalidator.errors") 407)), (DictEntry.mk (PyData.keyHash P (Str.ofString "__firstlineno__")) (Value.str (Str.ofString "__firstlineno__") 456) (Value.int 79 455)), (DictEntry.mk (PyData.keyHash P (Str.ofString "__static_attributes__")) (Value.str (Str.ofString "__static_attributes__") 457) (Value.ref 197)), (DictEntry.mk (PyData.keyHash P (Str.ofString "__doc__")) (Value.str (Str.ofString "__doc__") 458) Value.none)]⟩ 2) ⟨[]⟩)
noncomputable def o199 : Params → Obj := fun _ => (Obj.mk (Value.type "type") none (Data.cls (ClassData.mk (Str.ofString "InvalidCertificateError") [(Value.ref 187)] [(Value.ref 199), (Value.ref 187), (Value.ref 174), (Value.type "Exception"), (Value.type "BaseException"), (Value.type "object")] 198 (Str.ofString "InvalidCertificateError") true [] [] false none false)) ⟨[(some (Value.ref 190)), none, (some (Value.str (Str.ofString "InvalidCertificateError") 445)), (some (Value.str (Str.ofString "InvalidCertificateError") 453)), (some (Value.builtin "Exception.__new__")), (some (Value.bool true))]⟩)
noncomputable def o209 : Params → Obj := fun _ => (Obj.mk (Value.type "tuple") none (Data.seq ⟨[Value.none, Value.none, Value.none]⟩ 0) ⟨[]⟩)
noncomputable def o215 : Params → Obj := fun _ => (Obj.mk (Value.type "code") none (Data.fields ⟨[(Value.str (Str.ofString "__init__") 478), (Value.str (Str.ofString "CertificateRegistry.__init__") 479), (Value.str (Str.ofString "/claim/cut.py") 480), (Value.int 87 0), (Value.int 4 0), (Value.int 0 0), (Value.int 0 0), (Value.int 3 0), (Value.ref 210), (Value.bool true), (Value.int 181 0), (Value.ref 211), Value.none, (Value.ref 212), (Value.ref 213), (Value.ref 214), (Value.int 488 0), (Value.int 87 0), (Value.str (Str.ofString "/claim/cut.py") 489)]⟩) ⟨[]⟩)
noncomputable def o216 : Params → Obj := (fun (a : Arguments) (b : List Stmt) (s : Scope) (_ : some (a, b, s) = fnOf (mem 3 (top 14))) => fun _ => (Obj.mk (Value.type "function") none (Data.func (FuncData.mk (Str.ofString "__init__") (Str.ofString "CertificateRegistry.__init__") a (FuncBody.stmts b) s 3 [] (Value.ref 209) Value.none Value.none (Value.str (Str.ofString "certvalidator.registry") 461) none (Value.ref 215) Value.none 0)) ⟨[]⟩)) _ _ _ rfl
noncomputable def r216 : Params → Obj := fun _ => (Obj.mk (Value.type "function") none (Data.func (FuncData.mk (Str.ofString "__init__") (Str.ofString "CertificateRegistry.__init__") (fnD (mem 3 (top 14))).1 (FuncBody.stmts (fnD (mem 3 (top 14))).2.1) (fnD (mem 3 (top 14))).2.2 3 [] (Value.ref 209) Value.none Value.none (Value.str (Str.ofString "certvalidator.registry") 461) none (Value.ref 215) Value.none 0)) ⟨[]⟩)
noncomputable def o222 : Params → Obj := fun _ => (Obj.mk (Value.type "code") none (Data.fields ⟨[(Value.str (Str.ofString "_validate_unarmor") 491), (Value.str (Str.ofString "CertificateRegistry._validate_unarmor") 492), (Value.str (Str.ofString "/claim/cut.py") 493), (Value.int 123 0), (Value.int 3 0), (Value.int 0 0), (Value.int 0 0), (Value.int 3 0), (Value.ref 217), (Value.bool true), (Value.int 181 0), (Value.ref 218), Value.none, (Value.ref 219), (Value.ref 220), (Value.ref 221), (Value.int 499 0), (Value.int 123 0), (Value.str (Str.ofString "/claim/cut.py") 500)]⟩) ⟨[]⟩)
noncomputable def o223 : Params → Obj := (fun (a : Arguments) (b : List Stmt) (s : Scope) (_ : some (a, b, s) = fnOf (mem 4 (top 14))) => fun _ => (Obj.mk (Value.type "function") none (Data.func (FuncData.mk (Str.ofString "_validate_unarmor") (Str.ofString "CertificateRegistry._validate_unarmor") a (FuncBody.stmts b) s 3 [] Value.none Value.none Value.none (Value.str (Str.ofString "certvalidator.registry") 461) none (Value.ref 222) Value.none 0)) ⟨[]⟩)) _ _ _ rfl
noncomputable def r223 : Params → Obj := fun _ => (Obj.mk (Value.type "function") none (Data.func (FuncData.mk (Str.ofString "_validate_unarmor") (Str.ofString "CertificateRegistry._validate_unarmor") (fnD (mem 4 (top 14))).1 (FuncBody.stmts (fnD (mem 4 (top 14))).2.1) (fnD (mem 4 (top 14))).2.2 3 [] Value.none Value.none Value.none (Value.str (Str.ofString "certvalidator.registry") 461) none (Value.ref 222) Value.none 0)) ⟨[]⟩)
noncomputable def o275 : Params → Obj := fun P => (Obj.mk (Value.type "dict") none (Data.dict ⟨[(DictEntry.mk (PyData.keyHash P (Str.ofString "__module__")) (Value.str (Str.ofString "__module__") 470) (Value.str (Str.ofString "certvalidator.registry") 461)), (DictEntry.mk (PyData.keyHash P (Str.ofString "__firstlineno__")) (Value.str (Str.ofString "__firstlineno__") 474) (Value.int 82 473)), (DictEntry.mk (PyData.keyHash P (Str.ofString "_subject_map")) (Value.str (Str.ofString "_subject_map") 475) Value.none), (DictEntry.mk (PyData.keyHash P (Str.ofString "_key_identifier_map")) (Value.str (Str.ofString "_key_identifier_map") 476) Value.none), (DictEntry.mk (PyData.keyHash P (Str.ofString "_ca_lookup")) (Value.str (Str.ofString "_ca_lookup") 477) Value.none), (DictEntry.mk (PyData.keyHash P (Str.ofString "__init__")) (Value.str (Str.ofString "__init__") 490) (Value.ref 216)), (DictEntry.mk (PyData.keyHash P (Str.ofString "_validate_unarmor")) (Value.str (Str.ofString "_validate_unarmor") 501) (Value.ref 223)), (DictEntry.mk (PyData.keyHash P (Str.ofString "is_ca")) (Value.str (Str.ofString "is_ca") 509) (Value.ref 230)), (DictEntry.mk (PyData.keyHash P (Str.ofString "add_other_cert")) (Value.str (Str.ofString "add_other_cert") 517) (Value.ref 237)), (DictEntry.mk (PyData.keyHash P (Str.ofString "retrieve_by_key_identifier")) (Value.str (Str.ofString "retrieve_by_key_identifier") 525) (Value.ref 244)), (DictEntry.mk (PyData.keyHash P (Str.ofString "retrieve_by_name")) (Value.str (Str.ofString "retrieve_by_name") 534) (Value.ref 252)), (DictEntry.mk (PyData.keyHash P (Str.ofString "build_paths")) (Value.str (Str.ofString "build_paths") 542) (Value.ref 259)), (DictEntry.mk (PyData.keyHash P (Str.ofString "_walk_issuers")) (Value.str (Str.ofString "_walk_issuers") 552) (Value.ref 266)), (DictEntry.mk (PyData.keyHash P (Str.ofString "_possible_issuers")) (Value.str (Str.ofString "_possible_issuers") 560) (Value.ref 273)), (DictEntry.mk (PyData.keyHash P (Str.ofString "__static_attributes__")) (Value.str (Str.ofString "__static_attributes__") 564) (Value.ref 274)), (DictEntry.mk (PyData.keyHash P (Str.ofString "__dict__")) (Value.str (Str.ofString "__dict__") 566) (Value.ref 277)), (DictEntry.mk (PyData.keyHash P (Str.ofString "__weakref__")) (Value.str (Str.ofString "__weakref__") 568) (Value.ref 278)), (DictEntry.mk (PyData.keyHash P (Str.ofString "__doc__")) (Value.str (Str.ofString "__doc__") 569) Value.none)]⟩ 4) ⟨[]⟩)
noncomputable def o276 : Params → Obj := fun _ => (Obj.mk (Value.type "type") none (Data.cls (ClassData.mk (Str.ofString "CertificateRegistry") [(Value.type "object")] [(Value.ref 276), (Value.type "object")] 275 (Str.ofString "CertificateRegistry") true [] [] false none false)) ⟨[none, none, (some (Value.str (Str.ofString "CertificateRegistry") 463)), (some (Value.str (Str.ofString "CertificateRegistry") 471)), (some (Value.builtin "object.__new__")), (some (Value.bool true))]⟩)
noncomputable def o288 : Params → Obj := fun _ => (Obj.mk (Value.type "tuple") none (Data.seq ⟨[Value.none, Value.none, Value.none, Value.none, Value.none, Value.none, Value.none]⟩ 0) ⟨[]⟩)
noncomputable def o294 : Params → Obj := fun _ => (Obj.mk (Value.type "code") none (Data.fields ⟨[(Value.str (Str.ofString "__init__") 591), (Value.str (Str.ofString "ValidationContext.__init__") 592), (Value.str (Str.ofString "/claim/cut.py") 593), (Value.int 160 0), (Value.int 8 0), (Value.int 0 0), (Value.int 0 0), (Value.int 3 0), (Value.ref 289), (Value.bool true), (Value.int 181 0), (Value.ref 290), Value.none, (Value.ref 291), (Value.ref 292), (Value.ref 293), (Value.int 604 0), (Value.int 160 0), (Value.str (Str.ofString "/claim/cut.py") 605)]⟩) ⟨[]⟩)
noncomputable def o295 : Params → Obj := (fun (a : Arguments) (b : List Stmt) (s : Scope) (_ : some (a, b, s) = fnOf (mem 5 (top 16))) => fun _ => (Obj.mk (Value.type "function") none (Data.func (FuncData.mk (Str.ofString "__init__") (Str.ofString "ValidationContext.__init__") a (FuncBody.stmts b) s 3 [] (Value.ref 288) Value.none Value.none (Value.str (Str.ofString "certvalidator.context") 572) none (Value.ref 294) Value.none 0)) ⟨[]⟩)) _ _ _ rfl
noncomputable def r295 : Params → Obj := fun _ => (Obj.mk (Value.type "function") none (Data.func (FuncData.mk (Str.ofString "__init__") (Str.ofString "ValidationContext.__init__") (fnD (mem 5 (top 16))).1 (FuncBody.stmts (fnD (mem 5 (top 16))).2.1) (fnD (mem 5 (top 16))).2.2 3 [] (Value.ref 288) Value.none Value.none (Value.str (Str.ofString "certvalidator.context") 572) none (Value.ref 294) Value.none 0)) ⟨[]⟩)
noncomputable def o301 : Params → Obj := fun _ => (Obj.mk (Value.type "code") none (Data.fields ⟨[(Value.str (Str.ofString "is_whitelisted") 607), (Value.str (Str.ofString "ValidationContext.is_whitelisted") 608), (Value.str (Str.ofString "/claim/cut.py") 609), (Value.int 179 0), (Value.int 2 0), (Value.int 0 0), (Value.int 0 0), (Value.int 3 0), (Value.ref 296), (Value.bool true), (Value.int 181 0), (Value.ref 297), Value.none, (Value.ref 298), (Value.ref 299), (Value.ref 300), (Value.int 612 0), (Value.int 179 0), (Value.str (Str.ofString "/claim/cut.py") 613)]⟩) ⟨[]⟩)
noncomputable def o302 : Params → Obj := (fun (a : Arguments) (b : List Stmt) (s : Scope) (_ : some (a, b, s) = fnOf (mem 6 (top 16))) => fun _ => (Obj.mk (Value.type "function") none (Data.func (FuncData.mk (Str.ofString "is_whitelisted") (Str.ofString "ValidationContext.is_whitelisted") a (FuncBody.stmts b) s 3 [] Value.none Value.none Value.none (Value.str (Str.ofString "certvalidator.context") 572) none (Value.ref 301) Value.none 0)) ⟨[]⟩)) _ _ _ rfl
noncomputable def r302 : Params → Obj := fun _ => (Obj.mk (Value.type "function") none (Data.func (FuncData.mk (Str.ofString "is_whitelisted") (Str.ofString "ValidationContext.is_whitelisted") (fnD (mem 6 (top 16))).1 (FuncBody.stmts (fnD (mem 6 (top 16))).2.1) (fnD (mem 6 (top 16))).2.2 3 [] Value.none Value.none Value.none (Value.str (Str.ofString "certvalidator.context") 572) none (Value.ref 301) Value.none 0)) ⟨[]⟩)
noncomputable def o325 : Params → Obj := fun P => (Obj.mk (Value.type "dict") none (Data.dict ⟨[(DictEntry.mk (PyData.keyHash P (Str.ofString "__module__")) (Value.str (Str.ofString "__module__") 581) (Value.str (Str.ofString "certvalidator.context") 572)), (DictEntry.mk (PyData.keyHash P (Str.ofString "__firstlineno__")) (Value.str (Str.ofString "__firstlineno__") 585) (Value.int 153 584)), (DictEntry.mk (PyData.keyHash P (Str.ofString "certificate_registry")) (Value.str (Str.ofString "certificate_registry") 586) Value.none), (DictEntry.mk (PyData.keyHash P (Str.ofString "weak_hash_algos")) (Value.str (Str.ofString "weak_hash_algos") 587) Value.none), (DictEntry.mk (PyData.keyHash P (Str.ofString "_whitelisted_certs")) (Value.str (Str.ofString "_whitelisted_certs") 588) Value.none), (DictEntry.mk (PyData.keyHash P (Str.ofString "_validate_map")) (Value.str (Str.ofString "_validate_map") 589) Value.none), (DictEntry.mk (PyData.keyHash P (Str.ofString "moment")) (Value.str (Str.ofString "moment") 590) Value.none), (DictEntry.mk (PyData.keyHash P (Str.ofString "__init__")) (Value.str (Str.ofString "__init__") 606) (Value.ref 295)), (DictEntry.mk (PyData.keyHash P (Str.ofString "is_whitelisted")) (Value.str (Str.ofString "is_whitelisted") 614) (Value.ref 302)), (DictEntry.mk (PyData.keyHash P (Str.ofString "record_validation")) (Value.str (Str.ofString "record_validation") 623) (Value.ref 309)), (DictEntry.mk (PyData.keyHash P (Str.ofString "check_validation")) (Value.str (Str.ofString "check_validation") 631) (Value.ref 316)), (DictEntry.mk (PyData.keyHash P (Str.ofString "clear_validation")) (Value.str (Str.ofString "clear_validation") 639) (Value.ref 323)), (DictEntry.mk (PyData.keyHash P (Str.ofString "__static_attributes__")) (Value.str (Str.ofString "__static_attributes__") 646) (Value.ref 324)), (DictEntry.mk (PyData.keyHash P (Str.ofString "__dict__")) (Value.str (Str.ofString "__dict__") 648) (Value.ref 327)), (DictEntry.mk (PyData.keyHash P (Str.ofString "__weakref__")) (Value.str (Str.ofString "__weakref__") 650) (Value.ref 328)), (DictEntry.mk (PyData.keyHash P (Str.ofString "__doc__")) (Value.str (Str.ofString "__doc__") 651) Value.none)]⟩ 4) ⟨[]⟩)
noncomputable def o326 : Params → Obj := fun _ => (Obj.mk (Value.type "type") none (Data.cls (ClassData.mk (Str.ofString "ValidationContext") [(Value.type "object")] [(Value.ref 326), (Value.type "object")] 325 (Str.ofString "ValidationContext") true [] [] false none false)) ⟨[none, none, (some (Value.str (Str.ofString "ValidationContext") 574)), (some (Value.str (Str.ofString "ValidationContext") 582)), (some (Value.builtin "object.__new__")), (some (Value.bool true))]⟩)
noncomputable def o336 : Params → Obj := fun _ => (Obj.mk (Value.type "code") none (Data.fields ⟨[(Value.str (Str.ofString "validate_usage") 656), (Value.str (Str.ofString "validate_usage") 657), (Value.str (Str.ofString "/claim/cut.py") 658), (Value.int 191 0), (Value.int 5 0), (Value.int 0 0), (Value.int 0 0), (Value.int 3 0), (Value.ref 331), (Value.bool true), (Value.int 181 0), (Value.ref 332), Value.none, (Value.ref 333), (Value.ref 334), (Value.ref 335), (Value.int 669 0), (Value.int 191 0), (Value.str (Str.ofString "/claim/cut.py") 670)]⟩) ⟨[]⟩)
noncomputable def o337 : Params → Obj := (fun (a : Arguments) (b : List Stmt) (s : Scope) (_ : some (a, b, s) = fnOf (top 18)) => fun _ => (Obj.mk (Value.type "function") none (Data.func (FuncData.mk (Str.ofString "validate_usage") (Str.ofString "validate_usage") a (FuncBody.stmts b) s 3 [] Value.none Value.none Value.none (Value.str (Str.ofString "certvalidator.validate") 654) none (Value.ref 336) Value.none 0)) ⟨[]⟩)) _ _ _ rfl
noncomputable def r337 : Params → Obj := fun _ => (Obj.mk (Value.type "function") none (Data.func (FuncData.mk (Str.ofString "validate_usage") (Str.ofString "validate_usage") (fnD (top 18)).1 (FuncBody.stmts (fnD (top 18)).2.1) (fnD (top 18)).2.2 3 [] Value.none Value.none Value.none (Value.str (Str.ofString "certvalidator.validate") 654) none (Value.ref 336) Value.none 0)) ⟨[]⟩)
noncomputable def o341 : Params → Obj := fun _ => (Obj.mk (Value.type "code") none (Data.fields ⟨[(Value.str (Str.ofString "law") 674), (Value.str (Str.ofString "law") 675), (Value.str (Str.ofString "/claim/cut.py") 676), (Value.int 221 0), (Value.int 1 0), (Value.int 0 0), (Value.int 0 0), (Value.int 3 0), (Value.ref 338), (Value.bool true), (Value.int 181 0), (Value.ref 339), Value.none, Value.none, Value.none, (Value.ref 340), (Value.int 677 0), (Value.int 221 0), (Value.str (Str.ofString "/claim/cut.py") 678)]⟩) ⟨[]⟩)
noncomputable def o342 : Params → Obj := (fun (a : Arguments) (b : List Stmt) (s : Scope) (_ : some (a, b, s) = fnOf (top 20)) => fun _ => (Obj.mk (Value.type "function") none (Data.func (FuncData.mk (Str.ofString "law") (Str.ofString "law") a (FuncBody.stmts b) s 3 [] Value.none Value.none Value.none (Value.str (Str.ofString "law_je0007_01") 672) none (Value.ref 341) Value.none 0)) ⟨[]⟩)) _ _ _ rfl
noncomputable def r342 : Params → Obj := fun _ => (Obj.mk (Value.type "function") none (Data.func (FuncData.mk (Str.ofString "law") (Str.ofString "law") (fnD (top 20)).1 (FuncBody.stmts (fnD (top 20)).2.1) (fnD (top 20)).2.2 3 [] Value.none Value.none Value.none (Value.str (Str.ofString "law_je0007_01") 672) none (Value.ref 341) Value.none 0)) ⟨[]⟩)
noncomputable def K : Params → Frag := fun P => (nat_lit 2, o2 P) :: (nat_lit 3, o3 P) :: (nat_lit 27, o27 P) :: (nat_lit 28, o28 P) :: (nat_lit 34, o34 P) :: (nat_lit 35, o35 P) :: (nat_lit 48, o48 P) :: (nat_lit 49, o49 P) :: (nat_lit 51, o51 P) :: (nat_lit 52, o52 P) :: (nat_lit 69, o69 P) :: (nat_lit 70, o70 P) :: (nat_lit 86, o86 P) :: (nat_lit 87, o87 P) :: (nat_lit 104, o104 P) :: (nat_lit 105, o105 P) :: (nat_lit 107, o107 P) :: (nat_lit 108, o108 P) :: (nat_lit 125, o125 P) :: (nat_lit 126, o126 P) :: (nat_lit 159, o159 P) :: (nat_lit 160, o160 P) :: (nat_lit 173, o173 P) :: (nat_lit 174, o174 P) :: (nat_lit 186, o186 P) :: (nat_lit 187, o187 P) :: (nat_lit 198, o198 P) :: (nat_lit 199, o199 P) :: (nat_lit 209, o209 P) :: (nat_lit 215, o215 P) :: (nat_lit 216, o216 P) :: (nat_lit 222, o222 P) :: (nat_lit 223, o223 P) :: (nat_lit 275, o275 P) :: (nat_lit 276, o276 P) :: (nat_lit 288, o288 P) :: (nat_lit 294, o294 P) :: (nat_lit 295, o295 P) :: (nat_lit 301, o301 P) :: (nat_lit 302, o302 P) :: (nat_lit 325, o325 P) :: (nat_lit 326, o326 P) :: (nat_lit 336, o336 P) :: (nat_lit 337, o337 P) :: (nat_lit 341, o341 P) :: (nat_lit 342, o342 P) :: []
noncomputable def Kr : Params → Frag := fun P => (nat_lit 2, o2 P) :: (nat_lit 3, o3 P) :: (nat_lit 27, o27 P) :: (nat_lit 28, r28 P) :: (nat_lit 34, o34 P) :: (nat_lit 35, r35 P) :: (nat_lit 48, o48 P) :: (nat_lit 49, r49 P) :: (nat_lit 51, o51 P) :: (nat_lit 52, o52 P) :: (nat_lit 69, o69 P) :: (nat_lit 70, r70 P) :: (nat_lit 86, o86 P) :: (nat_lit 87, o87 P) :: (nat_lit 104, o104 P) :: (nat_lit 105, r105 P) :: (nat_lit 107, o107 P) :: (nat_lit 108, o108 P) :: (nat_lit 125, o125 P) :: (nat_lit 126, r126 P) :: (nat_lit 159, o159 P) :: (nat_lit 160, o160 P) :: (nat_lit 173, o173 P) :: (nat_lit 174, o174 P) :: (nat_lit 186, o186 P) :: (nat_lit 187, o187 P) :: (nat_lit 198, o198 P) :: (nat_lit 199, o199 P) :: (nat_lit 209, o209 P) :: (nat_lit 215, o215 P) :: (nat_lit 216, r216 P) :: (nat_lit 222, o222 P) :: (nat_lit 223, r223 P) :: (nat_lit 275, o275 P) :: (nat_lit 276, o276 P) :: (nat_lit 288, o288 P) :: (nat_lit 294, o294 P) :: (nat_lit 295, r295 P) :: (nat_lit 301, o301 P) :: (nat_lit 302, r302 P) :: (nat_lit 325, o325 P) :: (nat_lit 326, o326 P) :: (nat_lit 336, o336 P) :: (nat_lit 337, r337 P) :: (nat_lit 341, o341 P) :: (nat_lit 342, r342 P) :: []
abbrev kAs : List Addr := nat_lit 2 :: nat_lit 3 :: nat_lit 27 :: nat_lit 28 :: nat_lit 34 :: nat_lit 35 :: nat_lit 48 :: nat_lit 49 :: nat_lit 51 :: nat_lit 52 :: nat_lit 69 :: nat_lit 70 :: nat_lit 86 :: nat_lit 87 :: nat_lit 104 :: nat_lit 105 :: nat_lit 107 :: nat_lit 108 :: nat_lit 125 :: nat_lit 126 :: nat_lit 159 :: nat_lit 160 :: nat_lit 173 :: nat_lit 174 :: nat_lit 186 :: nat_lit 187 :: nat_lit 198 :: nat_lit 199 :: nat_lit 209 :: nat_lit 215 :: nat_lit 216 :: nat_lit 222 :: nat_lit 223 :: nat_lit 275 :: nat_lit 276 :: nat_lit 288 :: nat_lit 294 :: nat_lit 295 :: nat_lit 301 :: nat_lit 302 :: nat_lit 325 :: nat_lit 326 :: nat_lit 336 :: nat_lit 337 :: nat_lit 341 :: nat_lit 342 :: []
theorem K_as : ∀ P, kAs = (K P).map (·.1) := fun _ => rfl
theorem Kr_as : ∀ P, kAs = (Kr P).map (·.1) := fun _ => rfl
theorem K_eq : K = Kr := rfl
noncomputable def qv : Program := view PySem.Challenge.pw_je0007_01 [0, 2, 4, 5, 6, 7, 8, 10, 11, 12, 14, 16, 18, 20]
noncomputable def q : Program := (fun (s0 s2 s4 s5 s6 s7 s8 s10 s11 s12 s14 s16 s18 s20 : Stmt) (_ : some s0 = top 0) (_ : some s2 = top 2) (_ : some s4 = top 4) (_ : some s5 = top 5) (_ : some s6 = top 6) (_ : some s7 = top 7) (_ : some s8 = top 8) (_ : some s10 = top 10) (_ : some s11 = top 11) (_ : some s12 = top 12) (_ : some s14 = top 14) (_ : some s16 = top 16) (_ : some s18 = top 18) (_ : some s20 = top 20) => { PySem.Challenge.pw_je0007_01 with main := { PySem.Challenge.pw_je0007_01.main with body := [s0, s2, s4, s5, s6, s7, s8, s10, s11, s12, s14, s16, s18, s20] } }) _ _ _ _ _ _ _ _ _ _ _ _ _ _ rfl rfl rfl rfl rfl rfl rfl rfl rfl rfl rfl rfl rfl rfl
theorem q_eq : q = qv := rfl
abbrev loose : List Str := [Str.ofString "Certificate", Str.ofString "CertificateRegistry", Str.ofString "ValidationContext"]
end Mine
end
section -- HeadB
open PySem PySem.W PyProof.Rows
set_option maxRecDepth 100000
namespace Mine

def topRunT (tb : String → Option Builtin) (p : Program) (w : World) (n₀ : Nat) (ann : Option Value) : Nat → SharedT → Thread → Option SharedT
  | 0, _, _ => none
  | n + 1, s, t => match through t with
    | true => some s
    | false => match stepOk n₀ ann t with
      | false => none
      | true => match stepT (denote tb) p w s t with
        | some (s', t') => topRunT tb p w n₀ ann n s' t'
        | none => none

theorem topRun_of {tb : String → Option Builtin} {p : Program} {w : World} {n₀ : Nat} {ann : Option Value} : ∀ {n : Nat} {s s' : SharedT} {t : Thread}, topRunT tb p w n₀ ann n s t = some s' → topRun tb p w n₀ ann n s.abs t = some s'.abs
  | 0, _, _, _, h => by cases h
  | n + 1, s, s', t, h => by
    unfold topRunT at h
    unfold topRun
    cases ht : through t with
    | true => rw [ht] at h; cases h; rfl
    | false =>
      rw [ht] at h
      cases hk : stepOk n₀ ann t with
      | false => rw [hk] at h; cases h
      | true =>
        rw [hk] at h
        cases hs : stepT (denote tb) p w s t with
        | none => rw [hs] at h; cases h
        | some r => obtain ⟨s₂, t₂⟩ := r; rw [hs] at h; rw [stepT_spec hs]; exact topRun_of h

theorem left_of_run {p q : Program} {loose : List Str} {Xt : Shared → Bool} {α : Type} {Yf : Shared → α} {Ya : World → α} {N M m₀ : Nat} {H₀ : Params → Heap} {gs₀ : Array GenState} {d₀ : Drawn} {k₀ : Nat} {ann : Option Value} {S : World → OsState → Shared}
    (open_ : ∀ w : World, (fencedOpening treeTable p w N).map (fun s => (s.heap, s.gens, s.drawn, s.toks)) = some (H₀ w.params, gs₀, d₀, k₀))
    (size : ∀ w : World, ((H₀ w.params).isNs mainGlobals && gs₀.size == 0, (H₀ w.params).objs.size, (H₀ w.params).nsMap mainGlobals "__annotations__") = (true, m₀, ann))
    (le : Nat.ble M N = true)
    (run : ∀ (w : World) (os : OsState), topRun treeTable p w m₀ ann M ⟨H₀ w.params, gs₀, d₀, k₀, os⟩ (topStub p) = some (S w os))
    (l1 : ∀ (w : World) (os : OsState), (staticsOk (importedModules p.main.body) (H₀ w.params) (S w os).heap && namesBound p (S w os).heap && gensDone (S w os) && laidKept (H₀ w.params) (S w os).heap) = true)
    (l2 : ∀ (w : World) (os : OsState), openSeen q loose (importedModules p.main.body) Xt true (S w os) = openGood q loose)
    (l3 : ∀ (w : World) (os : OsState), Yf (S w os) = Ya w) :
    LeftO p q loose Xt Yf Ya N := fun w => by
  obtain ⟨⟨h, gs, d, k, os⟩, e, e'⟩ := Option.map_eq_some_iff.mp (open_ w)
  obtain ⟨rfl, rfl, rfl, rfl⟩ : h = H₀ w.params ∧ gs = gs₀ ∧ d = d₀ ∧ k = k₀ := by simpa using e'
  obtain ⟨z1, z2, z3⟩ : _ ∧ _ ∧ _ := by simpa only [Prod.mk.injEq] using size w
  have r := topRun_mono (N - M) _ _ _ _ (run w os)
  rw [show M + (N - M) = N by have := Nat.le_of_ble_eq_true le; omega] at r
  have t : topFrom treeTable p w N ⟨H₀ w.params, gs, d, k, os⟩ = some (S w os) := by
    unfold topFrom
    dsimp only
    rw [z1, z2, z3, r]
    show (match staticsOk (importedModules p.main.body) (H₀ w.params) (S w os).heap && namesBound p (S w os).heap && gensDone (S w os) && laidKept (H₀ w.params) (S w os).heap with | true => _ | false => _) = _
    rw [l1]
  unfold openEnds
  rw [e]
  show (topFrom treeTable p w N _).map _ = _
  rw [t]
  exact congrArg some (Prod.ext (l2 w os) (l3 w os))
end Mine
end
section -- HeadM
open PySem PySem.W PyProof.Rows
set_option maxRecDepth 100000
namespace Mine
noncomputable def z0 : Str := Str.mk ⟨[nat_lit 60, nat_lit 109, nat_lit 111, nat_lit 100, nat_lit 117, nat_lit 108, nat_lit 101, nat_lit 62]⟩
noncomputable def z1 : Str := Str.mk ⟨[nat_lit 47, nat_lit 99, nat_lit 108, nat_lit 97, nat_lit 105, nat_lit 109, nat_lit 47, nat_lit 99, nat_lit 117, nat_lit 116, nat_lit 46, nat_lit 112, nat_lit 121]⟩
noncomputable def z2 : Str := Str.mk ⟨[nat_lit 95, nat_lit 95, nat_lit 109, nat_lit 97, nat_lit 105, nat_lit 110, nat_lit 95, nat_lit 95]⟩
noncomputable def z3 : Str := Str.mk ⟨[nat_lit 95, nat_lit 95, nat_lit 110, nat_lit 97, nat_lit 109, nat_lit 101, nat_lit 95, nat_lit 95]⟩
noncomputable def z4 : Str := Str.mk ⟨[nat_lit 99, nat_lit 101, nat_lit 114, nat_lit 116, nat_lit 118, nat_lit 97, nat_lit 108, nat_lit 105, nat_lit 100, nat_lit 97, nat_lit 116, nat_lit 111, nat_lit 114, nat_lit 46, nat_lit 101, nat_lit 114, nat_lit 114, nat_lit 111, nat_lit 114, nat_lit 115]⟩
noncomputable def z5 : Str := Str.mk ⟨[nat_lit 95, nat_lit 95, nat_lit 100, nat_lit 111, nat_lit 99, nat_lit 95, nat_lit 95]⟩
noncomputable def z6 : Str := Str.mk ⟨[nat_lit 95, nat_lit 95, nat_lit 112, nat_lit 97, nat_lit 99, nat_lit 107, nat_lit 97, nat_lit 103, nat_lit 101, nat_lit 95, nat_lit 95]⟩
noncomputable def z7 : Str := Str.mk ⟨[nat_lit 95, nat_lit 95, nat_lit 108, nat_lit 111, nat_lit 97, nat_lit 100, nat_lit 101, nat_lit 114, nat_lit 95, nat_lit 95]⟩
noncomputable def z8 : Str := Str.mk ⟨[nat_lit 95, nat_lit 95, nat_lit 115, nat_lit 112, nat_lit 101, nat_lit 99, nat_lit 95, nat_lit 95]⟩
noncomputable def z9 : Str := Str.mk ⟨[nat_lit 95, nat_lit 95, nat_lit 97, nat_lit 110, nat_lit 110, nat_lit 111, nat_lit 116, nat_lit 97, nat_lit 116, nat_lit 105, nat_lit 111, nat_lit 110, nat_lit 115, nat_lit 95, nat_lit 95]⟩
noncomputable def z10 : Str := Str.mk ⟨[nat_lit 95, nat_lit 95, nat_lit 98, nat_lit 117, nat_lit 105, nat_lit 108, nat_lit 116, nat_lit 105, nat_lit 110, nat_lit 115, nat_lit 95, nat_lit 95]⟩
noncomputable def z11 : Str := Str.mk ⟨[nat_lit 95, nat_lit 95, nat_lit 102, nat_lit 105, nat_lit 108, nat_lit 101, nat_lit 95, nat_lit 95]⟩
noncomputable def z12 : Str := Str.mk ⟨[nat_lit 95, nat_lit 95, nat_lit 99, nat_lit 97, nat_lit 99, nat_lit 104, nat_lit 101, nat_lit 100, nat_lit 95, nat_lit 95]⟩
noncomputable def z13 : Str := Str.mk ⟨[nat_lit 95, nat_lit 119, nat_lit 97, nat_lit 108, nat_lit 108]⟩
noncomputable def z14 : Str := Str.mk ⟨[nat_lit 112, nat_lit 114, nat_lit 101, nat_lit 116, nat_lit 116, nat_lit 121, nat_lit 95, nat_lit 109, nat_lit 101, nat_lit 115, nat_lit 115, nat_lit 97, nat_lit 103, nat_lit 101]⟩
noncomputable def z15 : Str := Str.mk ⟨[nat_lit 116, nat_lit 121, nat_lit 112, nat_lit 101, nat_lit 95, nat_lit 110, nat_lit 97, nat_lit 109, nat_lit 101]⟩
noncomputable def z16 : Str := Str.mk ⟨[nat_lit 78, nat_lit 97, nat_lit 116, nat_lit 105, nat_lit 118, nat_lit 101]⟩
noncomputable def z17 : Str := Str.mk ⟨[nat_lit 78, nat_lit 97, nat_lit 109, nat_lit 101]⟩
noncomputable def z18 : Str := Str.mk ⟨[nat_lit 75, nat_lit 101, nat_lit 121]⟩
noncomputable def z19 : Str := Str.mk ⟨[nat_lit 67, nat_lit 101, nat_lit 114, nat_lit 116, nat_lit 105, nat_lit 102, nat_lit 105, nat_lit 99, nat_lit 97, nat_lit 116, nat_lit 101]⟩
noncomputable def z20 : Str := Str.mk ⟨[nat_lit 107]⟩
noncomputable def z21 : Str := Str.mk ⟨[nat_lit 115, nat_lit 116, nat_lit 114, nat_lit 105, nat_lit 110, nat_lit 103]⟩
noncomputable def z22 : Str := Str.mk ⟨[nat_lit 112, nat_lit 97, nat_lit 114, nat_lit 97, nat_lit 109, nat_lit 115]⟩
noncomputable def z23 : Str := Str.mk ⟨[nat_lit 99, nat_lit 101, nat_lit 114, nat_lit 116, nat_lit 118, nat_lit 97, nat_lit 108, nat_lit 105, nat_lit 100, nat_lit 97, nat_lit 116, nat_lit 111, nat_lit 114, nat_lit 46, nat_lit 95, nat_lit 101, nat_lit 114, nat_lit 114, nat_lit 111, nat_lit 114, nat_lit 115]⟩
noncomputable def z24 : Str := Str.mk ⟨[nat_lit 118, nat_lit 97, nat_lit 108, nat_lit 117, nat_lit 101]⟩
noncomputable def z25 : Str := Str.mk ⟨[nat_lit 99, nat_lit 101, nat_lit 114, nat_lit 116, nat_lit 118, nat_lit 97, nat_lit 108, nat_lit 105, nat_lit 100, nat_lit 97, nat_lit 116, nat_lit 111, nat_lit 114, nat_lit 46, nat_lit 95, nat_lit 116, nat_lit 121, nat_lit 112, nat_lit 101, nat_lit 115]⟩
noncomputable def z26 : Str := Str.mk ⟨[nat_lit 95, nat_lit 95, nat_lit 109, nat_lit 111, nat_lit 100, nat_lit 117, nat_lit 108, nat_lit 101, nat_lit 95, nat_lit 95]⟩
noncomputable def z27 : Str := Str.mk ⟨[nat_lit 95, nat_lit 95, nat_lit 113, nat_lit 117, nat_lit 97, nat_lit 108, nat_lit 110, nat_lit 97, nat_lit 109, nat_lit 101, nat_lit 95, nat_lit 95]⟩
noncomputable def z28 : Str := Str.mk ⟨[nat_lit 95, nat_lit 95, nat_lit 102, nat_lit 105, nat_lit 114, nat_lit 115, nat_lit 116, nat_lit 108, nat_lit 105, nat_lit 110, nat_lit 101, nat_lit 110, nat_lit 111, nat_lit 95, nat_lit 95]⟩
noncomputable def z29 : Str := Str.mk ⟨[nat_lit 95, nat_lit 95, nat_lit 105, nat_lit 110, nat_lit 105, nat_lit 116, nat_lit 95, nat_lit 95]⟩
noncomputable def z30 : Str := Str.mk ⟨[nat_lit 95, nat_lit 95, nat_lit 115, nat_lit 116, nat_lit 97, nat_lit 116, nat_lit 105, nat_lit 99, nat_lit 95, nat_lit 97, nat_lit 116, nat_lit 116, nat_lit 114, nat_lit 105, nat_lit 98, nat_lit 117, nat_lit 116, nat_lit 101, nat_lit 115, nat_lit 95, nat_lit 95]⟩
noncomputable def z31 : Str := Str.mk ⟨[nat_lit 115, nat_lit 101, nat_lit 108, nat_lit 102]⟩
noncomputable def z32 : Str := Str.mk ⟨[nat_lit 110, nat_lit 97, nat_lit 116, nat_lit 105, nat_lit 118, nat_lit 101]⟩
noncomputable def z33 : Str := Str.mk ⟨[nat_lit 78, nat_lit 97, nat_lit 116, nat_lit 105, nat_lit 118, nat_lit 101, nat_lit 46, nat_lit 95, nat_lit 95, nat_lit 105, nat_lit 110, nat_lit 105, nat_lit 116, nat_lit 95, nat_lit 95]⟩
noncomputable def z34 : Str := Str.mk ⟨[nat_lit 95, nat_lit 95, nat_lit 100, nat_lit 105, nat_lit 99, nat_lit 116, nat_lit 95, nat_lit 95]⟩
noncomputable def z35 : Str := Str.mk ⟨[nat_lit 95, nat_lit 95, nat_lit 119, nat_lit 101, nat_lit 97, nat_lit 107, nat_lit 114, nat_lit 101, nat_lit 102, nat_lit 95, nat_lit 95]⟩
noncomputable def z36 : Str := Str.mk ⟨[nat_lit 95, nat_lit 95, nat_lit 101, nat_lit 113, nat_lit 95, nat_lit 95]⟩
noncomputable def z37 : Str := Str.mk ⟨[nat_lit 95, nat_lit 95, nat_lit 110, nat_lit 101, nat_lit 95, nat_lit 95]⟩
noncomputable def z38 : Str := Str.mk ⟨[nat_lit 116, nat_lit 101, nat_lit 120, nat_lit 116]⟩
noncomputable def z39 : Str := Str.mk ⟨[nat_lit 78, nat_lit 97, nat_lit 109, nat_lit 101, nat_lit 46, nat_lit 95, nat_lit 95, nat_lit 105, nat_lit 110, nat_lit 105, nat_lit 116, nat_lit 95, nat_lit 95]⟩
noncomputable def z40 : Str := Str.mk ⟨[nat_lit 111, nat_lit 116, nat_lit 104, nat_lit 101, nat_lit 114]⟩
noncomputable def z41 : Str := Str.mk ⟨[nat_lit 78, nat_lit 97, nat_lit 109, nat_lit 101, nat_lit 46, nat_lit 95, nat_lit 95, nat_lit 101, nat_lit 113, nat_lit 95, nat_lit 95]⟩
noncomputable def z42 : Str := Str.mk ⟨[nat_lit 78, nat_lit 97, nat_lit 109, nat_lit 101, nat_lit 46, nat_lit 95, nat_lit 95, nat_lit 110, nat_lit 101, nat_lit 95, nat_lit 95]⟩
noncomputable def z43 : Str := Str.mk ⟨[nat_lit 104, nat_lit 97, nat_lit 115, nat_lit 104, nat_lit 97, nat_lit 98, nat_lit 108, nat_lit 101]⟩
noncomputable def z44 : Str := Str.mk ⟨[nat_lit 104, nat_lit 117, nat_lit 109, nat_lit 97, nat_lit 110, nat_lit 95, nat_lit 102, nat_lit 114, nat_lit 105, nat_lit 101, nat_lit 110, nat_lit 100, nat_lit 108, nat_lit 121]⟩
noncomputable def z45 : Str := Str.mk ⟨[nat_lit 95, nat_lit 95, nat_lit 104, nat_lit 97, nat_lit 115, nat_lit 104, nat_lit 95, nat_lit 95]⟩
noncomputable def z46 : Str := Str.mk ⟨[nat_lit 110, nat_lit 117, nat_lit 109, nat_lit 98, nat_lit 101, nat_lit 114]⟩
noncomputable def z47 : Str := Str.mk ⟨[nat_lit 75, nat_lit 101, nat_lit 121, nat_lit 46, nat_lit 95, nat_lit 95, nat_lit 105, nat_lit 110, nat_lit 105, nat_lit 116, nat_lit 95, nat_lit 95]⟩
noncomputable def z48 : Str := Str.mk ⟨[nat_lit 115, nat_lit 104, nat_lit 97, nat_lit 49]⟩
noncomputable def z49 : Str := Str.mk ⟨[nat_lit 105, nat_lit 115, nat_lit 115, nat_lit 117, nat_lit 101, nat_lit 114, nat_lit 95, nat_lit 115, nat_lit 101, nat_lit 114, nat_lit 105, nat_lit 97, nat_lit 108]⟩
noncomputable def z50 : Str := Str.mk ⟨[nat_lit 115, nat_lit 101, nat_lit 108, nat_lit 102, nat_lit 95, nat_lit 105, nat_lit 115, nat_lit 115, nat_lit 117, nat_lit 101, nat_lit 100]⟩
noncomputable def z51 : Str := Str.mk ⟨[nat_lit 115, nat_lit 101, nat_lit 108, nat_lit 102, nat_lit 95, nat_lit 115, nat_lit 105, nat_lit 103, nat_lit 110, nat_lit 101, nat_lit 100]⟩
noncomputable def z52 : Str := Str.mk ⟨[nat_lit 95, nat_lit 95, nat_lit 103, nat_lit 101, nat_lit 116, nat_lit 105, nat_lit 116, nat_lit 101, nat_lit 109, nat_lit 95, nat_lit 95]⟩
noncomputable def z53 : Str := Str.mk ⟨[nat_lit 115, nat_lit 117, nat_lit 98, nat_lit 106, nat_lit 101, nat_lit 99, nat_lit 116]⟩
noncomputable def z54 : Str := Str.mk ⟨[nat_lit 105, nat_lit 115, nat_lit 115, nat_lit 117, nat_lit 101, nat_lit 114]⟩
noncomputable def z55 : Str := Str.mk ⟨[nat_lit 112, nat_lit 117, nat_lit 98, nat_lit 108, nat_lit 105, nat_lit 99, nat_lit 95, nat_lit 107, nat_lit 101, nat_lit 121]⟩
noncomputable def z56 : Str := Str.mk ⟨[nat_lit 115, nat_lit 105, nat_lit 103, nat_lit 110, nat_lit 101, nat_lit 114]⟩
noncomputable def z57 : Str := Str.mk ⟨[nat_lit 67, nat_lit 101, nat_lit 114, nat_lit 116, nat_lit 105, nat_lit 102, nat_lit 105, nat_lit 99, nat_lit 97, nat_lit 116, nat_lit 101, nat_lit 46, nat_lit 95, nat_lit 95, nat_lit 105, nat_lit 110, nat_lit 105, nat_lit 116, nat_lit 95, nat_lit 95]⟩
noncomputable def z58 : Str := Str.mk ⟨[nat_lit 67, nat_lit 101, nat_lit 114, nat_lit 116, nat_lit 105, nat_lit 102, nat_lit 105, nat_lit 99, nat_lit 97, nat_lit 116, nat_lit 101, nat_lit 46, nat_lit 105, nat_lit 115, nat_lit 115, nat_lit 117, nat_lit 101, nat_lit 114, nat_lit 95, nat_lit 115, nat_lit 101, nat_lit 114, nat_lit 105, nat_lit 97, nat_lit 108]⟩
noncomputable def z59 : Str := Str.mk ⟨[nat_lit 67, nat_lit 101, nat_lit 114, nat_lit 116, nat_lit 105, nat_lit 102, nat_lit 105, nat_lit 99, nat_lit 97, nat_lit 116, nat_lit 101, nat_lit 46, nat_lit 115, nat_lit 101, nat_lit 108, nat_lit 102, nat_lit 95, nat_lit 105, nat_lit 115, nat_lit 115, nat_lit 117, nat_lit 101, nat_lit 100]⟩
noncomputable def z60 : Str := Str.mk ⟨[nat_lit 67, nat_lit 101, nat_lit 114, nat_lit 116, nat_lit 105, nat_lit 102, nat_lit 105, nat_lit 99, nat_lit 97, nat_lit 116, nat_lit 101, nat_lit 46, nat_lit 115, nat_lit 101, nat_lit 108, nat_lit 102, nat_lit 95, nat_lit 115, nat_lit 105, nat_lit 103, nat_lit 110, nat_lit 101, nat_lit 100]⟩
noncomputable def z61 : Str := Str.mk ⟨[nat_lit 107, nat_lit 101, nat_lit 121]⟩
noncomputable def z62 : Str := Str.mk ⟨[nat_lit 67, nat_lit 101, nat_lit 114, nat_lit 116, nat_lit 105, nat_lit 102, nat_lit 105, nat_lit 99, nat_lit 97, nat_lit 116, nat_lit 101, nat_lit 46, nat_lit 95, nat_lit 95, nat_lit 103, nat_lit 101, nat_lit 116, nat_lit 105, nat_lit 116, nat_lit 101, nat_lit 109, nat_lit 95, nat_lit 95]⟩
noncomputable def z63 : Str := Str.mk ⟨[nat_lit 97, nat_lit 117, nat_lit 116, nat_lit 104, nat_lit 111, nat_lit 114, nat_lit 105, nat_lit 116, nat_lit 121, nat_lit 95, nat_lit 105, nat_lit 115, nat_lit 115, nat_lit 117, nat_lit 101, nat_lit 114, nat_lit 95, nat_lit 115, nat_lit 101, nat_lit 114, nat_lit 105, nat_lit 97, nat_lit 108]⟩
noncomputable def z64 : Str := Str.mk ⟨[nat_lit 97, nat_lit 117, nat_lit 116, nat_lit 104, nat_lit 111, nat_lit 114, nat_lit 105, nat_lit 116, nat_lit 121, nat_lit 95, nat_lit 107, nat_lit 101, nat_lit 121, nat_lit 95, nat_lit 105, nat_lit 100, nat_lit 101, nat_lit 110, nat_lit 116, nat_lit 105, nat_lit 102, nat_lit 105, nat_lit 101, nat_lit 114]⟩
noncomputable def z65 : Str := Str.mk ⟨[nat_lit 99, nat_lit 97]⟩
noncomputable def z66 : Str := Str.mk ⟨[nat_lit 99, nat_lit 101, nat_lit 114, nat_lit 116, nat_lit 105, nat_lit 102, nat_lit 105, nat_lit 99, nat_lit 97, nat_lit 116, nat_lit 101, nat_lit 95, nat_lit 112, nat_lit 111, nat_lit 108, nat_lit 105, nat_lit 99, nat_lit 105, nat_lit 101, nat_lit 115, nat_lit 95, nat_lit 118, nat_lit 97, nat_lit 108, nat_lit 117, nat_lit 101]⟩
noncomputable def z67 : Str := Str.mk ⟨[nat_lit 99, nat_lit 114, nat_lit 105, nat_lit 116, nat_lit 105, nat_lit 99, nat_lit 97, nat_lit 108, nat_lit 95, nat_lit 101, nat_lit 120, nat_lit 116, nat_lit 101, nat_lit 110, nat_lit 115, nat_lit 105, nat_lit 111, nat_lit 110, nat_lit 115]⟩
noncomputable def z68 : Str := Str.mk ⟨[nat_lit 101, nat_lit 120, nat_lit 116, nat_lit 101, nat_lit 110, nat_lit 100, nat_lit 101, nat_lit 100, nat_lit 95, nat_lit 107, nat_lit 101, nat_lit 121, nat_lit 95, nat_lit 117, nat_lit 115, nat_lit 97, nat_lit 103, nat_lit 101, nat_lit 95, nat_lit 118, nat_lit 97, nat_lit 108, nat_lit 117, nat_lit 101]⟩
noncomputable def z69 : Str := Str.mk ⟨[nat_lit 104, nat_lit 97, nat_lit 115, nat_lit 104, nat_lit 95, nat_lit 97, nat_lit 108, nat_lit 103, nat_lit 111]⟩
noncomputable def z70 : Str := Str.mk ⟨[nat_lit 105, nat_lit 110, nat_lit 104, nat_lit 105, nat_lit 98, nat_lit 105, nat_lit 116, nat_lit 95, nat_lit 97, nat_lit 110, nat_lit 121, nat_lit 95, nat_lit 112, nat_lit 111, nat_lit 108, nat_lit 105, nat_lit 99, nat_lit 121, nat_lit 95, nat_lit 118, nat_lit 97, nat_lit 108, nat_lit 117, nat_lit 101]⟩
noncomputable def z71 : Str := Str.mk ⟨[nat_lit 107, nat_lit 101, nat_lit 121, nat_lit 95, nat_lit 105, nat_lit 100, nat_lit 101, nat_lit 110, nat_lit 116, nat_lit 105, nat_lit 102, nat_lit 105, nat_lit 101, nat_lit 114]⟩
noncomputable def z72 : Str := Str.mk ⟨[nat_lit 107, nat_lit 101, nat_lit 121, nat_lit 95, nat_lit 117, nat_lit 115, nat_lit 97, nat_lit 103, nat_lit 101, nat_lit 95, nat_lit 118, nat_lit 97, nat_lit 108, nat_lit 117, nat_lit 101]⟩
noncomputable def z73 : Str := Str.mk ⟨[nat_lit 109, nat_lit 97, nat_lit 120, nat_lit 95, nat_lit 112, nat_lit 97, nat_lit 116, nat_lit 104, nat_lit 95, nat_lit 108, nat_lit 101, nat_lit 110, nat_lit 103, nat_lit 116, nat_lit 104]⟩
noncomputable def z74 : Str := Str.mk ⟨[nat_lit 110, nat_lit 111, nat_lit 116, nat_lit 95, nat_lit 97, nat_lit 102, nat_lit 116, nat_lit 101, nat_lit 114]⟩
noncomputable def z75 : Str := Str.mk ⟨[nat_lit 110, nat_lit 111, nat_lit 116, nat_lit 95, nat_lit 98, nat_lit 101, nat_lit 102, nat_lit 111, nat_lit 114, nat_lit 101]⟩
noncomputable def z76 : Str := Str.mk ⟨[nat_lit 112, nat_lit 111, nat_lit 108, nat_lit 105, nat_lit 99, nat_lit 121, nat_lit 95, nat_lit 99, nat_lit 111, nat_lit 110, nat_lit 115, nat_lit 116, nat_lit 114, nat_lit 97, nat_lit 105, nat_lit 110, nat_lit 116, nat_lit 115, nat_lit 95, nat_lit 118, nat_lit 97, nat_lit 108, nat_lit 117, nat_lit 101]⟩
noncomputable def z77 : Str := Str.mk ⟨[nat_lit 112, nat_lit 111, nat_lit 108, nat_lit 105, nat_lit 99, nat_lit 121, nat_lit 95, nat_lit 109, nat_lit 97, nat_lit 112, nat_lit 112, nat_lit 105, nat_lit 110, nat_lit 103, nat_lit 115, nat_lit 95, nat_lit 118, nat_lit 97, nat_lit 108, nat_lit 117, nat_lit 101]⟩
noncomputable def z78 : Str := Str.mk ⟨[nat_lit 115, nat_lit 101, nat_lit 114, nat_lit 105, nat_lit 97, nat_lit 108, nat_lit 95, nat_lit 110, nat_lit 117, nat_lit 109, nat_lit 98, nat_lit 101, nat_lit 114]⟩
noncomputable def z79 : Str := Str.mk ⟨[nat_lit 115, nat_lit 104, nat_lit 97, nat_lit 50, nat_lit 53, nat_lit 54]⟩
noncomputable def z80 : Str := Str.mk ⟨[nat_lit 115, nat_lit 105, nat_lit 103, nat_lit 110, nat_lit 97, nat_lit 116, nat_lit 117, nat_lit 114, nat_lit 101]⟩
noncomputable def z81 : Str := Str.mk ⟨[nat_lit 115, nat_lit 105, nat_lit 103, nat_lit 110, nat_lit 97, nat_lit 116, nat_lit 117, nat_lit 114, nat_lit 101, nat_lit 95, nat_lit 97, nat_lit 108, nat_lit 103, nat_lit 111]⟩
noncomputable def z82 : Str := Str.mk ⟨[nat_lit 116, nat_lit 121, nat_lit 112, nat_lit 101, nat_lit 46, nat_lit 95, nat_lit 95, nat_lit 115, nat_lit 117, nat_lit 98, nat_lit 99, nat_lit 108, nat_lit 97, nat_lit 115, nat_lit 115, nat_lit 101, nat_lit 115, nat_lit 95, nat_lit 95, nat_lit 46, nat_lit 69, nat_lit 120, nat_lit 99, nat_lit 101, nat_lit 112, nat_lit 116, nat_lit 105, nat_lit 111, nat_lit 110, nat_lit 46, nat_lit 48]⟩
noncomputable def z83 : Str := Str.mk ⟨[nat_lit 116, nat_lit 121, nat_lit 112, nat_lit 101, nat_lit 46, nat_lit 95, nat_lit 95, nat_lit 115, nat_lit 117, nat_lit 98, nat_lit 99, nat_lit 108, nat_lit 97, nat_lit 115, nat_lit 115, nat_lit 101, nat_lit 115, nat_lit 95, nat_lit 95, nat_lit 46, nat_lit 69, nat_lit 120, nat_lit 99, nat_lit 101, nat_lit 112, nat_lit 116, nat_lit 105, nat_lit 111, nat_lit 110, nat_lit 46, nat_lit 110]⟩
noncomputable def z84 : Str := Str.mk ⟨[nat_lit 99, nat_lit 101, nat_lit 114, nat_lit 116, nat_lit 118, nat_lit 97, nat_lit 108, nat_lit 105, nat_lit 100, nat_lit 97, nat_lit 116, nat_lit 111, nat_lit 114, nat_lit 46, nat_lit 114, nat_lit 101, nat_lit 103, nat_lit 105, nat_lit 115, nat_lit 116, nat_lit 114, nat_lit 121]⟩
noncomputable def z85 : Str := Str.mk ⟨[nat_lit 86, nat_lit 97, nat_lit 108, nat_lit 105, nat_lit 100, nat_lit 97, nat_lit 116, nat_lit 105, nat_lit 111, nat_lit 110, nat_lit 69, nat_lit 114, nat_lit 114, nat_lit 111, nat_lit 114]⟩
noncomputable def z86 : Str := Str.mk ⟨[nat_lit 80, nat_lit 97, nat_lit 116, nat_lit 104, nat_lit 86, nat_lit 97, nat_lit 108, nat_lit 105, nat_lit 100, nat_lit 97, nat_lit 116, nat_lit 105, nat_lit 111, nat_lit 110, nat_lit 69, nat_lit 114, nat_lit 114, nat_lit 111, nat_lit 114]⟩
noncomputable def z87 : Str := Str.mk ⟨[nat_lit 73, nat_lit 110, nat_lit 118, nat_lit 97, nat_lit 108, nat_lit 105, nat_lit 100, nat_lit 67, nat_lit 101, nat_lit 114, nat_lit 116, nat_lit 105, nat_lit 102, nat_lit 105, nat_lit 99, nat_lit 97, nat_lit 116, nat_lit 101, nat_lit 69, nat_lit 114, nat_lit 114, nat_lit 111, nat_lit 114]⟩
noncomputable def z88 : Str := Str.mk ⟨[nat_lit 67, nat_lit 101, nat_lit 114, nat_lit 116, nat_lit 105, nat_lit 102, nat_lit 105, nat_lit 99, nat_lit 97, nat_lit 116, nat_lit 101, nat_lit 82, nat_lit 101, nat_lit 103, nat_lit 105, nat_lit 115, nat_lit 116, nat_lit 114, nat_lit 121]⟩
noncomputable def z89 : Str := Str.mk ⟨[nat_lit 95, nat_lit 115, nat_lit 117, nat_lit 98, nat_lit 106, nat_lit 101, nat_lit 99, nat_lit 116, nat_lit 95, nat_lit 109, nat_lit 97, nat_lit 112]⟩
noncomputable def z90 : Str := Str.mk ⟨[nat_lit 95, nat_lit 107, nat_lit 101, nat_lit 121, nat_lit 95, nat_lit 105, nat_lit 100, nat_lit 101, nat_lit 110, nat_lit 116, nat_lit 105, nat_lit 102, nat_lit 105, nat_lit 101, nat_lit 114, nat_lit 95, nat_lit 109, nat_lit 97, nat_lit 112]⟩
noncomputable def z91 : Str := Str.mk ⟨[nat_lit 95, nat_lit 99, nat_lit 97, nat_lit 95, nat_lit 108, nat_lit 111, nat_lit 111, nat_lit 107, nat_lit 117, nat_lit 112]⟩
noncomputable def z92 : Str := Str.mk ⟨[nat_lit 95, nat_lit 118, nat_lit 97, nat_lit 108, nat_lit 105, nat_lit 100, nat_lit 97, nat_lit 116, nat_lit 101, nat_lit 95, nat_lit 117, nat_lit 110, nat_lit 97, nat_lit 114, nat_lit 109, nat_lit 111, nat_lit 114]⟩
noncomputable def z93 : Str := Str.mk ⟨[nat_lit 105, nat_lit 115, nat_lit 95, nat_lit 99, nat_lit 97]⟩
noncomputable def z94 : Str := Str.mk ⟨[nat_lit 97, nat_lit 100, nat_lit 100, nat_lit 95, nat_lit 111, nat_lit 116, nat_lit 104, nat_lit 101, nat_lit 114, nat_lit 95, nat_lit 99, nat_lit 101, nat_lit 114, nat_lit 116]⟩
noncomputable def z95 : Str := Str.mk ⟨[nat_lit 114, nat_lit 101, nat_lit 116, nat_lit 114, nat_lit 105, nat_lit 101, nat_lit 118, nat_lit 101, nat_lit 95, nat_lit 98, nat_lit 121, nat_lit 95, nat_lit 107, nat_lit 101, nat_lit 121, nat_lit 95, nat_lit 105, nat_lit 100, nat_lit 101, nat_lit 110, nat_lit 116, nat_lit 105, nat_lit 102, nat_lit 105, nat_lit 101, nat_lit 114]⟩
noncomputable def z96 : Str := Str.mk ⟨[nat_lit 114, nat_lit 101, nat_lit 116, nat_lit 114, nat_lit 105, nat_lit 101, nat_lit 118, nat_lit 101, nat_lit 95, nat_lit 98, nat_lit 121, nat_lit 95, nat_lit 110, nat_lit 97, nat_lit 109, nat_lit 101]⟩
noncomputable def z97 : Str := Str.mk ⟨[nat_lit 98, nat_lit 117, nat_lit 105, nat_lit 108, nat_lit 100, nat_lit 95, nat_lit 112, nat_lit 97, nat_lit 116, nat_lit 104, nat_lit 115]⟩
noncomputable def z98 : Str := Str.mk ⟨[nat_lit 95, nat_lit 119, nat_lit 97, nat_lit 108, nat_lit 107, nat_lit 95, nat_lit 105, nat_lit 115, nat_lit 115, nat_lit 117, nat_lit 101, nat_lit 114, nat_lit 115]⟩
noncomputable def z99 : Str := Str.mk ⟨[nat_lit 95, nat_lit 112, nat_lit 111, nat_lit 115, nat_lit 115, nat_lit 105, nat_lit 98, nat_lit 108, nat_lit 101, nat_lit 95, nat_lit 105, nat_lit 115, nat_lit 115, nat_lit 117, nat_lit 101, nat_lit 114, nat_lit 115]⟩
noncomputable def z100 : Str := Str.mk ⟨[nat_lit 116, nat_lit 114, nat_lit 117, nat_lit 115, nat_lit 116, nat_lit 95, nat_lit 114, nat_lit 111, nat_lit 111, nat_lit 116, nat_lit 115]⟩
noncomputable def z101 : Str := Str.mk ⟨[nat_lit 101, nat_lit 120, nat_lit 116, nat_lit 114, nat_lit 97, nat_lit 95, nat_lit 116, nat_lit 114, nat_lit 117, nat_lit 115, nat_lit 116, nat_lit 95, nat_lit 114, nat_lit 111, nat_lit 111, nat_lit 116, nat_lit 115]⟩
noncomputable def z102 : Str := Str.mk ⟨[nat_lit 111, nat_lit 116, nat_lit 104, nat_lit 101, nat_lit 114, nat_lit 95, nat_lit 99, nat_lit 101, nat_lit 114, nat_lit 116, nat_lit 115]⟩
noncomputable def z103 : Str := Str.mk ⟨[nat_lit 116, nat_lit 114, nat_lit 117, nat_lit 115, nat_lit 116, nat_lit 95, nat_lit 114, nat_lit 111, nat_lit 111, nat_lit 116]⟩
noncomputable def z104 : Str := Str.mk ⟨[nat_lit 111, nat_lit 116, nat_lit 104, nat_lit 101, nat_lit 114, nat_lit 95, nat_lit 99, nat_lit 101, nat_lit 114, nat_lit 116]⟩
noncomputable def z105 : Str := Str.mk ⟨[nat_lit 67, nat_lit 101, nat_lit 114, nat_lit 116, nat_lit 105, nat_lit 102, nat_lit 105, nat_lit 99, nat_lit 97, nat_lit 116, nat_lit 101, nat_lit 82, nat_lit 101, nat_lit 103, nat_lit 105, nat_lit 115, nat_lit 116, nat_lit 114, nat_lit 121, nat_lit 46, nat_lit 95, nat_lit 95, nat_lit 105, nat_lit 110, nat_lit 105, nat_lit 116, nat_lit 95, nat_lit 95]⟩
noncomputable def z106 : Str := Str.mk ⟨[nat_lit 99, nat_lit 101, nat_lit 114, nat_lit 116, nat_lit 115]⟩
noncomputable def z107 : Str := Str.mk ⟨[nat_lit 118, nat_lit 97, nat_lit 114, nat_lit 95, nat_lit 110, nat_lit 97, nat_lit 109, nat_lit 101]⟩
noncomputable def z108 : Str := Str.mk ⟨[nat_lit 111, nat_lit 117, nat_lit 116, nat_lit 112, nat_lit 117, nat_lit 116]⟩
noncomputable def z109 : Str := Str.mk ⟨[nat_lit 99, nat_lit 101, nat_lit 114, nat_lit 116]⟩
noncomputable def z110 : Str := Str.mk ⟨[nat_lit 67, nat_lit 101, nat_lit 114, nat_lit 116, nat_lit 105, nat_lit 102, nat_lit 105, nat_lit 99, nat_lit 97, nat_lit 116, nat_lit 101, nat_lit 82, nat_lit 101, nat_lit 103, nat_lit 105, nat_lit 115, nat_lit 116, nat_lit 114, nat_lit 121, nat_lit 46, nat_lit 95, nat_lit 118, nat_lit 97, nat_lit 108, nat_lit 105, nat_lit 100, nat_lit 97, nat_lit 116, nat_lit 101, nat_lit 95, nat_lit 117, nat_lit 110, nat_lit 97, nat_lit 114, nat_lit 109, nat_lit 111, nat_lit 114]⟩
noncomputable def z111 : Str := Str.mk ⟨[nat_lit 67, nat_lit 101, nat_lit 114, nat_lit 116, nat_lit 105, nat_lit 102, nat_lit 105, nat_lit 99, nat_lit 97, nat_lit 116, nat_lit 101, nat_lit 82, nat_lit 101, nat_lit 103, nat_lit 105, nat_lit 115, nat_lit 116, nat_lit 114, nat_lit 121, nat_lit 46, nat_lit 105, nat_lit 115, nat_lit 95, nat_lit 99, nat_lit 97]⟩
noncomputable def z112 : Str := Str.mk ⟨[nat_lit 67, nat_lit 101, nat_lit 114, nat_lit 116, nat_lit 105, nat_lit 102, nat_lit 105, nat_lit 99, nat_lit 97, nat_lit 116, nat_lit 101, nat_lit 82, nat_lit 101, nat_lit 103, nat_lit 105, nat_lit 115, nat_lit 116, nat_lit 114, nat_lit 121, nat_lit 46, nat_lit 97, nat_lit 100, nat_lit 100, nat_lit 95, nat_lit 111, nat_lit 116, nat_lit 104, nat_lit 101, nat_lit 114, nat_lit 95, nat_lit 99, nat_lit 101, nat_lit 114, nat_lit 116]⟩
noncomputable def z113 : Str := Str.mk ⟨[nat_lit 67, nat_lit 101, nat_lit 114, nat_lit 116, nat_lit 105, nat_lit 102, nat_lit 105, nat_lit 99, nat_lit 97, nat_lit 116, nat_lit 101, nat_lit 82, nat_lit 101, nat_lit 103, nat_lit 105, nat_lit 115, nat_lit 116, nat_lit 114, nat_lit 121, nat_lit 46, nat_lit 114, nat_lit 101, nat_lit 116, nat_lit 114, nat_lit 105, nat_lit 101, nat_lit 118, nat_lit 101, nat_lit 95, nat_lit 98, nat_lit 121, nat_lit 95, nat_lit 107, nat_lit 101, nat_lit 121, nat_lit 95, nat_lit 105, nat_lit 100, nat_lit 101, nat_lit 110, nat_lit 116, nat_lit 105, nat_lit 102, nat_lit 105, nat_lit 101, nat_lit 114]⟩
noncomputable def z114 : Str := Str.mk ⟨[nat_lit 110, nat_lit 97, nat_lit 109, nat_lit 101]⟩
noncomputable def z115 : Str := Str.mk ⟨[nat_lit 102, nat_lit 105, nat_lit 114, nat_lit 115, nat_lit 116, nat_lit 95, nat_lit 99, nat_lit 101, nat_lit 114, nat_lit 116, nat_lit 105, nat_lit 102, nat_lit 105, nat_lit 99, nat_lit 97, nat_lit 116, nat_lit 101]⟩
noncomputable def z116 : Str := Str.mk ⟨[nat_lit 67, nat_lit 101, nat_lit 114, nat_lit 116, nat_lit 105, nat_lit 102, nat_lit 105, nat_lit 99, nat_lit 97, nat_lit 116, nat_lit 101, nat_lit 82, nat_lit 101, nat_lit 103, nat_lit 105, nat_lit 115, nat_lit 116, nat_lit 114, nat_lit 121, nat_lit 46, nat_lit 114, nat_lit 101, nat_lit 116, nat_lit 114, nat_lit 105, nat_lit 101, nat_lit 118, nat_lit 101, nat_lit 95, nat_lit 98, nat_lit 121, nat_lit 95, nat_lit 110, nat_lit 97, nat_lit 109, nat_lit 101]⟩
noncomputable def z117 : Str := Str.mk ⟨[nat_lit 101, nat_lit 110, nat_lit 100, nat_lit 95, nat_lit 101, nat_lit 110, nat_lit 116, nat_lit 105, nat_lit 116, nat_lit 121, nat_lit 95, nat_lit 99, nat_lit 101, nat_lit 114, nat_lit 116]⟩
noncomputable def z118 : Str := Str.mk ⟨[nat_lit 67, nat_lit 101, nat_lit 114, nat_lit 116, nat_lit 105, nat_lit 102, nat_lit 105, nat_lit 99, nat_lit 97, nat_lit 116, nat_lit 101, nat_lit 82, nat_lit 101, nat_lit 103, nat_lit 105, nat_lit 115, nat_lit 116, nat_lit 114, nat_lit 121, nat_lit 46, nat_lit 98, nat_lit 117, nat_lit 105, nat_lit 108, nat_lit 100, nat_lit 95, nat_lit 112, nat_lit 97, nat_lit 116, nat_lit 104, nat_lit 115]⟩
noncomputable def z119 : Str := Str.mk ⟨[nat_lit 112, nat_lit 97, nat_lit 116, nat_lit 104]⟩
noncomputable def z120 : Str := Str.mk ⟨[nat_lit 112, nat_lit 97, nat_lit 116, nat_lit 104, nat_lit 115]⟩
noncomputable def z121 : Str := Str.mk ⟨[nat_lit 102, nat_lit 97, nat_lit 105, nat_lit 108, nat_lit 101, nat_lit 100, nat_lit 95, nat_lit 112, nat_lit 97, nat_lit 116, nat_lit 104, nat_lit 115]⟩
noncomputable def z122 : Str := Str.mk ⟨[nat_lit 67, nat_lit 101, nat_lit 114, nat_lit 116, nat_lit 105, nat_lit 102, nat_lit 105, nat_lit 99, nat_lit 97, nat_lit 116, nat_lit 101, nat_lit 82, nat_lit 101, nat_lit 103, nat_lit 105, nat_lit 115, nat_lit 116, nat_lit 114, nat_lit 121, nat_lit 46, nat_lit 95, nat_lit 119, nat_lit 97, nat_lit 108, nat_lit 107, nat_lit 95, nat_lit 105, nat_lit 115, nat_lit 115, nat_lit 117, nat_lit 101, nat_lit 114, nat_lit 115]⟩
noncomputable def z123 : Str := Str.mk ⟨[nat_lit 67, nat_lit 101, nat_lit 114, nat_lit 116, nat_lit 105, nat_lit 102, nat_lit 105, nat_lit 99, nat_lit 97, nat_lit 116, nat_lit 101, nat_lit 82, nat_lit 101, nat_lit 103, nat_lit 105, nat_lit 115, nat_lit 116, nat_lit 114, nat_lit 121, nat_lit 46, nat_lit 95, nat_lit 112, nat_lit 111, nat_lit 115, nat_lit 115, nat_lit 105, nat_lit 98, nat_lit 108, nat_lit 101, nat_lit 95, nat_lit 105, nat_lit 115, nat_lit 115, nat_lit 117, nat_lit 101, nat_lit 114, nat_lit 115]⟩
noncomputable def z124 : Str := Str.mk ⟨[nat_lit 108, nat_lit 97, nat_lit 119, nat_lit 95, nat_lit 106, nat_lit 101, nat_lit 48, nat_lit 48, nat_lit 48, nat_lit 55, nat_lit 95, nat_lit 48, nat_lit 49]⟩
noncomputable def z125 : Str := Str.mk ⟨[nat_lit 86, nat_lit 97, nat_lit 108, nat_lit 105, nat_lit 100, nat_lit 97, nat_lit 116, nat_lit 105, nat_lit 111, nat_lit 110, nat_lit 67, nat_lit 111, nat_lit 110, nat_lit 116, nat_lit 101, nat_lit 120, nat_lit 116]⟩
noncomputable def z126 : Str := Str.mk ⟨[nat_lit 118, nat_lit 97, nat_lit 108, nat_lit 105, nat_lit 100, nat_lit 97, nat_lit 116, nat_lit 101, nat_lit 95, nat_lit 117, nat_lit 115, nat_lit 97, nat_lit 103, nat_lit 101]⟩
noncomputable def z127 : Str := Str.mk ⟨[nat_lit 108, nat_lit 97, nat_lit 119]⟩
noncomputable def z128 : Str := Str.mk ⟨[nat_lit 99, nat_lit 101, nat_lit 114, nat_lit 116, nat_lit 118, nat_lit 97, nat_lit 108, nat_lit 105, nat_lit 100, nat_lit 97, nat_lit 116, nat_lit 111, nat_lit 114, nat_lit 46, nat_lit 99, nat_lit 111, nat_lit 110, nat_lit 116, nat_lit 101, nat_lit 120, nat_lit 116]⟩
noncomputable def z129 : Str := Str.mk ⟨[nat_lit 99, nat_lit 101, nat_lit 114, nat_lit 116, nat_lit 105, nat_lit 102, nat_lit 105, nat_lit 99, nat_lit 97, nat_lit 116, nat_lit 101, nat_lit 95, nat_lit 114, nat_lit 101, nat_lit 103, nat_lit 105, nat_lit 115, nat_lit 116, nat_lit 114, nat_lit 121]⟩
noncomputable def z130 : Str := Str.mk ⟨[nat_lit 119, nat_lit 101, nat_lit 97, nat_lit 107, nat_lit 95, nat_lit 104, nat_lit 97, nat_lit 115, nat_lit 104, nat_lit 95, nat_lit 97, nat_lit 108, nat_lit 103, nat_lit 111, nat_lit 115]⟩
noncomputable def z131 : Str := Str.mk ⟨[nat_lit 95, nat_lit 119, nat_lit 104, nat_lit 105, nat_lit 116, nat_lit 101, nat_lit 108, nat_lit 105, nat_lit 115, nat_lit 116, nat_lit 101, nat_lit 100, nat_lit 95, nat_lit 99, nat_lit 101, nat_lit 114, nat_lit 116, nat_lit 115]⟩
noncomputable def z132 : Str := Str.mk ⟨[nat_lit 95, nat_lit 118, nat_lit 97, nat_lit 108, nat_lit 105, nat_lit 100, nat_lit 97, nat_lit 116, nat_lit 101, nat_lit 95, nat_lit 109, nat_lit 97, nat_lit 112]⟩
noncomputable def z133 : Str := Str.mk ⟨[nat_lit 109, nat_lit 111, nat_lit 109, nat_lit 101, nat_lit 110, nat_lit 116]⟩
noncomputable def z134 : Str := Str.mk ⟨[nat_lit 105, nat_lit 115, nat_lit 95, nat_lit 119, nat_lit 104, nat_lit 105, nat_lit 116, nat_lit 101, nat_lit 108, nat_lit 105, nat_lit 115, nat_lit 116, nat_lit 101, nat_lit 100]⟩
noncomputable def z135 : Str := Str.mk ⟨[nat_lit 114, nat_lit 101, nat_lit 99, nat_lit 111, nat_lit 114, nat_lit 100, nat_lit 95, nat_lit 118, nat_lit 97, nat_lit 108, nat_lit 105, nat_lit 100, nat_lit 97, nat_lit 116, nat_lit 105, nat_lit 111, nat_lit 110]⟩
noncomputable def z136 : Str := Str.mk ⟨[nat_lit 99, nat_lit 104, nat_lit 101, nat_lit 99, nat_lit 107, nat_lit 95, nat_lit 118, nat_lit 97, nat_lit 108, nat_lit 105, nat_lit 100, nat_lit 97, nat_lit 116, nat_lit 105, nat_lit 111, nat_lit 110]⟩
noncomputable def z137 : Str := Str.mk ⟨[nat_lit 99, nat_lit 108, nat_lit 101, nat_lit 97, nat_lit 114, nat_lit 95, nat_lit 118, nat_lit 97, nat_lit 108, nat_lit 105, nat_lit 100, nat_lit 97, nat_lit 116, nat_lit 105, nat_lit 111, nat_lit 110]⟩
noncomputable def z138 : Str := Str.mk ⟨[nat_lit 119, nat_lit 104, nat_lit 105, nat_lit 116, nat_lit 101, nat_lit 108, nat_lit 105, nat_lit 115, nat_lit 116, nat_lit 101, nat_lit 100, nat_lit 95, nat_lit 99, nat_lit 101, nat_lit 114, nat_lit 116, nat_lit 115]⟩
noncomputable def z139 : Str := Str.mk ⟨[nat_lit 118, nat_lit 101, nat_lit 114, nat_lit 105, nat_lit 102, nat_lit 121]⟩
noncomputable def z140 : Str := Str.mk ⟨[nat_lit 119, nat_lit 104, nat_lit 105, nat_lit 116, nat_lit 101, nat_lit 108, nat_lit 105, nat_lit 115, nat_lit 116, nat_lit 101, nat_lit 100, nat_lit 95, nat_lit 99, nat_lit 101, nat_lit 114, nat_lit 116]⟩
noncomputable def z141 : Str := Str.mk ⟨[nat_lit 117, nat_lit 110, nat_lit 115, nat_lit 117, nat_lit 112, nat_lit 112, nat_lit 111, nat_lit 114, nat_lit 116, nat_lit 101, nat_lit 100, nat_lit 95, nat_lit 104, nat_lit 97, nat_lit 115, nat_lit 104, nat_lit 95, nat_lit 97, nat_lit 108, nat_lit 103, nat_lit 111, nat_lit 115]⟩
noncomputable def z142 : Str := Str.mk ⟨[nat_lit 86, nat_lit 97, nat_lit 108, nat_lit 105, nat_lit 100, nat_lit 97, nat_lit 116, nat_lit 105, nat_lit 111, nat_lit 110, nat_lit 67, nat_lit 111, nat_lit 110, nat_lit 116, nat_lit 101, nat_lit 120, nat_lit 116, nat_lit 46, nat_lit 95, nat_lit 95, nat_lit 105, nat_lit 110, nat_lit 105, nat_lit 116, nat_lit 95, nat_lit 95]⟩
noncomputable def z143 : Str := Str.mk ⟨[nat_lit 86, nat_lit 97, nat_lit 108, nat_lit 105, nat_lit 100, nat_lit 97, nat_lit 116, nat_lit 105, nat_lit 111, nat_lit 110, nat_lit 67, nat_lit 111, nat_lit 110, nat_lit 116, nat_lit 101, nat_lit 120, nat_lit 116, nat_lit 46, nat_lit 105, nat_lit 115, nat_lit 95, nat_lit 119, nat_lit 104, nat_lit 105, nat_lit 116, nat_lit 101, nat_lit 108, nat_lit 105, nat_lit 115, nat_lit 116, nat_lit 101, nat_lit 100]⟩
noncomputable def z144 : Str := Str.mk ⟨[nat_lit 86, nat_lit 97, nat_lit 108, nat_lit 105, nat_lit 100, nat_lit 97, nat_lit 116, nat_lit 105, nat_lit 111, nat_lit 110, nat_lit 67, nat_lit 111, nat_lit 110, nat_lit 116, nat_lit 101, nat_lit 120, nat_lit 116, nat_lit 46, nat_lit 114, nat_lit 101, nat_lit 99, nat_lit 111, nat_lit 114, nat_lit 100, nat_lit 95, nat_lit 118, nat_lit 97, nat_lit 108, nat_lit 105, nat_lit 100, nat_lit 97, nat_lit 116, nat_lit 105, nat_lit 111, nat_lit 110]⟩
noncomputable def z145 : Str := Str.mk ⟨[nat_lit 86, nat_lit 97, nat_lit 108, nat_lit 105, nat_lit 100, nat_lit 97, nat_lit 116, nat_lit 105, nat_lit 111, nat_lit 110, nat_lit 67, nat_lit 111, nat_lit 110, nat_lit 116, nat_lit 101, nat_lit 120, nat_lit 116, nat_lit 46, nat_lit 99, nat_lit 104, nat_lit 101, nat_lit 99, nat_lit 107, nat_lit 95, nat_lit 118, nat_lit 97, nat_lit 108, nat_lit 105, nat_lit 100, nat_lit 97, nat_lit 116, nat_lit 105, nat_lit 111, nat_lit 110]⟩
noncomputable def z146 : Str := Str.mk ⟨[nat_lit 86, nat_lit 97, nat_lit 108, nat_lit 105, nat_lit 100, nat_lit 97, nat_lit 116, nat_lit 105, nat_lit 111, nat_lit 110, nat_lit 67, nat_lit 111, nat_lit 110, nat_lit 116, nat_lit 101, nat_lit 120, nat_lit 116, nat_lit 46, nat_lit 99, nat_lit 108, nat_lit 101, nat_lit 97, nat_lit 114, nat_lit 95, nat_lit 118, nat_lit 97, nat_lit 108, nat_lit 105, nat_lit 100, nat_lit 97, nat_lit 116, nat_lit 105, nat_lit 111, nat_lit 110]⟩
noncomputable def z147 : Str := Str.mk ⟨[nat_lit 118, nat_lit 97, nat_lit 108, nat_lit 105, nat_lit 100, nat_lit 97, nat_lit 116, nat_lit 105, nat_lit 111, nat_lit 110, nat_lit 95, nat_lit 99, nat_lit 111, nat_lit 110, nat_lit 116, nat_lit 101, nat_lit 120, nat_lit 116]⟩
noncomputable def z148 : Str := Str.mk ⟨[nat_lit 107, nat_lit 101, nat_lit 121, nat_lit 95, nat_lit 117, nat_lit 115, nat_lit 97, nat_lit 103, nat_lit 101]⟩
noncomputable def z149 : Str := Str.mk ⟨[nat_lit 101, nat_lit 120, nat_lit 116, nat_lit 101, nat_lit 110, nat_lit 100, nat_lit 101, nat_lit 100, nat_lit 95, nat_lit 107, nat_lit 101, nat_lit 121, nat_lit 95, nat_lit 117, nat_lit 115, nat_lit 97, nat_lit 103, nat_lit 101]⟩
noncomputable def z150 : Str := Str.mk ⟨[nat_lit 101, nat_lit 120, nat_lit 116, nat_lit 101, nat_lit 110, nat_lit 100, nat_lit 101, nat_lit 100, nat_lit 95, nat_lit 111, nat_lit 112, nat_lit 116, nat_lit 105, nat_lit 111, nat_lit 110, nat_lit 97, nat_lit 108]⟩
noncomputable def z151 : Str := Str.mk ⟨[nat_lit 109, nat_lit 105, nat_lit 115, nat_lit 115, nat_lit 105, nat_lit 110, nat_lit 103, nat_lit 95, nat_lit 107, nat_lit 101, nat_lit 121, nat_lit 95, nat_lit 117, nat_lit 115, nat_lit 97, nat_lit 103, nat_lit 101]⟩
noncomputable def z152 : Str := Str.mk ⟨[nat_lit 109, nat_lit 105, nat_lit 115, nat_lit 115, nat_lit 105, nat_lit 110, nat_lit 103, nat_lit 95, nat_lit 101, nat_lit 120, nat_lit 116, nat_lit 101, nat_lit 110, nat_lit 100, nat_lit 101, nat_lit 100, nat_lit 95, nat_lit 107, nat_lit 101, nat_lit 121, nat_lit 95, nat_lit 117, nat_lit 115, nat_lit 97, nat_lit 103, nat_lit 101]⟩
noncomputable def z153 : Str := Str.mk ⟨[nat_lit 112, nat_lit 108, nat_lit 117, nat_lit 114, nat_lit 97, nat_lit 108]⟩
noncomputable def z154 : Str := Str.mk ⟨[nat_lit 102, nat_lit 114, nat_lit 105, nat_lit 101, nat_lit 110, nat_lit 100, nat_lit 108, nat_lit 121, nat_lit 95, nat_lit 112, nat_lit 117, nat_lit 114, nat_lit 112, nat_lit 111, nat_lit 115, nat_lit 101, nat_lit 115]⟩
noncomputable def z155 : Str := Str.mk ⟨[nat_lit 112, nat_lit 117, nat_lit 114, nat_lit 112, nat_lit 111, nat_lit 115, nat_lit 101]⟩
noncomputable def z156 : Str := Str.mk ⟨[nat_lit 99, nat_lit 101, nat_lit 114, nat_lit 116, nat_lit 118, nat_lit 97, nat_lit 108, nat_lit 105, nat_lit 100, nat_lit 97, nat_lit 116, nat_lit 111, nat_lit 114, nat_lit 46, nat_lit 118, nat_lit 97, nat_lit 108, nat_lit 105, nat_lit 100, nat_lit 97, nat_lit 116, nat_lit 101]⟩
noncomputable def n13 : Params → Obj := fun _ => (Obj.mk (Value.type PySem.W.SL.s5856160107412720595x4) none (Data.fields ⟨[(Value.str z0 (nat_lit 182)), (Value.str z0 (nat_lit 183)), (Value.str z1 (nat_lit 184)), (Value.int (Int.ofNat (nat_lit 1)) (nat_lit 0)), (Value.int (Int.ofNat (nat_lit 0)) (nat_lit 0)), (Value.int (Int.ofNat (nat_lit 0)) (nat_lit 0)), (Value.int (Int.ofNat (nat_lit 0)) (nat_lit 0)), (Value.int (Int.ofNat (nat_lit 0)) (nat_lit 0)), (Value.ref (nat_lit 11)), (Value.bool false), (Value.int (Int.ofNat (nat_lit 181)) (nat_lit 0)), (Value.ref (nat_lit 12)), Value.none, Value.none, Value.none, Value.none, (Value.int (Int.ofNat (nat_lit 185)) (nat_lit 0)), (Value.int (Int.ofNat (nat_lit 1)) (nat_lit 0)), (Value.str z1 (nat_lit 186))]⟩) ⟨[]⟩)
noncomputable def n14 : Params → Obj := fun _ => (Obj.mk (Value.type PySem.W.SL.s658472552662922059x5) none Data.plain ⟨[(some (Value.ref (nat_lit 13))), (some (Value.ref (nat_lit 3))), (some (Value.ref (nat_lit 3))), none, (some (Value.str z2 (nat_lit 164))), none, (some (Value.ref (nat_lit 0)))]⟩)
noncomputable def ma3 : Params → Obj := fun P => (Obj.mk (Value.type PySem.W.SL.s14018661285674007319x4) none (Data.dict ⟨[(DictEntry.mk (PyData.keyHash P z3) (Value.str z3 (nat_lit 165)) (Value.str z4 (nat_lit 407))), (DictEntry.mk (PyData.keyHash P z5) (Value.str z5 (nat_lit 166)) Value.none), (DictEntry.mk (PyData.keyHash P z6) (Value.str z6 (nat_lit 167)) Value.none), (DictEntry.mk (PyData.keyHash P z7) (Value.str z7 (nat_lit 168)) (Value.builtin PySem.W.SL.s7097527257260152453x26)), (DictEntry.mk (PyData.keyHash P z8) (Value.str z8 (nat_lit 169)) Value.none), (DictEntry.mk (PyData.keyHash P z9) (Value.str z9 (nat_lit 170)) (Value.ref (nat_lit 6))), (DictEntry.mk (PyData.keyHash P z10) (Value.str z10 (nat_lit 171)) (Value.ref (nat_lit 4))), (DictEntry.mk (PyData.keyHash P z11) (Value.str z11 (nat_lit 173)) (Value.str z1 (nat_lit 172))), (DictEntry.mk (PyData.keyHash P z12) (Value.str z12 (nat_lit 174)) Value.none), (DictEntry.mk (PyData.keyHash P z13) (Value.str z13 (nat_lit 193)) (Value.ref (nat_lit 21))), (DictEntry.mk (PyData.keyHash P z14) (Value.str z14 (nat_lit 203)) (Value.ref (nat_lit 28))), (DictEntry.mk (PyData.keyHash P z15) (Value.str z15 (nat_lit 212)) (Value.ref (nat_lit 35))), (DictEntry.mk (PyData.keyHash P z16) (Value.str z16 (nat_lit 241)) (Value.ref (nat_lit 52))), (DictEntry.mk (PyData.keyHash P z17) (Value.str z17 (nat_lit 288)) (Value.ref (nat_lit 87))), (DictEntry.mk (PyData.keyHash P z18) (Value.str z18 (nat_lit 318)) (Value.ref (nat_lit 108))), (DictEntry.mk (PyData.keyHash P z19) (Value.str z19 (nat_lit 406)) (Value.ref (nat_lit 160)))]⟩ (nat_lit 16)) ⟨[]⟩)
noncomputable def ma12 : Params → Obj := fun _ => (Obj.mk Value.none none (Data.fields ⟨[(Value.int (Int.ofNat (nat_lit 1)) (nat_lit 0)), (Value.int (Int.ofNat (nat_lit 0)) (nat_lit 0)), (Value.ref (nat_lit 20)), (Value.int (Int.ofNat (nat_lit 5)) (nat_lit 0)), (Value.int (Int.ofNat (nat_lit 0)) (nat_lit 0)), (Value.ref (nat_lit 27)), (Value.int (Int.ofNat (nat_lit 8)) (nat_lit 0)), (Value.int (Int.ofNat (nat_lit 0)) (nat_lit 0)), (Value.ref (nat_lit 34)), (Value.int (Int.ofNat (nat_lit 10)) (nat_lit 0)), (Value.int (Int.ofNat (nat_lit 0)) (nat_lit 0)), (Value.ref (nat_lit 41)), (Value.int (Int.ofNat (nat_lit 14)) (nat_lit 0)), (Value.int (Int.ofNat (nat_lit 0)) (nat_lit 0)), (Value.ref (nat_lit 62)), (Value.int (Int.ofNat (nat_lit 25)) (nat_lit 0)), (Value.int (Int.ofNat (nat_lit 0)) (nat_lit 0)), (Value.ref (nat_lit 97)), (Value.int (Int.ofNat (nat_lit 30)) (nat_lit 0)), (Value.int (Int.ofNat (nat_lit 0)) (nat_lit 0)), (Value.ref (nat_lit 118))]⟩) ⟨[]⟩)
noncomputable def ma17 : Params → Obj := fun _ => (Obj.mk (Value.type PySem.W.SL.s2766695959194262286x5) none (Data.seq ⟨[(Value.str z20 (nat_lit 190))]⟩ (nat_lit 0)) ⟨[]⟩)
noncomputable def ma19 : Params → Obj := fun _ => (Obj.mk Value.none none (Data.func (FuncData.mk z13 z13 (fnD (top 0)).1 (FuncBody.stmts (fnD (top 0)).2.1) (fnD (top 0)).2.2 (nat_lit 0) [] Value.none Value.none Value.none Value.none none Value.none Value.none (nat_lit 0))) ⟨[]⟩)
noncomputable def ma20 : Params → Obj := fun _ => (Obj.mk (Value.type PySem.W.SL.s5856160107412720595x4) none (Data.fields ⟨[(Value.str z13 (nat_lit 187)), (Value.str z13 (nat_lit 188)), (Value.str z1 (nat_lit 189)), (Value.int (Int.ofNat (nat_lit 1)) (nat_lit 0)), (Value.int (Int.ofNat (nat_lit 1)) (nat_lit 0)), (Value.int (Int.ofNat (nat_lit 0)) (nat_lit 0)), (Value.int (Int.ofNat (nat_lit 0)) (nat_lit 0)), (Value.int (Int.ofNat (nat_lit 3)) (nat_lit 0)), (Value.ref (nat_lit 15)), (Value.bool true), (Value.int (Int.ofNat (nat_lit 181)) (nat_lit 0)), (Value.ref (nat_lit 16)), Value.none, (Value.ref (nat_lit 17)), (Value.ref (nat_lit 18)), (Value.ref (nat_lit 19)), (Value.int (Int.ofNat (nat_lit 191)) (nat_lit 0)), (Value.int (Int.ofNat (nat_lit 1)) (nat_lit 0)), (Value.str z1 (nat_lit 192))]⟩) ⟨[]⟩)
noncomputable def ma21 : Params → Obj := fun _ => (Obj.mk (Value.type PySem.W.SL.s7174869446012820540x8) none (Data.func (FuncData.mk z13 z13 (fnD (top 0)).1 (FuncBody.stmts (fnD (top 0)).2.1) (fnD (top 0)).2.2 (nat_lit 3) [] Value.none Value.none Value.none (Value.str z2 (nat_lit 164)) none (Value.ref (nat_lit 20)) Value.none (nat_lit 0))) ⟨[]⟩)
noncomputable def ma24 : Params → Obj := fun _ => (Obj.mk (Value.type PySem.W.SL.s2766695959194262286x5) none (Data.seq ⟨[(Value.str z21 (nat_lit 199)), (Value.str z22 (nat_lit 200))]⟩ (nat_lit 0)) ⟨[]⟩)
noncomputable def ma26 : Params → Obj := fun _ => (Obj.mk Value.none none (Data.func (FuncData.mk z14 z14 (fnD (top 2)).1 (FuncBody.stmts (fnD (top 2)).2.1) (fnD (top 2)).2.2 (nat_lit 0) [] Value.none Value.none Value.none Value.none none Value.none Value.none (nat_lit 0))) ⟨[]⟩)
noncomputable def ma27 : Params → Obj := fun _ => (Obj.mk (Value.type PySem.W.SL.s5856160107412720595x4) none (Data.fields ⟨[(Value.str z14 (nat_lit 196)), (Value.str z14 (nat_lit 197)), (Value.str z1 (nat_lit 198)), (Value.int (Int.ofNat (nat_lit 5)) (nat_lit 0)), (Value.int (Int.ofNat (nat_lit 1)) (nat_lit 0)), (Value.int (Int.ofNat (nat_lit 0)) (nat_lit 0)), (Value.int (Int.ofNat (nat_lit 0)) (nat_lit 0)), (Value.int (Int.ofNat (nat_lit 7)) (nat_lit 0)), (Value.ref (nat_lit 22)), (Value.bool true), (Value.int (Int.ofNat (nat_lit 181)) (nat_lit 0)), (Value.ref (nat_lit 23)), Value.none, (Value.ref (nat_lit 24)), (Value.ref (nat_lit 25)), (Value.ref (nat_lit 26)), (Value.int (Int.ofNat (nat_lit 201)) (nat_lit 0)), (Value.int (Int.ofNat (nat_lit 5)) (nat_lit 0)), (Value.str z1 (nat_lit 202))]⟩) ⟨[]⟩)
noncomputable def ma28 : Params → Obj := fun _ => (Obj.mk (Value.type PySem.W.SL.s7174869446012820540x8) none (Data.func (FuncData.mk z14 z14 (fnD (top 2)).1 (FuncBody.stmts (fnD (top 2)).2.1) (fnD (top 2)).2.2 (nat_lit 3) [] Value.none Value.none Value.none (Value.str z23 (nat_lit 194)) none (Value.ref (nat_lit 27)) Value.none (nat_lit 0))) ⟨[]⟩)
noncomputable def ma31 : Params → Obj := fun _ => (Obj.mk (Value.type PySem.W.SL.s2766695959194262286x5) none (Data.seq ⟨[(Value.str z24 (nat_lit 209))]⟩ (nat_lit 0)) ⟨[]⟩)
noncomputable def ma33 : Params → Obj := fun _ => (Obj.mk Value.none none (Data.func (FuncData.mk z15 z15 (fnD (top 4)).1 (FuncBody.stmts (fnD (top 4)).2.1) (fnD (top 4)).2.2 (nat_lit 0) [] Value.none Value.none Value.none Value.none none Value.none Value.none (nat_lit 0))) ⟨[]⟩)
noncomputable def ma34 : Params → Obj := fun _ => (Obj.mk (Value.type PySem.W.SL.s5856160107412720595x4) none (Data.fields ⟨[(Value.str z15 (nat_lit 206)), (Value.str z15 (nat_lit 207)), (Value.str z1 (nat_lit 208)), (Value.int (Int.ofNat (nat_lit 8)) (nat_lit 0)), (Value.int (Int.ofNat (nat_lit 1)) (nat_lit 0)), (Value.int (Int.ofNat (nat_lit 0)) (nat_lit 0)), (Value.int (Int.ofNat (nat_lit 0)) (nat_lit 0)), (Value.int (Int.ofNat (nat_lit 3)) (nat_lit 0)), (Value.ref (nat_lit 29)), (Value.bool true), (Value.int (Int.ofNat (nat_lit 181)) (nat_lit 0)), (Value.ref (nat_lit 30)), Value.none, (Value.ref (nat_lit 31)), (Value.ref (nat_lit 32)), (Value.ref (nat_lit 33)), (Value.int (Int.ofNat (nat_lit 210)) (nat_lit 0)), (Value.int (Int.ofNat (nat_lit 8)) (nat_lit 0)), (Value.str z1 (nat_lit 211))]⟩) ⟨[]⟩)
noncomputable def ma35 : Params → Obj := fun _ => (Obj.mk (Value.type PySem.W.SL.s7174869446012820540x8) none (Data.func (FuncData.mk z15 z15 (fnD (top 4)).1 (FuncBody.stmts (fnD (top 4)).2.1) (fnD (top 4)).2.2 (nat_lit 3) [] Value.none Value.none Value.none (Value.str z25 (nat_lit 204)) none (Value.ref (nat_lit 34)) Value.none (nat_lit 0))) ⟨[]⟩)
noncomputable def ma37 : Params → Obj := fun _ => (Obj.mk (Value.type PySem.W.SL.s11030030927630378310x26) none (Data.fields ⟨[(Value.builtin PySem.W.SL.s10062305145149207511x16), (Value.type PySem.W.SL.s17162191345867700912x4)]⟩) ⟨[]⟩)
noncomputable def ma38 : Params → Obj := fun P => (Obj.mk (Value.type PySem.W.SL.s14018661285674007319x4) none (Data.dict ⟨[(DictEntry.mk (PyData.keyHash P z26) (Value.str z26 (nat_lit 220)) (Value.str z25 (nat_lit 204))), (DictEntry.mk (PyData.keyHash P z27) (Value.str z27 (nat_lit 222)) (Value.str z16 (nat_lit 221))), (DictEntry.mk (PyData.keyHash P z28) (Value.str z28 (nat_lit 224)) (Value.int (Int.ofNat (nat_lit 10)) (nat_lit 223))), (DictEntry.mk (PyData.keyHash P z29) (Value.str z29 (nat_lit 232)) (Value.ref (nat_lit 49))), (DictEntry.mk (PyData.keyHash P z30) (Value.str z30 (nat_lit 234)) (Value.ref (nat_lit 50)))]⟩ (nat_lit 5)) ⟨[]⟩)
noncomputable def ma40 : Params → Obj := fun _ => (Obj.mk Value.none none (Data.fields ⟨[(Value.int (Int.ofNat (nat_lit 12)) (nat_lit 0)), (Value.int (Int.ofNat (nat_lit 4)) (nat_lit 0)), (Value.ref (nat_lit 48))]⟩) ⟨[]⟩)
noncomputable def ma41 : Params → Obj := fun _ => (Obj.mk (Value.type PySem.W.SL.s5856160107412720595x4) none (Data.fields ⟨[(Value.str z16 (nat_lit 215)), (Value.str z16 (nat_lit 216)), (Value.str z1 (nat_lit 217)), (Value.int (Int.ofNat (nat_lit 10)) (nat_lit 0)), (Value.int (Int.ofNat (nat_lit 0)) (nat_lit 0)), (Value.int (Int.ofNat (nat_lit 0)) (nat_lit 0)), (Value.int (Int.ofNat (nat_lit 0)) (nat_lit 0)), (Value.int (Int.ofNat (nat_lit 0)) (nat_lit 0)), (Value.ref (nat_lit 39)), (Value.bool false), (Value.int (Int.ofNat (nat_lit 181)) (nat_lit 0)), (Value.ref (nat_lit 40)), Value.none, Value.none, Value.none, Value.none, (Value.int (Int.ofNat (nat_lit 218)) (nat_lit 0)), (Value.int (Int.ofNat (nat_lit 10)) (nat_lit 0)), (Value.str z1 (nat_lit 219))]⟩) ⟨[]⟩)
noncomputable def ma42 : Params → Obj := fun _ => (Obj.mk (Value.type PySem.W.SL.s658472552662922059x5) none Data.plain ⟨[(some (Value.ref (nat_lit 41))), (some (Value.ref (nat_lit 3))), (some (Value.ref (nat_lit 38))), none, (some (Value.str z25 (nat_lit 204))), none, (some (Value.ref (nat_lit 0)))]⟩)
noncomputable def ma45 : Params → Obj := fun _ => (Obj.mk (Value.type PySem.W.SL.s2766695959194262286x5) none (Data.seq ⟨[(Value.str z31 (nat_lit 228)), (Value.str z32 (nat_lit 229))]⟩ (nat_lit 0)) ⟨[]⟩)
noncomputable def ma47 : Params → Obj := fun _ => (Obj.mk Value.none none (Data.func (FuncData.mk z29 z33 (fnD (mem 0 (top 5))).1 (FuncBody.stmts (fnD (mem 0 (top 5))).2.1) (fnD (mem 0 (top 5))).2.2 (nat_lit 0) [] Value.none Value.none Value.none Value.none none Value.none Value.none (nat_lit 0))) ⟨[]⟩)
noncomputable def ma48 : Params → Obj := fun _ => (Obj.mk (Value.type PySem.W.SL.s5856160107412720595x4) none (Data.fields ⟨[(Value.str z29 (nat_lit 225)), (Value.str z33 (nat_lit 226)), (Value.str z1 (nat_lit 227)), (Value.int (Int.ofNat (nat_lit 12)) (nat_lit 0)), (Value.int (Int.ofNat (nat_lit 2)) (nat_lit 0)), (Value.int (Int.ofNat (nat_lit 0)) (nat_lit 0)), (Value.int (Int.ofNat (nat_lit 0)) (nat_lit 0)), (Value.int (Int.ofNat (nat_lit 3)) (nat_lit 0)), (Value.ref (nat_lit 43)), (Value.bool true), (Value.int (Int.ofNat (nat_lit 181)) (nat_lit 0)), (Value.ref (nat_lit 44)), Value.none, (Value.ref (nat_lit 45)), (Value.ref (nat_lit 46)), (Value.ref (nat_lit 47)), (Value.int (Int.ofNat (nat_lit 230)) (nat_lit 0)), (Value.int (Int.ofNat (nat_lit 12)) (nat_lit 0)), (Value.str z1 (nat_lit 231))]⟩) ⟨[]⟩)
noncomputable def ma49 : Params → Obj := fun _ => (Obj.mk (Value.type PySem.W.SL.s7174869446012820540x8) none (Data.func (FuncData.mk z29 z33 (fnD (mem 0 (top 5))).1 (FuncBody.stmts (fnD (mem 0 (top 5))).2.1) (fnD (mem 0 (top 5))).2.2 (nat_lit 3) [] Value.none Value.none Value.none (Value.str z25 (nat_lit 204)) none (Value.ref (nat_lit 48)) Value.none (nat_lit 0))) ⟨[]⟩)
noncomputable def ma50 : Params → Obj := fun _ => (Obj.mk (Value.type PySem.W.SL.s2766695959194262286x5) none (Data.seq ⟨[(Value.str z32 (nat_lit 233))]⟩ (nat_lit 0)) ⟨[]⟩)
noncomputable def ma51 : Params → Obj := fun P => (Obj.mk (Value.type PySem.W.SL.s14018661285674007319x4) none (Data.dict ⟨[(DictEntry.mk (PyData.keyHash P z26) (Value.str z26 (nat_lit 220)) (Value.str z25 (nat_lit 204))), (DictEntry.mk (PyData.keyHash P z28) (Value.str z28 (nat_lit 224)) (Value.int (Int.ofNat (nat_lit 10)) (nat_lit 223))), (DictEntry.mk (PyData.keyHash P z29) (Value.str z29 (nat_lit 232)) (Value.ref (nat_lit 49))), (DictEntry.mk (PyData.keyHash P z30) (Value.str z30 (nat_lit 234)) (Value.ref (nat_lit 50))), (DictEntry.mk (PyData.keyHash P z34) (Value.str z34 (nat_lit 236)) (Value.ref (nat_lit 53))), (DictEntry.mk (PyData.keyHash P z35) (Value.str z35 (nat_lit 238)) (Value.ref (nat_lit 54))), (DictEntry.mk (PyData.keyHash P z5) (Value.str z5 (nat_lit 239)) Value.none)]⟩ (nat_lit 4)) ⟨[]⟩)
noncomputable def ma52 : Params → Obj := fun _ => (Obj.mk (Value.type PySem.W.SL.s17162191345867700912x4) none (Data.cls (ClassData.mk z16 [(Value.type "object")] [(Value.ref (nat_lit 52)), (Value.type "object")] (nat_lit 51) z16 true [] [] false none false)) ⟨[none, none, (some (Value.str z16 (nat_lit 213))), (some (Value.str z16 (nat_lit 221))), (some (Value.builtin "object.__new__")), (some (Value.bool true))]⟩)
noncomputable def ma53 : Params → Obj := fun _ => (Obj.mk (Value.type PySem.W.SL.s14755015743595814543x17) none (Data.fields ⟨[(Value.str z34 (nat_lit 235)), (Value.ref (nat_lit 52)), (Value.builtin PySem.W.SL.s6511155373996960695x17), (Value.builtin PySem.W.SL.s12411053484034534018x21)]⟩) ⟨[]⟩)
noncomputable def ma54 : Params → Obj := fun _ => (Obj.mk (Value.type PySem.W.SL.s14755015743595814543x17) none (Data.fields ⟨[(Value.str z35 (nat_lit 237)), (Value.ref (nat_lit 52)), (Value.builtin PySem.W.SL.s10220274742760427390x26), Value.none]⟩) ⟨[]⟩)
noncomputable def ma55 : Params → Obj := fun _ => (Obj.mk (Value.type PySem.W.SL.s4290257624100764138x5) none (Data.fields ⟨[(Value.ref (nat_lit 52)), (Value.ref (nat_lit 52)), (Value.ref (nat_lit 52))]⟩) ⟨[]⟩)
noncomputable def ma56 : Params → Obj := fun _ => (Obj.mk (Value.type PySem.W.SL.s11030030927630378310x26) none (Data.fields ⟨[(Value.builtin PySem.W.SL.s4860613602091757760x24), (Value.ref (nat_lit 52))]⟩) ⟨[]⟩)
noncomputable def ma59 : Params → Obj := fun P => (Obj.mk (Value.type PySem.W.SL.s14018661285674007319x4) none (Data.dict ⟨[(DictEntry.mk (PyData.keyHash P z26) (Value.str z26 (nat_lit 249)) (Value.str z25 (nat_lit 204))), (DictEntry.mk (PyData.keyHash P z27) (Value.str z27 (nat_lit 251)) (Value.str z17 (nat_lit 250))), (DictEntry.mk (PyData.keyHash P z28) (Value.str z28 (nat_lit 253)) (Value.int (Int.ofNat (nat_lit 14)) (nat_lit 252))), (DictEntry.mk (PyData.keyHash P z29) (Value.str z29 (nat_lit 261)) (Value.ref (nat_lit 70))), (DictEntry.mk (PyData.keyHash P z36) (Value.str z36 (nat_lit 269)) (Value.ref (nat_lit 77))), (DictEntry.mk (PyData.keyHash P z37) (Value.str z37 (nat_lit 277)) (Value.ref (nat_lit 84))), (DictEntry.mk (PyData.keyHash P z30) (Value.str z30 (nat_lit 280)) (Value.ref (nat_lit 85)))]⟩ (nat_lit 7)) ⟨[]⟩)
noncomputable def ma61 : Params → Obj := fun _ => (Obj.mk Value.none none (Data.fields ⟨[(Value.int (Int.ofNat (nat_lit 16)) (nat_lit 0)), (Value.int (Int.ofNat (nat_lit 4)) (nat_lit 0)), (Value.ref (nat_lit 69)), (Value.int (Int.ofNat (nat_lit 20)) (nat_lit 0)), (Value.int (Int.ofNat (nat_lit 4)) (nat_lit 0)), (Value.ref (nat_lit 76)), (Value.int (Int.ofNat (nat_lit 23)) (nat_lit 0)), (Value.int (Int.ofNat (nat_lit 4)) (nat_lit 0)), (Value.ref (nat_lit 83))]⟩) ⟨[]⟩)
noncomputable def ma62 : Params → Obj := fun _ => (Obj.mk (Value.type PySem.W.SL.s5856160107412720595x4) none (Data.fields ⟨[(Value.str z17 (nat_lit 244)), (Value.str z17 (nat_lit 245)), (Value.str z1 (nat_lit 246)), (Value.int (Int.ofNat (nat_lit 14)) (nat_lit 0)), (Value.int (Int.ofNat (nat_lit 0)) (nat_lit 0)), (Value.int (Int.ofNat (nat_lit 0)) (nat_lit 0)), (Value.int (Int.ofNat (nat_lit 0)) (nat_lit 0)), (Value.int (Int.ofNat (nat_lit 0)) (nat_lit 0)), (Value.ref (nat_lit 60)), (Value.bool false), (Value.int (Int.ofNat (nat_lit 181)) (nat_lit 0)), (Value.ref (nat_lit 61)), Value.none, Value.none, Value.none, Value.none, (Value.int (Int.ofNat (nat_lit 247)) (nat_lit 0)), (Value.int (Int.ofNat (nat_lit 14)) (nat_lit 0)), (Value.str z1 (nat_lit 248))]⟩) ⟨[]⟩)
noncomputable def ma63 : Params → Obj := fun _ => (Obj.mk (Value.type PySem.W.SL.s658472552662922059x5) none Data.plain ⟨[(some (Value.ref (nat_lit 62))), (some (Value.ref (nat_lit 3))), (some (Value.ref (nat_lit 59))), none, (some (Value.str z25 (nat_lit 204))), none, (some (Value.ref (nat_lit 0)))]⟩)
noncomputable def ma66 : Params → Obj := fun _ => (Obj.mk (Value.type PySem.W.SL.s2766695959194262286x5) none (Data.seq ⟨[(Value.str z31 (nat_lit 257)), (Value.str z38 (nat_lit 258))]⟩ (nat_lit 0)) ⟨[]⟩)
noncomputable def ma68 : Params → Obj := fun _ => (Obj.mk Value.none none (Data.func (FuncData.mk z29 z39 (fnD (mem 0 (top 6))).1 (FuncBody.stmts (fnD (mem 0 (top 6))).2.1) (fnD (mem 0 (top 6))).2.2 (nat_lit 0) [] Value.none Value.none Value.none Value.none none Value.none Value.none (nat_lit 0))) ⟨[]⟩)
noncomputable def ma69 : Params → Obj := fun _ => (Obj.mk (Value.type PySem.W.SL.s5856160107412720595x4) none (Data.fields ⟨[(Value.str z29 (nat_lit 254)), (Value.str z39 (nat_lit 255)), (Value.str z1 (nat_lit 256)), (Value.int (Int.ofNat (nat_lit 16)) (nat_lit 0)), (Value.int (Int.ofNat (nat_lit 2)) (nat_lit 0)), (Value.int (Int.ofNat (nat_lit 0)) (nat_lit 0)), (Value.int (Int.ofNat (nat_lit 0)) (nat_lit 0)), (Value.int (Int.ofNat (nat_lit 3)) (nat_lit 0)), (Value.ref (nat_lit 64)), (Value.bool true), (Value.int (Int.ofNat (nat_lit 181)) (nat_lit 0)), (Value.ref (nat_lit 65)), Value.none, (Value.ref (nat_lit 66)), (Value.ref (nat_lit 67)), (Value.ref (nat_lit 68)), (Value.int (Int.ofNat (nat_lit 259)) (nat_lit 0)), (Value.int (Int.ofNat (nat_lit 16)) (nat_lit 0)), (Value.str z1 (nat_lit 260))]⟩) ⟨[]⟩)
noncomputable def ma70 : Params → Obj := fun _ => (Obj.mk (Value.type PySem.W.SL.s7174869446012820540x8) none (Data.func (FuncData.mk z29 z39 (fnD (mem 0 (top 6))).1 (FuncBody.stmts (fnD (mem 0 (top 6))).2.1) (fnD (mem 0 (top 6))).2.2 (nat_lit 3) [] Value.none Value.none Value.none (Value.str z25 (nat_lit 204)) none (Value.ref (nat_lit 69)) Value.none (nat_lit 0))) ⟨[]⟩)
noncomputable def ma73 : Params → Obj := fun _ => (Obj.mk (Value.type PySem.W.SL.s2766695959194262286x5) none (Data.seq ⟨[(Value.str z31 (nat_lit 265)), (Value.str z40 (nat_lit 266))]⟩ (nat_lit 0)) ⟨[]⟩)
noncomputable def ma75 : Params → Obj := fun _ => (Obj.mk Value.none none (Data.func (FuncData.mk z36 z41 (fnD (mem 1 (top 6))).1 (FuncBody.stmts (fnD (mem 1 (top 6))).2.1) (fnD (mem 1 (top 6))).2.2 (nat_lit 0) [] Value.none Value.none Value.none Value.none none Value.none Value.none (nat_lit 0))) ⟨[]⟩)
noncomputable def ma76 : Params → Obj := fun _ => (Obj.mk (Value.type PySem.W.SL.s5856160107412720595x4) none (Data.fields ⟨[(Value.str z36 (nat_lit 262)), (Value.str z41 (nat_lit 263)), (Value.str z1 (nat_lit 264)), (Value.int (Int.ofNat (nat_lit 20)) (nat_lit 0)), (Value.int (Int.ofNat (nat_lit 2)) (nat_lit 0)), (Value.int (Int.ofNat (nat_lit 0)) (nat_lit 0)), (Value.int (Int.ofNat (nat_lit 0)) (nat_lit 0)), (Value.int (Int.ofNat (nat_lit 3)) (nat_lit 0)), (Value.ref (nat_lit 71)), (Value.bool true), (Value.int (Int.ofNat (nat_lit 181)) (nat_lit 0)), (Value.ref (nat_lit 72)), Value.none, (Value.ref (nat_lit 73)), (Value.ref (nat_lit 74)), (Value.ref (nat_lit 75)), (Value.int (Int.ofNat (nat_lit 267)) (nat_lit 0)), (Value.int (Int.ofNat (nat_lit 20)) (nat_lit 0)), (Value.str z1 (nat_lit 268))]⟩) ⟨[]⟩)
noncomputable def ma77 : Params → Obj := fun _ => (Obj.mk (Value.type PySem.W.SL.s7174869446012820540x8) none (Data.func (FuncData.mk z36 z41 (fnD (mem 1 (top 6))).1 (FuncBody.stmts (fnD (mem 1 (top 6))).2.1) (fnD (mem 1 (top 6))).2.2 (nat_lit 3) [] Value.none Value.none Value.none (Value.str z25 (nat_lit 204)) none (Value.ref (nat_lit 76)) Value.none (nat_lit 0))) ⟨[]⟩)
noncomputable def ma80 : Params → Obj := fun _ => (Obj.mk (Value.type PySem.W.SL.s2766695959194262286x5) none (Data.seq ⟨[(Value.str z31 (nat_lit 273)), (Value.str z40 (nat_lit 274))]⟩ (nat_lit 0)) ⟨[]⟩)
noncomputable def ma82 : Params → Obj := fun _ => (Obj.mk Value.none none (Data.func (FuncData.mk z37 z42 (fnD (mem 2 (top 6))).1 (FuncBody.stmts (fnD (mem 2 (top 6))).2.1) (fnD (mem 2 (top 6))).2.2 (nat_lit 0) [] Value.none Value.none Value.none Value.none none Value.none Value.none (nat_lit 0))) ⟨[]⟩)
noncomputable def ma83 : Params → Obj := fun _ => (Obj.mk (Value.type PySem.W.SL.s5856160107412720595x4) none (Data.fields ⟨[(Value.str z37 (nat_lit 270)), (Value.str z42 (nat_lit 271)), (Value.str z1 (nat_lit 272)), (Value.int (Int.ofNat (nat_lit 23)) (nat_lit 0)), (Value.int (Int.ofNat (nat_lit 2)) (nat_lit 0)), (Value.int (Int.ofNat (nat_lit 0)) (nat_lit 0)), (Value.int (Int.ofNat (nat_lit 0)) (nat_lit 0)), (Value.int (Int.ofNat (nat_lit 3)) (nat_lit 0)), (Value.ref (nat_lit 78)), (Value.bool true), (Value.int (Int.ofNat (nat_lit 181)) (nat_lit 0)), (Value.ref (nat_lit 79)), Value.none, (Value.ref (nat_lit 80)), (Value.ref (nat_lit 81)), (Value.ref (nat_lit 82)), (Value.int (Int.ofNat (nat_lit 275)) (nat_lit 0)), (Value.int (Int.ofNat (nat_lit 23)) (nat_lit 0)), (Value.str z1 (nat_lit 276))]⟩) ⟨[]⟩)
noncomputable def ma84 : Params → Obj := fun _ => (Obj.mk (Value.type PySem.W.SL.s7174869446012820540x8) none (Data.func (FuncData.mk z37 z42 (fnD (mem 2 (top 6))).1 (FuncBody.stmts (fnD (mem 2 (top 6))).2.1) (fnD (mem 2 (top 6))).2.2 (nat_lit 3) [] Value.none Value.none Value.none (Value.str z25 (nat_lit 204)) none (Value.ref (nat_lit 83)) Value.none (nat_lit 0))) ⟨[]⟩)
noncomputable def ma85 : Params → Obj := fun _ => (Obj.mk (Value.type PySem.W.SL.s2766695959194262286x5) none (Data.seq ⟨[(Value.str z43 (nat_lit 278)), (Value.str z44 (nat_lit 279))]⟩ (nat_lit 0)) ⟨[]⟩)
noncomputable def ma86 : Params → Obj := fun P => (Obj.mk (Value.type PySem.W.SL.s14018661285674007319x4) none (Data.dict ⟨[(DictEntry.mk (PyData.keyHash P z26) (Value.str z26 (nat_lit 249)) (Value.str z25 (nat_lit 204))), (DictEntry.mk (PyData.keyHash P z28) (Value.str z28 (nat_lit 253)) (Value.int (Int.ofNat (nat_lit 14)) (nat_lit 252))), (DictEntry.mk (PyData.keyHash P z29) (Value.str z29 (nat_lit 261)) (Value.ref (nat_lit 70))), (DictEntry.mk (PyData.keyHash P z36) (Value.str z36 (nat_lit 269)) (Value.ref (nat_lit 77))), (DictEntry.mk (PyData.keyHash P z37) (Value.str z37 (nat_lit 277)) (Value.ref (nat_lit 84))), (DictEntry.mk (PyData.keyHash P z30) (Value.str z30 (nat_lit 280)) (Value.ref (nat_lit 85))), (DictEntry.mk (PyData.keyHash P z34) (Value.str z34 (nat_lit 282)) (Value.ref (nat_lit 88))), (DictEntry.mk (PyData.keyHash P z35) (Value.str z35 (nat_lit 284)) (Value.ref (nat_lit 89))), (DictEntry.mk (PyData.keyHash P z5) (Value.str z5 (nat_lit 285)) Value.none), (DictEntry.mk (PyData.keyHash P z45) (Value.str z45 (nat_lit 286)) Value.none)]⟩ (nat_lit 5)) ⟨[]⟩)
noncomputable def ma87 : Params → Obj := fun _ => (Obj.mk (Value.type PySem.W.SL.s17162191345867700912x4) none (Data.cls (ClassData.mk z17 [(Value.type "object")] [(Value.ref (nat_lit 87)), (Value.type "object")] (nat_lit 86) z17 true [] [] false none false)) ⟨[none, none, (some (Value.str z17 (nat_lit 242))), (some (Value.str z17 (nat_lit 250))), (some (Value.builtin "object.__new__")), (some (Value.bool true))]⟩)
noncomputable def ma88 : Params → Obj := fun _ => (Obj.mk (Value.type PySem.W.SL.s14755015743595814543x17) none (Data.fields ⟨[(Value.str z34 (nat_lit 281)), (Value.ref (nat_lit 87)), (Value.builtin PySem.W.SL.s6511155373996960695x17), (Value.builtin PySem.W.SL.s12411053484034534018x21)]⟩) ⟨[]⟩)
noncomputable def ma89 : Params → Obj := fun _ => (Obj.mk (Value.type PySem.W.SL.s14755015743595814543x17) none (Data.fields ⟨[(Value.str z35 (nat_lit 283)), (Value.ref (nat_lit 87)), (Value.builtin PySem.W.SL.s10220274742760427390x26), Value.none]⟩) ⟨[]⟩)
noncomputable def ma90 : Params → Obj := fun _ => (Obj.mk (Value.type PySem.W.SL.s4290257624100764138x5) none (Data.fields ⟨[(Value.ref (nat_lit 87)), (Value.ref (nat_lit 87)), (Value.ref (nat_lit 87))]⟩) ⟨[]⟩)
noncomputable def ma91 : Params → Obj := fun _ => (Obj.mk (Value.type PySem.W.SL.s11030030927630378310x26) none (Data.fields ⟨[(Value.builtin PySem.W.SL.s4860613602091757760x24), (Value.ref (nat_lit 87))]⟩) ⟨[]⟩)
noncomputable def ma94 : Params → Obj := fun P => (Obj.mk (Value.type PySem.W.SL.s14018661285674007319x4) none (Data.dict ⟨[(DictEntry.mk (PyData.keyHash P z26) (Value.str z26 (nat_lit 296)) (Value.str z25 (nat_lit 204))), (DictEntry.mk (PyData.keyHash P z27) (Value.str z27 (nat_lit 298)) (Value.str z18 (nat_lit 297))), (DictEntry.mk (PyData.keyHash P z28) (Value.str z28 (nat_lit 300)) (Value.int (Int.ofNat (nat_lit 25)) (nat_lit 299))), (DictEntry.mk (PyData.keyHash P z29) (Value.str z29 (nat_lit 308)) (Value.ref (nat_lit 105))), (DictEntry.mk (PyData.keyHash P z30) (Value.str z30 (nat_lit 311)) (Value.ref (nat_lit 106)))]⟩ (nat_lit 5)) ⟨[]⟩)
noncomputable def ma96 : Params → Obj := fun _ => (Obj.mk Value.none none (Data.fields ⟨[(Value.int (Int.ofNat (nat_lit 27)) (nat_lit 0)), (Value.int (Int.ofNat (nat_lit 4)) (nat_lit 0)), (Value.ref (nat_lit 104))]⟩) ⟨[]⟩)
noncomputable def ma97 : Params → Obj := fun _ => (Obj.mk (Value.type PySem.W.SL.s5856160107412720595x4) none (Data.fields ⟨[(Value.str z18 (nat_lit 291)), (Value.str z18 (nat_lit 292)), (Value.str z1 (nat_lit 293)), (Value.int (Int.ofNat (nat_lit 25)) (nat_lit 0)), (Value.int (Int.ofNat (nat_lit 0)) (nat_lit 0)), (Value.int (Int.ofNat (nat_lit 0)) (nat_lit 0)), (Value.int (Int.ofNat (nat_lit 0)) (nat_lit 0)), (Value.int (Int.ofNat (nat_lit 0)) (nat_lit 0)), (Value.ref (nat_lit 95)), (Value.bool false), (Value.int (Int.ofNat (nat_lit 181)) (nat_lit 0)), (Value.ref (nat_lit 96)), Value.none, Value.none, Value.none, Value.none, (Value.int (Int.ofNat (nat_lit 294)) (nat_lit 0)), (Value.int (Int.ofNat (nat_lit 25)) (nat_lit 0)), (Value.str z1 (nat_lit 295))]⟩) ⟨[]⟩)
noncomputable def ma98 : Params → Obj := fun _ => (Obj.mk (Value.type PySem.W.SL.s658472552662922059x5) none Data.plain ⟨[(some (Value.ref (nat_lit 97))), (some (Value.ref (nat_lit 3))), (some (Value.ref (nat_lit 94))), none, (some (Value.str z25 (nat_lit 204))), none, (some (Value.ref (nat_lit 0)))]⟩)
noncomputable def ma101 : Params → Obj := fun _ => (Obj.mk (Value.type PySem.W.SL.s2766695959194262286x5) none (Data.seq ⟨[(Value.str z31 (nat_lit 304)), (Value.str z46 (nat_lit 305))]⟩ (nat_lit 0)) ⟨[]⟩)
noncomputable def ma103 : Params → Obj := fun _ => (Obj.mk Value.none none (Data.func (FuncData.mk z29 z47 (fnD (mem 0 (top 7))).1 (FuncBody.stmts (fnD (mem 0 (top 7))).2.1) (fnD (mem 0 (top 7))).2.2 (nat_lit 0) [] Value.none Value.none Value.none Value.none none Value.none Value.none (nat_lit 0))) ⟨[]⟩)
noncomputable def ma104 : Params → Obj := fun _ => (Obj.mk (Value.type PySem.W.SL.s5856160107412720595x4) none (Data.fields ⟨[(Value.str z29 (nat_lit 301)), (Value.str z47 (nat_lit 302)), (Value.str z1 (nat_lit 303)), (Value.int (Int.ofNat (nat_lit 27)) (nat_lit 0)), (Value.int (Int.ofNat (nat_lit 2)) (nat_lit 0)), (Value.int (Int.ofNat (nat_lit 0)) (nat_lit 0)), (Value.int (Int.ofNat (nat_lit 0)) (nat_lit 0)), (Value.int (Int.ofNat (nat_lit 3)) (nat_lit 0)), (Value.ref (nat_lit 99)), (Value.bool true), (Value.int (Int.ofNat (nat_lit 181)) (nat_lit 0)), (Value.ref (nat_lit 100)), Value.none, (Value.ref (nat_lit 101)), (Value.ref (nat_lit 102)), (Value.ref (nat_lit 103)), (Value.int (Int.ofNat (nat_lit 306)) (nat_lit 0)), (Value.int (Int.ofNat (nat_lit 27)) (nat_lit 0)), (Value.str z1 (nat_lit 307))]⟩) ⟨[]⟩)
noncomputable def ma105 : Params → Obj := fun _ => (Obj.mk (Value.type PySem.W.SL.s7174869446012820540x8) none (Data.func (FuncData.mk z29 z47 (fnD (mem 0 (top 7))).1 (FuncBody.stmts (fnD (mem 0 (top 7))).2.1) (fnD (mem 0 (top 7))).2.2 (nat_lit 3) [] Value.none Value.none Value.none (Value.str z25 (nat_lit 204)) none (Value.ref (nat_lit 104)) Value.none (nat_lit 0))) ⟨[]⟩)
noncomputable def ma106 : Params → Obj := fun _ => (Obj.mk (Value.type PySem.W.SL.s2766695959194262286x5) none (Data.seq ⟨[(Value.str z46 (nat_lit 309)), (Value.str z48 (nat_lit 310))]⟩ (nat_lit 0)) ⟨[]⟩)
noncomputable def ma107 : Params → Obj := fun P => (Obj.mk (Value.type PySem.W.SL.s14018661285674007319x4) none (Data.dict ⟨[(DictEntry.mk (PyData.keyHash P z26) (Value.str z26 (nat_lit 296)) (Value.str z25 (nat_lit 204))), (DictEntry.mk (PyData.keyHash P z28) (Value.str z28 (nat_lit 300)) (Value.int (Int.ofNat (nat_lit 25)) (nat_lit 299))), (DictEntry.mk (PyData.keyHash P z29) (Value.str z29 (nat_lit 308)) (Value.ref (nat_lit 105))), (DictEntry.mk (PyData.keyHash P z30) (Value.str z30 (nat_lit 311)) (Value.ref (nat_lit 106))), (DictEntry.mk (PyData.keyHash P z34) (Value.str z34 (nat_lit 313)) (Value.ref (nat_lit 109))), (DictEntry.mk (PyData.keyHash P z35) (Value.str z35 (nat_lit 315)) (Value.ref (nat_lit 110))), (DictEntry.mk (PyData.keyHash P z5) (Value.str z5 (nat_lit 316)) Value.none)]⟩ (nat_lit 4)) ⟨[]⟩)
noncomputable def ma108 : Params → Obj := fun _ => (Obj.mk (Value.type PySem.W.SL.s17162191345867700912x4) none (Data.cls (ClassData.mk z18 [(Value.type "object")] [(Value.ref (nat_lit 108)), (Value.type "object")] (nat_lit 107) z18 true [] [] false none false)) ⟨[none, none, (some (Value.str z18 (nat_lit 289))), (some (Value.str z18 (nat_lit 297))), (some (Value.builtin "object.__new__")), (some (Value.bool true))]⟩)
noncomputable def ma109 : Params → Obj := fun _ => (Obj.mk (Value.type PySem.W.SL.s14755015743595814543x17) none (Data.fields ⟨[(Value.str z34 (nat_lit 312)), (Value.ref (nat_lit 108)), (Value.builtin PySem.W.SL.s6511155373996960695x17), (Value.builtin PySem.W.SL.s12411053484034534018x21)]⟩) ⟨[]⟩)
noncomputable def ma110 : Params → Obj := fun _ => (Obj.mk (Value.type PySem.W.SL.s14755015743595814543x17) none (Data.fields ⟨[(Value.str z35 (nat_lit 314)), (Value.ref (nat_lit 108)), (Value.builtin PySem.W.SL.s10220274742760427390x26), Value.none]⟩) ⟨[]⟩)
noncomputable def ma111 : Params → Obj := fun _ => (Obj.mk (Value.type PySem.W.SL.s4290257624100764138x5) none (Data.fields ⟨[(Value.ref (nat_lit 108)), (Value.ref (nat_lit 108)), (Value.ref (nat_lit 108))]⟩) ⟨[]⟩)
noncomputable def ma112 : Params → Obj := fun _ => (Obj.mk (Value.type PySem.W.SL.s11030030927630378310x26) none (Data.fields ⟨[(Value.builtin PySem.W.SL.s4860613602091757760x24), (Value.ref (nat_lit 108))]⟩) ⟨[]⟩)
noncomputable def ma115 : Params → Obj := fun P => (Obj.mk (Value.type PySem.W.SL.s14018661285674007319x4) none (Data.dict ⟨[(DictEntry.mk (PyData.keyHash P z26) (Value.str z26 (nat_lit 326)) (Value.str z25 (nat_lit 204))), (DictEntry.mk (PyData.keyHash P z27) (Value.str z27 (nat_lit 328)) (Value.str z19 (nat_lit 327))), (DictEntry.mk (PyData.keyHash P z28) (Value.str z28 (nat_lit 330)) (Value.int (Int.ofNat (nat_lit 30)) (nat_lit 329))), (DictEntry.mk (PyData.keyHash P z29) (Value.str z29 (nat_lit 342)) (Value.ref (nat_lit 126))), (DictEntry.mk (PyData.keyHash P z49) (Value.str z49 (nat_lit 350)) (Value.ref (nat_lit 134))), (DictEntry.mk (PyData.keyHash P z50) (Value.str z50 (nat_lit 358)) (Value.ref (nat_lit 142))), (DictEntry.mk (PyData.keyHash P z51) (Value.str z51 (nat_lit 366)) (Value.ref (nat_lit 150))), (DictEntry.mk (PyData.keyHash P z52) (Value.str z52 (nat_lit 374)) (Value.ref (nat_lit 157))), (DictEntry.mk (PyData.keyHash P z30) (Value.str z30 (nat_lit 399)) (Value.ref (nat_lit 158)))]⟩ (nat_lit 9)) ⟨[]⟩)
noncomputable def ma117 : Params → Obj := fun _ => (Obj.mk Value.none none (Data.fields ⟨[(Value.int (Int.ofNat (nat_lit 32)) (nat_lit 0)), (Value.int (Int.ofNat (nat_lit 4)) (nat_lit 0)), (Value.ref (nat_lit 125)), (Value.int (Int.ofNat (nat_lit 59)) (nat_lit 0)), (Value.int (Int.ofNat (nat_lit 4)) (nat_lit 0)), (Value.ref (nat_lit 132)), (Value.int (Int.ofNat (nat_lit 63)) (nat_lit 0)), (Value.int (Int.ofNat (nat_lit 4)) (nat_lit 0)), (Value.ref (nat_lit 140)), (Value.int (Int.ofNat (nat_lit 67)) (nat_lit 0)), (Value.int (Int.ofNat (nat_lit 4)) (nat_lit 0)), (Value.ref (nat_lit 148)), (Value.int (Int.ofNat (nat_lit 70)) (nat_lit 0)), (Value.int (Int.ofNat (nat_lit 4)) (nat_lit 0)), (Value.ref (nat_lit 156))]⟩) ⟨[]⟩)
noncomputable def ma118 : Params → Obj := fun _ => (Obj.mk (Value.type PySem.W.SL.s5856160107412720595x4) none (Data.fields ⟨[(Value.str z19 (nat_lit 321)), (Value.str z19 (nat_lit 322)), (Value.str z1 (nat_lit 323)), (Value.int (Int.ofNat (nat_lit 30)) (nat_lit 0)), (Value.int (Int.ofNat (nat_lit 0)) (nat_lit 0)), (Value.int (Int.ofNat (nat_lit 0)) (nat_lit 0)), (Value.int (Int.ofNat (nat_lit 0)) (nat_lit 0)), (Value.int (Int.ofNat (nat_lit 0)) (nat_lit 0)), (Value.ref (nat_lit 116)), (Value.bool false), (Value.int (Int.ofNat (nat_lit 181)) (nat_lit 0)), (Value.ref (nat_lit 117)), Value.none, Value.none, Value.none, Value.none, (Value.int (Int.ofNat (nat_lit 324)) (nat_lit 0)), (Value.int (Int.ofNat (nat_lit 30)) (nat_lit 0)), (Value.str z1 (nat_lit 325))]⟩) ⟨[]⟩)
noncomputable def ma119 : Params → Obj := fun _ => (Obj.mk (Value.type PySem.W.SL.s658472552662922059x5) none Data.plain ⟨[(some (Value.ref (nat_lit 118))), (some (Value.ref (nat_lit 3))), (some (Value.ref (nat_lit 115))), none, (some (Value.str z25 (nat_lit 204))), none, (some (Value.ref (nat_lit 0)))]⟩)
noncomputable def ma122 : Params → Obj := fun _ => (Obj.mk (Value.type PySem.W.SL.s2766695959194262286x5) none (Data.seq ⟨[(Value.str z31 (nat_lit 334)), (Value.str z46 (nat_lit 335)), (Value.str z53 (nat_lit 336)), (Value.str z54 (nat_lit 337)), (Value.str z55 (nat_lit 338)), (Value.str z56 (nat_lit 339))]⟩ (nat_lit 0)) ⟨[]⟩)
noncomputable def ma124 : Params → Obj := fun _ => (Obj.mk Value.none none (Data.func (FuncData.mk z29 z57 (fnD (mem 0 (top 8))).1 (FuncBody.stmts (fnD (mem 0 (top 8))).2.1) (fnD (mem 0 (top 8))).2.2 (nat_lit 0) [] Value.none Value.none Value.none Value.none none Value.none Value.none (nat_lit 0))) ⟨[]⟩)
noncomputable def ma125 : Params → Obj := fun _ => (Obj.mk (Value.type PySem.W.SL.s5856160107412720595x4) none (Data.fields ⟨[(Value.str z29 (nat_lit 331)), (Value.str z57 (nat_lit 332)), (Value.str z1 (nat_lit 333)), (Value.int (Int.ofNat (nat_lit 32)) (nat_lit 0)), (Value.int (Int.ofNat (nat_lit 6)) (nat_lit 0)), (Value.int (Int.ofNat (nat_lit 0)) (nat_lit 0)), (Value.int (Int.ofNat (nat_lit 0)) (nat_lit 0)), (Value.int (Int.ofNat (nat_lit 3)) (nat_lit 0)), (Value.ref (nat_lit 120)), (Value.bool true), (Value.int (Int.ofNat (nat_lit 181)) (nat_lit 0)), (Value.ref (nat_lit 121)), Value.none, (Value.ref (nat_lit 122)), (Value.ref (nat_lit 123)), (Value.ref (nat_lit 124)), (Value.int (Int.ofNat (nat_lit 340)) (nat_lit 0)), (Value.int (Int.ofNat (nat_lit 32)) (nat_lit 0)), (Value.str z1 (nat_lit 341))]⟩) ⟨[]⟩)
noncomputable def ma126 : Params → Obj := fun _ => (Obj.mk (Value.type PySem.W.SL.s7174869446012820540x8) none (Data.func (FuncData.mk z29 z57 (fnD (mem 0 (top 8))).1 (FuncBody.stmts (fnD (mem 0 (top 8))).2.1) (fnD (mem 0 (top 8))).2.2 (nat_lit 3) [] Value.none Value.none Value.none (Value.str z25 (nat_lit 204)) none (Value.ref (nat_lit 125)) Value.none (nat_lit 0))) ⟨[]⟩)
noncomputable def ma129 : Params → Obj := fun _ => (Obj.mk (Value.type PySem.W.SL.s2766695959194262286x5) none (Data.seq ⟨[(Value.str z31 (nat_lit 346))]⟩ (nat_lit 0)) ⟨[]⟩)
noncomputable def ma131 : Params → Obj := fun _ => (Obj.mk Value.none none (Data.func (FuncData.mk z49 z58 (fnD (mem 1 (top 8))).1 (FuncBody.stmts (fnD (mem 1 (top 8))).2.1) (fnD (mem 1 (top 8))).2.2 (nat_lit 0) [] Value.none Value.none Value.none Value.none none Value.none Value.none (nat_lit 0))) ⟨[]⟩)
noncomputable def ma132 : Params → Obj := fun _ => (Obj.mk (Value.type PySem.W.SL.s5856160107412720595x4) none (Data.fields ⟨[(Value.str z49 (nat_lit 343)), (Value.str z58 (nat_lit 344)), (Value.str z1 (nat_lit 345)), (Value.int (Int.ofNat (nat_lit 58)) (nat_lit 0)), (Value.int (Int.ofNat (nat_lit 1)) (nat_lit 0)), (Value.int (Int.ofNat (nat_lit 0)) (nat_lit 0)), (Value.int (Int.ofNat (nat_lit 0)) (nat_lit 0)), (Value.int (Int.ofNat (nat_lit 3)) (nat_lit 0)), (Value.ref (nat_lit 127)), (Value.bool true), (Value.int (Int.ofNat (nat_lit 181)) (nat_lit 0)), (Value.ref (nat_lit 128)), Value.none, (Value.ref (nat_lit 129)), (Value.ref (nat_lit 130)), (Value.ref (nat_lit 131)), (Value.int (Int.ofNat (nat_lit 347)) (nat_lit 0)), (Value.int (Int.ofNat (nat_lit 58)) (nat_lit 0)), (Value.str z1 (nat_lit 348))]⟩) ⟨[]⟩)
noncomputable def ma133 : Params → Obj := fun _ => (Obj.mk (Value.type PySem.W.SL.s7174869446012820540x8) none (Data.func (FuncData.mk z49 z58 (fnD (mem 1 (top 8))).1 (FuncBody.stmts (fnD (mem 1 (top 8))).2.1) (fnD (mem 1 (top 8))).2.2 (nat_lit 3) [] Value.none Value.none Value.none (Value.str z25 (nat_lit 204)) none (Value.ref (nat_lit 132)) Value.none (nat_lit 0))) ⟨[]⟩)
noncomputable def ma134 : Params → Obj := fun _ => (Obj.mk (Value.type PySem.W.SL.s8101838861749082086x8) none (Data.fields ⟨[(Value.ref (nat_lit 133)), Value.none, Value.none, Value.none, (Value.str z49 (nat_lit 350)), (Value.bool false)]⟩) ⟨[]⟩)
noncomputable def ma137 : Params → Obj := fun _ => (Obj.mk (Value.type PySem.W.SL.s2766695959194262286x5) none (Data.seq ⟨[(Value.str z31 (nat_lit 354))]⟩ (nat_lit 0)) ⟨[]⟩)
noncomputable def ma139 : Params → Obj := fun _ => (Obj.mk Value.none none (Data.func (FuncData.mk z50 z59 (fnD (mem 2 (top 8))).1 (FuncBody.stmts (fnD (mem 2 (top 8))).2.1) (fnD (mem 2 (top 8))).2.2 (nat_lit 0) [] Value.none Value.none Value.none Value.none none Value.none Value.none (nat_lit 0))) ⟨[]⟩)
noncomputable def ma140 : Params → Obj := fun _ => (Obj.mk (Value.type PySem.W.SL.s5856160107412720595x4) none (Data.fields ⟨[(Value.str z50 (nat_lit 351)), (Value.str z59 (nat_lit 352)), (Value.str z1 (nat_lit 353)), (Value.int (Int.ofNat (nat_lit 62)) (nat_lit 0)), (Value.int (Int.ofNat (nat_lit 1)) (nat_lit 0)), (Value.int (Int.ofNat (nat_lit 0)) (nat_lit 0)), (Value.int (Int.ofNat (nat_lit 0)) (nat_lit 0)), (Value.int (Int.ofNat (nat_lit 3)) (nat_lit 0)), (Value.ref (nat_lit 135)), (Value.bool true), (Value.int (Int.ofNat (nat_lit 181)) (nat_lit 0)), (Value.ref (nat_lit 136)), Value.none, (Value.ref (nat_lit 137)), (Value.ref (nat_lit 138)), (Value.ref (nat_lit 139)), (Value.int (Int.ofNat (nat_lit 355)) (nat_lit 0)), (Value.int (Int.ofNat (nat_lit 62)) (nat_lit 0)), (Value.str z1 (nat_lit 356))]⟩) ⟨[]⟩)
noncomputable def ma141 : Params → Obj := fun _ => (Obj.mk (Value.type PySem.W.SL.s7174869446012820540x8) none (Data.func (FuncData.mk z50 z59 (fnD (mem 2 (top 8))).1 (FuncBody.stmts (fnD (mem 2 (top 8))).2.1) (fnD (mem 2 (top 8))).2.2 (nat_lit 3) [] Value.none Value.none Value.none (Value.str z25 (nat_lit 204)) none (Value.ref (nat_lit 140)) Value.none (nat_lit 0))) ⟨[]⟩)
noncomputable def ma142 : Params → Obj := fun _ => (Obj.mk (Value.type PySem.W.SL.s8101838861749082086x8) none (Data.fields ⟨[(Value.ref (nat_lit 141)), Value.none, Value.none, Value.none, (Value.str z50 (nat_lit 358)), (Value.bool false)]⟩) ⟨[]⟩)
noncomputable def ma145 : Params → Obj := fun _ => (Obj.mk (Value.type PySem.W.SL.s2766695959194262286x5) none (Data.seq ⟨[(Value.str z31 (nat_lit 362))]⟩ (nat_lit 0)) ⟨[]⟩)
noncomputable def ma147 : Params → Obj := fun _ => (Obj.mk Value.none none (Data.func (FuncData.mk z51 z60 (fnD (mem 3 (top 8))).1 (FuncBody.stmts (fnD (mem 3 (top 8))).2.1) (fnD (mem 3 (top 8))).2.2 (nat_lit 0) [] Value.none Value.none Value.none Value.none none Value.none Value.none (nat_lit 0))) ⟨[]⟩)
noncomputable def ma148 : Params → Obj := fun _ => (Obj.mk (Value.type PySem.W.SL.s5856160107412720595x4) none (Data.fields ⟨[(Value.str z51 (nat_lit 359)), (Value.str z60 (nat_lit 360)), (Value.str z1 (nat_lit 361)), (Value.int (Int.ofNat (nat_lit 66)) (nat_lit 0)), (Value.int (Int.ofNat (nat_lit 1)) (nat_lit 0)), (Value.int (Int.ofNat (nat_lit 0)) (nat_lit 0)), (Value.int (Int.ofNat (nat_lit 0)) (nat_lit 0)), (Value.int (Int.ofNat (nat_lit 3)) (nat_lit 0)), (Value.ref (nat_lit 143)), (Value.bool true), (Value.int (Int.ofNat (nat_lit 181)) (nat_lit 0)), (Value.ref (nat_lit 144)), Value.none, (Value.ref (nat_lit 145)), (Value.ref (nat_lit 146)), (Value.ref (nat_lit 147)), (Value.int (Int.ofNat (nat_lit 363)) (nat_lit 0)), (Value.int (Int.ofNat (nat_lit 66)) (nat_lit 0)), (Value.str z1 (nat_lit 364))]⟩) ⟨[]⟩)
noncomputable def ma149 : Params → Obj := fun _ => (Obj.mk (Value.type PySem.W.SL.s7174869446012820540x8) none (Data.func (FuncData.mk z51 z60 (fnD (mem 3 (top 8))).1 (FuncBody.stmts (fnD (mem 3 (top 8))).2.1) (fnD (mem 3 (top 8))).2.2 (nat_lit 3) [] Value.none Value.none Value.none (Value.str z25 (nat_lit 204)) none (Value.ref (nat_lit 148)) Value.none (nat_lit 0))) ⟨[]⟩)
noncomputable def ma150 : Params → Obj := fun _ => (Obj.mk (Value.type PySem.W.SL.s8101838861749082086x8) none (Data.fields ⟨[(Value.ref (nat_lit 149)), Value.none, Value.none, Value.none, (Value.str z51 (nat_lit 366)), (Value.bool false)]⟩) ⟨[]⟩)
noncomputable def ma153 : Params → Obj := fun _ => (Obj.mk (Value.type PySem.W.SL.s2766695959194262286x5) none (Data.seq ⟨[(Value.str z31 (nat_lit 370)), (Value.str z61 (nat_lit 371))]⟩ (nat_lit 0)) ⟨[]⟩)
noncomputable def ma155 : Params → Obj := fun _ => (Obj.mk Value.none none (Data.func (FuncData.mk z52 z62 (fnD (mem 4 (top 8))).1 (FuncBody.stmts (fnD (mem 4 (top 8))).2.1) (fnD (mem 4 (top 8))).2.2 (nat_lit 0) [] Value.none Value.none Value.none Value.none none Value.none Value.none (nat_lit 0))) ⟨[]⟩)
noncomputable def ma156 : Params → Obj := fun _ => (Obj.mk (Value.type PySem.W.SL.s5856160107412720595x4) none (Data.fields ⟨[(Value.str z52 (nat_lit 367)), (Value.str z62 (nat_lit 368)), (Value.str z1 (nat_lit 369)), (Value.int (Int.ofNat (nat_lit 70)) (nat_lit 0)), (Value.int (Int.ofNat (nat_lit 2)) (nat_lit 0)), (Value.int (Int.ofNat (nat_lit 0)) (nat_lit 0)), (Value.int (Int.ofNat (nat_lit 0)) (nat_lit 0)), (Value.int (Int.ofNat (nat_lit 3)) (nat_lit 0)), (Value.ref (nat_lit 151)), (Value.bool true), (Value.int (Int.ofNat (nat_lit 181)) (nat_lit 0)), (Value.ref (nat_lit 152)), Value.none, (Value.ref (nat_lit 153)), (Value.ref (nat_lit 154)), (Value.ref (nat_lit 155)), (Value.int (Int.ofNat (nat_lit 372)) (nat_lit 0)), (Value.int (Int.ofNat (nat_lit 70)) (nat_lit 0)), (Value.str z1 (nat_lit 373))]⟩) ⟨[]⟩)
noncomputable def ma157 : Params → Obj := fun _ => (Obj.mk (Value.type PySem.W.SL.s7174869446012820540x8) none (Data.func (FuncData.mk z52 z62 (fnD (mem 4 (top 8))).1 (FuncBody.stmts (fnD (mem 4 (top 8))).2.1) (fnD (mem 4 (top 8))).2.2 (nat_lit 3) [] Value.none Value.none Value.none (Value.str z25 (nat_lit 204)) none (Value.ref (nat_lit 156)) Value.none (nat_lit 0))) ⟨[]⟩)
noncomputable def ma158 : Params → Obj := fun _ => (Obj.mk (Value.type PySem.W.SL.s2766695959194262286x5) none (Data.seq ⟨[(Value.str z63 (nat_lit 375)), (Value.str z64 (nat_lit 376)), (Value.str z65 (nat_lit 377)), (Value.str z66 (nat_lit 378)), (Value.str z67 (nat_lit 379)), (Value.str z68 (nat_lit 380)), (Value.str z69 (nat_lit 381)), (Value.str z70 (nat_lit 382)), (Value.str z54 (nat_lit 383)), (Value.str z71 (nat_lit 384)), (Value.str z72 (nat_lit 385)), (Value.str z73 (nat_lit 386)), (Value.str z74 (nat_lit 387)), (Value.str z75 (nat_lit 388)), (Value.str z76 (nat_lit 389)), (Value.str z77 (nat_lit 390)), (Value.str z55 (nat_lit 391)), (Value.str z78 (nat_lit 392)), (Value.str z48 (nat_lit 393)), (Value.str z79 (nat_lit 394)), (Value.str z80 (nat_lit 395)), (Value.str z81 (nat_lit 396)), (Value.str z56 (nat_lit 397)), (Value.str z53 (nat_lit 398))]⟩ (nat_lit 0)) ⟨[]⟩)
noncomputable def ma159 : Params → Obj := fun P => (Obj.mk (Value.type PySem.W.SL.s14018661285674007319x4) none (Data.dict ⟨[(DictEntry.mk (PyData.keyHash P z26) (Value.str z26 (nat_lit 326)) (Value.str z25 (nat_lit 204))), (DictEntry.mk (PyData.keyHash P z28) (Value.str z28 (nat_lit 330)) (Value.int (Int.ofNat (nat_lit 30)) (nat_lit 329))), (DictEntry.mk (PyData.keyHash P z29) (Value.str z29 (nat_lit 342)) (Value.ref (nat_lit 126))), (DictEntry.mk (PyData.keyHash P z49) (Value.str z49 (nat_lit 350)) (Value.ref (nat_lit 134))), (DictEntry.mk (PyData.keyHash P z50) (Value.str z50 (nat_lit 358)) (Value.ref (nat_lit 142))), (DictEntry.mk (PyData.keyHash P z51) (Value.str z51 (nat_lit 366)) (Value.ref (nat_lit 150))), (DictEntry.mk (PyData.keyHash P z52) (Value.str z52 (nat_lit 374)) (Value.ref (nat_lit 157))), (DictEntry.mk (PyData.keyHash P z30) (Value.str z30 (nat_lit 399)) (Value.ref (nat_lit 158))), (DictEntry.mk (PyData.keyHash P z34) (Value.str z34 (nat_lit 401)) (Value.ref (nat_lit 161))), (DictEntry.mk (PyData.keyHash P z35) (Value.str z35 (nat_lit 403)) (Value.ref (nat_lit 162))), (DictEntry.mk (PyData.keyHash P z5) (Value.str z5 (nat_lit 404)) Value.none)]⟩ (nat_lit 4)) ⟨[]⟩)
noncomputable def ma160 : Params → Obj := fun _ => (Obj.mk (Value.type PySem.W.SL.s17162191345867700912x4) none (Data.cls (ClassData.mk z19 [(Value.type "object")] [(Value.ref (nat_lit 160)), (Value.type "object")] (nat_lit 159) z19 true [] [] false none false)) ⟨[none, none, (some (Value.str z19 (nat_lit 319))), (some (Value.str z19 (nat_lit 327))), (some (Value.builtin "object.__new__")), (some (Value.bool true))]⟩)
noncomputable def ma161 : Params → Obj := fun _ => (Obj.mk (Value.type PySem.W.SL.s14755015743595814543x17) none (Data.fields ⟨[(Value.str z34 (nat_lit 400)), (Value.ref (nat_lit 160)), (Value.builtin PySem.W.SL.s6511155373996960695x17), (Value.builtin PySem.W.SL.s12411053484034534018x21)]⟩) ⟨[]⟩)
noncomputable def ma162 : Params → Obj := fun _ => (Obj.mk (Value.type PySem.W.SL.s14755015743595814543x17) none (Data.fields ⟨[(Value.str z35 (nat_lit 402)), (Value.ref (nat_lit 160)), (Value.builtin PySem.W.SL.s10220274742760427390x26), Value.none]⟩) ⟨[]⟩)
noncomputable def ma163 : Params → Obj := fun _ => (Obj.mk (Value.type PySem.W.SL.s4290257624100764138x5) none (Data.fields ⟨[(Value.ref (nat_lit 160)), (Value.ref (nat_lit 160)), (Value.ref (nat_lit 160))]⟩) ⟨[]⟩)
noncomputable def ma164 : Params → Obj := fun _ => (Obj.mk (Value.type PySem.W.SL.s11030030927630378310x26) none (Data.fields ⟨[(Value.builtin PySem.W.SL.s4860613602091757760x24), (Value.ref (nat_lit 160))]⟩) ⟨[]⟩)
noncomputable def mc2 : Params → Obj := fun P => (Obj.mk Value.none none (Data.dict ⟨[(DictEntry.mk (PyData.keyHash P z82) (Value.str z82 (nat_lit 425)) (Value.int (Int.ofNat (nat_lit 174)) (nat_lit 0))), (DictEntry.mk (PyData.keyHash P z83) (Value.str z83 (nat_lit 426)) (Value.int (Int.ofNat (nat_lit 1)) (nat_lit 0)))]⟩ (nat_lit 2)) ⟨[]⟩)
noncomputable def mc3 : Params → Obj := fun P => (Obj.mk (Value.type PySem.W.SL.s14018661285674007319x4) none (Data.dict ⟨[(DictEntry.mk (PyData.keyHash P z3) (Value.str z3 (nat_lit 165)) (Value.str z84 (nat_lit 461))), (DictEntry.mk (PyData.keyHash P z5) (Value.str z5 (nat_lit 166)) Value.none), (DictEntry.mk (PyData.keyHash P z6) (Value.str z6 (nat_lit 167)) Value.none), (DictEntry.mk (PyData.keyHash P z7) (Value.str z7 (nat_lit 168)) (Value.builtin PySem.W.SL.s7097527257260152453x26)), (DictEntry.mk (PyData.keyHash P z8) (Value.str z8 (nat_lit 169)) Value.none), (DictEntry.mk (PyData.keyHash P z9) (Value.str z9 (nat_lit 170)) (Value.ref (nat_lit 6))), (DictEntry.mk (PyData.keyHash P z10) (Value.str z10 (nat_lit 171)) (Value.ref (nat_lit 4))), (DictEntry.mk (PyData.keyHash P z11) (Value.str z11 (nat_lit 173)) (Value.str z1 (nat_lit 172))), (DictEntry.mk (PyData.keyHash P z12) (Value.str z12 (nat_lit 174)) Value.none), (DictEntry.mk (PyData.keyHash P z13) (Value.str z13 (nat_lit 193)) (Value.ref (nat_lit 21))), (DictEntry.mk (PyData.keyHash P z14) (Value.str z14 (nat_lit 203)) (Value.ref (nat_lit 28))), (DictEntry.mk (PyData.keyHash P z15) (Value.str z15 (nat_lit 212)) (Value.ref (nat_lit 35))), (DictEntry.mk (PyData.keyHash P z16) (Value.str z16 (nat_lit 241)) (Value.ref (nat_lit 52))), (DictEntry.mk (PyData.keyHash P z17) (Value.str z17 (nat_lit 288)) (Value.ref (nat_lit 87))), (DictEntry.mk (PyData.keyHash P z18) (Value.str z18 (nat_lit 318)) (Value.ref (nat_lit 108))), (DictEntry.mk (PyData.keyHash P z19) (Value.str z19 (nat_lit 406)) (Value.ref (nat_lit 160))), (DictEntry.mk (PyData.keyHash P z85) (Value.str z85 (nat_lit 428)) (Value.ref (nat_lit 174))), (DictEntry.mk (PyData.keyHash P z86) (Value.str z86 (nat_lit 444)) (Value.ref (nat_lit 187))), (DictEntry.mk (PyData.keyHash P z87) (Value.str z87 (nat_lit 460)) (Value.ref (nat_lit 199))), (DictEntry.mk (PyData.keyHash P z88) (Value.str z88 (nat_lit 571)) (Value.ref (nat_lit 276)))]⟩ (nat_lit 20)) ⟨[]⟩)
noncomputable def mc12 : Params → Obj := fun _ => (Obj.mk Value.none none (Data.fields ⟨[(Value.int (Int.ofNat (nat_lit 1)) (nat_lit 0)), (Value.int (Int.ofNat (nat_lit 0)) (nat_lit 0)), (Value.ref (nat_lit 20)), (Value.int (Int.ofNat (nat_lit 5)) (nat_lit 0)), (Value.int (Int.ofNat (nat_lit 0)) (nat_lit 0)), (Value.ref (nat_lit 27)), (Value.int (Int.ofNat (nat_lit 8)) (nat_lit 0)), (Value.int (Int.ofNat (nat_lit 0)) (nat_lit 0)), (Value.ref (nat_lit 34)), (Value.int (Int.ofNat (nat_lit 10)) (nat_lit 0)), (Value.int (Int.ofNat (nat_lit 0)) (nat_lit 0)), (Value.ref (nat_lit 41)), (Value.int (Int.ofNat (nat_lit 14)) (nat_lit 0)), (Value.int (Int.ofNat (nat_lit 0)) (nat_lit 0)), (Value.ref (nat_lit 62)), (Value.int (Int.ofNat (nat_lit 25)) (nat_lit 0)), (Value.int (Int.ofNat (nat_lit 0)) (nat_lit 0)), (Value.ref (nat_lit 97)), (Value.int (Int.ofNat (nat_lit 30)) (nat_lit 0)), (Value.int (Int.ofNat (nat_lit 0)) (nat_lit 0)), (Value.ref (nat_lit 118)), (Value.int (Int.ofNat (nat_lit 75)) (nat_lit 0)), (Value.int (Int.ofNat (nat_lit 0)) (nat_lit 0)), (Value.ref (nat_lit 170)), (Value.int (Int.ofNat (nat_lit 77)) (nat_lit 0)), (Value.int (Int.ofNat (nat_lit 0)) (nat_lit 0)), (Value.ref (nat_lit 183)), (Value.int (Int.ofNat (nat_lit 79)) (nat_lit 0)), (Value.int (Int.ofNat (nat_lit 0)) (nat_lit 0)), (Value.ref (nat_lit 195)), (Value.int (Int.ofNat (nat_lit 82)) (nat_lit 0)), (Value.int (Int.ofNat (nat_lit 0)) (nat_lit 0)), (Value.ref (nat_lit 207))]⟩) ⟨[]⟩)
noncomputable def mc165 : Params → Obj := fun _ => (Obj.mk (Value.type PySem.W.SL.s2766695959194262286x5) none (Data.seq ⟨[(Value.type PySem.W.SL.s5946037652744460706x9)]⟩ (nat_lit 0)) ⟨[]⟩)
noncomputable def mc167 : Params → Obj := fun P => (Obj.mk (Value.type PySem.W.SL.s14018661285674007319x4) none (Data.dict ⟨[(DictEntry.mk (PyData.keyHash P z26) (Value.str z26 (nat_lit 416)) (Value.str z4 (nat_lit 407))), (DictEntry.mk (PyData.keyHash P z27) (Value.str z27 (nat_lit 418)) (Value.str z85 (nat_lit 417))), (DictEntry.mk (PyData.keyHash P z28) (Value.str z28 (nat_lit 420)) (Value.int (Int.ofNat (nat_lit 75)) (nat_lit 419))), (DictEntry.mk (PyData.keyHash P z30) (Value.str z30 (nat_lit 421)) (Value.ref (nat_lit 172)))]⟩ (nat_lit 4)) ⟨[]⟩)
noncomputable def mc170 : Params → Obj := fun _ => (Obj.mk (Value.type PySem.W.SL.s5856160107412720595x4) none (Data.fields ⟨[(Value.str z85 (nat_lit 411)), (Value.str z85 (nat_lit 412)), (Value.str z1 (nat_lit 413)), (Value.int (Int.ofNat (nat_lit 75)) (nat_lit 0)), (Value.int (Int.ofNat (nat_lit 0)) (nat_lit 0)), (Value.int (Int.ofNat (nat_lit 0)) (nat_lit 0)), (Value.int (Int.ofNat (nat_lit 0)) (nat_lit 0)), (Value.int (Int.ofNat (nat_lit 0)) (nat_lit 0)), (Value.ref (nat_lit 168)), (Value.bool false), (Value.int (Int.ofNat (nat_lit 181)) (nat_lit 0)), (Value.ref (nat_lit 169)), Value.none, Value.none, Value.none, Value.none, (Value.int (Int.ofNat (nat_lit 414)) (nat_lit 0)), (Value.int (Int.ofNat (nat_lit 75)) (nat_lit 0)), (Value.str z1 (nat_lit 415))]⟩) ⟨[]⟩)
noncomputable def mc171 : Params → Obj := fun _ => (Obj.mk (Value.type PySem.W.SL.s658472552662922059x5) none Data.plain ⟨[(some (Value.ref (nat_lit 170))), (some (Value.ref (nat_lit 3))), (some (Value.ref (nat_lit 167))), none, (some (Value.str z4 (nat_lit 407))), none, (some (Value.ref (nat_lit 0)))]⟩)
noncomputable def mc173 : Params → Obj := fun P => (Obj.mk (Value.type PySem.W.SL.s14018661285674007319x4) none (Data.dict ⟨[(DictEntry.mk (PyData.keyHash P z26) (Value.str z26 (nat_lit 416)) (Value.str z4 (nat_lit 407))), (DictEntry.mk (PyData.keyHash P z28) (Value.str z28 (nat_lit 420)) (Value.int (Int.ofNat (nat_lit 75)) (nat_lit 419))), (DictEntry.mk (PyData.keyHash P z30) (Value.str z30 (nat_lit 421)) (Value.ref (nat_lit 172))), (DictEntry.mk (PyData.keyHash P z35) (Value.str z35 (nat_lit 423)) (Value.ref (nat_lit 175))), (DictEntry.mk (PyData.keyHash P z5) (Value.str z5 (nat_lit 424)) Value.none)]⟩ (nat_lit 3)) ⟨[]⟩)
noncomputable def mc174 : Params → Obj := fun _ => (Obj.mk (Value.type PySem.W.SL.s17162191345867700912x4) none (Data.cls (ClassData.mk z85 [(Value.type PySem.W.SL.s5946037652744460706x9)] [(Value.ref (nat_lit 174)), (Value.type PySem.W.SL.s5946037652744460706x9), (Value.type "BaseException"), (Value.type "object")] (nat_lit 173) z85 true [] [(Value.ref (nat_lit 187))] false none false)) ⟨[(some (Value.ref (nat_lit 165))), none, (some (Value.str z85 (nat_lit 409))), (some (Value.str z85 (nat_lit 417))), (some (Value.builtin "Exception.__new__")), (some (Value.bool true))]⟩)
noncomputable def mc175 : Params → Obj := fun _ => (Obj.mk (Value.type PySem.W.SL.s14755015743595814543x17) none (Data.fields ⟨[(Value.str z35 (nat_lit 422)), (Value.ref (nat_lit 174)), (Value.builtin PySem.W.SL.s10220274742760427390x26), Value.none]⟩) ⟨[]⟩)
noncomputable def mc176 : Params → Obj := fun _ => (Obj.mk (Value.type PySem.W.SL.s4290257624100764138x5) none (Data.fields ⟨[(Value.ref (nat_lit 174)), (Value.ref (nat_lit 174)), (Value.ref (nat_lit 174))]⟩) ⟨[]⟩)
noncomputable def mc177 : Params → Obj := fun _ => (Obj.mk (Value.type PySem.W.SL.s11030030927630378310x26) none (Data.fields ⟨[(Value.builtin PySem.W.SL.s4860613602091757760x24), (Value.ref (nat_lit 174))]⟩) ⟨[]⟩)
noncomputable def mc178 : Params → Obj := fun _ => (Obj.mk (Value.type PySem.W.SL.s2766695959194262286x5) none (Data.seq ⟨[(Value.ref (nat_lit 174))]⟩ (nat_lit 0)) ⟨[]⟩)
noncomputable def mc180 : Params → Obj := fun P => (Obj.mk (Value.type PySem.W.SL.s14018661285674007319x4) none (Data.dict ⟨[(DictEntry.mk (PyData.keyHash P z26) (Value.str z26 (nat_lit 436)) (Value.str z4 (nat_lit 407))), (DictEntry.mk (PyData.keyHash P z27) (Value.str z27 (nat_lit 438)) (Value.str z86 (nat_lit 437))), (DictEntry.mk (PyData.keyHash P z28) (Value.str z28 (nat_lit 440)) (Value.int (Int.ofNat (nat_lit 77)) (nat_lit 439))), (DictEntry.mk (PyData.keyHash P z30) (Value.str z30 (nat_lit 441)) (Value.ref (nat_lit 185)))]⟩ (nat_lit 4)) ⟨[]⟩)
noncomputable def mc183 : Params → Obj := fun _ => (Obj.mk (Value.type PySem.W.SL.s5856160107412720595x4) none (Data.fields ⟨[(Value.str z86 (nat_lit 431)), (Value.str z86 (nat_lit 432)), (Value.str z1 (nat_lit 433)), (Value.int (Int.ofNat (nat_lit 77)) (nat_lit 0)), (Value.int (Int.ofNat (nat_lit 0)) (nat_lit 0)), (Value.int (Int.ofNat (nat_lit 0)) (nat_lit 0)), (Value.int (Int.ofNat (nat_lit 0)) (nat_lit 0)), (Value.int (Int.ofNat (nat_lit 0)) (nat_lit 0)), (Value.ref (nat_lit 181)), (Value.bool false), (Value.int (Int.ofNat (nat_lit 181)) (nat_lit 0)), (Value.ref (nat_lit 182)), Value.none, Value.none, Value.none, Value.none, (Value.int (Int.ofNat (nat_lit 434)) (nat_lit 0)), (Value.int (Int.ofNat (nat_lit 77)) (nat_lit 0)), (Value.str z1 (nat_lit 435))]⟩) ⟨[]⟩)
noncomputable def mc184 : Params → Obj := fun _ => (Obj.mk (Value.type PySem.W.SL.s658472552662922059x5) none Data.plain ⟨[(some (Value.ref (nat_lit 183))), (some (Value.ref (nat_lit 3))), (some (Value.ref (nat_lit 180))), none, (some (Value.str z4 (nat_lit 407))), none, (some (Value.ref (nat_lit 0)))]⟩)
noncomputable def mc186 : Params → Obj := fun P => (Obj.mk (Value.type PySem.W.SL.s14018661285674007319x4) none (Data.dict ⟨[(DictEntry.mk (PyData.keyHash P z26) (Value.str z26 (nat_lit 436)) (Value.str z4 (nat_lit 407))), (DictEntry.mk (PyData.keyHash P z28) (Value.str z28 (nat_lit 440)) (Value.int (Int.ofNat (nat_lit 77)) (nat_lit 439))), (DictEntry.mk (PyData.keyHash P z30) (Value.str z30 (nat_lit 441)) (Value.ref (nat_lit 185))), (DictEntry.mk (PyData.keyHash P z5) (Value.str z5 (nat_lit 442)) Value.none)]⟩ (nat_lit 2)) ⟨[]⟩)
noncomputable def mc187 : Params → Obj := fun _ => (Obj.mk (Value.type PySem.W.SL.s17162191345867700912x4) none (Data.cls (ClassData.mk z86 [(Value.ref (nat_lit 174))] [(Value.ref (nat_lit 187)), (Value.ref (nat_lit 174)), (Value.type PySem.W.SL.s5946037652744460706x9), (Value.type "BaseException"), (Value.type "object")] (nat_lit 186) z86 true [] [(Value.ref (nat_lit 199))] false none false)) ⟨[(some (Value.ref (nat_lit 178))), none, (some (Value.str z86 (nat_lit 429))), (some (Value.str z86 (nat_lit 437))), (some (Value.builtin "Exception.__new__")), (some (Value.bool true))]⟩)
noncomputable def mc188 : Params → Obj := fun _ => (Obj.mk (Value.type PySem.W.SL.s4290257624100764138x5) none (Data.fields ⟨[(Value.ref (nat_lit 187)), (Value.ref (nat_lit 187)), (Value.ref (nat_lit 187))]⟩) ⟨[]⟩)
noncomputable def mc189 : Params → Obj := fun _ => (Obj.mk (Value.type PySem.W.SL.s11030030927630378310x26) none (Data.fields ⟨[(Value.builtin PySem.W.SL.s4860613602091757760x24), (Value.ref (nat_lit 187))]⟩) ⟨[]⟩)
noncomputable def mc190 : Params → Obj := fun _ => (Obj.mk (Value.type PySem.W.SL.s2766695959194262286x5) none (Data.seq ⟨[(Value.ref (nat_lit 187))]⟩ (nat_lit 0)) ⟨[]⟩)
noncomputable def mc192 : Params → Obj := fun P => (Obj.mk (Value.type PySem.W.SL.s14018661285674007319x4) none (Data.dict ⟨[(DictEntry.mk (PyData.keyHash P z26) (Value.str z26 (nat_lit 452)) (Value.str z4 (nat_lit 407))), (DictEntry.mk (PyData.keyHash P z27) (Value.str z27 (nat_lit 454)) (Value.str z87 (nat_lit 453))), (DictEntry.mk (PyData.keyHash P z28) (Value.str z28 (nat_lit 456)) (Value.int (Int.ofNat (nat_lit 79)) (nat_lit 455))), (DictEntry.mk (PyData.keyHash P z30) (Value.str z30 (nat_lit 457)) (Value.ref (nat_lit 197)))]⟩ (nat_lit 4)) ⟨[]⟩)
noncomputable def mc195 : Params → Obj := fun _ => (Obj.mk (Value.type PySem.W.SL.s5856160107412720595x4) none (Data.fields ⟨[(Value.str z87 (nat_lit 447)), (Value.str z87 (nat_lit 448)), (Value.str z1 (nat_lit 449)), (Value.int (Int.ofNat (nat_lit 79)) (nat_lit 0)), (Value.int (Int.ofNat (nat_lit 0)) (nat_lit 0)), (Value.int (Int.ofNat (nat_lit 0)) (nat_lit 0)), (Value.int (Int.ofNat (nat_lit 0)) (nat_lit 0)), (Value.int (Int.ofNat (nat_lit 0)) (nat_lit 0)), (Value.ref (nat_lit 193)), (Value.bool false), (Value.int (Int.ofNat (nat_lit 181)) (nat_lit 0)), (Value.ref (nat_lit 194)), Value.none, Value.none, Value.none, Value.none, (Value.int (Int.ofNat (nat_lit 450)) (nat_lit 0)), (Value.int (Int.ofNat (nat_lit 79)) (nat_lit 0)), (Value.str z1 (nat_lit 451))]⟩) ⟨[]⟩)
noncomputable def mc196 : Params → Obj := fun _ => (Obj.mk (Value.type PySem.W.SL.s658472552662922059x5) none Data.plain ⟨[(some (Value.ref (nat_lit 195))), (some (Value.ref (nat_lit 3))), (some (Value.ref (nat_lit 192))), none, (some (Value.str z4 (nat_lit 407))), none, (some (Value.ref (nat_lit 0)))]⟩)
noncomputable def mc198 : Params → Obj := fun P => (Obj.mk (Value.type PySem.W.SL.s14018661285674007319x4) none (Data.dict ⟨[(DictEntry.mk (PyData.keyHash P z26) (Value.str z26 (nat_lit 452)) (Value.str z4 (nat_lit 407))), (DictEntry.mk (PyData.keyHash P z28) (Value.str z28 (nat_lit 456)) (Value.int (Int.ofNat (nat_lit 79)) (nat_lit 455))), (DictEntry.mk (PyData.keyHash P z30) (Value.str z30 (nat_lit 457)) (Value.ref (nat_lit 197))), (DictEntry.mk (PyData.keyHash P z5) (Value.str z5 (nat_lit 458)) Value.none)]⟩ (nat_lit 2)) ⟨[]⟩)
noncomputable def mc199 : Params → Obj := fun _ => (Obj.mk (Value.type PySem.W.SL.s17162191345867700912x4) none (Data.cls (ClassData.mk z87 [(Value.ref (nat_lit 187))] [(Value.ref (nat_lit 199)), (Value.ref (nat_lit 187)), (Value.ref (nat_lit 174)), (Value.type PySem.W.SL.s5946037652744460706x9), (Value.type "BaseException"), (Value.type "object")] (nat_lit 198) z87 true [] [] false none false)) ⟨[(some (Value.ref (nat_lit 190))), none, (some (Value.str z87 (nat_lit 445))), (some (Value.str z87 (nat_lit 453))), (some (Value.builtin "Exception.__new__")), (some (Value.bool true))]⟩)
noncomputable def mc200 : Params → Obj := fun _ => (Obj.mk (Value.type PySem.W.SL.s4290257624100764138x5) none (Data.fields ⟨[(Value.ref (nat_lit 199)), (Value.ref (nat_lit 199)), (Value.ref (nat_lit 199))]⟩) ⟨[]⟩)
noncomputable def mc201 : Params → Obj := fun _ => (Obj.mk (Value.type PySem.W.SL.s11030030927630378310x26) none (Data.fields ⟨[(Value.builtin PySem.W.SL.s4860613602091757760x24), (Value.ref (nat_lit 199))]⟩) ⟨[]⟩)
noncomputable def mc204 : Params → Obj := fun P => (Obj.mk (Value.type PySem.W.SL.s14018661285674007319x4) none (Data.dict ⟨[(DictEntry.mk (PyData.keyHash P z26) (Value.str z26 (nat_lit 470)) (Value.str z84 (nat_lit 461))), (DictEntry.mk (PyData.keyHash P z27) (Value.str z27 (nat_lit 472)) (Value.str z88 (nat_lit 471))), (DictEntry.mk (PyData.keyHash P z28) (Value.str z28 (nat_lit 474)) (Value.int (Int.ofNat (nat_lit 82)) (nat_lit 473))), (DictEntry.mk (PyData.keyHash P z89) (Value.str z89 (nat_lit 475)) Value.none), (DictEntry.mk (PyData.keyHash P z90) (Value.str z90 (nat_lit 476)) Value.none), (DictEntry.mk (PyData.keyHash P z91) (Value.str z91 (nat_lit 477)) Value.none), (DictEntry.mk (PyData.keyHash P z29) (Value.str z29 (nat_lit 490)) (Value.ref (nat_lit 216))), (DictEntry.mk (PyData.keyHash P z92) (Value.str z92 (nat_lit 501)) (Value.ref (nat_lit 223))), (DictEntry.mk (PyData.keyHash P z93) (Value.str z93 (nat_lit 509)) (Value.ref (nat_lit 230))), (DictEntry.mk (PyData.keyHash P z94) (Value.str z94 (nat_lit 517)) (Value.ref (nat_lit 237))), (DictEntry.mk (PyData.keyHash P z95) (Value.str z95 (nat_lit 525)) (Value.ref (nat_lit 244))), (DictEntry.mk (PyData.keyHash P z96) (Value.str z96 (nat_lit 534)) (Value.ref (nat_lit 252))), (DictEntry.mk (PyData.keyHash P z97) (Value.str z97 (nat_lit 542)) (Value.ref (nat_lit 259))), (DictEntry.mk (PyData.keyHash P z98) (Value.str z98 (nat_lit 552)) (Value.ref (nat_lit 266))), (DictEntry.mk (PyData.keyHash P z99) (Value.str z99 (nat_lit 560)) (Value.ref (nat_lit 273))), (DictEntry.mk (PyData.keyHash P z30) (Value.str z30 (nat_lit 564)) (Value.ref (nat_lit 274)))]⟩ (nat_lit 16)) ⟨[]⟩)
noncomputable def mc206 : Params → Obj := fun _ => (Obj.mk Value.none none (Data.fields ⟨[(Value.int (Int.ofNat (nat_lit 87)) (nat_lit 0)), (Value.int (Int.ofNat (nat_lit 4)) (nat_lit 0)), (Value.ref (nat_lit 215)), (Value.int (Int.ofNat (nat_lit 123)) (nat_lit 0)), (Value.int (Int.ofNat (nat_lit 4)) (nat_lit 0)), (Value.ref (nat_lit 222)), (Value.int (Int.ofNat (nat_lit 132)) (nat_lit 0)), (Value.int (Int.ofNat (nat_lit 4)) (nat_lit 0)), (Value.ref (nat_lit 229)), (Value.int (Int.ofNat (nat_lit 135)) (nat_lit 0)), (Value.int (Int.ofNat (nat_lit 4)) (nat_lit 0)), (Value.ref (nat_lit 236)), (Value.int (Int.ofNat (nat_lit 138)) (nat_lit 0)), (Value.int (Int.ofNat (nat_lit 4)) (nat_lit 0)), (Value.ref (nat_lit 243)), (Value.int (Int.ofNat (nat_lit 141)) (nat_lit 0)), (Value.int (Int.ofNat (nat_lit 4)) (nat_lit 0)), (Value.ref (nat_lit 251)), (Value.int (Int.ofNat (nat_lit 144)) (nat_lit 0)), (Value.int (Int.ofNat (nat_lit 4)) (nat_lit 0)), (Value.ref (nat_lit 258)), (Value.int (Int.ofNat (nat_lit 147)) (nat_lit 0)), (Value.int (Int.ofNat (nat_lit 4)) (nat_lit 0)), (Value.ref (nat_lit 265)), (Value.int (Int.ofNat (nat_lit 150)) (nat_lit 0)), (Value.int (Int.ofNat (nat_lit 4)) (nat_lit 0)), (Value.ref (nat_lit 272))]⟩) ⟨[]⟩)
noncomputable def mc207 : Params → Obj := fun _ => (Obj.mk (Value.type PySem.W.SL.s5856160107412720595x4) none (Data.fields ⟨[(Value.str z88 (nat_lit 465)), (Value.str z88 (nat_lit 466)), (Value.str z1 (nat_lit 467)), (Value.int (Int.ofNat (nat_lit 82)) (nat_lit 0)), (Value.int (Int.ofNat (nat_lit 0)) (nat_lit 0)), (Value.int (Int.ofNat (nat_lit 0)) (nat_lit 0)), (Value.int (Int.ofNat (nat_lit 0)) (nat_lit 0)), (Value.int (Int.ofNat (nat_lit 0)) (nat_lit 0)), (Value.ref (nat_lit 205)), (Value.bool false), (Value.int (Int.ofNat (nat_lit 181)) (nat_lit 0)), (Value.ref (nat_lit 206)), Value.none, Value.none, Value.none, Value.none, (Value.int (Int.ofNat (nat_lit 468)) (nat_lit 0)), (Value.int (Int.ofNat (nat_lit 82)) (nat_lit 0)), (Value.str z1 (nat_lit 469))]⟩) ⟨[]⟩)
noncomputable def mc208 : Params → Obj := fun _ => (Obj.mk (Value.type PySem.W.SL.s658472552662922059x5) none Data.plain ⟨[(some (Value.ref (nat_lit 207))), (some (Value.ref (nat_lit 3))), (some (Value.ref (nat_lit 204))), none, (some (Value.str z84 (nat_lit 461))), none, (some (Value.ref (nat_lit 0)))]⟩)
noncomputable def mc209 : Params → Obj := fun _ => (Obj.mk (Value.type PySem.W.SL.s2766695959194262286x5) none (Data.seq ⟨[Value.none, Value.none, Value.none]⟩ (nat_lit 0)) ⟨[]⟩)
noncomputable def mc212 : Params → Obj := fun _ => (Obj.mk (Value.type PySem.W.SL.s2766695959194262286x5) none (Data.seq ⟨[(Value.str z31 (nat_lit 481)), (Value.str z100 (nat_lit 482)), (Value.str z101 (nat_lit 483)), (Value.str z102 (nat_lit 484)), (Value.str z103 (nat_lit 485)), (Value.str z43 (nat_lit 486)), (Value.str z104 (nat_lit 487))]⟩ (nat_lit 0)) ⟨[]⟩)
noncomputable def mc214 : Params → Obj := fun _ => (Obj.mk Value.none none (Data.func (FuncData.mk z29 z105 (fnD (mem 3 (top 14))).1 (FuncBody.stmts (fnD (mem 3 (top 14))).2.1) (fnD (mem 3 (top 14))).2.2 (nat_lit 0) [] Value.none Value.none Value.none Value.none none Value.none Value.none (nat_lit 0))) ⟨[]⟩)
noncomputable def mc215 : Params → Obj := fun _ => (Obj.mk (Value.type PySem.W.SL.s5856160107412720595x4) none (Data.fields ⟨[(Value.str z29 (nat_lit 478)), (Value.str z105 (nat_lit 479)), (Value.str z1 (nat_lit 480)), (Value.int (Int.ofNat (nat_lit 87)) (nat_lit 0)), (Value.int (Int.ofNat (nat_lit 4)) (nat_lit 0)), (Value.int (Int.ofNat (nat_lit 0)) (nat_lit 0)), (Value.int (Int.ofNat (nat_lit 0)) (nat_lit 0)), (Value.int (Int.ofNat (nat_lit 3)) (nat_lit 0)), (Value.ref (nat_lit 210)), (Value.bool true), (Value.int (Int.ofNat (nat_lit 181)) (nat_lit 0)), (Value.ref (nat_lit 211)), Value.none, (Value.ref (nat_lit 212)), (Value.ref (nat_lit 213)), (Value.ref (nat_lit 214)), (Value.int (Int.ofNat (nat_lit 488)) (nat_lit 0)), (Value.int (Int.ofNat (nat_lit 87)) (nat_lit 0)), (Value.str z1 (nat_lit 489))]⟩) ⟨[]⟩)
noncomputable def mc216 : Params → Obj := fun _ => (Obj.mk (Value.type PySem.W.SL.s7174869446012820540x8) none (Data.func (FuncData.mk z29 z105 (fnD (mem 3 (top 14))).1 (FuncBody.stmts (fnD (mem 3 (top 14))).2.1) (fnD (mem 3 (top 14))).2.2 (nat_lit 3) [] (Value.ref (nat_lit 209)) Value.none Value.none (Value.str z84 (nat_lit 461)) none (Value.ref (nat_lit 215)) Value.none (nat_lit 0))) ⟨[]⟩)
noncomputable def mc219 : Params → Obj := fun _ => (Obj.mk (Value.type PySem.W.SL.s2766695959194262286x5) none (Data.seq ⟨[(Value.str z31 (nat_lit 494)), (Value.str z106 (nat_lit 495)), (Value.str z107 (nat_lit 496)), (Value.str z108 (nat_lit 497)), (Value.str z109 (nat_lit 498))]⟩ (nat_lit 0)) ⟨[]⟩)
noncomputable def mc221 : Params → Obj := fun _ => (Obj.mk Value.none none (Data.func (FuncData.mk z92 z110 (fnD (mem 4 (top 14))).1 (FuncBody.stmts (fnD (mem 4 (top 14))).2.1) (fnD (mem 4 (top 14))).2.2 (nat_lit 0) [] Value.none Value.none Value.none Value.none none Value.none Value.none (nat_lit 0))) ⟨[]⟩)
noncomputable def mc222 : Params → Obj := fun _ => (Obj.mk (Value.type PySem.W.SL.s5856160107412720595x4) none (Data.fields ⟨[(Value.str z92 (nat_lit 491)), (Value.str z110 (nat_lit 492)), (Value.str z1 (nat_lit 493)), (Value.int (Int.ofNat (nat_lit 123)) (nat_lit 0)), (Value.int (Int.ofNat (nat_lit 3)) (nat_lit 0)), (Value.int (Int.ofNat (nat_lit 0)) (nat_lit 0)), (Value.int (Int.ofNat (nat_lit 0)) (nat_lit 0)), (Value.int (Int.ofNat (nat_lit 3)) (nat_lit 0)), (Value.ref (nat_lit 217)), (Value.bool true), (Value.int (Int.ofNat (nat_lit 181)) (nat_lit 0)), (Value.ref (nat_lit 218)), Value.none, (Value.ref (nat_lit 219)), (Value.ref (nat_lit 220)), (Value.ref (nat_lit 221)), (Value.int (Int.ofNat (nat_lit 499)) (nat_lit 0)), (Value.int (Int.ofNat (nat_lit 123)) (nat_lit 0)), (Value.str z1 (nat_lit 500))]⟩) ⟨[]⟩)
noncomputable def mc223 : Params → Obj := fun _ => (Obj.mk (Value.type PySem.W.SL.s7174869446012820540x8) none (Data.func (FuncData.mk z92 z110 (fnD (mem 4 (top 14))).1 (FuncBody.stmts (fnD (mem 4 (top 14))).2.1) (fnD (mem 4 (top 14))).2.2 (nat_lit 3) [] Value.none Value.none Value.none (Value.str z84 (nat_lit 461)) none (Value.ref (nat_lit 222)) Value.none (nat_lit 0))) ⟨[]⟩)
noncomputable def mc226 : Params → Obj := fun _ => (Obj.mk (Value.type PySem.W.SL.s2766695959194262286x5) none (Data.seq ⟨[(Value.str z31 (nat_lit 505)), (Value.str z109 (nat_lit 506))]⟩ (nat_lit 0)) ⟨[]⟩)
noncomputable def mc228 : Params → Obj := fun _ => (Obj.mk Value.none none (Data.func (FuncData.mk z93 z111 (fnD (mem 5 (top 14))).1 (FuncBody.stmts (fnD (mem 5 (top 14))).2.1) (fnD (mem 5 (top 14))).2.2 (nat_lit 0) [] Value.none Value.none Value.none Value.none none Value.none Value.none (nat_lit 0))) ⟨[]⟩)
noncomputable def mc229 : Params → Obj := fun _ => (Obj.mk (Value.type PySem.W.SL.s5856160107412720595x4) none (Data.fields ⟨[(Value.str z93 (nat_lit 502)), (Value.str z111 (nat_lit 503)), (Value.str z1 (nat_lit 504)), (Value.int (Int.ofNat (nat_lit 132)) (nat_lit 0)), (Value.int (Int.ofNat (nat_lit 2)) (nat_lit 0)), (Value.int (Int.ofNat (nat_lit 0)) (nat_lit 0)), (Value.int (Int.ofNat (nat_lit 0)) (nat_lit 0)), (Value.int (Int.ofNat (nat_lit 3)) (nat_lit 0)), (Value.ref (nat_lit 224)), (Value.bool true), (Value.int (Int.ofNat (nat_lit 181)) (nat_lit 0)), (Value.ref (nat_lit 225)), Value.none, (Value.ref (nat_lit 226)), (Value.ref (nat_lit 227)), (Value.ref (nat_lit 228)), (Value.int (Int.ofNat (nat_lit 507)) (nat_lit 0)), (Value.int (Int.ofNat (nat_lit 132)) (nat_lit 0)), (Value.str z1 (nat_lit 508))]⟩) ⟨[]⟩)
noncomputable def mc230 : Params → Obj := fun _ => (Obj.mk (Value.type PySem.W.SL.s7174869446012820540x8) none (Data.func (FuncData.mk z93 z111 (fnD (mem 5 (top 14))).1 (FuncBody.stmts (fnD (mem 5 (top 14))).2.1) (fnD (mem 5 (top 14))).2.2 (nat_lit 3) [] Value.none Value.none Value.none (Value.str z84 (nat_lit 461)) none (Value.ref (nat_lit 229)) Value.none (nat_lit 0))) ⟨[]⟩)
noncomputable def mc233 : Params → Obj := fun _ => (Obj.mk (Value.type PySem.W.SL.s2766695959194262286x5) none (Data.seq ⟨[(Value.str z31 (nat_lit 513)), (Value.str z109 (nat_lit 514))]⟩ (nat_lit 0)) ⟨[]⟩)
noncomputable def mc235 : Params → Obj := fun _ => (Obj.mk Value.none none (Data.func (FuncData.mk z94 z112 (fnD (mem 6 (top 14))).1 (FuncBody.stmts (fnD (mem 6 (top 14))).2.1) (fnD (mem 6 (top 14))).2.2 (nat_lit 0) [] Value.none Value.none Value.none Value.none none Value.none Value.none (nat_lit 0))) ⟨[]⟩)
noncomputable def mc236 : Params → Obj := fun _ => (Obj.mk (Value.type PySem.W.SL.s5856160107412720595x4) none (Data.fields ⟨[(Value.str z94 (nat_lit 510)), (Value.str z112 (nat_lit 511)), (Value.str z1 (nat_lit 512)), (Value.int (Int.ofNat (nat_lit 135)) (nat_lit 0)), (Value.int (Int.ofNat (nat_lit 2)) (nat_lit 0)), (Value.int (Int.ofNat (nat_lit 0)) (nat_lit 0)), (Value.int (Int.ofNat (nat_lit 0)) (nat_lit 0)), (Value.int (Int.ofNat (nat_lit 3)) (nat_lit 0)), (Value.ref (nat_lit 231)), (Value.bool true), (Value.int (Int.ofNat (nat_lit 181)) (nat_lit 0)), (Value.ref (nat_lit 232)), Value.none, (Value.ref (nat_lit 233)), (Value.ref (nat_lit 234)), (Value.ref (nat_lit 235)), (Value.int (Int.ofNat (nat_lit 515)) (nat_lit 0)), (Value.int (Int.ofNat (nat_lit 135)) (nat_lit 0)), (Value.str z1 (nat_lit 516))]⟩) ⟨[]⟩)
noncomputable def mc237 : Params → Obj := fun _ => (Obj.mk (Value.type PySem.W.SL.s7174869446012820540x8) none (Data.func (FuncData.mk z94 z112 (fnD (mem 6 (top 14))).1 (FuncBody.stmts (fnD (mem 6 (top 14))).2.1) (fnD (mem 6 (top 14))).2.2 (nat_lit 3) [] Value.none Value.none Value.none (Value.str z84 (nat_lit 461)) none (Value.ref (nat_lit 236)) Value.none (nat_lit 0))) ⟨[]⟩)
noncomputable def mc240 : Params → Obj := fun _ => (Obj.mk (Value.type PySem.W.SL.s2766695959194262286x5) none (Data.seq ⟨[(Value.str z31 (nat_lit 521)), (Value.str z71 (nat_lit 522))]⟩ (nat_lit 0)) ⟨[]⟩)
noncomputable def mc242 : Params → Obj := fun _ => (Obj.mk Value.none none (Data.func (FuncData.mk z95 z113 (fnD (mem 7 (top 14))).1 (FuncBody.stmts (fnD (mem 7 (top 14))).2.1) (fnD (mem 7 (top 14))).2.2 (nat_lit 0) [] Value.none Value.none Value.none Value.none none Value.none Value.none (nat_lit 0))) ⟨[]⟩)
noncomputable def mc243 : Params → Obj := fun _ => (Obj.mk (Value.type PySem.W.SL.s5856160107412720595x4) none (Data.fields ⟨[(Value.str z95 (nat_lit 518)), (Value.str z113 (nat_lit 519)), (Value.str z1 (nat_lit 520)), (Value.int (Int.ofNat (nat_lit 138)) (nat_lit 0)), (Value.int (Int.ofNat (nat_lit 2)) (nat_lit 0)), (Value.int (Int.ofNat (nat_lit 0)) (nat_lit 0)), (Value.int (Int.ofNat (nat_lit 0)) (nat_lit 0)), (Value.int (Int.ofNat (nat_lit 3)) (nat_lit 0)), (Value.ref (nat_lit 238)), (Value.bool true), (Value.int (Int.ofNat (nat_lit 181)) (nat_lit 0)), (Value.ref (nat_lit 239)), Value.none, (Value.ref (nat_lit 240)), (Value.ref (nat_lit 241)), (Value.ref (nat_lit 242)), (Value.int (Int.ofNat (nat_lit 523)) (nat_lit 0)), (Value.int (Int.ofNat (nat_lit 138)) (nat_lit 0)), (Value.str z1 (nat_lit 524))]⟩) ⟨[]⟩)
noncomputable def mc244 : Params → Obj := fun _ => (Obj.mk (Value.type PySem.W.SL.s7174869446012820540x8) none (Data.func (FuncData.mk z95 z113 (fnD (mem 7 (top 14))).1 (FuncBody.stmts (fnD (mem 7 (top 14))).2.1) (fnD (mem 7 (top 14))).2.2 (nat_lit 3) [] Value.none Value.none Value.none (Value.str z84 (nat_lit 461)) none (Value.ref (nat_lit 243)) Value.none (nat_lit 0))) ⟨[]⟩)
noncomputable def mc245 : Params → Obj := fun _ => (Obj.mk (Value.type PySem.W.SL.s2766695959194262286x5) none (Data.seq ⟨[Value.none]⟩ (nat_lit 0)) ⟨[]⟩)
noncomputable def mc248 : Params → Obj := fun _ => (Obj.mk (Value.type PySem.W.SL.s2766695959194262286x5) none (Data.seq ⟨[(Value.str z31 (nat_lit 529)), (Value.str z114 (nat_lit 530)), (Value.str z115 (nat_lit 531))]⟩ (nat_lit 0)) ⟨[]⟩)
noncomputable def mc250 : Params → Obj := fun _ => (Obj.mk Value.none none (Data.func (FuncData.mk z96 z116 (fnD (mem 8 (top 14))).1 (FuncBody.stmts (fnD (mem 8 (top 14))).2.1) (fnD (mem 8 (top 14))).2.2 (nat_lit 0) [] Value.none Value.none Value.none Value.none none Value.none Value.none (nat_lit 0))) ⟨[]⟩)
noncomputable def mc251 : Params → Obj := fun _ => (Obj.mk (Value.type PySem.W.SL.s5856160107412720595x4) none (Data.fields ⟨[(Value.str z96 (nat_lit 526)), (Value.str z116 (nat_lit 527)), (Value.str z1 (nat_lit 528)), (Value.int (Int.ofNat (nat_lit 141)) (nat_lit 0)), (Value.int (Int.ofNat (nat_lit 3)) (nat_lit 0)), (Value.int (Int.ofNat (nat_lit 0)) (nat_lit 0)), (Value.int (Int.ofNat (nat_lit 0)) (nat_lit 0)), (Value.int (Int.ofNat (nat_lit 3)) (nat_lit 0)), (Value.ref (nat_lit 246)), (Value.bool true), (Value.int (Int.ofNat (nat_lit 181)) (nat_lit 0)), (Value.ref (nat_lit 247)), Value.none, (Value.ref (nat_lit 248)), (Value.ref (nat_lit 249)), (Value.ref (nat_lit 250)), (Value.int (Int.ofNat (nat_lit 532)) (nat_lit 0)), (Value.int (Int.ofNat (nat_lit 141)) (nat_lit 0)), (Value.str z1 (nat_lit 533))]⟩) ⟨[]⟩)
noncomputable def mc252 : Params → Obj := fun _ => (Obj.mk (Value.type PySem.W.SL.s7174869446012820540x8) none (Data.func (FuncData.mk z96 z116 (fnD (mem 8 (top 14))).1 (FuncBody.stmts (fnD (mem 8 (top 14))).2.1) (fnD (mem 8 (top 14))).2.2 (nat_lit 3) [] (Value.ref (nat_lit 245)) Value.none Value.none (Value.str z84 (nat_lit 461)) none (Value.ref (nat_lit 251)) Value.none (nat_lit 0))) ⟨[]⟩)
noncomputable def mc255 : Params → Obj := fun _ => (Obj.mk (Value.type PySem.W.SL.s2766695959194262286x5) none (Data.seq ⟨[(Value.str z31 (nat_lit 538)), (Value.str z117 (nat_lit 539))]⟩ (nat_lit 0)) ⟨[]⟩)
noncomputable def mc257 : Params → Obj := fun _ => (Obj.mk Value.none none (Data.func (FuncData.mk z97 z118 (fnD (mem 9 (top 14))).1 (FuncBody.stmts (fnD (mem 9 (top 14))).2.1) (fnD (mem 9 (top 14))).2.2 (nat_lit 0) [] Value.none Value.none Value.none Value.none none Value.none Value.none (nat_lit 0))) ⟨[]⟩)
noncomputable def mc258 : Params → Obj := fun _ => (Obj.mk (Value.type PySem.W.SL.s5856160107412720595x4) none (Data.fields ⟨[(Value.str z97 (nat_lit 535)), (Value.str z118 (nat_lit 536)), (Value.str z1 (nat_lit 537)), (Value.int (Int.ofNat (nat_lit 144)) (nat_lit 0)), (Value.int (Int.ofNat (nat_lit 2)) (nat_lit 0)), (Value.int (Int.ofNat (nat_lit 0)) (nat_lit 0)), (Value.int (Int.ofNat (nat_lit 0)) (nat_lit 0)), (Value.int (Int.ofNat (nat_lit 3)) (nat_lit 0)), (Value.ref (nat_lit 253)), (Value.bool true), (Value.int (Int.ofNat (nat_lit 181)) (nat_lit 0)), (Value.ref (nat_lit 254)), Value.none, (Value.ref (nat_lit 255)), (Value.ref (nat_lit 256)), (Value.ref (nat_lit 257)), (Value.int (Int.ofNat (nat_lit 540)) (nat_lit 0)), (Value.int (Int.ofNat (nat_lit 144)) (nat_lit 0)), (Value.str z1 (nat_lit 541))]⟩) ⟨[]⟩)
noncomputable def mc259 : Params → Obj := fun _ => (Obj.mk (Value.type PySem.W.SL.s7174869446012820540x8) none (Data.func (FuncData.mk z97 z118 (fnD (mem 9 (top 14))).1 (FuncBody.stmts (fnD (mem 9 (top 14))).2.1) (fnD (mem 9 (top 14))).2.2 (nat_lit 3) [] Value.none Value.none Value.none (Value.str z84 (nat_lit 461)) none (Value.ref (nat_lit 258)) Value.none (nat_lit 0))) ⟨[]⟩)
noncomputable def mc262 : Params → Obj := fun _ => (Obj.mk (Value.type PySem.W.SL.s2766695959194262286x5) none (Data.seq ⟨[(Value.str z31 (nat_lit 546)), (Value.str z119 (nat_lit 547)), (Value.str z120 (nat_lit 548)), (Value.str z121 (nat_lit 549))]⟩ (nat_lit 0)) ⟨[]⟩)
noncomputable def mc264 : Params → Obj := fun _ => (Obj.mk Value.none none (Data.func (FuncData.mk z98 z122 (fnD (mem 10 (top 14))).1 (FuncBody.stmts (fnD (mem 10 (top 14))).2.1) (fnD (mem 10 (top 14))).2.2 (nat_lit 0) [] Value.none Value.none Value.none Value.none none Value.none Value.none (nat_lit 0))) ⟨[]⟩)
noncomputable def mc265 : Params → Obj := fun _ => (Obj.mk (Value.type PySem.W.SL.s5856160107412720595x4) none (Data.fields ⟨[(Value.str z98 (nat_lit 543)), (Value.str z122 (nat_lit 544)), (Value.str z1 (nat_lit 545)), (Value.int (Int.ofNat (nat_lit 147)) (nat_lit 0)), (Value.int (Int.ofNat (nat_lit 4)) (nat_lit 0)), (Value.int (Int.ofNat (nat_lit 0)) (nat_lit 0)), (Value.int (Int.ofNat (nat_lit 0)) (nat_lit 0)), (Value.int (Int.ofNat (nat_lit 3)) (nat_lit 0)), (Value.ref (nat_lit 260)), (Value.bool true), (Value.int (Int.ofNat (nat_lit 181)) (nat_lit 0)), (Value.ref (nat_lit 261)), Value.none, (Value.ref (nat_lit 262)), (Value.ref (nat_lit 263)), (Value.ref (nat_lit 264)), (Value.int (Int.ofNat (nat_lit 550)) (nat_lit 0)), (Value.int (Int.ofNat (nat_lit 147)) (nat_lit 0)), (Value.str z1 (nat_lit 551))]⟩) ⟨[]⟩)
noncomputable def mc266 : Params → Obj := fun _ => (Obj.mk (Value.type PySem.W.SL.s7174869446012820540x8) none (Data.func (FuncData.mk z98 z122 (fnD (mem 10 (top 14))).1 (FuncBody.stmts (fnD (mem 10 (top 14))).2.1) (fnD (mem 10 (top 14))).2.2 (nat_lit 3) [] Value.none Value.none Value.none (Value.str z84 (nat_lit 461)) none (Value.ref (nat_lit 265)) Value.none (nat_lit 0))) ⟨[]⟩)
noncomputable def mc269 : Params → Obj := fun _ => (Obj.mk (Value.type PySem.W.SL.s2766695959194262286x5) none (Data.seq ⟨[(Value.str z31 (nat_lit 556)), (Value.str z109 (nat_lit 557))]⟩ (nat_lit 0)) ⟨[]⟩)
noncomputable def mc271 : Params → Obj := fun _ => (Obj.mk Value.none none (Data.func (FuncData.mk z99 z123 (fnD (mem 11 (top 14))).1 (FuncBody.stmts (fnD (mem 11 (top 14))).2.1) (fnD (mem 11 (top 14))).2.2 (nat_lit 0) [] Value.none Value.none Value.none Value.none none Value.none Value.none (nat_lit 0))) ⟨[]⟩)
noncomputable def mc272 : Params → Obj := fun _ => (Obj.mk (Value.type PySem.W.SL.s5856160107412720595x4) none (Data.fields ⟨[(Value.str z99 (nat_lit 553)), (Value.str z123 (nat_lit 554)), (Value.str z1 (nat_lit 555)), (Value.int (Int.ofNat (nat_lit 150)) (nat_lit 0)), (Value.int (Int.ofNat (nat_lit 2)) (nat_lit 0)), (Value.int (Int.ofNat (nat_lit 0)) (nat_lit 0)), (Value.int (Int.ofNat (nat_lit 0)) (nat_lit 0)), (Value.int (Int.ofNat (nat_lit 3)) (nat_lit 0)), (Value.ref (nat_lit 267)), (Value.bool true), (Value.int (Int.ofNat (nat_lit 181)) (nat_lit 0)), (Value.ref (nat_lit 268)), Value.none, (Value.ref (nat_lit 269)), (Value.ref (nat_lit 270)), (Value.ref (nat_lit 271)), (Value.int (Int.ofNat (nat_lit 558)) (nat_lit 0)), (Value.int (Int.ofNat (nat_lit 150)) (nat_lit 0)), (Value.str z1 (nat_lit 559))]⟩) ⟨[]⟩)
noncomputable def mc273 : Params → Obj := fun _ => (Obj.mk (Value.type PySem.W.SL.s7174869446012820540x8) none (Data.func (FuncData.mk z99 z123 (fnD (mem 11 (top 14))).1 (FuncBody.stmts (fnD (mem 11 (top 14))).2.1) (fnD (mem 11 (top 14))).2.2 (nat_lit 3) [] Value.none Value.none Value.none (Value.str z84 (nat_lit 461)) none (Value.ref (nat_lit 272)) Value.none (nat_lit 0))) ⟨[]⟩)
noncomputable def mc274 : Params → Obj := fun _ => (Obj.mk (Value.type PySem.W.SL.s2766695959194262286x5) none (Data.seq ⟨[(Value.str z91 (nat_lit 561)), (Value.str z90 (nat_lit 562)), (Value.str z89 (nat_lit 563))]⟩ (nat_lit 0)) ⟨[]⟩)
noncomputable def mc275 : Params → Obj := fun P => (Obj.mk (Value.type PySem.W.SL.s14018661285674007319x4) none (Data.dict ⟨[(DictEntry.mk (PyData.keyHash P z26) (Value.str z26 (nat_lit 470)) (Value.str z84 (nat_lit 461))), (DictEntry.mk (PyData.keyHash P z28) (Value.str z28 (nat_lit 474)) (Value.int (Int.ofNat (nat_lit 82)) (nat_lit 473))), (DictEntry.mk (PyData.keyHash P z89) (Value.str z89 (nat_lit 475)) Value.none), (DictEntry.mk (PyData.keyHash P z90) (Value.str z90 (nat_lit 476)) Value.none), (DictEntry.mk (PyData.keyHash P z91) (Value.str z91 (nat_lit 477)) Value.none), (DictEntry.mk (PyData.keyHash P z29) (Value.str z29 (nat_lit 490)) (Value.ref (nat_lit 216))), (DictEntry.mk (PyData.keyHash P z92) (Value.str z92 (nat_lit 501)) (Value.ref (nat_lit 223))), (DictEntry.mk (PyData.keyHash P z93) (Value.str z93 (nat_lit 509)) (Value.ref (nat_lit 230))), (DictEntry.mk (PyData.keyHash P z94) (Value.str z94 (nat_lit 517)) (Value.ref (nat_lit 237))), (DictEntry.mk (PyData.keyHash P z95) (Value.str z95 (nat_lit 525)) (Value.ref (nat_lit 244))), (DictEntry.mk (PyData.keyHash P z96) (Value.str z96 (nat_lit 534)) (Value.ref (nat_lit 252))), (DictEntry.mk (PyData.keyHash P z97) (Value.str z97 (nat_lit 542)) (Value.ref (nat_lit 259))), (DictEntry.mk (PyData.keyHash P z98) (Value.str z98 (nat_lit 552)) (Value.ref (nat_lit 266))), (DictEntry.mk (PyData.keyHash P z99) (Value.str z99 (nat_lit 560)) (Value.ref (nat_lit 273))), (DictEntry.mk (PyData.keyHash P z30) (Value.str z30 (nat_lit 564)) (Value.ref (nat_lit 274))), (DictEntry.mk (PyData.keyHash P z34) (Value.str z34 (nat_lit 566)) (Value.ref (nat_lit 277))), (DictEntry.mk (PyData.keyHash P z35) (Value.str z35 (nat_lit 568)) (Value.ref (nat_lit 278))), (DictEntry.mk (PyData.keyHash P z5) (Value.str z5 (nat_lit 569)) Value.none)]⟩ (nat_lit 4)) ⟨[]⟩)
noncomputable def mc276 : Params → Obj := fun _ => (Obj.mk (Value.type PySem.W.SL.s17162191345867700912x4) none (Data.cls (ClassData.mk z88 [(Value.type "object")] [(Value.ref (nat_lit 276)), (Value.type "object")] (nat_lit 275) z88 true [] [] false none false)) ⟨[none, none, (some (Value.str z88 (nat_lit 463))), (some (Value.str z88 (nat_lit 471))), (some (Value.builtin "object.__new__")), (some (Value.bool true))]⟩)
noncomputable def mc277 : Params → Obj := fun _ => (Obj.mk (Value.type PySem.W.SL.s14755015743595814543x17) none (Data.fields ⟨[(Value.str z34 (nat_lit 565)), (Value.ref (nat_lit 276)), (Value.builtin PySem.W.SL.s6511155373996960695x17), (Value.builtin PySem.W.SL.s12411053484034534018x21)]⟩) ⟨[]⟩)
noncomputable def mc278 : Params → Obj := fun _ => (Obj.mk (Value.type PySem.W.SL.s14755015743595814543x17) none (Data.fields ⟨[(Value.str z35 (nat_lit 567)), (Value.ref (nat_lit 276)), (Value.builtin PySem.W.SL.s10220274742760427390x26), Value.none]⟩) ⟨[]⟩)
noncomputable def mc279 : Params → Obj := fun _ => (Obj.mk (Value.type PySem.W.SL.s4290257624100764138x5) none (Data.fields ⟨[(Value.ref (nat_lit 276)), (Value.ref (nat_lit 276)), (Value.ref (nat_lit 276))]⟩) ⟨[]⟩)
noncomputable def mc280 : Params → Obj := fun _ => (Obj.mk (Value.type PySem.W.SL.s11030030927630378310x26) none (Data.fields ⟨[(Value.builtin PySem.W.SL.s4860613602091757760x24), (Value.ref (nat_lit 276))]⟩) ⟨[]⟩)
noncomputable def me3 : Params → Obj := fun P => (Obj.mk (Value.type PySem.W.SL.s14018661285674007319x4) none (Data.dict ⟨[(DictEntry.mk (PyData.keyHash P z3) (Value.str z3 (nat_lit 165)) (Value.str z124 (nat_lit 672))), (DictEntry.mk (PyData.keyHash P z5) (Value.str z5 (nat_lit 166)) Value.none), (DictEntry.mk (PyData.keyHash P z6) (Value.str z6 (nat_lit 167)) Value.none), (DictEntry.mk (PyData.keyHash P z7) (Value.str z7 (nat_lit 168)) (Value.builtin PySem.W.SL.s7097527257260152453x26)), (DictEntry.mk (PyData.keyHash P z8) (Value.str z8 (nat_lit 169)) Value.none), (DictEntry.mk (PyData.keyHash P z9) (Value.str z9 (nat_lit 170)) (Value.ref (nat_lit 6))), (DictEntry.mk (PyData.keyHash P z10) (Value.str z10 (nat_lit 171)) (Value.ref (nat_lit 4))), (DictEntry.mk (PyData.keyHash P z11) (Value.str z11 (nat_lit 173)) (Value.str z1 (nat_lit 172))), (DictEntry.mk (PyData.keyHash P z12) (Value.str z12 (nat_lit 174)) Value.none), (DictEntry.mk (PyData.keyHash P z13) (Value.str z13 (nat_lit 193)) (Value.ref (nat_lit 21))), (DictEntry.mk (PyData.keyHash P z14) (Value.str z14 (nat_lit 203)) (Value.ref (nat_lit 28))), (DictEntry.mk (PyData.keyHash P z15) (Value.str z15 (nat_lit 212)) (Value.ref (nat_lit 35))), (DictEntry.mk (PyData.keyHash P z16) (Value.str z16 (nat_lit 241)) (Value.ref (nat_lit 52))), (DictEntry.mk (PyData.keyHash P z17) (Value.str z17 (nat_lit 288)) (Value.ref (nat_lit 87))), (DictEntry.mk (PyData.keyHash P z18) (Value.str z18 (nat_lit 318)) (Value.ref (nat_lit 108))), (DictEntry.mk (PyData.keyHash P z19) (Value.str z19 (nat_lit 406)) (Value.ref (nat_lit 160))), (DictEntry.mk (PyData.keyHash P z85) (Value.str z85 (nat_lit 428)) (Value.ref (nat_lit 174))), (DictEntry.mk (PyData.keyHash P z86) (Value.str z86 (nat_lit 444)) (Value.ref (nat_lit 187))), (DictEntry.mk (PyData.keyHash P z87) (Value.str z87 (nat_lit 460)) (Value.ref (nat_lit 199))), (DictEntry.mk (PyData.keyHash P z88) (Value.str z88 (nat_lit 571)) (Value.ref (nat_lit 276))), (DictEntry.mk (PyData.keyHash P z125) (Value.str z125 (nat_lit 653)) (Value.ref (nat_lit 326))), (DictEntry.mk (PyData.keyHash P z126) (Value.str z126 (nat_lit 671)) (Value.ref (nat_lit 337))), (DictEntry.mk (PyData.keyHash P z127) (Value.str z127 (nat_lit 679)) (Value.ref (nat_lit 342)))]⟩ (nat_lit 23)) ⟨[]⟩)
noncomputable def me12 : Params → Obj := fun _ => (Obj.mk Value.none none (Data.fields ⟨[(Value.int (Int.ofNat (nat_lit 1)) (nat_lit 0)), (Value.int (Int.ofNat (nat_lit 0)) (nat_lit 0)), (Value.ref (nat_lit 20)), (Value.int (Int.ofNat (nat_lit 5)) (nat_lit 0)), (Value.int (Int.ofNat (nat_lit 0)) (nat_lit 0)), (Value.ref (nat_lit 27)), (Value.int (Int.ofNat (nat_lit 8)) (nat_lit 0)), (Value.int (Int.ofNat (nat_lit 0)) (nat_lit 0)), (Value.ref (nat_lit 34)), (Value.int (Int.ofNat (nat_lit 10)) (nat_lit 0)), (Value.int (Int.ofNat (nat_lit 0)) (nat_lit 0)), (Value.ref (nat_lit 41)), (Value.int (Int.ofNat (nat_lit 14)) (nat_lit 0)), (Value.int (Int.ofNat (nat_lit 0)) (nat_lit 0)), (Value.ref (nat_lit 62)), (Value.int (Int.ofNat (nat_lit 25)) (nat_lit 0)), (Value.int (Int.ofNat (nat_lit 0)) (nat_lit 0)), (Value.ref (nat_lit 97)), (Value.int (Int.ofNat (nat_lit 30)) (nat_lit 0)), (Value.int (Int.ofNat (nat_lit 0)) (nat_lit 0)), (Value.ref (nat_lit 118)), (Value.int (Int.ofNat (nat_lit 75)) (nat_lit 0)), (Value.int (Int.ofNat (nat_lit 0)) (nat_lit 0)), (Value.ref (nat_lit 170)), (Value.int (Int.ofNat (nat_lit 77)) (nat_lit 0)), (Value.int (Int.ofNat (nat_lit 0)) (nat_lit 0)), (Value.ref (nat_lit 183)), (Value.int (Int.ofNat (nat_lit 79)) (nat_lit 0)), (Value.int (Int.ofNat (nat_lit 0)) (nat_lit 0)), (Value.ref (nat_lit 195)), (Value.int (Int.ofNat (nat_lit 82)) (nat_lit 0)), (Value.int (Int.ofNat (nat_lit 0)) (nat_lit 0)), (Value.ref (nat_lit 207)), (Value.int (Int.ofNat (nat_lit 153)) (nat_lit 0)), (Value.int (Int.ofNat (nat_lit 0)) (nat_lit 0)), (Value.ref (nat_lit 286)), (Value.int (Int.ofNat (nat_lit 191)) (nat_lit 0)), (Value.int (Int.ofNat (nat_lit 0)) (nat_lit 0)), (Value.ref (nat_lit 336)), (Value.int (Int.ofNat (nat_lit 221)) (nat_lit 0)), (Value.int (Int.ofNat (nat_lit 0)) (nat_lit 0)), (Value.ref (nat_lit 341))]⟩) ⟨[]⟩)
noncomputable def me283 : Params → Obj := fun P => (Obj.mk (Value.type PySem.W.SL.s14018661285674007319x4) none (Data.dict ⟨[(DictEntry.mk (PyData.keyHash P z26) (Value.str z26 (nat_lit 581)) (Value.str z128 (nat_lit 572))), (DictEntry.mk (PyData.keyHash P z27) (Value.str z27 (nat_lit 583)) (Value.str z125 (nat_lit 582))), (DictEntry.mk (PyData.keyHash P z28) (Value.str z28 (nat_lit 585)) (Value.int (Int.ofNat (nat_lit 153)) (nat_lit 584))), (DictEntry.mk (PyData.keyHash P z129) (Value.str z129 (nat_lit 586)) Value.none), (DictEntry.mk (PyData.keyHash P z130) (Value.str z130 (nat_lit 587)) Value.none), (DictEntry.mk (PyData.keyHash P z131) (Value.str z131 (nat_lit 588)) Value.none), (DictEntry.mk (PyData.keyHash P z132) (Value.str z132 (nat_lit 589)) Value.none), (DictEntry.mk (PyData.keyHash P z133) (Value.str z133 (nat_lit 590)) Value.none), (DictEntry.mk (PyData.keyHash P z29) (Value.str z29 (nat_lit 606)) (Value.ref (nat_lit 295))), (DictEntry.mk (PyData.keyHash P z134) (Value.str z134 (nat_lit 614)) (Value.ref (nat_lit 302))), (DictEntry.mk (PyData.keyHash P z135) (Value.str z135 (nat_lit 623)) (Value.ref (nat_lit 309))), (DictEntry.mk (PyData.keyHash P z136) (Value.str z136 (nat_lit 631)) (Value.ref (nat_lit 316))), (DictEntry.mk (PyData.keyHash P z137) (Value.str z137 (nat_lit 639)) (Value.ref (nat_lit 323))), (DictEntry.mk (PyData.keyHash P z30) (Value.str z30 (nat_lit 646)) (Value.ref (nat_lit 324)))]⟩ (nat_lit 14)) ⟨[]⟩)
noncomputable def me285 : Params → Obj := fun _ => (Obj.mk Value.none none (Data.fields ⟨[(Value.int (Int.ofNat (nat_lit 160)) (nat_lit 0)), (Value.int (Int.ofNat (nat_lit 4)) (nat_lit 0)), (Value.ref (nat_lit 294)), (Value.int (Int.ofNat (nat_lit 179)) (nat_lit 0)), (Value.int (Int.ofNat (nat_lit 4)) (nat_lit 0)), (Value.ref (nat_lit 301)), (Value.int (Int.ofNat (nat_lit 182)) (nat_lit 0)), (Value.int (Int.ofNat (nat_lit 4)) (nat_lit 0)), (Value.ref (nat_lit 308)), (Value.int (Int.ofNat (nat_lit 185)) (nat_lit 0)), (Value.int (Int.ofNat (nat_lit 4)) (nat_lit 0)), (Value.ref (nat_lit 315)), (Value.int (Int.ofNat (nat_lit 188)) (nat_lit 0)), (Value.int (Int.ofNat (nat_lit 4)) (nat_lit 0)), (Value.ref (nat_lit 322))]⟩) ⟨[]⟩)
noncomputable def me286 : Params → Obj := fun _ => (Obj.mk (Value.type PySem.W.SL.s5856160107412720595x4) none (Data.fields ⟨[(Value.str z125 (nat_lit 576)), (Value.str z125 (nat_lit 577)), (Value.str z1 (nat_lit 578)), (Value.int (Int.ofNat (nat_lit 153)) (nat_lit 0)), (Value.int (Int.ofNat (nat_lit 0)) (nat_lit 0)), (Value.int (Int.ofNat (nat_lit 0)) (nat_lit 0)), (Value.int (Int.ofNat (nat_lit 0)) (nat_lit 0)), (Value.int (Int.ofNat (nat_lit 0)) (nat_lit 0)), (Value.ref (nat_lit 284)), (Value.bool false), (Value.int (Int.ofNat (nat_lit 181)) (nat_lit 0)), (Value.ref (nat_lit 285)), Value.none, Value.none, Value.none, Value.none, (Value.int (Int.ofNat (nat_lit 579)) (nat_lit 0)), (Value.int (Int.ofNat (nat_lit 153)) (nat_lit 0)), (Value.str z1 (nat_lit 580))]⟩) ⟨[]⟩)
noncomputable def me287 : Params → Obj := fun _ => (Obj.mk (Value.type PySem.W.SL.s658472552662922059x5) none Data.plain ⟨[(some (Value.ref (nat_lit 286))), (some (Value.ref (nat_lit 3))), (some (Value.ref (nat_lit 283))), none, (some (Value.str z128 (nat_lit 572))), none, (some (Value.ref (nat_lit 0)))]⟩)
noncomputable def me288 : Params → Obj := fun _ => (Obj.mk (Value.type PySem.W.SL.s2766695959194262286x5) none (Data.seq ⟨[Value.none, Value.none, Value.none, Value.none, Value.none, Value.none, Value.none]⟩ (nat_lit 0)) ⟨[]⟩)
noncomputable def me291 : Params → Obj := fun _ => (Obj.mk (Value.type PySem.W.SL.s2766695959194262286x5) none (Data.seq ⟨[(Value.str z31 (nat_lit 594)), (Value.str z100 (nat_lit 595)), (Value.str z101 (nat_lit 596)), (Value.str z102 (nat_lit 597)), (Value.str z138 (nat_lit 598)), (Value.str z133 (nat_lit 599)), (Value.str z130 (nat_lit 600)), (Value.str z139 (nat_lit 601)), (Value.str z140 (nat_lit 602)), (Value.str z141 (nat_lit 603))]⟩ (nat_lit 0)) ⟨[]⟩)
noncomputable def me293 : Params → Obj := fun _ => (Obj.mk Value.none none (Data.func (FuncData.mk z29 z142 (fnD (mem 5 (top 16))).1 (FuncBody.stmts (fnD (mem 5 (top 16))).2.1) (fnD (mem 5 (top 16))).2.2 (nat_lit 0) [] Value.none Value.none Value.none Value.none none Value.none Value.none (nat_lit 0))) ⟨[]⟩)
noncomputable def me294 : Params → Obj := fun _ => (Obj.mk (Value.type PySem.W.SL.s5856160107412720595x4) none (Data.fields ⟨[(Value.str z29 (nat_lit 591)), (Value.str z142 (nat_lit 592)), (Value.str z1 (nat_lit 593)), (Value.int (Int.ofNat (nat_lit 160)) (nat_lit 0)), (Value.int (Int.ofNat (nat_lit 8)) (nat_lit 0)), (Value.int (Int.ofNat (nat_lit 0)) (nat_lit 0)), (Value.int (Int.ofNat (nat_lit 0)) (nat_lit 0)), (Value.int (Int.ofNat (nat_lit 3)) (nat_lit 0)), (Value.ref (nat_lit 289)), (Value.bool true), (Value.int (Int.ofNat (nat_lit 181)) (nat_lit 0)), (Value.ref (nat_lit 290)), Value.none, (Value.ref (nat_lit 291)), (Value.ref (nat_lit 292)), (Value.ref (nat_lit 293)), (Value.int (Int.ofNat (nat_lit 604)) (nat_lit 0)), (Value.int (Int.ofNat (nat_lit 160)) (nat_lit 0)), (Value.str z1 (nat_lit 605))]⟩) ⟨[]⟩)
noncomputable def me295 : Params → Obj := fun _ => (Obj.mk (Value.type PySem.W.SL.s7174869446012820540x8) none (Data.func (FuncData.mk z29 z142 (fnD (mem 5 (top 16))).1 (FuncBody.stmts (fnD (mem 5 (top 16))).2.1) (fnD (mem 5 (top 16))).2.2 (nat_lit 3) [] (Value.ref (nat_lit 288)) Value.none Value.none (Value.str z128 (nat_lit 572)) none (Value.ref (nat_lit 294)) Value.none (nat_lit 0))) ⟨[]⟩)
noncomputable def me298 : Params → Obj := fun _ => (Obj.mk (Value.type PySem.W.SL.s2766695959194262286x5) none (Data.seq ⟨[(Value.str z31 (nat_lit 610)), (Value.str z109 (nat_lit 611))]⟩ (nat_lit 0)) ⟨[]⟩)
noncomputable def me300 : Params → Obj := fun _ => (Obj.mk Value.none none (Data.func (FuncData.mk z134 z143 (fnD (mem 6 (top 16))).1 (FuncBody.stmts (fnD (mem 6 (top 16))).2.1) (fnD (mem 6 (top 16))).2.2 (nat_lit 0) [] Value.none Value.none Value.none Value.none none Value.none Value.none (nat_lit 0))) ⟨[]⟩)
noncomputable def me301 : Params → Obj := fun _ => (Obj.mk (Value.type PySem.W.SL.s5856160107412720595x4) none (Data.fields ⟨[(Value.str z134 (nat_lit 607)), (Value.str z143 (nat_lit 608)), (Value.str z1 (nat_lit 609)), (Value.int (Int.ofNat (nat_lit 179)) (nat_lit 0)), (Value.int (Int.ofNat (nat_lit 2)) (nat_lit 0)), (Value.int (Int.ofNat (nat_lit 0)) (nat_lit 0)), (Value.int (Int.ofNat (nat_lit 0)) (nat_lit 0)), (Value.int (Int.ofNat (nat_lit 3)) (nat_lit 0)), (Value.ref (nat_lit 296)), (Value.bool true), (Value.int (Int.ofNat (nat_lit 181)) (nat_lit 0)), (Value.ref (nat_lit 297)), Value.none, (Value.ref (nat_lit 298)), (Value.ref (nat_lit 299)), (Value.ref (nat_lit 300)), (Value.int (Int.ofNat (nat_lit 612)) (nat_lit 0)), (Value.int (Int.ofNat (nat_lit 179)) (nat_lit 0)), (Value.str z1 (nat_lit 613))]⟩) ⟨[]⟩)
noncomputable def me302 : Params → Obj := fun _ => (Obj.mk (Value.type PySem.W.SL.s7174869446012820540x8) none (Data.func (FuncData.mk z134 z143 (fnD (mem 6 (top 16))).1 (FuncBody.stmts (fnD (mem 6 (top 16))).2.1) (fnD (mem 6 (top 16))).2.2 (nat_lit 3) [] Value.none Value.none Value.none (Value.str z128 (nat_lit 572)) none (Value.ref (nat_lit 301)) Value.none (nat_lit 0))) ⟨[]⟩)
noncomputable def me305 : Params → Obj := fun _ => (Obj.mk (Value.type PySem.W.SL.s2766695959194262286x5) none (Data.seq ⟨[(Value.str z31 (nat_lit 618)), (Value.str z109 (nat_lit 619)), (Value.str z119 (nat_lit 620))]⟩ (nat_lit 0)) ⟨[]⟩)
noncomputable def me307 : Params → Obj := fun _ => (Obj.mk Value.none none (Data.func (FuncData.mk z135 z144 (fnD (mem 7 (top 16))).1 (FuncBody.stmts (fnD (mem 7 (top 16))).2.1) (fnD (mem 7 (top 16))).2.2 (nat_lit 0) [] Value.none Value.none Value.none Value.none none Value.none Value.none (nat_lit 0))) ⟨[]⟩)
noncomputable def me308 : Params → Obj := fun _ => (Obj.mk (Value.type PySem.W.SL.s5856160107412720595x4) none (Data.fields ⟨[(Value.str z135 (nat_lit 615)), (Value.str z144 (nat_lit 616)), (Value.str z1 (nat_lit 617)), (Value.int (Int.ofNat (nat_lit 182)) (nat_lit 0)), (Value.int (Int.ofNat (nat_lit 3)) (nat_lit 0)), (Value.int (Int.ofNat (nat_lit 0)) (nat_lit 0)), (Value.int (Int.ofNat (nat_lit 0)) (nat_lit 0)), (Value.int (Int.ofNat (nat_lit 3)) (nat_lit 0)), (Value.ref (nat_lit 303)), (Value.bool true), (Value.int (Int.ofNat (nat_lit 181)) (nat_lit 0)), (Value.ref (nat_lit 304)), Value.none, (Value.ref (nat_lit 305)), (Value.ref (nat_lit 306)), (Value.ref (nat_lit 307)), (Value.int (Int.ofNat (nat_lit 621)) (nat_lit 0)), (Value.int (Int.ofNat (nat_lit 182)) (nat_lit 0)), (Value.str z1 (nat_lit 622))]⟩) ⟨[]⟩)
noncomputable def me309 : Params → Obj := fun _ => (Obj.mk (Value.type PySem.W.SL.s7174869446012820540x8) none (Data.func (FuncData.mk z135 z144 (fnD (mem 7 (top 16))).1 (FuncBody.stmts (fnD (mem 7 (top 16))).2.1) (fnD (mem 7 (top 16))).2.2 (nat_lit 3) [] Value.none Value.none Value.none (Value.str z128 (nat_lit 572)) none (Value.ref (nat_lit 308)) Value.none (nat_lit 0))) ⟨[]⟩)
noncomputable def me312 : Params → Obj := fun _ => (Obj.mk (Value.type PySem.W.SL.s2766695959194262286x5) none (Data.seq ⟨[(Value.str z31 (nat_lit 627)), (Value.str z109 (nat_lit 628))]⟩ (nat_lit 0)) ⟨[]⟩)
noncomputable def me314 : Params → Obj := fun _ => (Obj.mk Value.none none (Data.func (FuncData.mk z136 z145 (fnD (mem 8 (top 16))).1 (FuncBody.stmts (fnD (mem 8 (top 16))).2.1) (fnD (mem 8 (top 16))).2.2 (nat_lit 0) [] Value.none Value.none Value.none Value.none none Value.none Value.none (nat_lit 0))) ⟨[]⟩)
noncomputable def me315 : Params → Obj := fun _ => (Obj.mk (Value.type PySem.W.SL.s5856160107412720595x4) none (Data.fields ⟨[(Value.str z136 (nat_lit 624)), (Value.str z145 (nat_lit 625)), (Value.str z1 (nat_lit 626)), (Value.int (Int.ofNat (nat_lit 185)) (nat_lit 0)), (Value.int (Int.ofNat (nat_lit 2)) (nat_lit 0)), (Value.int (Int.ofNat (nat_lit 0)) (nat_lit 0)), (Value.int (Int.ofNat (nat_lit 0)) (nat_lit 0)), (Value.int (Int.ofNat (nat_lit 3)) (nat_lit 0)), (Value.ref (nat_lit 310)), (Value.bool true), (Value.int (Int.ofNat (nat_lit 181)) (nat_lit 0)), (Value.ref (nat_lit 311)), Value.none, (Value.ref (nat_lit 312)), (Value.ref (nat_lit 313)), (Value.ref (nat_lit 314)), (Value.int (Int.ofNat (nat_lit 629)) (nat_lit 0)), (Value.int (Int.ofNat (nat_lit 185)) (nat_lit 0)), (Value.str z1 (nat_lit 630))]⟩) ⟨[]⟩)
noncomputable def me316 : Params → Obj := fun _ => (Obj.mk (Value.type PySem.W.SL.s7174869446012820540x8) none (Data.func (FuncData.mk z136 z145 (fnD (mem 8 (top 16))).1 (FuncBody.stmts (fnD (mem 8 (top 16))).2.1) (fnD (mem 8 (top 16))).2.2 (nat_lit 3) [] Value.none Value.none Value.none (Value.str z128 (nat_lit 572)) none (Value.ref (nat_lit 315)) Value.none (nat_lit 0))) ⟨[]⟩)
noncomputable def me319 : Params → Obj := fun _ => (Obj.mk (Value.type PySem.W.SL.s2766695959194262286x5) none (Data.seq ⟨[(Value.str z31 (nat_lit 635)), (Value.str z109 (nat_lit 636))]⟩ (nat_lit 0)) ⟨[]⟩)
noncomputable def me321 : Params → Obj := fun _ => (Obj.mk Value.none none (Data.func (FuncData.mk z137 z146 (fnD (mem 9 (top 16))).1 (FuncBody.stmts (fnD (mem 9 (top 16))).2.1) (fnD (mem 9 (top 16))).2.2 (nat_lit 0) [] Value.none Value.none Value.none Value.none none Value.none Value.none (nat_lit 0))) ⟨[]⟩)
noncomputable def me322 : Params → Obj := fun _ => (Obj.mk (Value.type PySem.W.SL.s5856160107412720595x4) none (Data.fields ⟨[(Value.str z137 (nat_lit 632)), (Value.str z146 (nat_lit 633)), (Value.str z1 (nat_lit 634)), (Value.int (Int.ofNat (nat_lit 188)) (nat_lit 0)), (Value.int (Int.ofNat (nat_lit 2)) (nat_lit 0)), (Value.int (Int.ofNat (nat_lit 0)) (nat_lit 0)), (Value.int (Int.ofNat (nat_lit 0)) (nat_lit 0)), (Value.int (Int.ofNat (nat_lit 3)) (nat_lit 0)), (Value.ref (nat_lit 317)), (Value.bool true), (Value.int (Int.ofNat (nat_lit 181)) (nat_lit 0)), (Value.ref (nat_lit 318)), Value.none, (Value.ref (nat_lit 319)), (Value.ref (nat_lit 320)), (Value.ref (nat_lit 321)), (Value.int (Int.ofNat (nat_lit 637)) (nat_lit 0)), (Value.int (Int.ofNat (nat_lit 188)) (nat_lit 0)), (Value.str z1 (nat_lit 638))]⟩) ⟨[]⟩)
noncomputable def me323 : Params → Obj := fun _ => (Obj.mk (Value.type PySem.W.SL.s7174869446012820540x8) none (Data.func (FuncData.mk z137 z146 (fnD (mem 9 (top 16))).1 (FuncBody.stmts (fnD (mem 9 (top 16))).2.1) (fnD (mem 9 (top 16))).2.2 (nat_lit 3) [] Value.none Value.none Value.none (Value.str z128 (nat_lit 572)) none (Value.ref (nat_lit 322)) Value.none (nat_lit 0))) ⟨[]⟩)
noncomputable def me324 : Params → Obj := fun _ => (Obj.mk (Value.type PySem.W.SL.s2766695959194262286x5) none (Data.seq ⟨[(Value.str z132 (nat_lit 640)), (Value.str z131 (nat_lit 641)), (Value.str z129 (nat_lit 642)), (Value.str z133 (nat_lit 643)), (Value.str z139 (nat_lit 644)), (Value.str z130 (nat_lit 645))]⟩ (nat_lit 0)) ⟨[]⟩)
noncomputable def me325 : Params → Obj := fun P => (Obj.mk (Value.type PySem.W.SL.s14018661285674007319x4) none (Data.dict ⟨[(DictEntry.mk (PyData.keyHash P z26) (Value.str z26 (nat_lit 581)) (Value.str z128 (nat_lit 572))), (DictEntry.mk (PyData.keyHash P z28) (Value.str z28 (nat_lit 585)) (Value.int (Int.ofNat (nat_lit 153)) (nat_lit 584))), (DictEntry.mk (PyData.keyHash P z129) (Value.str z129 (nat_lit 586)) Value.none), (DictEntry.mk (PyData.keyHash P z130) (Value.str z130 (nat_lit 587)) Value.none), (DictEntry.mk (PyData.keyHash P z131) (Value.str z131 (nat_lit 588)) Value.none), (DictEntry.mk (PyData.keyHash P z132) (Value.str z132 (nat_lit 589)) Value.none), (DictEntry.mk (PyData.keyHash P z133) (Value.str z133 (nat_lit 590)) Value.none), (DictEntry.mk (PyData.keyHash P z29) (Value.str z29 (nat_lit 606)) (Value.ref (nat_lit 295))), (DictEntry.mk (PyData.keyHash P z134) (Value.str z134 (nat_lit 614)) (Value.ref (nat_lit 302))), (DictEntry.mk (PyData.keyHash P z135) (Value.str z135 (nat_lit 623)) (Value.ref (nat_lit 309))), (DictEntry.mk (PyData.keyHash P z136) (Value.str z136 (nat_lit 631)) (Value.ref (nat_lit 316))), (DictEntry.mk (PyData.keyHash P z137) (Value.str z137 (nat_lit 639)) (Value.ref (nat_lit 323))), (DictEntry.mk (PyData.keyHash P z30) (Value.str z30 (nat_lit 646)) (Value.ref (nat_lit 324))), (DictEntry.mk (PyData.keyHash P z34) (Value.str z34 (nat_lit 648)) (Value.ref (nat_lit 327))), (DictEntry.mk (PyData.keyHash P z35) (Value.str z35 (nat_lit 650)) (Value.ref (nat_lit 328))), (DictEntry.mk (PyData.keyHash P z5) (Value.str z5 (nat_lit 651)) Value.none)]⟩ (nat_lit 4)) ⟨[]⟩)
noncomputable def me326 : Params → Obj := fun _ => (Obj.mk (Value.type PySem.W.SL.s17162191345867700912x4) none (Data.cls (ClassData.mk z125 [(Value.type "object")] [(Value.ref (nat_lit 326)), (Value.type "object")] (nat_lit 325) z125 true [] [] false none false)) ⟨[none, none, (some (Value.str z125 (nat_lit 574))), (some (Value.str z125 (nat_lit 582))), (some (Value.builtin "object.__new__")), (some (Value.bool true))]⟩)
noncomputable def me327 : Params → Obj := fun _ => (Obj.mk (Value.type PySem.W.SL.s14755015743595814543x17) none (Data.fields ⟨[(Value.str z34 (nat_lit 647)), (Value.ref (nat_lit 326)), (Value.builtin PySem.W.SL.s6511155373996960695x17), (Value.builtin PySem.W.SL.s12411053484034534018x21)]⟩) ⟨[]⟩)
noncomputable def me328 : Params → Obj := fun _ => (Obj.mk (Value.type PySem.W.SL.s14755015743595814543x17) none (Data.fields ⟨[(Value.str z35 (nat_lit 649)), (Value.ref (nat_lit 326)), (Value.builtin PySem.W.SL.s10220274742760427390x26), Value.none]⟩) ⟨[]⟩)
noncomputable def me329 : Params → Obj := fun _ => (Obj.mk (Value.type PySem.W.SL.s4290257624100764138x5) none (Data.fields ⟨[(Value.ref (nat_lit 326)), (Value.ref (nat_lit 326)), (Value.ref (nat_lit 326))]⟩) ⟨[]⟩)
noncomputable def me330 : Params → Obj := fun _ => (Obj.mk (Value.type PySem.W.SL.s11030030927630378310x26) none (Data.fields ⟨[(Value.builtin PySem.W.SL.s4860613602091757760x24), (Value.ref (nat_lit 326))]⟩) ⟨[]⟩)
noncomputable def me333 : Params → Obj := fun _ => (Obj.mk (Value.type PySem.W.SL.s2766695959194262286x5) none (Data.seq ⟨[(Value.str z147 (nat_lit 659)), (Value.str z109 (nat_lit 660)), (Value.str z148 (nat_lit 661)), (Value.str z149 (nat_lit 662)), (Value.str z150 (nat_lit 663)), (Value.str z151 (nat_lit 664)), (Value.str z152 (nat_lit 665)), (Value.str z153 (nat_lit 666)), (Value.str z154 (nat_lit 667)), (Value.str z155 (nat_lit 668))]⟩ (nat_lit 0)) ⟨[]⟩)
noncomputable def me335 : Params → Obj := fun _ => (Obj.mk Value.none none (Data.func (FuncData.mk z126 z126 (fnD (top 18)).1 (FuncBody.stmts (fnD (top 18)).2.1) (fnD (top 18)).2.2 (nat_lit 0) [] Value.none Value.none Value.none Value.none none Value.none Value.none (nat_lit 0))) ⟨[]⟩)
noncomputable def me336 : Params → Obj := fun _ => (Obj.mk (Value.type PySem.W.SL.s5856160107412720595x4) none (Data.fields ⟨[(Value.str z126 (nat_lit 656)), (Value.str z126 (nat_lit 657)), (Value.str z1 (nat_lit 658)), (Value.int (Int.ofNat (nat_lit 191)) (nat_lit 0)), (Value.int (Int.ofNat (nat_lit 5)) (nat_lit 0)), (Value.int (Int.ofNat (nat_lit 0)) (nat_lit 0)), (Value.int (Int.ofNat (nat_lit 0)) (nat_lit 0)), (Value.int (Int.ofNat (nat_lit 3)) (nat_lit 0)), (Value.ref (nat_lit 331)), (Value.bool true), (Value.int (Int.ofNat (nat_lit 181)) (nat_lit 0)), (Value.ref (nat_lit 332)), Value.none, (Value.ref (nat_lit 333)), (Value.ref (nat_lit 334)), (Value.ref (nat_lit 335)), (Value.int (Int.ofNat (nat_lit 669)) (nat_lit 0)), (Value.int (Int.ofNat (nat_lit 191)) (nat_lit 0)), (Value.str z1 (nat_lit 670))]⟩) ⟨[]⟩)
noncomputable def me337 : Params → Obj := fun _ => (Obj.mk (Value.type PySem.W.SL.s7174869446012820540x8) none (Data.func (FuncData.mk z126 z126 (fnD (top 18)).1 (FuncBody.stmts (fnD (top 18)).2.1) (fnD (top 18)).2.2 (nat_lit 3) [] Value.none Value.none Value.none (Value.str z156 (nat_lit 654)) none (Value.ref (nat_lit 336)) Value.none (nat_lit 0))) ⟨[]⟩)
noncomputable def me340 : Params → Obj := fun _ => (Obj.mk Value.none none (Data.func (FuncData.mk z127 z127 (fnD (top 20)).1 (FuncBody.stmts (fnD (top 20)).2.1) (fnD (top 20)).2.2 (nat_lit 0) [] Value.none Value.none Value.none Value.none none Value.none Value.none (nat_lit 0))) ⟨[]⟩)
noncomputable def me341 : Params → Obj := fun _ => (Obj.mk (Value.type PySem.W.SL.s5856160107412720595x4) none (Data.fields ⟨[(Value.str z127 (nat_lit 674)), (Value.str z127 (nat_lit 675)), (Value.str z1 (nat_lit 676)), (Value.int (Int.ofNat (nat_lit 221)) (nat_lit 0)), (Value.int (Int.ofNat (nat_lit 1)) (nat_lit 0)), (Value.int (Int.ofNat (nat_lit 0)) (nat_lit 0)), (Value.int (Int.ofNat (nat_lit 0)) (nat_lit 0)), (Value.int (Int.ofNat (nat_lit 3)) (nat_lit 0)), (Value.ref (nat_lit 338)), (Value.bool true), (Value.int (Int.ofNat (nat_lit 181)) (nat_lit 0)), (Value.ref (nat_lit 339)), Value.none, Value.none, Value.none, (Value.ref (nat_lit 340)), (Value.int (Int.ofNat (nat_lit 677)) (nat_lit 0)), (Value.int (Int.ofNat (nat_lit 221)) (nat_lit 0)), (Value.str z1 (nat_lit 678))]⟩) ⟨[]⟩)
noncomputable def me342 : Params → Obj := fun _ => (Obj.mk (Value.type PySem.W.SL.s7174869446012820540x8) none (Data.func (FuncData.mk z127 z127 (fnD (top 20)).1 (FuncBody.stmts (fnD (top 20)).2.1) (fnD (top 20)).2.2 (nat_lit 3) [] Value.none Value.none Value.none (Value.str z124 (nat_lit 672)) none (Value.ref (nat_lit 341)) Value.none (nat_lit 0))) ⟨[]⟩)
noncomputable def tn_1_0 (P : Params) : BT := .node (boot_o_0 P) (.node (boot_o_1 P) (.node (boot_o_3 P) (.node (boot_o_7 P) .nil .nil) (.node (boot_o_7 P) .nil .nil)) (.node (boot_o_5 P) (.node (boot_o_9 P) .nil .nil) (.node (n13 P) .nil .nil))) (.node (boot_o_2 P) (.node (boot_o_4 P) (.node (boot_o_8 P) .nil .nil) (.node (boot_o_8 P) .nil .nil)) (.node (boot_o_6 P) (.node (boot_o_10 P) .nil .nil) (.node (n14 P) .nil .nil)))
noncomputable def tma_64_63 (P : Params) : BT := .node (ma63 P) (.node (boot_o_7 P) .nil .nil) .nil
noncomputable def tma_64_95 (P : Params) : BT := .node (boot_o_7 P) (.node (ma159 P) .nil .nil) .nil
noncomputable def tma_64_79 (P : Params) : BT := .node (boot_o_8 P) (.node (boot_o_7 P) .nil .nil) .nil
noncomputable def tma_64_71 (P : Params) : BT := .node (boot_o_7 P) (.node (boot_o_7 P) .nil .nil) .nil
noncomputable def tma_64_87 (P : Params) : BT := .node (ma87 P) (.node (boot_o_7 P) .nil .nil) .nil
noncomputable def tma_8_7 (P : Params) : BT := .node (boot_o_7 P) (.node (boot_o_7 P) (.node (ma31 P) (tma_64_63 P) (tma_64_95 P)) (.node (ma47 P) (tma_64_79 P) (.node (ma111 P) .nil .nil))) (.node (boot_o_8 P) (.node (boot_o_7 P) (tma_64_71 P) (.node (ma103 P) .nil .nil)) (.node (ma55 P) (tma_64_87 P) (.node (ma119 P) .nil .nil)))
noncomputable def tma_64_67 (P : Params) : BT := .node (boot_o_7 P) (.node (ma131 P) .nil .nil) .nil
noncomputable def tma_64_99 (P : Params) : BT := .node (boot_o_7 P) (.node (ma163 P) .nil .nil) .nil
noncomputable def tma_64_83 (P : Params) : BT := .node (ma83 P) (.node (ma147 P) .nil .nil) .nil
noncomputable def tma_64_75 (P : Params) : BT := .node (ma75 P) (.node (ma139 P) .nil .nil) .nil
noncomputable def tma_64_91 (P : Params) : BT := .node (ma91 P) (.node (ma155 P) .nil .nil) .nil
noncomputable def tma_8_11 (P : Params) : BT := .node (boot_o_7 P) (.node (ma19 P) (.node (ma35 P) (tma_64_67 P) (tma_64_99 P)) (.node (ma51 P) (tma_64_83 P) (.node (ma115 P) .nil .nil))) (.node (ma27 P) (.node (boot_o_7 P) (tma_64_75 P) (.node (ma107 P) .nil .nil)) (.node (ma59 P) (tma_64_91 P) (.node (boot_o_7 P) .nil .nil)))
noncomputable def tma_64_65 (P : Params) : BT := .node (boot_o_8 P) (.node (ma129 P) .nil .nil) .nil
noncomputable def tma_64_97 (P : Params) : BT := .node (ma97 P) (.node (ma161 P) .nil .nil) .nil
noncomputable def tma_64_81 (P : Params) : BT := .node (boot_o_7 P) (.node (ma145 P) .nil .nil) .nil
noncomputable def tma_64_73 (P : Params) : BT := .node (ma73 P) (.node (ma137 P) .nil .nil) .nil
noncomputable def tma_64_89 (P : Params) : BT := .node (ma89 P) (.node (ma153 P) .nil .nil) .nil
noncomputable def tma_8_9 (P : Params) : BT := .node (boot_o_9 P) (.node (ma17 P) (.node (ma33 P) (tma_64_65 P) (tma_64_97 P)) (.node (ma49 P) (tma_64_81 P) (.node (boot_o_7 P) .nil .nil))) (.node (boot_o_7 P) (.node (ma41 P) (tma_64_73 P) (.node (ma105 P) .nil .nil)) (.node (boot_o_7 P) (tma_64_89 P) (.node (boot_o_8 P) .nil .nil)))
noncomputable def tma_64_69 (P : Params) : BT := .node (ma69 P) (.node (ma133 P) .nil .nil) .nil
noncomputable def tma_64_85 (P : Params) : BT := .node (ma85 P) (.node (ma149 P) .nil .nil) .nil
noncomputable def tma_64_77 (P : Params) : BT := .node (ma77 P) (.node (ma141 P) .nil .nil) .nil
noncomputable def tma_64_93 (P : Params) : BT := .node (ma37 P) (.node (ma157 P) .nil .nil) .nil
noncomputable def tma_8_13 (P : Params) : BT := .node (n13 P) (.node (ma21 P) (.node (ma37 P) (tma_64_69 P) (.node (ma101 P) .nil .nil)) (.node (ma53 P) (tma_64_85 P) (.node (ma117 P) .nil .nil))) (.node (boot_o_7 P) (.node (ma45 P) (tma_64_77 P) (.node (ma109 P) .nil .nil)) (.node (ma61 P) (tma_64_93 P) (.node (ma125 P) .nil .nil)))
noncomputable def tma_64_64 (P : Params) : BT := .node (boot_o_7 P) (.node (boot_o_8 P) .nil .nil) .nil
noncomputable def tma_64_96 (P : Params) : BT := .node (ma96 P) (.node (ma160 P) .nil .nil) .nil
noncomputable def tma_64_80 (P : Params) : BT := .node (ma80 P) (.node (boot_o_8 P) .nil .nil) .nil
noncomputable def tma_64_72 (P : Params) : BT := .node (boot_o_8 P) (.node (boot_o_8 P) .nil .nil) .nil
noncomputable def tma_64_88 (P : Params) : BT := .node (ma88 P) (.node (boot_o_8 P) .nil .nil) .nil
noncomputable def tma_8_8 (P : Params) : BT := .node (boot_o_8 P) (.node (boot_o_8 P) (.node (boot_o_7 P) (tma_64_64 P) (tma_64_96 P)) (.node (ma48 P) (tma_64_80 P) (.node (ma112 P) .nil .nil))) (.node (ma24 P) (.node (ma40 P) (tma_64_72 P) (.node (ma104 P) .nil .nil)) (.node (ma56 P) (tma_64_88 P) (.node (boot_o_7 P) .nil .nil)))
noncomputable def tma_64_68 (P : Params) : BT := .node (ma68 P) (.node (ma132 P) .nil .nil) .nil
noncomputable def tma_64_100 (P : Params) : BT := .node (boot_o_8 P) (.node (ma164 P) .nil .nil) .nil
noncomputable def tma_64_84 (P : Params) : BT := .node (ma84 P) (.node (ma148 P) .nil .nil) .nil
noncomputable def tma_64_76 (P : Params) : BT := .node (ma76 P) (.node (ma140 P) .nil .nil) .nil
noncomputable def tma_64_92 (P : Params) : BT := .node (boot_o_7 P) (.node (ma156 P) .nil .nil) .nil
noncomputable def tma_8_12 (P : Params) : BT := .node (ma12 P) (.node (ma20 P) (.node (boot_o_7 P) (tma_64_68 P) (tma_64_100 P)) (.node (ma52 P) (tma_64_84 P) (.node (boot_o_7 P) .nil .nil))) (.node (ma28 P) (.node (boot_o_8 P) (tma_64_76 P) (.node (ma108 P) .nil .nil)) (.node (boot_o_7 P) (tma_64_92 P) (.node (ma124 P) .nil .nil)))
noncomputable def tma_64_66 (P : Params) : BT := .node (ma66 P) (.node (boot_o_7 P) .nil .nil) .nil
noncomputable def tma_64_98 (P : Params) : BT := .node (ma98 P) (.node (ma162 P) .nil .nil) .nil
noncomputable def tma_64_82 (P : Params) : BT := .node (ma82 P) (.node (boot_o_7 P) .nil .nil) .nil
noncomputable def tma_64_74 (P : Params) : BT := .node (boot_o_7 P) (.node (boot_o_7 P) .nil .nil) .nil
noncomputable def tma_64_90 (P : Params) : BT := .node (ma90 P) (.node (boot_o_7 P) .nil .nil) .nil
noncomputable def tma_8_10 (P : Params) : BT := .node (boot_o_10 P) (.node (boot_o_7 P) (.node (ma34 P) (tma_64_66 P) (tma_64_98 P)) (.node (ma50 P) (tma_64_82 P) (.node (ma37 P) .nil .nil))) (.node (ma26 P) (.node (ma42 P) (tma_64_74 P) (.node (ma106 P) .nil .nil)) (.node (ma37 P) (tma_64_90 P) (.node (ma122 P) .nil .nil)))
noncomputable def tma_64_70 (P : Params) : BT := .node (ma70 P) (.node (ma134 P) .nil .nil) .nil
noncomputable def tma_64_86 (P : Params) : BT := .node (ma86 P) (.node (ma150 P) .nil .nil) .nil
noncomputable def tma_64_78 (P : Params) : BT := .node (boot_o_7 P) (.node (ma142 P) .nil .nil) .nil
noncomputable def tma_64_94 (P : Params) : BT := .node (ma94 P) (.node (ma158 P) .nil .nil) .nil
noncomputable def tma_8_14 (P : Params) : BT := .node (n14 P) (.node (boot_o_7 P) (.node (ma38 P) (tma_64_70 P) (.node (boot_o_7 P) .nil .nil)) (.node (ma54 P) (tma_64_86 P) (.node (ma118 P) .nil .nil))) (.node (boot_o_8 P) (.node (boot_o_7 P) (tma_64_78 P) (.node (ma110 P) .nil .nil)) (.node (ma62 P) (tma_64_94 P) (.node (ma126 P) .nil .nil)))
noncomputable def tma_1_0 (P : Params) : BT := .node (boot_o_0 P) (.node (boot_o_1 P) (.node (ma3 P) (tma_8_7 P) (tma_8_11 P)) (.node (boot_o_5 P) (tma_8_9 P) (tma_8_13 P))) (.node (boot_o_2 P) (.node (boot_o_4 P) (tma_8_8 P) (tma_8_12 P)) (.node (boot_o_6 P) (tma_8_10 P) (tma_8_14 P)))
noncomputable def tmc_64_63 (P : Params) : BT := .node (ma63 P) (.node (boot_o_7 P) (.node (mc255 P) .nil .nil) .nil) (.node (ma37 P) .nil .nil)
noncomputable def tmc_64_95 (P : Params) : BT := .node (boot_o_7 P) (.node (ma159 P) .nil .nil) (.node (mc223 P) .nil .nil)
noncomputable def tmc_64_79 (P : Params) : BT := .node (boot_o_8 P) (.node (boot_o_7 P) (.node (mc271 P) .nil .nil) .nil) (.node (mc207 P) .nil .nil)
noncomputable def tmc_64_111 (P : Params) : BT := .node (ma111 P) (.node (mc175 P) .nil .nil) (.node (boot_o_8 P) .nil .nil)
noncomputable def tmc_64_71 (P : Params) : BT := .node (boot_o_7 P) (.node (boot_o_7 P) (.node (boot_o_7 P) .nil .nil) .nil) (.node (mc199 P) .nil .nil)
noncomputable def tmc_64_103 (P : Params) : BT := .node (ma103 P) (.node (mc167 P) .nil .nil) (.node (boot_o_7 P) .nil .nil)
noncomputable def tmc_64_87 (P : Params) : BT := .node (ma87 P) (.node (boot_o_7 P) (.node (mc279 P) .nil .nil) .nil) (.node (mc215 P) .nil .nil)
noncomputable def tmc_64_119 (P : Params) : BT := .node (ma119 P) (.node (mc183 P) .nil .nil) (.node (boot_o_8 P) .nil .nil)
noncomputable def tmc_8_7 (P : Params) : BT := .node (boot_o_7 P) (.node (boot_o_7 P) (.node (ma31 P) (tmc_64_63 P) (tmc_64_95 P)) (.node (ma47 P) (tmc_64_79 P) (tmc_64_111 P))) (.node (boot_o_8 P) (.node (boot_o_7 P) (tmc_64_71 P) (tmc_64_103 P)) (.node (ma55 P) (tmc_64_87 P) (tmc_64_119 P)))
noncomputable def tmc_64_67 (P : Params) : BT := .node (boot_o_7 P) (.node (ma131 P) (.node (mc259 P) .nil .nil) .nil) (.node (mc195 P) .nil .nil)
noncomputable def tmc_64_99 (P : Params) : BT := .node (boot_o_7 P) (.node (ma163 P) .nil .nil) (.node (boot_o_7 P) .nil .nil)
noncomputable def tmc_64_83 (P : Params) : BT := .node (ma83 P) (.node (ma147 P) (.node (mc275 P) .nil .nil) .nil) (.node (boot_o_8 P) .nil .nil)
noncomputable def tmc_64_115 (P : Params) : BT := .node (ma115 P) (.node (ma37 P) .nil .nil) (.node (mc243 P) .nil .nil)
noncomputable def tmc_64_75 (P : Params) : BT := .node (ma75 P) (.node (ma139 P) (.node (boot_o_7 P) .nil .nil) .nil) (.node (ma37 P) .nil .nil)
noncomputable def tmc_64_107 (P : Params) : BT := .node (ma107 P) (.node (mc171 P) .nil .nil) (.node (mc235 P) .nil .nil)
noncomputable def tmc_64_91 (P : Params) : BT := .node (ma91 P) (.node (ma155 P) .nil .nil) (.node (mc219 P) .nil .nil)
noncomputable def tmc_64_123 (P : Params) : BT := .node (boot_o_7 P) (.node (mc187 P) .nil .nil) (.node (mc251 P) .nil .nil)
noncomputable def tmc_8_11 (P : Params) : BT := .node (boot_o_7 P) (.node (ma19 P) (.node (ma35 P) (tmc_64_67 P) (tmc_64_99 P)) (.node (ma51 P) (tmc_64_83 P) (tmc_64_115 P))) (.node (ma27 P) (.node (boot_o_7 P) (tmc_64_75 P) (tmc_64_107 P)) (.node (ma59 P) (tmc_64_91 P) (tmc_64_123 P)))
noncomputable def tmc_64_65 (P : Params) : BT := .node (boot_o_8 P) (.node (ma129 P) (.node (mc257 P) .nil .nil) .nil) (.node (boot_o_7 P) .nil .nil)
noncomputable def tmc_64_97 (P : Params) : BT := .node (ma97 P) (.node (ma161 P) .nil .nil) (.node (boot_o_8 P) .nil .nil)
noncomputable def tmc_64_81 (P : Params) : BT := .node (boot_o_7 P) (.node (ma145 P) (.node (mc273 P) .nil .nil) .nil) (.node (mc209 P) .nil .nil)
noncomputable def tmc_64_113 (P : Params) : BT := .node (boot_o_7 P) (.node (mc177 P) .nil .nil) (.node (boot_o_7 P) .nil .nil)
noncomputable def tmc_64_73 (P : Params) : BT := .node (ma73 P) (.node (ma137 P) (.node (mc265 P) .nil .nil) .nil) (.node (mc201 P) .nil .nil)
noncomputable def tmc_64_105 (P : Params) : BT := .node (ma105 P) (.node (boot_o_8 P) .nil .nil) (.node (mc233 P) .nil .nil)
noncomputable def tmc_64_89 (P : Params) : BT := .node (ma89 P) (.node (ma153 P) .nil .nil) (.node (boot_o_7 P) .nil .nil)
noncomputable def tmc_64_121 (P : Params) : BT := .node (boot_o_8 P) (.node (boot_o_7 P) .nil .nil) (.node (boot_o_7 P) .nil .nil)
noncomputable def tmc_8_9 (P : Params) : BT := .node (boot_o_9 P) (.node (ma17 P) (.node (ma33 P) (tmc_64_65 P) (tmc_64_97 P)) (.node (ma49 P) (tmc_64_81 P) (tmc_64_113 P))) (.node (boot_o_7 P) (.node (ma41 P) (tmc_64_73 P) (tmc_64_105 P)) (.node (boot_o_7 P) (tmc_64_89 P) (tmc_64_121 P)))
noncomputable def tmc_64_69 (P : Params) : BT := .node (ma69 P) (.node (ma133 P) (.node (boot_o_8 P) .nil .nil) .nil) (.node (boot_o_7 P) .nil .nil)
noncomputable def tmc_64_101 (P : Params) : BT := .node (ma101 P) (.node (mc165 P) .nil .nil) (.node (mc229 P) .nil .nil)
noncomputable def tmc_64_85 (P : Params) : BT := .node (ma85 P) (.node (ma149 P) (.node (mc277 P) .nil .nil) .nil) (.node (boot_o_7 P) .nil .nil)
noncomputable def tmc_64_117 (P : Params) : BT := .node (ma117 P) (.node (boot_o_7 P) .nil .nil) (.node (mc245 P) .nil .nil)
noncomputable def tmc_64_77 (P : Params) : BT := .node (ma77 P) (.node (ma141 P) (.node (mc269 P) .nil .nil) .nil) (.node (boot_o_7 P) .nil .nil)
noncomputable def tmc_64_109 (P : Params) : BT := .node (ma109 P) (.node (mc173 P) .nil .nil) (.node (mc237 P) .nil .nil)
noncomputable def tmc_64_93 (P : Params) : BT := .node (ma37 P) (.node (ma157 P) .nil .nil) (.node (mc221 P) .nil .nil)
noncomputable def tmc_64_125 (P : Params) : BT := .node (ma125 P) (.node (mc189 P) .nil .nil) (.node (boot_o_7 P) .nil .nil)
noncomputable def tmc_8_13 (P : Params) : BT := .node (n13 P) (.node (ma21 P) (.node (ma37 P) (tmc_64_69 P) (tmc_64_101 P)) (.node (ma53 P) (tmc_64_85 P) (tmc_64_117 P))) (.node (boot_o_7 P) (.node (ma45 P) (tmc_64_77 P) (tmc_64_109 P)) (.node (ma61 P) (tmc_64_93 P) (tmc_64_125 P)))
noncomputable def tmc_64_64 (P : Params) : BT := .node (boot_o_7 P) (.node (boot_o_8 P) (.node (boot_o_7 P) .nil .nil) .nil) (.node (mc192 P) .nil .nil)
noncomputable def tmc_64_96 (P : Params) : BT := .node (ma96 P) (.node (ma160 P) .nil .nil) (.node (boot_o_7 P) .nil .nil)
noncomputable def tmc_64_80 (P : Params) : BT := .node (ma80 P) (.node (boot_o_8 P) (.node (mc272 P) .nil .nil) .nil) (.node (mc208 P) .nil .nil)
noncomputable def tmc_64_112 (P : Params) : BT := .node (ma112 P) (.node (mc176 P) .nil .nil) (.node (mc240 P) .nil .nil)
noncomputable def tmc_64_72 (P : Params) : BT := .node (boot_o_8 P) (.node (boot_o_8 P) (.node (mc264 P) .nil .nil) .nil) (.node (mc200 P) .nil .nil)
noncomputable def tmc_64_104 (P : Params) : BT := .node (ma104 P) (.node (boot_o_7 P) .nil .nil) (.node (boot_o_8 P) .nil .nil)
noncomputable def tmc_64_88 (P : Params) : BT := .node (ma88 P) (.node (boot_o_8 P) (.node (mc280 P) .nil .nil) .nil) (.node (mc216 P) .nil .nil)
noncomputable def tmc_64_120 (P : Params) : BT := .node (boot_o_7 P) (.node (mc184 P) .nil .nil) (.node (mc248 P) .nil .nil)
noncomputable def tmc_8_8 (P : Params) : BT := .node (boot_o_8 P) (.node (boot_o_8 P) (.node (boot_o_7 P) (tmc_64_64 P) (tmc_64_96 P)) (.node (ma48 P) (tmc_64_80 P) (tmc_64_112 P))) (.node (ma24 P) (.node (ma40 P) (tmc_64_72 P) (tmc_64_104 P)) (.node (ma56 P) (tmc_64_88 P) (tmc_64_120 P)))
noncomputable def tmc_64_68 (P : Params) : BT := .node (ma68 P) (.node (ma132 P) (.node (boot_o_7 P) .nil .nil) .nil) (.node (mc196 P) .nil .nil)
noncomputable def tmc_64_100 (P : Params) : BT := .node (boot_o_8 P) (.node (ma164 P) .nil .nil) (.node (mc228 P) .nil .nil)
noncomputable def tmc_64_84 (P : Params) : BT := .node (ma84 P) (.node (ma148 P) (.node (mc276 P) .nil .nil) .nil) (.node (mc212 P) .nil .nil)
noncomputable def tmc_64_116 (P : Params) : BT := .node (boot_o_7 P) (.node (mc180 P) .nil .nil) (.node (mc244 P) .nil .nil)
noncomputable def tmc_64_76 (P : Params) : BT := .node (ma76 P) (.node (ma140 P) (.node (boot_o_8 P) .nil .nil) .nil) (.node (mc204 P) .nil .nil)
noncomputable def tmc_64_108 (P : Params) : BT := .node (ma108 P) (.node (boot_o_7 P) .nil .nil) (.node (mc236 P) .nil .nil)
noncomputable def tmc_64_92 (P : Params) : BT := .node (boot_o_7 P) (.node (ma156 P) .nil .nil) (.node (boot_o_7 P) .nil .nil)
noncomputable def tmc_64_124 (P : Params) : BT := .node (ma124 P) (.node (mc188 P) .nil .nil) (.node (mc252 P) .nil .nil)
noncomputable def tmc_8_12 (P : Params) : BT := .node (mc12 P) (.node (ma20 P) (.node (boot_o_7 P) (tmc_64_68 P) (tmc_64_100 P)) (.node (ma52 P) (tmc_64_84 P) (tmc_64_116 P))) (.node (ma28 P) (.node (boot_o_8 P) (tmc_64_76 P) (tmc_64_108 P)) (.node (boot_o_7 P) (tmc_64_92 P) (tmc_64_124 P)))
noncomputable def tmc_64_66 (P : Params) : BT := .node (ma66 P) (.node (boot_o_7 P) (.node (mc258 P) .nil .nil) .nil) (.node (boot_o_8 P) .nil .nil)
noncomputable def tmc_64_98 (P : Params) : BT := .node (ma98 P) (.node (ma162 P) .nil .nil) (.node (mc226 P) .nil .nil)
noncomputable def tmc_64_82 (P : Params) : BT := .node (ma82 P) (.node (boot_o_7 P) (.node (mc274 P) .nil .nil) .nil) (.node (boot_o_7 P) .nil .nil)
noncomputable def tmc_64_114 (P : Params) : BT := .node (ma37 P) (.node (mc178 P) .nil .nil) (.node (mc242 P) .nil .nil)
noncomputable def tmc_64_74 (P : Params) : BT := .node (boot_o_7 P) (.node (boot_o_7 P) (.node (mc266 P) .nil .nil) .nil) (.node (boot_o_7 P) .nil .nil)
noncomputable def tmc_64_106 (P : Params) : BT := .node (ma106 P) (.node (mc170 P) .nil .nil) (.node (boot_o_7 P) .nil .nil)
noncomputable def tmc_64_90 (P : Params) : BT := .node (ma90 P) (.node (boot_o_7 P) .nil .nil) (.node (boot_o_8 P) .nil .nil)
noncomputable def tmc_64_122 (P : Params) : BT := .node (ma122 P) (.node (mc186 P) .nil .nil) (.node (mc250 P) .nil .nil)
noncomputable def tmc_8_10 (P : Params) : BT := .node (boot_o_10 P) (.node (boot_o_7 P) (.node (ma34 P) (tmc_64_66 P) (tmc_64_98 P)) (.node (ma50 P) (tmc_64_82 P) (tmc_64_114 P))) (.node (ma26 P) (.node (ma42 P) (tmc_64_74 P) (tmc_64_106 P)) (.node (ma37 P) (tmc_64_90 P) (tmc_64_122 P)))
noncomputable def tmc_64_70 (P : Params) : BT := .node (ma70 P) (.node (ma134 P) (.node (mc262 P) .nil .nil) .nil) (.node (mc198 P) .nil .nil)
noncomputable def tmc_64_102 (P : Params) : BT := .node (boot_o_7 P) (.node (ma37 P) .nil .nil) (.node (mc230 P) .nil .nil)
noncomputable def tmc_64_86 (P : Params) : BT := .node (ma86 P) (.node (ma150 P) (.node (mc278 P) .nil .nil) .nil) (.node (mc214 P) .nil .nil)
noncomputable def tmc_64_118 (P : Params) : BT := .node (ma118 P) (.node (boot_o_8 P) .nil .nil) (.node (boot_o_7 P) .nil .nil)
noncomputable def tmc_64_78 (P : Params) : BT := .node (boot_o_7 P) (.node (ma142 P) (.node (boot_o_7 P) .nil .nil) .nil) (.node (mc206 P) .nil .nil)
noncomputable def tmc_64_110 (P : Params) : BT := .node (ma110 P) (.node (mc174 P) .nil .nil) (.node (boot_o_7 P) .nil .nil)
noncomputable def tmc_64_94 (P : Params) : BT := .node (ma94 P) (.node (ma158 P) .nil .nil) (.node (mc222 P) .nil .nil)
noncomputable def tmc_64_126 (P : Params) : BT := .node (ma126 P) (.node (mc190 P) .nil .nil) (.node (boot_o_8 P) .nil .nil)
noncomputable def tmc_8_14 (P : Params) : BT := .node (n14 P) (.node (boot_o_7 P) (.node (ma38 P) (tmc_64_70 P) (tmc_64_102 P)) (.node (ma54 P) (tmc_64_86 P) (tmc_64_118 P))) (.node (boot_o_8 P) (.node (boot_o_7 P) (tmc_64_78 P) (tmc_64_110 P)) (.node (ma62 P) (tmc_64_94 P) (tmc_64_126 P)))
noncomputable def tmc_1_0 (P : Params) : BT := .node (boot_o_0 P) (.node (boot_o_1 P) (.node (mc3 P) (tmc_8_7 P) (tmc_8_11 P)) (.node (boot_o_5 P) (tmc_8_9 P) (tmc_8_13 P))) (.node (mc2 P) (.node (boot_o_4 P) (tmc_8_8 P) (tmc_8_12 P)) (.node (boot_o_6 P) (tmc_8_10 P) (tmc_8_14 P)))
noncomputable def tme_64_63 (P : Params) : BT := .node (ma63 P) (.node (boot_o_7 P) (.node (mc255 P) .nil .nil) .nil) (.node (ma37 P) (.node (me319 P) .nil .nil) .nil)
noncomputable def tme_64_95 (P : Params) : BT := .node (boot_o_7 P) (.node (ma159 P) (.node (me287 P) .nil .nil) .nil) (.node (mc223 P) .nil .nil)
noncomputable def tme_64_79 (P : Params) : BT := .node (boot_o_8 P) (.node (boot_o_7 P) (.node (mc271 P) .nil .nil) .nil) (.node (mc207 P) (.node (me335 P) .nil .nil) .nil)
noncomputable def tme_64_111 (P : Params) : BT := .node (ma111 P) (.node (mc175 P) (.node (boot_o_7 P) .nil .nil) .nil) (.node (boot_o_8 P) .nil .nil)
noncomputable def tme_64_71 (P : Params) : BT := .node (boot_o_7 P) (.node (boot_o_7 P) (.node (boot_o_7 P) .nil .nil) .nil) (.node (mc199 P) (.node (me327 P) .nil .nil) .nil)
noncomputable def tme_64_103 (P : Params) : BT := .node (ma103 P) (.node (mc167 P) (.node (me295 P) .nil .nil) .nil) (.node (boot_o_7 P) .nil .nil)
noncomputable def tme_64_87 (P : Params) : BT := .node (ma87 P) (.node (boot_o_7 P) (.node (mc279 P) .nil .nil) .nil) (.node (mc215 P) .nil .nil)
noncomputable def tme_64_119 (P : Params) : BT := .node (ma119 P) (.node (mc183 P) (.node (boot_o_8 P) .nil .nil) .nil) (.node (boot_o_8 P) .nil .nil)
noncomputable def tme_8_7 (P : Params) : BT := .node (boot_o_7 P) (.node (boot_o_7 P) (.node (ma31 P) (tme_64_63 P) (tme_64_95 P)) (.node (ma47 P) (tme_64_79 P) (tme_64_111 P))) (.node (boot_o_8 P) (.node (boot_o_7 P) (tme_64_71 P) (tme_64_103 P)) (.node (ma55 P) (tme_64_87 P) (tme_64_119 P)))
noncomputable def tme_64_67 (P : Params) : BT := .node (boot_o_7 P) (.node (ma131 P) (.node (mc259 P) .nil .nil) .nil) (.node (mc195 P) (.node (me323 P) .nil .nil) .nil)
noncomputable def tme_64_99 (P : Params) : BT := .node (boot_o_7 P) (.node (ma163 P) (.node (me291 P) .nil .nil) .nil) (.node (boot_o_7 P) .nil .nil)
noncomputable def tme_64_83 (P : Params) : BT := .node (ma83 P) (.node (ma147 P) (.node (mc275 P) .nil .nil) .nil) (.node (boot_o_8 P) (.node (boot_o_8 P) .nil .nil) .nil)
noncomputable def tme_64_115 (P : Params) : BT := .node (ma115 P) (.node (ma37 P) (.node (me307 P) .nil .nil) .nil) (.node (mc243 P) .nil .nil)
noncomputable def tme_64_75 (P : Params) : BT := .node (ma75 P) (.node (ma139 P) (.node (boot_o_7 P) .nil .nil) .nil) (.node (ma37 P) (.node (boot_o_7 P) .nil .nil) .nil)
noncomputable def tme_64_107 (P : Params) : BT := .node (ma107 P) (.node (mc171 P) (.node (boot_o_7 P) .nil .nil) .nil) (.node (mc235 P) .nil .nil)
noncomputable def tme_64_91 (P : Params) : BT := .node (ma91 P) (.node (ma155 P) (.node (me283 P) .nil .nil) .nil) (.node (mc219 P) .nil .nil)
noncomputable def tme_64_123 (P : Params) : BT := .node (boot_o_7 P) (.node (mc187 P) (.node (me315 P) .nil .nil) .nil) (.node (mc251 P) .nil .nil)
noncomputable def tme_8_11 (P : Params) : BT := .node (boot_o_7 P) (.node (ma19 P) (.node (ma35 P) (tme_64_67 P) (tme_64_99 P)) (.node (ma51 P) (tme_64_83 P) (tme_64_115 P))) (.node (ma27 P) (.node (boot_o_7 P) (tme_64_75 P) (tme_64_107 P)) (.node (ma59 P) (tme_64_91 P) (tme_64_123 P)))
noncomputable def tme_64_65 (P : Params) : BT := .node (boot_o_8 P) (.node (ma129 P) (.node (mc257 P) .nil .nil) .nil) (.node (boot_o_7 P) (.node (me321 P) .nil .nil) .nil)
noncomputable def tme_64_97 (P : Params) : BT := .node (ma97 P) (.node (ma161 P) (.node (boot_o_7 P) .nil .nil) .nil) (.node (boot_o_8 P) .nil .nil)
noncomputable def tme_64_81 (P : Params) : BT := .node (boot_o_7 P) (.node (ma145 P) (.node (mc273 P) .nil .nil) .nil) (.node (mc209 P) (.node (me337 P) .nil .nil) .nil)
noncomputable def tme_64_113 (P : Params) : BT := .node (boot_o_7 P) (.node (mc177 P) (.node (me305 P) .nil .nil) .nil) (.node (boot_o_7 P) .nil .nil)
noncomputable def tme_64_73 (P : Params) : BT := .node (ma73 P) (.node (ma137 P) (.node (mc265 P) .nil .nil) .nil) (.node (mc201 P) (.node (me329 P) .nil .nil) .nil)
noncomputable def tme_64_105 (P : Params) : BT := .node (ma105 P) (.node (boot_o_8 P) (.node (boot_o_8 P) .nil .nil) .nil) (.node (mc233 P) .nil .nil)
noncomputable def tme_64_89 (P : Params) : BT := .node (ma89 P) (.node (ma153 P) (.node (boot_o_7 P) .nil .nil) .nil) (.node (boot_o_7 P) .nil .nil)
noncomputable def tme_64_121 (P : Params) : BT := .node (boot_o_8 P) (.node (boot_o_7 P) (.node (boot_o_7 P) .nil .nil) .nil) (.node (boot_o_7 P) .nil .nil)
noncomputable def tme_8_9 (P : Params) : BT := .node (boot_o_9 P) (.node (ma17 P) (.node (ma33 P) (tme_64_65 P) (tme_64_97 P)) (.node (ma49 P) (tme_64_81 P) (tme_64_113 P))) (.node (boot_o_7 P) (.node (ma41 P) (tme_64_73 P) (tme_64_105 P)) (.node (boot_o_7 P) (tme_64_89 P) (tme_64_121 P)))
noncomputable def tme_64_69 (P : Params) : BT := .node (ma69 P) (.node (ma133 P) (.node (boot_o_8 P) .nil .nil) .nil) (.node (boot_o_7 P) (.node (me325 P) .nil .nil) .nil)
noncomputable def tme_64_101 (P : Params) : BT := .node (ma101 P) (.node (mc165 P) (.node (me293 P) .nil .nil) .nil) (.node (mc229 P) .nil .nil)
noncomputable def tme_64_85 (P : Params) : BT := .node (ma85 P) (.node (ma149 P) (.node (mc277 P) .nil .nil) .nil) (.node (boot_o_7 P) (.node (me341 P) .nil .nil) .nil)
noncomputable def tme_64_117 (P : Params) : BT := .node (ma117 P) (.node (boot_o_7 P) (.node (me309 P) .nil .nil) .nil) (.node (mc245 P) .nil .nil)
noncomputable def tme_64_77 (P : Params) : BT := .node (ma77 P) (.node (ma141 P) (.node (mc269 P) .nil .nil) .nil) (.node (boot_o_7 P) (.node (me333 P) .nil .nil) .nil)
noncomputable def tme_64_109 (P : Params) : BT := .node (ma109 P) (.node (mc173 P) (.node (me301 P) .nil .nil) .nil) (.node (mc237 P) .nil .nil)
noncomputable def tme_64_93 (P : Params) : BT := .node (ma37 P) (.node (ma157 P) (.node (me285 P) .nil .nil) .nil) (.node (mc221 P) .nil .nil)
noncomputable def tme_64_125 (P : Params) : BT := .node (ma125 P) (.node (mc189 P) (.node (boot_o_7 P) .nil .nil) .nil) (.node (boot_o_7 P) .nil .nil)
noncomputable def tme_8_13 (P : Params) : BT := .node (n13 P) (.node (ma21 P) (.node (ma37 P) (tme_64_69 P) (tme_64_101 P)) (.node (ma53 P) (tme_64_85 P) (tme_64_117 P))) (.node (boot_o_7 P) (.node (ma45 P) (tme_64_77 P) (tme_64_109 P)) (.node (ma61 P) (tme_64_93 P) (tme_64_125 P)))
noncomputable def tme_64_64 (P : Params) : BT := .node (boot_o_7 P) (.node (boot_o_8 P) (.node (boot_o_7 P) .nil .nil) .nil) (.node (mc192 P) (.node (boot_o_7 P) .nil .nil) .nil)
noncomputable def tme_64_96 (P : Params) : BT := .node (ma96 P) (.node (ma160 P) (.node (me288 P) .nil .nil) .nil) (.node (boot_o_7 P) .nil .nil)
noncomputable def tme_64_80 (P : Params) : BT := .node (ma80 P) (.node (boot_o_8 P) (.node (mc272 P) .nil .nil) .nil) (.node (mc208 P) (.node (me336 P) .nil .nil) .nil)
noncomputable def tme_64_112 (P : Params) : BT := .node (ma112 P) (.node (mc176 P) (.node (boot_o_8 P) .nil .nil) .nil) (.node (mc240 P) .nil .nil)
noncomputable def tme_64_72 (P : Params) : BT := .node (boot_o_8 P) (.node (boot_o_8 P) (.node (mc264 P) .nil .nil) .nil) (.node (mc200 P) (.node (me328 P) .nil .nil) .nil)
noncomputable def tme_64_104 (P : Params) : BT := .node (ma104 P) (.node (boot_o_7 P) (.node (boot_o_7 P) .nil .nil) .nil) (.node (boot_o_8 P) .nil .nil)
noncomputable def tme_64_88 (P : Params) : BT := .node (ma88 P) (.node (boot_o_8 P) (.node (mc280 P) .nil .nil) .nil) (.node (mc216 P) .nil .nil)
noncomputable def tme_64_120 (P : Params) : BT := .node (boot_o_7 P) (.node (mc184 P) (.node (me312 P) .nil .nil) .nil) (.node (mc248 P) .nil .nil)
noncomputable def tme_8_8 (P : Params) : BT := .node (boot_o_8 P) (.node (boot_o_8 P) (.node (boot_o_7 P) (tme_64_64 P) (tme_64_96 P)) (.node (ma48 P) (tme_64_80 P) (tme_64_112 P))) (.node (ma24 P) (.node (ma40 P) (tme_64_72 P) (tme_64_104 P)) (.node (ma56 P) (tme_64_88 P) (tme_64_120 P)))
noncomputable def tme_64_68 (P : Params) : BT := .node (ma68 P) (.node (ma132 P) (.node (boot_o_7 P) .nil .nil) .nil) (.node (mc196 P) (.node (me324 P) .nil .nil) .nil)
noncomputable def tme_64_100 (P : Params) : BT := .node (boot_o_8 P) (.node (ma164 P) (.node (boot_o_7 P) .nil .nil) .nil) (.node (mc228 P) .nil .nil)
noncomputable def tme_64_84 (P : Params) : BT := .node (ma84 P) (.node (ma148 P) (.node (mc276 P) .nil .nil) .nil) (.node (mc212 P) (.node (me340 P) .nil .nil) .nil)
noncomputable def tme_64_116 (P : Params) : BT := .node (boot_o_7 P) (.node (mc180 P) (.node (me308 P) .nil .nil) .nil) (.node (mc244 P) .nil .nil)
noncomputable def tme_64_76 (P : Params) : BT := .node (ma76 P) (.node (ma140 P) (.node (boot_o_8 P) .nil .nil) .nil) (.node (mc204 P) (.node (boot_o_8 P) .nil .nil) .nil)
noncomputable def tme_64_108 (P : Params) : BT := .node (ma108 P) (.node (boot_o_7 P) (.node (me300 P) .nil .nil) .nil) (.node (mc236 P) .nil .nil)
noncomputable def tme_64_92 (P : Params) : BT := .node (boot_o_7 P) (.node (ma156 P) (.node (boot_o_7 P) .nil .nil) .nil) (.node (boot_o_7 P) .nil .nil)
noncomputable def tme_64_124 (P : Params) : BT := .node (ma124 P) (.node (mc188 P) (.node (me316 P) .nil .nil) .nil) (.node (mc252 P) .nil .nil)
noncomputable def tme_8_12 (P : Params) : BT := .node (me12 P) (.node (ma20 P) (.node (boot_o_7 P) (tme_64_68 P) (tme_64_100 P)) (.node (ma52 P) (tme_64_84 P) (tme_64_116 P))) (.node (ma28 P) (.node (boot_o_8 P) (tme_64_76 P) (tme_64_108 P)) (.node (boot_o_7 P) (tme_64_92 P) (tme_64_124 P)))
noncomputable def tme_64_66 (P : Params) : BT := .node (ma66 P) (.node (boot_o_7 P) (.node (mc258 P) .nil .nil) .nil) (.node (boot_o_8 P) (.node (me322 P) .nil .nil) .nil)
noncomputable def tme_64_98 (P : Params) : BT := .node (ma98 P) (.node (ma162 P) (.node (boot_o_8 P) .nil .nil) .nil) (.node (mc226 P) .nil .nil)
noncomputable def tme_64_82 (P : Params) : BT := .node (ma82 P) (.node (boot_o_7 P) (.node (mc274 P) .nil .nil) .nil) (.node (boot_o_7 P) (.node (boot_o_7 P) .nil .nil) .nil)
noncomputable def tme_64_114 (P : Params) : BT := .node (ma37 P) (.node (mc178 P) (.node (boot_o_7 P) .nil .nil) .nil) (.node (mc242 P) .nil .nil)
noncomputable def tme_64_74 (P : Params) : BT := .node (boot_o_7 P) (.node (boot_o_7 P) (.node (mc266 P) .nil .nil) .nil) (.node (boot_o_7 P) (.node (me330 P) .nil .nil) .nil)
noncomputable def tme_64_106 (P : Params) : BT := .node (ma106 P) (.node (mc170 P) (.node (me298 P) .nil .nil) .nil) (.node (boot_o_7 P) .nil .nil)
noncomputable def tme_64_90 (P : Params) : BT := .node (ma90 P) (.node (boot_o_7 P) (.node (ma37 P) .nil .nil) .nil) (.node (boot_o_8 P) .nil .nil)
noncomputable def tme_64_122 (P : Params) : BT := .node (ma122 P) (.node (mc186 P) (.node (me314 P) .nil .nil) .nil) (.node (mc250 P) .nil .nil)
noncomputable def tme_8_10 (P : Params) : BT := .node (boot_o_10 P) (.node (boot_o_7 P) (.node (ma34 P) (tme_64_66 P) (tme_64_98 P)) (.node (ma50 P) (tme_64_82 P) (tme_64_114 P))) (.node (ma26 P) (.node (ma42 P) (tme_64_74 P) (tme_64_106 P)) (.node (ma37 P) (tme_64_90 P) (tme_64_122 P)))
noncomputable def tme_64_70 (P : Params) : BT := .node (ma70 P) (.node (ma134 P) (.node (mc262 P) .nil .nil) .nil) (.node (mc198 P) (.node (me326 P) .nil .nil) .nil)
noncomputable def tme_64_102 (P : Params) : BT := .node (boot_o_7 P) (.node (ma37 P) (.node (me294 P) .nil .nil) .nil) (.node (mc230 P) .nil .nil)
noncomputable def tme_64_86 (P : Params) : BT := .node (ma86 P) (.node (ma150 P) (.node (mc278 P) .nil .nil) .nil) (.node (mc214 P) (.node (me342 P) .nil .nil) .nil)
noncomputable def tme_64_118 (P : Params) : BT := .node (ma118 P) (.node (boot_o_8 P) (.node (boot_o_7 P) .nil .nil) .nil) (.node (boot_o_7 P) .nil .nil)
noncomputable def tme_64_78 (P : Params) : BT := .node (boot_o_7 P) (.node (ma142 P) (.node (boot_o_7 P) .nil .nil) .nil) (.node (mc206 P) (.node (boot_o_7 P) .nil .nil) .nil)
noncomputable def tme_64_110 (P : Params) : BT := .node (ma110 P) (.node (mc174 P) (.node (me302 P) .nil .nil) .nil) (.node (boot_o_7 P) .nil .nil)
noncomputable def tme_64_94 (P : Params) : BT := .node (ma94 P) (.node (ma158 P) (.node (me286 P) .nil .nil) .nil) (.node (mc222 P) .nil .nil)
noncomputable def tme_64_126 (P : Params) : BT := .node (ma126 P) (.node (mc190 P) (.node (boot_o_8 P) .nil .nil) .nil) (.node (boot_o_8 P) .nil .nil)
noncomputable def tme_8_14 (P : Params) : BT := .node (n14 P) (.node (boot_o_7 P) (.node (ma38 P) (tme_64_70 P) (tme_64_102 P)) (.node (ma54 P) (tme_64_86 P) (tme_64_118 P))) (.node (boot_o_8 P) (.node (boot_o_7 P) (tme_64_78 P) (tme_64_110 P)) (.node (ma62 P) (tme_64_94 P) (tme_64_126 P)))
noncomputable def tme_1_0 (P : Params) : BT := .node (boot_o_0 P) (.node (boot_o_1 P) (.node (me3 P) (tme_8_7 P) (tme_8_11 P)) (.node (boot_o_5 P) (tme_8_9 P) (tme_8_13 P))) (.node (mc2 P) (.node (boot_o_4 P) (tme_8_8 P) (tme_8_12 P)) (.node (boot_o_6 P) (tme_8_10 P) (tme_8_14 P)))
noncomputable def bootLife : Life := { debug := Int.ofNat 0, thresholds := [Int.ofNat 2000, Int.ofNat 10, Int.ofNat 10] }
def pos0 : Pos := Pos.mk 0 0 0 0
noncomputable def bE : List Stmt := behindTheImports PySem.Challenge.pw_je0007_01
noncomputable def envE : Env := { scope := PySem.Challenge.pw_je0007_01.main.scope, locals := mainNs, globals := mainNs, cells := [], code := .ref 13, frame := some 14 }
noncomputable def cE : Code := .body bE envE
noncomputable def preS (w : World) (os : OsState) : SharedT := ⟨(tn_1_0 w.params), 15, bootLife, Array.mk [], boot_drawn, 187, os⟩
noncomputable def aS (w : World) (os : OsState) : SharedT := ⟨(tma_1_0 w.params), 165, bootLife, Array.mk [], boot_drawn, 409, os⟩
noncomputable def cS (w : World) (os : OsState) : SharedT := ⟨(tmc_1_0 w.params), 281, bootLife, Array.mk [], boot_drawn, 572, os⟩
noncomputable def eS (w : World) (os : OsState) : SharedT := ⟨(tme_1_0 w.params), 343, bootLife, Array.mk [], boot_drawn, 680, os⟩
noncomputable def preL (w : World) (os : OsState) := topGo treeTable PySem.Challenge.pw_je0007_01 w 11 (some (.ref 6)) 12 ⟨boot_heap w.params, Array.mk [], boot_drawn, boot_toks, os⟩ (topStub PySem.Challenge.pw_je0007_01)
noncomputable def preR (w : World) (os : OsState) : Option (Shared × Thread) := some ((preS w os).abs, ⟨denote treeTable (.body bE envE), cE, pos0, [topFrame pos0]⟩)
noncomputable def blkL (w : World) (os : OsState) := segRun treeTable PySem.Challenge.pw_je0007_01 w 11 (some (.ref 6)) 1 1 (preS w os).abs (blockOf bE envE cE pos0 [topFrame pos0])
noncomputable def blkR (w : World) (os : OsState) : Option (Flow × Shared × Code × Pos) := some (.next, (preS w os).abs, cE, pos0)
def posa : Pos := Pos.mk 74 0 74 8
noncomputable def aL (w : World) (os : OsState) := segRunT treeTable PySem.Challenge.pw_je0007_01 w 11 (some (.ref 6)) 1 1414 (preS w os) (piecesOf (bE.take 10) envE cE pos0 [topFrame pos0])
noncomputable def aR (w : World) (os : OsState) : Option (Flow × SharedT × Code × Pos) := some (.next, aS w os, cE, posa)
def posc : Pos := Pos.mk 82 0 151 16
noncomputable def cL (w : World) (os : OsState) := segRunT treeTable PySem.Challenge.pw_je0007_01 w 11 (some (.ref 6)) 1 1166 (aS w os) (piecesOf ((bE.drop 10).take 5) envE cE posa [topFrame pos0])
noncomputable def cR (w : World) (os : OsState) : Option (Flow × SharedT × Code × Pos) := some (.next, cS w os, cE, posc)
noncomputable def eL (w : World) (os : OsState) := topRunT treeTable PySem.Challenge.pw_je0007_01 w 11 (some (.ref 6)) 504 (cS w os) (restOf ((bE.drop 10).drop 5) envE cE posc [topFrame pos0])
noncomputable def eR (w : World) (os : OsState) : Option SharedT := some (eS w os)
noncomputable def u1L (w : World) (os : OsState) : Bool := staticsOk (importedModules PySem.Challenge.pw_je0007_01.main.body) (boot_heap w.params) (eS w os).abs.heap && namesBound PySem.Challenge.pw_je0007_01 (eS w os).abs.heap && gensDone (eS w os).abs && laidKept (boot_heap w.params) (eS w os).abs.heap
noncomputable def u1R : Bool := true
noncomputable def u2L (w : World) (os : OsState) := openSeen qv loose (importedModules PySem.Challenge.pw_je0007_01.main.body) (fun s => xlAt qv [] s && recOk (RowW.records PySem.Challenge.rw_je0007_01.row.toRowW) s) true (eS w os).abs
noncomputable def u2R := openGood qv loose
noncomputable def u3L (w : World) (os : OsState) := kAs.map (eS w os).abs.heap.get?
noncomputable def u3R (w : World) := (Kr w.params).map fun p => some p.2
theorem twins_made : Function.const _ true (preL, preR, blkL, blkR, aL, aR, cL, cR, eL, eR, u1L, u2L, u3L) = true := by k_qdec
end Mine
end
section -- HeadN
open PySem PySem.W PyProof.Rows
set_option maxRecDepth 100000
namespace Mine
theorem preL_q : ∀ (w : World) (os : OsState), PySem.W.Fast.tw1435067368052203930 w os = PySem.W.Fast.tw17653279219239862775 w os := fun w os => by kernel_rfl
theorem preL_ok : ∀ (w : World) (os : OsState), preL w os = preR w os := fun w os => by
  rewrite [PySem.W.Fast.te1435067368052203930, PySem.W.Fast.te17653279219239862775]
  exact preL_q w os
theorem blkL_q : ∀ (w : World) (os : OsState), PySem.W.Fast.tw17163393078156831584 w os = PySem.W.Fast.tw8616536883710013034 w os := fun w os => by kernel_rfl
theorem blkL_ok : ∀ (w : World) (os : OsState), blkL w os = blkR w os := fun w os => by
  rewrite [PySem.W.Fast.te17163393078156831584, PySem.W.Fast.te8616536883710013034]
  exact blkL_q w os
theorem aL_q : ∀ (w : World) (os : OsState), PySem.W.Fast.tw6046526684594684786 w os = PySem.W.Fast.tw2845944172556449152 w os := fun w os => by kernel_rfl
theorem aL_ok : ∀ (w : World) (os : OsState), aL w os = aR w os := fun w os => by
  rewrite [PySem.W.Fast.te6046526684594684786, PySem.W.Fast.te2845944172556449152]
  exact aL_q w os
theorem cL_q : ∀ (w : World) (os : OsState), PySem.W.Fast.tw15367666677285026789 w os = PySem.W.Fast.tw17446014197926748836 w os := fun w os => by kernel_rfl
theorem cL_ok : ∀ (w : World) (os : OsState), cL w os = cR w os := fun w os => by
  rewrite [PySem.W.Fast.te15367666677285026789, PySem.W.Fast.te17446014197926748836]
  exact cL_q w os
theorem eL_q : ∀ (w : World) (os : OsState), PySem.W.Fast.tw9766709441196753002 w os = PySem.W.Fast.tw5581655524705170112 w os := fun w os => by kernel_rfl
theorem eL_ok : ∀ (w : World) (os : OsState), eL w os = eR w os := fun w os => by
  rewrite [PySem.W.Fast.te9766709441196753002, PySem.W.Fast.te5581655524705170112]
  exact eL_q w os
theorem u1L_q : ∀ (w : World) (os : OsState), PySem.W.Fast.tw15429018835757224169 w os = u1R := fun w os => by kernel_rfl
theorem u1L_ok : ∀ (w : World) (os : OsState), u1L w os = u1R := fun w os => by
  rewrite [PySem.W.Fast.te15429018835757224169]
  exact u1L_q w os
theorem u2L_q : ∀ (w : World) (os : OsState), PySem.W.Fast.tw14498733897094165669 w os = u2R := fun w os => by kernel_rfl
theorem u2L_ok : ∀ (w : World) (os : OsState), u2L w os = u2R := fun w os => by
  rewrite [PySem.W.Fast.te14498733897094165669]
  exact u2L_q w os
theorem u3L_q : ∀ (w : World) (os : OsState), PySem.W.Fast.tw11537538077785623983 w os = u3R w := fun w os => by kernel_rfl
theorem u3L_ok : ∀ (w : World) (os : OsState), u3L w os = u3R w := fun w os => by
  rewrite [PySem.W.Fast.te11537538077785623983]
  exact u3L_q w os
end Mine
end
section -- HeadC
open PySem PySem.W PyProof.Rows
set_option maxRecDepth 100000
namespace Mine
theorem run_all (w : World) (os : OsState) : topRun treeTable PySem.Challenge.pw_je0007_01 w 11 (some (.ref 6)) (12 + (1 + (1414 + (1166 + 504)))) ⟨boot_heap w.params, Array.mk [], boot_drawn, boot_toks, os⟩ (topStub PySem.Challenge.pw_je0007_01) = some (eS w os).abs := by
  refine go_top (preL_ok w os) ?_
  refine piece_block (blkL_ok w os) ?_
  rw [← List.take_append_drop 10 bE]
  refine piece_app (segRun_of (aL_ok w os)) ?_
  rw [← List.take_append_drop 5 (bE.drop 10)]
  refine piece_app (segRun_of (cL_ok w os)) ?_
  exact topRun_of (eL_ok w os)
theorem boot_prog : opening PySem.Challenge.pw_je0007_01 = plainProg PySem.Challenge.pw_je0007_01.main.scope.names := by kernel_rfl
theorem boot_fence : ∀ s, fenceModules? PySem.Challenge.pw_je0007_01 s = some s := fun s => by kernel_rfl
theorem boot_size : ∀ w : World, ((boot_heap w.params).isNs mainGlobals && (Array.mk [] : Array GenState).size == 0, (boot_heap w.params).objs.size, (boot_heap w.params).nsMap mainGlobals "__annotations__") = (true, 11, some (.ref 6)) := fun w => by kernel_rfl
noncomputable abbrev hook : Hook := kHook K kAs K_as
theorem left : LeftO PySem.Challenge.rw_je0007_01.row.prog qv loose (fun s => xlAt qv [] s && recOk (RowW.records PySem.Challenge.rw_je0007_01.row.toRowW) s) hook.obs hook.val 4000 :=
  left_of_run (boot_open boot_prog (by decide) boot_fence) boot_size (by decide) run_all u1L_ok u2L_ok u3L_ok
end Mine
end
section -- MLaid
set_option maxRecDepth 100000
namespace Mine
open PySem

/-! the table of a set, laid anew, has room: pure facts -/

def stepI (mask i : Nat) : Nat := (i * 5 + 1 + 0 / 32) % (mask + 1)
def iterI (mask : Nat) : Nat → Nat → Nat
  | 0, i => i
  | t + 1, i => iterI mask t (stepI mask i)

def metI (mask j : Nat) : Nat → Nat → Bool
  | 0, _ => false
  | n + 1, i => Nat.beq i j || metI mask j n (stepI mask i)
theorem metI_of {mask j : Nat} : ∀ {n i : Nat}, metI mask j n i = true → ∃ t < n, iterI mask t i = j
  | 0, _, h => by cases h
  | n + 1, i, h => by
    unfold metI at h
    cases hb : Nat.beq i j with
    | true => exact ⟨0, by omega, Nat.eq_of_beq_eq_true hb⟩
    | false =>
      rw [hb, Bool.false_or] at h
      obtain ⟨t, ht, e⟩ := metI_of h
      exact ⟨t + 1, by omega, e⟩

def okMask (mask : Nat) : Prop := mask = 7 ∨ mask = 15 ∨ mask = 31

theorem reach7 : ∀ i < 8, ∀ j < 8, metI 7 j 8 i = true := by decide +kernel
theorem reach15 : ∀ i < 16, ∀ j < 16, metI 15 j 16 i = true := by decide +kernel
theorem reach31 : ∀ i < 32, ∀ j < 32, metI 31 j 32 i = true := by decide +kernel
theorem reach {mask : Nat} (hm : okMask mask) {i j : Nat} (hi : i ≤ mask) (hj : j ≤ mask) : ∃ t ≤ mask, iterI mask t i = j := by
  rcases hm with rfl | rfl | rfl
  · obtain ⟨t, h, e⟩ := metI_of (reach7 i (by omega) j (by omega)); exact ⟨t, by omega, e⟩
  · obtain ⟨t, h, e⟩ := metI_of (reach15 i (by omega) j (by omega)); exact ⟨t, by omega, e⟩
  · obtain ⟨t, h, e⟩ := metI_of (reach31 i (by omega) j (by omega)); exact ⟨t, by omega, e⟩

theorem runEnd_le {mask i : Nat} (hi : i ≤ mask) : SetTable.runEnd mask i ≤ mask := by
  unfold SetTable.runEnd; split <;> omega
theorem runEnd_ge (mask i : Nat) : i ≤ SetTable.runEnd mask i := by
  unfold SetTable.runEnd; split <;> omega

def Free (owner : Array (Option Nat)) (j : Nat) : Prop := (owner.getD j (some 0)).isNone = true

theorem free_here {mask : Nat} {owner : Array (Option Nat)} {i k : Nat} (hi : i ≤ mask)
    (h : (List.range (SetTable.runEnd mask i + 1 - i)).find? (fun k => (owner.getD (i + k) (some 0)).isNone) = some k) : i + k ≤ mask ∧ Free owner (i + k) := by
  have h1 := List.find?_some h
  have h2 := List.mem_of_find?_eq_some h
  rw [List.mem_range] at h2
  have := runEnd_le (mask := mask) hi
  exact ⟨by omega, h1⟩

theorem free_zero {mask : Nat} {owner : Array (Option Nat)} : ∀ (t f i : Nat), i ≤ mask → Free owner (iterI mask t i) →
    ∃ j ≤ mask, SetTable.layClean.free mask owner (t + 1 + f) i 0 = some j ∧ Free owner j
  | t, f, i, hi, hF => by
    rw [show t + 1 + f = (t + f) + 1 by omega]
    unfold SetTable.layClean.free
    cases hq : (List.range (SetTable.runEnd mask i + 1 - i)).find? (fun k => (owner.getD (i + k) (some 0)).isNone) with
    | some k => obtain ⟨a, b⟩ := free_here hi hq; exact ⟨i + k, a, rfl, b⟩
    | none =>
      cases t with
      | zero =>
        exfalso
        have := List.find?_eq_none.mp hq 0 (by rw [List.mem_range]; have := runEnd_ge mask i; omega)
        exact this hF
      | succ t =>
        have hi' : stepI mask i ≤ mask := by unfold stepI; have := Nat.mod_lt (i * 5 + 1 + 0 / 32) (show 0 < mask + 1 by omega); omega
        have := free_zero t f (stepI mask i) hi' hF
        rw [show t + 1 + f = (t + f) + 1 by omega] at this
        rw [show t + 1 + f = (t + f) + 1 by omega]
        exact this

theorem free_any {mask : Nat} (hm : okMask mask) {owner : Array (Option Nat)} {j₀ : Nat} (hj : j₀ ≤ mask) (hF : Free owner j₀) :
    ∀ (m f i p : Nat), i ≤ mask → p < 32 ^ m → ∃ j ≤ mask, SetTable.layClean.free mask owner (m + (mask + 1) + f) i p = some j ∧ Free owner j
  | 0, f, i, p, hi, hp => by
    have : p = 0 := by simpa using hp
    subst this
    obtain ⟨t, ht, e⟩ := reach hm hi hj
    obtain ⟨j, h1, h2, h3⟩ := free_zero (mask := mask) (owner := owner) t (mask - t + f) i hi (by rw [e]; exact hF)
    rw [show t + 1 + (mask - t + f) = 0 + (mask + 1) + f by omega] at h2
    exact ⟨j, h1, h2, h3⟩
  | m + 1, f, i, p, hi, hp => by
    rw [show m + 1 + (mask + 1) + f = (m + (mask + 1) + f) + 1 by omega]
    unfold SetTable.layClean.free
    cases hq : (List.range (SetTable.runEnd mask i + 1 - i)).find? (fun k => (owner.getD (i + k) (some 0)).isNone) with
    | some k => obtain ⟨a, b⟩ := free_here hi hq; exact ⟨i + k, a, rfl, b⟩
    | none =>
      have hi' : (i * 5 + 1 + p / 32) % (mask + 1) ≤ mask := by have := Nat.mod_lt (i * 5 + 1 + p / 32) (show 0 < mask + 1 by omega); omega
      have hp' : p / 32 < 32 ^ m := by rw [Nat.pow_succ] at hp; omega
      exact free_any hm hj hF m f _ _ hi' hp'

theorem bits_lt (h : Int) : SetTable.bits h < 32 ^ 13 := by
  unfold SetTable.bits
  have h1 := Int.emod_nonneg h (b := 2 ^ 64) (by decide)
  have h2 := Int.emod_lt_of_pos h (b := 2 ^ 64) (by decide)
  have : (32 : Nat) ^ 13 = 36893488147419103232 := by decide
  rw [this]
  have e : (2 : Int) ^ 64 = 18446744073709551616 := by decide
  rw [e] at h1 h2 ⊢
  omega

theorem free_ok {mask : Nat} (hm : okMask mask) {owner : Array (Option Nat)} {j₀ : Nat} (hj : j₀ ≤ mask) (hF : Free owner j₀) (h : Int) :
    ∃ j ≤ mask, SetTable.layClean.free mask owner (SetTable.turns mask) (SetTable.bits h % (mask + 1)) (SetTable.bits h) = some j ∧ Free owner j := by
  have := free_any hm hj hF 13 1 (SetTable.bits h % (mask + 1)) (SetTable.bits h) (by have := Nat.mod_lt (SetTable.bits h) (show 0 < mask + 1 by omega); omega) (bits_lt h)
  rw [show 13 + (mask + 1) + 1 = SetTable.turns mask by unfold SetTable.turns; omega] at this
  exact this

theorem filterMap_set_perm : ∀ (l : List (Option Nat)) (j k : Nat), j < l.length → l.getD j (some 0) = none → List.Perm ((l.set j (some k)).filterMap id) (k :: l.filterMap id)
  | [], _, _, h, _ => absurd h (Nat.not_lt_zero _)
  | x :: l, 0, k, _, e => by
    have : x = none := e
    subst this
    simp
  | x :: l, j + 1, k, h, e => by
    have ih := filterMap_set_perm l j k (Nat.lt_of_succ_lt_succ h) e
    rw [List.set_cons_succ]
    cases x with
    | none => simpa using ih
    | some y =>
      simp only [List.filterMap_cons, id]
      exact (List.Perm.cons y ih).trans (List.Perm.swap k y _)

theorem exists_none : ∀ (l : List (Option Nat)), (l.filterMap id).length < l.length → ∃ j < l.length, l.getD j (some 0) = none
  | [], h => absurd h (Nat.not_lt_zero _)
  | none :: l, _ => ⟨0, by simp, rfl⟩
  | some y :: l, h => by
    obtain ⟨j, h1, h2⟩ := exists_none l (by simp only [List.filterMap_cons, id, List.length_cons] at h; omega)
    exact ⟨j + 1, by simp; omega, h2⟩

def Owned (mask : Nat) (owner : Array (Option Nat)) (k : Nat) : Prop := owner.size = mask + 1 ∧ List.Perm (owner.toList.filterMap id) (List.range k)

theorem getD_toList (xs : Array (Option Nat)) (j : Nat) (d : Option Nat) : xs.getD j d = xs.toList.getD j d := by
  cases xs
  simp

theorem owned_step {mask : Nat} (hm : okMask mask) {owner : Array (Option Nat)} {k : Nat} (ho : Owned mask owner k) (hk : k ≤ mask) (h : Int) :
    ∃ j, SetTable.layClean.free mask owner (SetTable.turns mask) (SetTable.bits h % (mask + 1)) (SetTable.bits h) = some j ∧ Owned mask (owner.setIfInBounds j (some k)) (k + 1) := by
  obtain ⟨h1, h2⟩ := ho
  have hl : owner.toList.length = mask + 1 := by simpa using h1
  obtain ⟨j₀, a, b⟩ := exists_none owner.toList (by rw [h2.length_eq, List.length_range, hl]; omega)
  obtain ⟨j, c, d, e⟩ := free_ok hm (owner := owner) (j₀ := j₀) (by omega) (by unfold Free; rw [getD_toList, b]; rfl) h
  refine ⟨j, d, by simpa using h1, ?_⟩
  have e' : owner.toList.getD j (some 0) = none := by rw [← getD_toList]; exact Option.isNone_iff_eq_none.mp e
  rw [Array.toList_setIfInBounds, List.range_succ]
  exact (filterMap_set_perm _ j k (by omega) e').trans ((List.Perm.cons k h2).trans (List.perm_append_singleton k _).symm)

theorem owned_fold {mask : Nat} (hm : okMask mask) : ∀ (hs : List Int) (owner : Array (Option Nat)) (k : Nat), Owned mask owner k → k + hs.length ≤ mask + 1 →
    ∃ owner', hs.foldl (init := some (owner, k)) (fun acc h => do
      let (owner, k) ← acc
      let j ← SetTable.layClean.free mask owner (SetTable.turns mask) (SetTable.bits h % (mask + 1)) (SetTable.bits h)
      pure (owner.setIfInBounds j (some k), k + 1)) = some (owner', k + hs.length) ∧ Owned mask owner' (k + hs.length)
  | [], owner, k, ho, _ => ⟨owner, rfl, ho⟩
  | h :: hs, owner, k, ho, hk => by
    rw [List.length_cons] at hk
    obtain ⟨j, e, ho'⟩ := owned_step hm ho (by omega) h
    obtain ⟨o', e', ho''⟩ := owned_fold hm hs _ (k + 1) ho' (by omega)
    refine ⟨o', ?_, by rw [List.length_cons, show k + (hs.length + 1) = k + 1 + hs.length by omega]; exact ho''⟩
    rw [List.foldl_cons, List.length_cons, show k + (hs.length + 1) = k + 1 + hs.length by omega, ← e']
    congr 1
    show (do let j ← SetTable.layClean.free mask owner (SetTable.turns mask) (SetTable.bits h % (mask + 1)) (SetTable.bits h); pure (owner.setIfInBounds j (some k), k + 1)) = _
    rw [e]
    rfl

theorem layClean_ok {mask : Nat} (hm : okMask mask) (hs : Array Int) (hn : hs.size ≤ mask + 1) : ∃ owner, SetTable.layClean mask hs = some owner ∧ Owned mask owner hs.size := by
  have h0 : Owned mask (Array.replicate (mask + 1) none) 0 := by
    refine ⟨by simp, ?_⟩
    rw [Array.toList_replicate]
    have : ∀ n : Nat, (List.replicate n (none : Option Nat)).filterMap id = [] := fun n => by induction n with
      | zero => rfl
      | succ n ih => simpa [List.replicate_succ] using ih
    rw [this]; exact .rfl
  obtain ⟨o', e, ho⟩ := owned_fold hm hs.toList _ 0 h0 (by simpa using hn)
  rw [Nat.zero_add] at e ho
  have hl : hs.toList.length = hs.size := by simp
  rw [hl] at e ho
  refine ⟨o', ?_, ho⟩
  unfold SetTable.layClean
  rw [← Array.foldl_toList, e]
  rfl

theorem range_filterMap (l : List (Option Nat)) : ((List.range l.length).filterMap fun j => (l.getD j none).map (j, ·)).map (·.2) = l.filterMap id := by
  rw [List.map_filterMap]
  have e : ∀ j, ((l.getD j none).map (fun o => (j, o))).map (·.2) = l.getD j none := fun j => by cases l.getD j none <;> rfl
  simp only [e]
  induction l with
  | nil => rfl
  | cons x l ih =>
    rw [List.length_cons, List.range_succ_eq_map, List.filterMap_cons, List.filterMap_map]
    have : ((fun j => (x :: l).getD j none) ∘ Nat.succ) = fun j => l.getD j none := by funext j; simp
    rw [this, ih fun j => by cases l.getD j none <;> rfl]
    cases x <;> rfl

theorem laid_ok {mask fg mv : Nat} {led plain : Bool} (hm : okMask mask) (hs : Array Int) (hn : hs.size ≤ mask) :
    ∃ t order, SetTable.laid mask fg mv led plain hs = some (t, order) ∧ t.led = led ∧ t.plain = plain ∧ t.fits hs.size = true ∧ List.Perm order.toList (List.range hs.size) := by
  obtain ⟨owner, e, ho1, ho2⟩ := layClean_ok hm hs (by omega)
  have hl : owner.toList.length = mask + 1 := by simpa using ho1
  have key := range_filterMap owner.toList
  rw [hl] at key
  have hlen : ((List.range (mask + 1)).filterMap fun j => (owner.getD j none).map (j, ·)).length = hs.size := by
    have := congrArg List.length key
    rw [List.length_map, ho2.length_eq, List.length_range] at this
    simpa only [getD_toList] using this
  have e2 : SetTable.laid mask fg mv led plain hs = some ({ mask, place := (((List.range (mask + 1)).filterMap fun j => (owner.getD j none).map (j, ·)).map (·.1)).toArray, dummies := #[], finger := fg, led, moves := mv, plain }, (((List.range (mask + 1)).filterMap fun j => (owner.getD j none).map (j, ·)).map (·.2)).toArray) := by
    unfold SetTable.laid
    rw [e]
    rfl
  refine ⟨_, _, e2, rfl, rfl, ?_, ?_⟩
  · simp only [SetTable.fits, SetTable.fill, List.size_toArray, List.length_map, hlen, Array.size_empty, Nat.add_zero, beq_self_eq_true, Bool.true_and, decide_eq_true_eq]
    exact hn
  · simp only [getD_toList]
    rw [key]
    exact ho2

end Mine
end
section -- MSetA
set_option maxRecDepth 100000
namespace Mine
open PySem PySem.W PyProof.Rows

section
variable {prog : Program} {w : World} {A : Around} {E : Value → Shared → Prop} {s : Shared}

/-- whether this world's sets are led -/
def ledOf (w : World) : Bool := !(w.params.followText "set-order")

/-- an object that is a set of strs: what lies in it, how many, and (where c holds) that its table is led -/
def SetX (prog : Program) (w : World) (c : Prop) (o : Obj) (S : Str → Bool) (n : Nat) : Prop :=
  o.ExactSet ∧ ∃ es ep t, o.data = .set es ep t ∧ ElemsOf (PySem.strKind prog w) es.toList ∧ (∀ k, S k = true ↔ ∃ e ∈ es.toList, (PySem.strKind prog w).is k e.2 = true) ∧ es.size = n ∧ t.fits es.size = true ∧ (c → t.led = ledOf w) ∧ (n ≠ 0 → t.plain = false)

theorem SetX.weak {c c' : Prop} {o : Obj} {S : Str → Bool} {n : Nat} (h : SetX prog w c o S n) (hc : c' → c) : SetX prog w c' o S n :=
  let ⟨a, es, ep, t, b1, b2, b3, b4, b5, b6, b7⟩ := h; ⟨a, es, ep, t, b1, b2, b3, b4, b5, fun x => b6 (hc x), b7⟩
theorem SetX.congr {c : Prop} {o : Obj} {S S' : Str → Bool} {n n' : Nat} (h : SetX prog w c o S n) (e : ∀ k, S k = S' k) (en : n = n') : SetX prog w c o S' n' := by
  have : S = S' := funext e
  subst this; subst en; exact h
theorem SetX.obj {c : Prop} {o : Obj} {S : Str → Bool} {n : Nat} (h : SetX prog w c o S n) : o.SetObjOf (PySem.strKind prog w) S n :=
  let ⟨a, es, ep, t, b1, b2, b3, b4, b5, _⟩ := h; ⟨a, es, ep, t, b1, b2, b3, b4, b5⟩
theorem SetX.of_empty {c : Prop} {o : Obj} {S : Str → Bool} (h : o.SetObjOf (PySem.strKind prog w) S 0) (hc : ¬ c) : SetX prog w c o S 0 :=
  let ⟨a, es, ep, t, b1, b2, b3, b4, b5⟩ := h; ⟨a, es, ep, t, b1, b2, b3, b4, b5, fun x => absurd x hc, fun x => absurd rfl x⟩
theorem SetX.setOf {c : Prop} {h : Heap} {a : Addr} {o : Obj} {S : Str → Bool} {n : Nat} (hx : SetX prog w c o S n) (ho : h.get? a = some o) (hb : n < scanBound) : h.SetOf (PySem.strKind prog w) a S n := hx.obj.setOf ho hb
theorem SetX.none_in {c : Prop} {o : Obj} {S : Str → Bool} (h : SetX prog w c o S 0) (k : Str) : S k = false := by
  obtain ⟨_, es, ep, t, b1, b2, b3, b4, b5, _⟩ := h
  cases hk : S k with
  | false => rfl
  | true =>
    obtain ⟨e, he, _⟩ := (b3 k).mp hk
    have : es.toList = [] := by rw [← List.length_eq_zero_iff]; simpa using b4
    rw [this] at he; cases he
theorem SetX.some_in {c : Prop} {o : Obj} {S : Str → Bool} {n : Nat} (h : SetX prog w c o S n) (hn : n ≠ 0) : ∃ k, S k = true := by
  obtain ⟨_, es, ep, t, b1, b2, b3, b4, b5, _⟩ := h
  have : es.toList ≠ [] := fun e => hn (by rw [← b4]; simpa using congrArg List.length e)
  obtain ⟨e, he⟩ := List.exists_mem_of_ne_nil _ this
  obtain ⟨⟨k, hk, _⟩, _⟩ := b2 e he
  exact ⟨k, (b3 k).mpr ⟨e, he, hk⟩⟩

theorem setX_fresh : SetX prog w True { cls := .type "set", dict := none, data := .set #[] 0 (.fresh 0 0 (ledOf w)) } (fun _ => false) 0 :=
  ⟨⟨rfl, rfl, rfl⟩, #[], 0, _, rfl, fun e he => by simp at he, fun k => by simp, rfl, by rfl, fun _ => rfl, fun x => absurd rfl x⟩

theorem newSet_X {Q : Value → Shared → Prop} (h : Q (.ref s.heap.objs.size) { s with heap := s.heap.push { cls := .type "set", dict := none, data := .set #[] 0 (.fresh 0 0 (ledOf w)) } }) :
    wpAny (model prog w) A (newSet (.type "set")) Q E s := by
  unfold newSet setsByText
  refine wpAny_bind (wpAny_bind (wpAny_askSetting (wpAny_pure ?_)))
  dsimp only
  simp only [newObj]
  exact wpAny_bind (wpAny_alloc (wpAny_pure h))

/-- a set's new content stored -/
theorem SetX.store {c' : Prop} {h : Heap} {a : Addr} {o : Obj} {es : Array (Int × Value)} {ep : Nat} {t : SetTable} (ho : h.get? a = some o) (hex : o.ExactSet) (hd : o.data = .set es ep t)
    {es' : Array (Int × Value)} {t' : SetTable} {S' : Str → Bool} (hel : ElemsOf (PySem.strKind prog w) es'.toList) (hmem : ∀ k, S' k = true ↔ ∃ e ∈ es'.toList, (PySem.strKind prog w).is k e.2 = true) (hf : t'.fits es'.size = true) (hl : c' → t'.led = ledOf w) (hpl : es'.size ≠ 0 → t'.plain = false) :
    (h.update a (Obj.putSet es' t')).get? a = some { o with data := .set es' (ep + 1) t' } ∧ SetX prog w c' { o with data := .set es' (ep + 1) t' } S' es'.size := by
  have hg : (h.update a (Obj.putSet es' t')).get? a = some { o with data := .set es' (ep + 1) t' } := by
    have := Heap.get?_update_self (Obj.putSet es' t') ho (by rw [putSet_of es' t' hd]; rfl)
    rw [putSet_of es' t' hd] at this; exact this
  exact ⟨hg, hex, es', ep + 1, t', rfl, hel, hmem, rfl, hf, hl, hpl⟩

theorem gave_any (b : Bool) {tag : String} {s₁ : Shared} {Q' : Unit → Shared → Prop} (hq : Q' () s₁) : wpAny (model prog w) A (match b with | true => rule tag | false => pure ()) Q' E s₁ := by
  cases b <;> first | exact wpAny_pure hq | exact wpAny_rule hq

theorem layNew_led (t : SetTable) (es : Array (Int × Value)) (h : Int) (x : Value) : (layNew t es h x).2.1.led = t.led := by
  unfold layNew
  split
  · rename_i slot wd _
    show (SetTable.orStandIn (t.put slot).1 _).led = t.led
    unfold SetTable.orStandIn
    split <;> rfl
  · rfl
theorem relayAll_led (t : SetTable) (es : Array (Int × Value)) (wanted : Nat) : (relayAll t es wanted).2.1.led = t.led := by
  unfold relayAll
  split
  · rename_i t' order e
    dsimp only
    split
    · unfold SetTable.relaid SetTable.laid at e
      cases hq : SetTable.layClean (SetTable.sizeAbove wanted - 1) (es.map (·.1)) with
      | none => rw [hq] at e; cases e
      | some owner => rw [hq] at e; cases e; rfl
    · rfl
  · rfl

theorem relayAll_plain {t : SetTable} (es : Array (Int × Value)) (wanted : Nat) (hp : t.plain = false) : (relayAll t es wanted).2.1.plain = false := by
  unfold relayAll
  split
  · rename_i t' order e
    dsimp only
    split
    · unfold SetTable.relaid SetTable.laid at e
      cases hq : SetTable.layClean (SetTable.sizeAbove wanted - 1) (es.map (·.1)) with
      | none => rw [hq] at e; cases e
      | some owner => rw [hq] at e; cases e; exact hp
    · rfl
  · rfl

theorem relayAll_plain_of {t : SetTable} {es : Array (Int × Value)} {wanted : Nat} {R : Array (Int × Value) × SetTable × Bool} (e : relayAll t es wanted = R) (hp : t.plain = false) : R.2.1.plain = false := e ▸ relayAll_plain es wanted hp

theorem add_X {a : Addr} {o : Obj} {S : Str → Bool} {n : Nat} {k : Str} {tk : Tok} {Q : Bool → Shared → Prop} (ho : s.heap.get? a = some o) (hX : SetX prog w True o S n) (hroom : n + 1 < scanBound)
    (h : ∀ h' o', Heap.SameBut a s.heap h' → h'.get? a = some o' → SetX prog w True o' (fun k' => S k' || decide (k' = k)) (if S k then n else n + 1) → Q (!S k) { s with heap := h' }) :
    wpAny (model prog w) A (setAddHashed a (.str k tk) ((PySem.strKind prog w).hash k)) Q E s := by
  have hkey : (PySem.strKind prog w).is k (.str k tk) = true := strKind_is _ _ _ _
  obtain ⟨hex, es, ep, t, hd, hel, hmem, hn, hf, hled, hpl⟩ := hX
  have hb : es.size < scanBound := by omega
  unfold setAddHashed setAddHashedIn
  refine wpAny_holding (wpAny_bind (wpAny_setState_of ho hd hf ?_))
  dsimp only
  rw [byScan_of rfl hb hel]
  simp only [↓reduceIte]
  unfold setAddByScan
  refine wpAny_bind (wpAny_bind (wpAny_rule (wpAny_bind (wpAny_setScan_of hkey ho hd hf hel ?_))))
  cases hr : List.findIdx? (fun e => (PySem.strKind prog w).is k e.2) es.toList with
  | some j =>
    dsimp only
    obtain ⟨hj, hpj, _⟩ := List.findIdx?_eq_some_iff_getElem.mp hr
    have hSk : S k = true := (hmem k).mpr ⟨es.toList[j], List.getElem_mem hj, hpj⟩
    refine wpAny_pure (wpAny_pure ?_)
    have := h s.heap o (Heap.SameBut.refl a s.heap) ho ⟨hex, es, ep, t, hd, hel, fun k' => by
      rw [Bool.or_eq_true, decide_eq_true_eq, ← hmem k']
      exact ⟨fun hk => hk.elim id (fun e => e ▸ hSk), .inl⟩, by rw [hSk]; exact hn, hf, hled, by rw [hSk]; exact hpl⟩
    rw [hSk] at this; exact this
  | none =>
    dsimp only
    have hSk : S k = false := by
      cases hk : S k with
      | false => rfl
      | true => obtain ⟨e, he, hp⟩ := (hmem k).mp hk; have := List.findIdx?_eq_none_iff.mp hr e he; rw [hp] at this; exact Bool.noConfusion this
    have hperm := layNew_perm t es ((PySem.strKind prog w).hash k) (.str k tk)
    have hfits := layNew_fits t es ((PySem.strKind prog w).hash k) (.str k tk)
    have hl1 := layNew_led t es ((PySem.strKind prog w).hash k) (.str k tk)
    generalize hL : layNew t es ((PySem.strKind prog w).hash k) (.str k tk) = L at hperm hfits hl1 ⊢
    obtain ⟨es1, t1, wasDummy, gave⟩ := L
    dsimp only at hperm hfits hl1 ⊢
    rw [Array.toList_push] at hperm
    have hel1 : ElemsOf (PySem.strKind prog w) es1.toList := (hel.push hkey rfl).perm hperm
    have hmem1 : ∀ k', (S k' || decide (k' = k)) = true ↔ ∃ e ∈ es1.toList, (PySem.strKind prog w).is k' e.2 = true := mem_push_iff hkey hmem hperm
    have hsz1 : es1.size = n + 1 := by rw [← Array.length_toList, hperm.length_eq, List.length_append, Array.length_toList, hn]; rfl
    have hbz : es1.size ≤ sizeLine := fits_of_scanBound (by omega)
    refine wpAny_bind (gave_any _ ?_)
    have key : ∀ (t2 : SetTable), t2.fits es1.size = true → t2.led = ledOf w → t2.plain = false → ∀ (R : Option Bool → Shared → Prop), (∀ h' o', Heap.SameBut a s.heap h' → h'.get? a = some o' → SetX prog w True o' (fun k' => S k' || decide (k' = k)) es1.size → R (some true) { s with heap := h' }) →
        wpAny (model prog w) A (do
          storeSet a es1 t2
          if (!wasDummy && t2.tooFull) = true then do
              (match (relayAll t2 es1 (SetTable.grown es1.size)).2.2 with | true => rule "set.scan.the-table-gave-way" | false => pure ())
              storeSet a (relayAll t2 es1 (SetTable.grown es1.size)).1 (relayAll t2 es1 (SetTable.grown es1.size)).2.1
              pure (some true)
            else pure (some true)) R E s := by
      intro t2 hf2 hl2 hp2 R hR
      obtain ⟨g1, x1⟩ := SetX.store (prog := prog) (w := w) (c' := True) ho hex hd hel1 hmem1 hf2 (fun _ => hl2) (fun _ => hp2)
      have sb1 := Heap.SameBut.update s.heap a (Obj.putSet es1 t2)
      refine wpAny_bind (wpAny_storeSet_of ho hd ?_ hbz)
      split
      · have hp := relayAll_perm t2 es1 (SetTable.grown es1.size)
        have hfr := relayAll_fits t2 es1 (SetTable.grown es1.size)
        have hlr := relayAll_led t2 es1 (SetTable.grown es1.size)
        generalize hRl : relayAll t2 es1 (SetTable.grown es1.size) = Rl at hp hfr hlr ⊢
        obtain ⟨es2, t3, gave2⟩ := Rl
        dsimp only at hp hfr hlr ⊢
        have hel2 : ElemsOf (PySem.strKind prog w) es2.toList := hel1.perm hp
        have hmem2 : ∀ k', (S k' || decide (k' = k)) = true ↔ ∃ e ∈ es2.toList, (PySem.strKind prog w).is k' e.2 = true := fun k' => (hmem1 k').trans ⟨fun ⟨e, he, q⟩ => ⟨e, hp.mem_iff.mpr he, q⟩, fun ⟨e, he, q⟩ => ⟨e, hp.mem_iff.mp he, q⟩⟩
        have hsz : es2.size = es1.size := by rw [← Array.length_toList, hp.length_eq, Array.length_toList]
        obtain ⟨g2, x2⟩ := SetX.store (prog := prog) (w := w) (c' := True) g1 hex rfl hel2 hmem2 hfr (fun _ => hlr.trans hl2) (fun _ => relayAll_plain_of hRl hp2)
        refine wpAny_bind (gave_any _ (wpAny_bind (wpAny_storeSet_of g1 rfl (wpAny_pure ?_) (by rw [hsz]; exact hbz))))
        exact hR _ _ (sb1.trans (Heap.SameBut.update _ a _)) g2 (x2.congr (fun _ => rfl) hsz)
      · exact wpAny_pure (hR _ _ sb1 g1 x1)
    have hend : ∀ h' o', Heap.SameBut a s.heap h' → h'.get? a = some o' → SetX prog w True o' (fun k' => S k' || decide (k' = k)) es1.size → Q true { s with heap := h' } := by
      intro h' o' hsb ho' hx'
      have := h h' o' hsb ho'
      rw [hSk] at this
      exact this (hx'.congr (fun _ => rfl) hsz1)
    split
    · refine wpAny_bind ?_
      rw [hashByValue_scannable 8 rfl]
      refine wpAny_pure ?_
      rw [if_neg (by simp [plainKind])]
      refine key _ (SetTable.fits_plain_off hfits) (hl1.trans (hled trivial)) rfl _ ?_
      · intro h' o' hsb ho' hx'; dsimp only; exact wpAny_pure (hend h' o' hsb ho' hx')
    · refine wpAny_bind (wpAny_pure ?_)
      simp only [↓reduceIte]
      refine key _ hfits (hl1.trans (hled trivial)) (by rename_i hnp; simpa using hnp) _ ?_
      intro h' o' hsb ho' hx'; dsimp only; exact wpAny_pure (hend h' o' hsb ho' hx')
end
end Mine
end
section -- MSetB
set_option maxRecDepth 100000
namespace Mine
open PySem PySem.W PyProof.Rows

section
variable {prog : Program} {w : World} {A : Around} {E : Value → Shared → Prop} {s : Shared}

theorem order_perm {order : Array Nat} {es : Array (Int × Value)} (hp : List.Perm order.toList (List.range es.size)) : List.Perm (order.filterMap (es[·]?)).toList es.toList := by
  rw [Array.toList_filterMap]
  exact (hp.filterMap _).trans (by rw [filterMap_getElem?_range])
theorem order_size {order : Array Nat} {es : Array (Int × Value)} (hp : List.Perm order.toList (List.range es.size)) : (order.filterMap (es[·]?)).size = es.size := by
  rw [← Array.length_toList, (order_perm hp).length_eq, Array.length_toList]

theorem mem_perm {S : Str → Bool} {l l' : List (Int × Value)} (h : ∀ k, S k = true ↔ ∃ e ∈ l, (PySem.strKind prog w).is k e.2 = true) (p : List.Perm l' l) (k : Str) : S k = true ↔ ∃ e ∈ l', (PySem.strKind prog w).is k e.2 = true :=
  (h k).trans ⟨fun ⟨e, he, q⟩ => ⟨e, p.mem_iff.mpr he, q⟩, fun ⟨e, he, q⟩ => ⟨e, p.mem_iff.mp he, q⟩⟩

theorem relay_X {c : Prop} {a : Addr} {o : Obj} {S : Str → Bool} {n wanted : Nat} {Q : Unit → Shared → Prop} (ho : s.heap.get? a = some o) (hX : SetX prog w c o S n) (hm : okMask (SetTable.sizeAbove wanted - 1)) (hn : n ≤ SetTable.sizeAbove wanted - 1)
    (h : ∀ h' o', Heap.SameBut a s.heap h' → h'.get? a = some o' → SetX prog w c o' S n → Q () { s with heap := h' }) :
    wpAny (model prog w) A (setRelay a wanted) Q E s := by
  obtain ⟨hex, es, ep, t, hd, hel, hmem, hsz, hf, hled, hpl⟩ := hX
  have hline : ¬ SetTable.sizeAbove wanted > sizeLine := by
    rw [sizeLine_eq]
    rcases hm with e | e | e <;> omega
  unfold setRelay
  refine wpAny_bind (wpAny_setState_of ho hd hf ?_)
  dsimp only
  rw [if_neg hline]
  obtain ⟨t', order, e, hl, hpl', hf', hp⟩ := laid_ok (mask := SetTable.sizeAbove wanted - 1) (fg := t.finger) (mv := t.movedTo (SetTable.sizeAbove wanted - 1)) (led := t.led) (plain := t.plain) hm (es.map (·.1)) (by rw [Array.size_map, hsz]; exact hn)
  rw [Array.size_map] at hf' hp
  have e' : t.relaid (es.map (·.1)) wanted = some (t', order) := e
  rw [e']
  refine wpAny_bind ?_
  show wpAny _ _ (if ((order.filterMap (es[·]?)).size != es.size) = true then _ else _) _ _ _
  rw [if_neg (by rw [order_size hp]; simp)]
  refine wpAny_pure ?_
  dsimp only
  have hbz : (order.filterMap (es[·]?)).size ≤ sizeLine := by rw [order_size hp, hsz]; omega
  obtain ⟨g1, x1⟩ := SetX.store (prog := prog) (w := w) (c' := c) (S' := S) ho hex hd (hel.perm (order_perm hp)) (mem_perm hmem (order_perm hp)) (by rw [order_size hp]; exact hf') (fun x => hl.trans (hled x)) (fun x => hpl'.trans (hpl (by rw [order_size hp, hsz] at x; exact x)))
  exact wpAny_storeSet_of ho hd (h _ _ (Heap.SameBut.update s.heap a _) g1 (x1.congr (fun _ => rfl) (by rw [order_size hp, hsz]))) hbz

theorem room_X {c : Prop} {a : Addr} {o : Obj} {S : Str → Bool} {n more : Nat} {Q : Unit → Shared → Prop} (ho : s.heap.get? a = some o) (hX : SetX prog w c o S n) (hn : n ≤ 4) (hmore : more ≤ 4)
    (h : ∀ h' o', Heap.SameBut a s.heap h' → h'.get? a = some o' → SetX prog w c o' S n → Q () { s with heap := h' }) :
    wpAny (model prog w) A (setRoomFor a more) Q E s := by
  obtain ⟨hex, es, ep, t, hd, hel, hmem, hsz, hf, hled, hpl⟩ := id hX
  unfold setRoomFor
  refine wpAny_bind (wpAny_setState_of ho hd hf ?_)
  dsimp only
  unfold SetTable.roomFor
  have hp : t.place.size = n := by
    simp only [SetTable.fits, Bool.and_eq_true, beq_iff_eq] at hf
    omega
  rw [hp]
  by_cases hc : (t.fill + more) * 5 ≥ t.mask * 3
  · rw [if_pos hc]
    dsimp only
    refine relay_X ho hX ?_ ?_ h
    · have : ∀ m ≤ 16, okMask (SetTable.sizeAbove m - 1) := by unfold okMask; decide +kernel
      exact this _ (by omega)
    · have : ∀ n ≤ 4, ∀ more ≤ 4, n ≤ SetTable.sizeAbove ((n + more) * 2) - 1 := by decide +kernel
      exact this _ hn _ hmore
  · rw [if_neg hc]
    exact wpAny_pure (h s.heap o (Heap.SameBut.refl a s.heap) ho hX)

theorem forIn_inv {α β : Type} {f : α → β → Sem (ForInStep β)} (b : β) {Q : β → Shared → Prop} (I : List α → Shared → Prop)
    (step : ∀ e rest s, I (e :: rest) s → wpAny (model prog w) A (f e b) (fun r s' => r = .yield b ∧ I rest s') E s) :
    ∀ (l : List α) (s : Shared), I l s → (∀ s', I [] s' → Q b s') → wpAny (model prog w) A (forIn l b f) Q E s
  | [], s, hi, fin => by rw [List.forIn_nil]; exact wpAny_pure (fin s hi)
  | e :: rest, s, hi, fin => by
    rw [List.forIn_cons]
    refine wpAny_bind (wpAny_mono (step e rest s hi) (fun r s' h' => ?_) fun _ _ x => x)
    obtain ⟨rfl, h'⟩ := h'
    exact forIn_inv b I step rest s' h' fin

theorem str_of {v : Value} {k : Str} (h : (PySem.strKind prog w).is k v = true) : ∃ t, v = .str k t := Value.isStrOf_shape h

/-- the sets are sets of strs: no __eq__ of theirs can be seen -/
theorem quiet_X {l : List Addr} {Q : Bool → Shared → Prop} (hl : ∀ a ∈ l, ∃ o c S n, s.heap.get? a = some o ∧ SetX prog w c o S n) (h : Q true s) : wpAny (model prog w) A (setsQuiet l) Q E s := by
  unfold setsQuiet
  refine wpAny_bind (forIn_inv _ (fun l' s' => (∀ a ∈ l', a ∈ l) ∧ s' = s) (fun a rest s' hi => ?_) l s ⟨fun _ x => x, rfl⟩ fun s' hi => ?_)
  · obtain ⟨hin, rfl⟩ := hi
    obtain ⟨o, c, S, n, ho, hex, es, ep, t, hd, hel, hmem, hsz, hf, hled, hpl⟩ := hl a (hin a List.mem_cons_self)
    refine wpAny_bind (wpAny_setEntries_of ho hd hf ?_)
    rw [← Array.forIn_toList]
    refine wpAny_bind (forIn_inv _ (fun l' s'' => (∀ e ∈ l', e ∈ es.toList) ∧ s'' = s') (fun e rest' s'' hi' => ?_) es.toList s' ⟨fun _ x => x, rfl⟩ fun s'' hi' => ?_)
    · obtain ⟨hin', rfl⟩ := hi'
      obtain ⟨⟨k, hk, _⟩, _⟩ := hel e (hin' e List.mem_cons_self)
      obtain ⟨t', ht'⟩ := str_of hk
      obtain ⟨e1, e2⟩ := e
      dsimp only at ht'
      subst ht'
      exact wpAny_pure ⟨rfl, fun e he => hin' e (List.mem_cons_of_mem _ he), rfl⟩
    · obtain ⟨_, rfl⟩ := hi'
      exact wpAny_pure ⟨rfl, fun e he => hin e (List.mem_cons_of_mem _ he), rfl⟩
  · obtain ⟨_, rfl⟩ := hi
    exact wpAny_pure h

theorem eraseIdx_perm {α : Type} : ∀ (l : List α) (i : Nat) (h : i < l.length), List.Perm ([l[i]] ++ l.eraseIdx i) l
  | [], _, h => absurd h (Nat.not_lt_zero _)
  | x :: l, 0, _ => .rfl
  | x :: l, i + 1, h => by
    have ih := eraseIdx_perm l i (Nat.lt_of_succ_lt_succ h)
    rw [List.eraseIdx_cons_succ]
    exact (List.Perm.swap _ _ _).trans (List.Perm.cons x ih)

theorem pickOrder_perm {α : Type} (next : Nat → Nat) (xs : Array α) : List.Perm (pickOrder next xs).toList xs.toList := by
  have key : ∀ (fuel k : Nat) (left : List α) (out : Array α), left.length ≤ fuel → List.Perm (pickOrder.go next fuel k left out).toList (out.toList ++ left) := by
    intro fuel
    induction fuel with
    | zero => intro k left out hl; have : left = [] := List.length_eq_zero_iff.mp (by omega); subst this; unfold pickOrder.go; simp
    | succ fuel ih =>
      intro k left out hl
      unfold pickOrder.go
      cases hq : left[next k % left.length]? with
      | some x =>
        dsimp only
        have hlt : next k % left.length < left.length := (List.getElem?_eq_some_iff.mp hq).1
        refine (ih (k + 1) _ _ (by rw [List.length_eraseIdx_of_lt hlt]; omega)).trans ?_
        rw [Array.toList_push, List.append_assoc]
        refine List.Perm.append_left _ ?_
        have hx : left[next k % left.length] = x := (List.getElem?_eq_some_iff.mp hq).2
        rw [← hx]
        exact (eraseIdx_perm left _ hlt)
      | none =>
        dsimp only
        have : left = [] := by
          cases left with
          | nil => rfl
          | cons y r => have := List.getElem?_eq_none_iff.mp hq; have := Nat.mod_lt (next k) (show 0 < (y :: r).length by simp); omega
        subst this; simp
  unfold pickOrder
  exact (key xs.size 0 xs.toList #[] (by simp)).trans (by simp)

/-- what a walk that nobody sees hands out: the elements in some order; the set that is filled may be marked -/
theorem walk_X {c : Prop} {a : Addr} {others : List Addr} {o : Obj} {S : Str → Bool} {n : Nat} {f : Addr} {c' : Prop} {of : Obj} {Sf : Str → Bool} {nf : Nat} {Q : Array (Int × Value) → Shared → Prop}
    (ho : s.heap.get? a = some o) (hX : SetX prog w c o S n) (hc : n ≠ 0 → c) (hoth : ∀ b ∈ others, ∃ o c S n, s.heap.get? b = some o ∧ SetX prog w c o S n)
    (hof : s.heap.get? f = some of) (hXf : SetX prog w c' of Sf nf) (hfl : nf ≤ 4)
    (h : ∀ es es' h' of', (∃ ep t, o.data = .set es ep t) → List.Perm es'.toList es.toList → Heap.SameBut f s.heap h' → h'.get? f = some of' → SetX prog w c' of' Sf nf → Q es' { s with heap := h' }) :
    wpAny (model prog w) A (setWalkUnseen a others (some f)) Q E s := by
  obtain ⟨hex, es, ep, t, hd, hel, hmem, hsz, hf, hled, hpl⟩ := id hX
  have triv : ∀ es' : Array (Int × Value), List.Perm es'.toList es.toList → Q es' s := fun es' hp => h es es' s.heap of ⟨ep, t, hd⟩ hp (Heap.SameBut.refl f s.heap) hof hXf
  have led : n ≠ 0 → t.led = ledOf w := fun x => hled (hc x)
  unfold setWalkUnseen setsByText
  refine wpAny_bind (wpAny_setState_of ho hd hf ?_)
  dsimp only
  refine wpAny_bind (wpAny_bind (wpAny_askSetting (wpAny_pure ?_)))
  show wpAny _ _ (if (w.params.followText "set-order" || t.led && t.plain || decide (es.size ≤ 1)) = true then _ else _) _ _ _
  split
  · rename_i hcond
    unfold setWalk setsByText
    refine wpAny_bind (wpAny_setState_of ho hd hf ?_)
    dsimp only
    refine wpAny_bind (wpAny_bind (wpAny_askSetting (wpAny_pure ?_)))
    show wpAny _ _ (if (w.params.followText "set-order") = true then _ else _) _ _ _
    by_cases ht : w.params.followText "set-order" = true
    · rw [if_pos ht]
      refine wpAny_bind (wpAny_askSetting (wpAny_pure ?_))
      exact triv _ (pickOrder_perm _ _)
    · rw [if_neg ht]
      have hl : ledOf w = true := by unfold ledOf; simpa using ht
      have hcond' : (t.led = true ∧ t.plain = true) ∨ es.size ≤ 1 := by
        simp only [Bool.or_eq_true, Bool.and_eq_true, decide_eq_true_eq] at hcond
        rcases hcond with (hcond | hcond) | hcond
        · exact absurd hcond ht
        · exact .inl hcond
        · exact .inr hcond
      show wpAny _ _ (if (!t.plain && decide (es.size > 1)) = true then _ else _) _ _ _
      rw [if_neg (by
        simp only [Bool.and_eq_true, decide_eq_true_eq, Bool.not_eq_true', not_and]
        rintro hp
        rcases hcond' with ⟨_, hq⟩ | hq
        · rw [hp] at hq; cases hq
        · omega)]
      refine wpAny_bind ?_
      show wpAny _ _ (if (!t.led && decide (es.size > 1)) = true then _ else _) _ _ _
      rw [if_neg (by
        simp only [Bool.and_eq_true, decide_eq_true_eq, Bool.not_eq_true', not_and]
        rintro hp
        rcases hcond' with ⟨hq, _⟩ | hq
        · rw [hp] at hq; cases hq
        · omega)]
      exact wpAny_pure (wpAny_pure (triv _ .rfl))
  · rename_i hcond
    have hn0 : n ≠ 0 := by
      intro e
      apply hcond
      simp only [Bool.or_eq_true, decide_eq_true_eq]
      right; omega
    refine wpAny_bind (quiet_X (fun b hb => ?_) ?_)
    · rcases List.mem_cons.mp hb with rfl | hb
      · exact ⟨o, c, S, n, ho, hX⟩
      · exact hoth b hb
    rw [if_neg (by decide)]
    refine wpAny_bind (wpAny_rule ?_)
    obtain ⟨fex, fs, fep, ft, fd, fel, fmem, fsz, ff, fled, fpl⟩ := id hXf
    refine wpAny_bind (wpAny_setState_of hof fd ff ?_)
    dsimp only
    split
    · obtain ⟨g1, x1⟩ := SetX.store (prog := prog) (w := w) (c' := c') (S' := Sf) (es' := fs) (t' := { ft with led := ft.led && t.led, plain := ft.plain && t.plain }) hof fex fd fel fmem (by cases ft; exact ff) (fun x => by
        show (ft.led && t.led) = ledOf w
        rw [fled x, led hn0, Bool.and_self]) (fun _ => by show (ft.plain && t.plain) = false; rw [hpl hn0, Bool.and_false])
      refine wpAny_bind (wpAny_storeSet_of hof fd (wpAny_pure ?_) (by rw [sizeLine_eq]; omega))
      exact h es es _ _ ⟨ep, t, hd⟩ .rfl (Heap.SameBut.update s.heap f _) g1 (x1.congr (fun _ => rfl) fsz)
    · exact wpAny_pure (triv _ .rfl)
end
end Mine
end
section -- MSetC
set_option maxRecDepth 100000
namespace Mine
open PySem PySem.W PyProof.Rows

theorem emp_iff {α : Type} (es : Array α) : es.isEmpty = true ↔ es.size = 0 := by
  unfold Array.isEmpty
  exact decide_eq_true_iff
theorem sub_set_frozen : isSubtype (.type "set") (.type "frozenset") = pure false := by rw [isSubtype_type]; kernel_rfl

section
variable {prog : Program} {w : World} {A : Around} {E : Value → Shared → Prop} {s : Shared}

def freshO (w : World) : Obj := { cls := .type "set", dict := none, data := .set #[] 0 (.fresh 0 0 (ledOf w)) }
theorem freshO_X : SetX prog w True (freshO w) (fun _ => false) 0 := setX_fresh

theorem SetX.typeIs {c : Prop} {a : Addr} {o : Obj} {S : Str → Bool} {n : Nat} (h : SetX prog w c o S n) (ho : s.heap.get? a = some o) : s.TypeIs (.ref a) "set" := ⟨o, ho, h.1.1⟩

theorem baseOf_X {c : Prop} {a : Addr} {o : Obj} {S : Str → Bool} {n : Nat} {Q : Value → Shared → Prop} (ho : s.heap.get? a = some o) (hX : SetX prog w c o S n) (h : Q (.type "set") s) : wpAny (model prog w) A (Builtin.Frozenset.baseOf a) Q E s := by
  unfold Builtin.Frozenset.baseOf
  exact wpAny_bind (wpAny_isInstance (hX.typeIs ho) sub_set_self (wpAny_pure h))
theorem anySet_X {c : Prop} {a : Addr} {o : Obj} {S : Str → Bool} {n : Nat} {Q : Bool → Shared → Prop} (ho : s.heap.get? a = some o) (hX : SetX prog w c o S n) (h : Q true s) : wpAny (model prog w) A (Builtin.Frozenset.isAnySet (.ref a)) Q E s := by
  unfold Builtin.Frozenset.isAnySet
  exact wpAny_bind (wpAny_isInstance (hX.typeIs ho) sub_set_self (wpAny_pure h))
theorem sizeOf_X {c : Prop} {a : Addr} {o : Obj} {S : Str → Bool} {n : Nat} {Q : Nat → Shared → Prop} (ho : s.heap.get? a = some o) (hX : SetX prog w c o S n) (h : Q n s) : wpAny (model prog w) A (Builtin.Frozenset.sizeOf a) Q E s := by
  obtain ⟨_, es, ep, t, hd, _, _, hsz, hf, _⟩ := hX
  unfold Builtin.Frozenset.sizeOf
  exact wpAny_bind (wpAny_setEntries_of ho hd hf (wpAny_pure (by rw [hsz]; exact h)))
theorem epoch_X {c : Prop} {a : Addr} {o : Obj} {S : Str → Bool} {n : Nat} {Q : Nat → Shared → Prop} (ho : s.heap.get? a = some o) (hX : SetX prog w c o S n) (h : ∀ es ep t, o.data = .set es ep t → Q ep s) : wpAny (model prog w) A (setEpoch a) Q E s := by
  obtain ⟨_, es, ep, t, hd, _, _, hsz, hf, _⟩ := hX
  exact wpAny_setEpoch_of ho hd hf (h es ep t hd)
theorem unchanged_X {c : Prop} {a : Addr} {o : Obj} {S : Str → Bool} {n : Nat} {id : String} {es : Array (Int × Value)} {ep : Nat} {t : SetTable} {Q : Unit → Shared → Prop} (ho : s.heap.get? a = some o) (hX : SetX prog w c o S n) (hd : o.data = .set es ep t) (h : Q () s) : wpAny (model prog w) A (Builtin.Frozenset.unchanged id a ep) Q E s := by
  unfold Builtin.Frozenset.unchanged
  refine wpAny_bind (epoch_X ho hX fun es' ep' t' e => ?_)
  rw [hd] at e
  injection e with _ e _
  subst e
  rw [if_neg (by simp)]
  exact wpAny_pure h

theorem sameBut_get {a b : Addr} {h h' : Heap} (hs : Heap.SameBut a h h') (hn : b ≠ a) {o : Obj} (e : h.get? b = some o) : h'.get? b = some o := (hs.2 b hn).trans e

/-- the sets met one by one and added where a test says so -/
theorem fill_X {r : Addr} {K : Value → Bool} {f : (Int × Value) → PUnit → Sem (ForInStep PUnit)} {Inv : Heap → Prop} {S₀ : Str → Bool} {n₀ m : Nat} {Q : PUnit → Shared → Prop}
    (step : ∀ (k : Str) (tk : Tok) (s' : Shared) (o' : Obj) (S' : Str → Bool) (n' : Nat), Inv s'.heap → s'.heap.get? r = some o' → SetX prog w True o' S' n' → n' + 1 < scanBound →
      wpAny (model prog w) A (f ((PySem.strKind prog w).hash k, .str k tk) PUnit.unit) (fun q s'' => q = .yield PUnit.unit ∧ ∃ h'' o'' S'' n'', s'' = { s' with heap := h'' } ∧ Inv h'' ∧ h''.get? r = some o'' ∧ SetX prog w True o'' S'' n'' ∧ n'' ≤ n' + 1 ∧ Heap.SameBut r s'.heap h'' ∧ ∀ j, S'' j = (S' j || (decide (j = k) && K (.str k 0)))) E s')
    {o : Obj} (hi : Inv s.heap) (ho : s.heap.get? r = some o) (hX : SetX prog w True o S₀ n₀) {es : List (Int × Value)} (hel : ElemsOf (PySem.strKind prog w) es) (hm : n₀ + es.length ≤ m) (hmb : m + 1 < scanBound)
    (fin : ∀ h' o' S' n', Inv h' → h'.get? r = some o' → SetX prog w True o' S' n' → n' ≤ m → Heap.SameBut r s.heap h' → (∀ j, S' j = (S₀ j || (es.any fun e => (PySem.strKind prog w).is j e.2) && K (.str j 0))) → Q PUnit.unit { s with heap := h' }) :
    wpAny (model prog w) A (forIn es PUnit.unit f) Q E s := by
  refine forIn_inv PUnit.unit (fun l s' => ∃ h' o' S' n' done, s' = { s with heap := h' } ∧ es = done ++ l ∧ Inv h' ∧ h'.get? r = some o' ∧ SetX prog w True o' S' n' ∧ n' + l.length ≤ m ∧ Heap.SameBut r s.heap h' ∧
      ∀ j, S' j = (S₀ j || (done.any fun e => (PySem.strKind prog w).is j e.2) && K (.str j 0))) (fun e rest s' hi => ?_) es s ⟨s.heap, o, S₀, n₀, [], rfl, rfl, hi, ho, hX, hm, Heap.SameBut.refl r s.heap, fun j => by simp⟩ ?_
  · obtain ⟨h', o', S', n', done, rfl, hes, hi', ho', hX', hn', hsb, hS'⟩ := hi
    have he : e ∈ es := by rw [hes]; exact List.mem_append_right _ List.mem_cons_self
    obtain ⟨⟨k, hk, hh⟩, _⟩ := hel e he
    obtain ⟨tk, ht⟩ := str_of hk
    obtain ⟨e1, e2⟩ := e
    dsimp only at ht hh hk
    subst ht; subst hh
    rw [List.length_cons] at hn'
    refine wpAny_mono (step k tk _ o' S' n' hi' ho' hX' (by omega)) (fun q s'' hq => ?_) fun _ _ x => x
    obtain ⟨hy, h'', o'', S'', n'', rfl, hi'', ho'', hX'', hn'', hsb'', hS''⟩ := hq
    refine ⟨hy, h'', o'', S'', n'', done ++ [((PySem.strKind prog w).hash k, .str k tk)], rfl, by rw [hes, List.append_assoc]; rfl, hi'', ho'', hX'', by omega, hsb.trans hsb'', fun j => ?_⟩
    rw [hS'' j, hS' j, List.any_append, List.any_cons, List.any_nil, Bool.or_false]
    have e1 : (PySem.strKind prog w).is j (Value.str k tk) = decide (j = k) := KeyKind.is_eq_decide hk j
    rw [e1]
    by_cases hj : j = k
    · subst hj
      cases S₀ j <;> cases (done.any fun e => (PySem.strKind prog w).is j e.2) <;> cases K (.str j 0) <;> simp
    · rw [decide_eq_false hj]; simp
  · rintro s' ⟨h', o', S', n', done, rfl, hes, hi', ho', hX', hn', hsb, hS'⟩
    rw [List.append_nil] at hes
    subst hes
    exact fin h' o' S' n' hi' ho' hX' (by simpa using hn') hsb hS'

theorem any_X {es : Array (Int × Value)} {S : Str → Bool} {l : List (Int × Value)} (hmem : ∀ k, S k = true ↔ ∃ e ∈ es.toList, (PySem.strKind prog w).is k e.2 = true) (hp : List.Perm l es.toList) (j : Str) : (l.any fun e => (PySem.strKind prog w).is j e.2) = S j := by
  rw [Bool.eq_iff_iff, List.any_eq_true, hmem j]
  exact ⟨fun ⟨e, he, q⟩ => ⟨e, hp.mem_iff.mp he, q⟩, fun ⟨e, he, q⟩ => ⟨e, hp.mem_iff.mpr he, q⟩⟩

/-- a merge into a fresh set: a copy -/
theorem merge_fresh {c : Prop} {r a : Addr} {o : Obj} {S : Str → Bool} {n : Nat} {each : Sem Unit} {Q : Unit → Shared → Prop} (hra : r ≠ a) (hr : s.heap.get? r = some (freshO w)) (ho : s.heap.get? a = some o) (hX : SetX prog w c o S n) (hc : n ≠ 0 → c) (hn : n ≤ 4)
    (h : ∀ h' o', Heap.SameBut r s.heap h' → h'.get? r = some o' → SetX prog w True o' S n → (n = 0 → o' = freshO w) → Q () { s with heap := h' }) :
    wpAny (model prog w) A (setMerge r a each) Q E s := by
  obtain ⟨hex, es, ep, t, hd, hel, hmem, hsz, hf, hled, hpl⟩ := id hX
  unfold setMerge
  rw [if_neg (by simpa using hra)]
  refine wpAny_bind (wpAny_setState_of ho hd hf ?_)
  dsimp only
  by_cases h0 : n = 0
  · rw [if_pos (by rw [emp_iff]; omega)]
    refine wpAny_pure (h s.heap _ (Heap.SameBut.refl r s.heap) hr ?_ fun _ => rfl)
    subst h0
    exact freshO_X.congr (fun k => (hX.none_in k).symm) rfl
  · rw [if_neg (by rw [emp_iff]; omega)]
    have hled' : t.led = ledOf w := hled (hc h0)
    refine wpAny_bind ?_
    unfold setRoomFor
    refine wpAny_bind (wpAny_setState_of hr rfl (by rfl) ?_)
    dsimp only
    have hnone : (SetTable.fresh 0 0 (ledOf w)).roomFor es.size = none := by
      unfold SetTable.roomFor
      rw [if_neg (by rw [hsz]; show ¬ (0 + n) * 5 ≥ 7 * 3; omega)]
    rw [hnone]
    refine wpAny_pure ?_
    refine wpAny_bind (wpAny_setState_of hr rfl (by rfl) ?_)
    dsimp only
    have hroad : (SetTable.fresh 0 0 (ledOf w)).road t = .slotForSlot ∨ (SetTable.fresh 0 0 (ledOf w)).road t = .clean := by
      unfold SetTable.road
      rw [if_neg (by show ¬ ((0 : Nat) != 0) = true; decide)]
      split
      · exact .inl rfl
      · exact .inr rfl
    rcases hroad with e | e
    · rw [e]
      dsimp only
      obtain ⟨g1, x1⟩ := SetX.store (prog := prog) (w := w) (c' := True) (S' := S) (es' := es) (t' := { t with finger := (SetTable.fresh 0 0 (ledOf w)).finger, led := (SetTable.fresh 0 0 (ledOf w)).led && t.led, moves := (SetTable.fresh 0 0 (ledOf w)).moves, plain := (SetTable.fresh 0 0 (ledOf w)).plain && t.plain })
        hr ⟨rfl, rfl, rfl⟩ rfl hel hmem (by cases t; exact hf) (fun _ => by show (ledOf w && t.led) = ledOf w; rw [hled', Bool.and_self]) (fun _ => by show (true && t.plain) = false; rw [hpl h0]; rfl)
      exact wpAny_storeSet_of hr rfl (h _ _ (Heap.SameBut.update s.heap r _) g1 (x1.congr (fun _ => rfl) hsz) fun x => absurd x h0) (by rw [sizeLine_eq]; omega)
    · rw [e]
      dsimp only
      obtain ⟨t', order, e', hl, hpl', hf', hp⟩ := laid_ok (mask := (SetTable.fresh 0 0 (ledOf w)).mask) (fg := (SetTable.fresh 0 0 (ledOf w)).finger) (mv := (SetTable.fresh 0 0 (ledOf w)).moves) (led := (SetTable.fresh 0 0 (ledOf w)).led && t.led) (plain := (SetTable.fresh 0 0 (ledOf w)).plain && t.plain) (.inl rfl) (es.map (·.1)) (by rw [Array.size_map, hsz]; show n ≤ 7; omega)
      rw [Array.size_map] at hf' hp
      rw [e']
      refine wpAny_bind ?_
      show wpAny _ _ (if ((order.filterMap (es[·]?)).size != es.size) = true then _ else _) _ _ _
      rw [if_neg (by rw [order_size hp]; simp)]
      refine wpAny_pure ?_
      dsimp only
      obtain ⟨g1, x1⟩ := SetX.store (prog := prog) (w := w) (c' := True) (S' := S) (es' := order.filterMap (es[·]?)) (t' := t') hr ⟨rfl, rfl, rfl⟩ rfl (hel.perm (order_perm hp)) (mem_perm hmem (order_perm hp)) (by rw [order_size hp]; exact hf')
        (fun _ => by rw [hl]; show (ledOf w && t.led) = ledOf w; rw [hled', Bool.and_self]) (fun _ => by rw [hpl']; show (true && t.plain) = false; rw [hpl h0]; rfl)
      exact wpAny_storeSet_of hr rfl (h _ _ (Heap.SameBut.update s.heap r _) g1 (x1.congr (fun _ => rfl) (by rw [order_size hp, hsz])) fun x => absurd x h0) (by rw [order_size hp, sizeLine_eq]; omega)

/-- a merge into a set that holds something -/
theorem merge_full {c : Prop} {r a : Addr} {o or : Obj} {S Sr : Str → Bool} {n nr : Nat} {each : Sem Unit} {Q : Unit → Shared → Prop} (hra : r ≠ a) (hr : s.heap.get? r = some or) (hXr : SetX prog w True or Sr nr) (hnr : nr ≠ 0) (hnr4 : nr ≤ 4)
    (ho : s.heap.get? a = some o) (hX : SetX prog w c o S n) (hc : n ≠ 0 → c) (hn : n ≤ 4)
    (heach : ∀ (s' : Shared), s'.heap.get? a = some o → wpAny (model prog w) A each (fun _ s'' => s'' = s') E s')
    (h : ∀ h' o' S' n', Heap.SameBut r s.heap h' → h'.get? r = some o' → SetX prog w True o' S' n' → n' ≤ nr + n → (∀ j, S' j = (Sr j || S j)) → Q () { s with heap := h' }) :
    wpAny (model prog w) A (setMerge r a each) Q E s := by
  obtain ⟨hex, es, ep, t, hd, hel, hmem, hsz, hf, hled, hpl⟩ := id hX
  unfold setMerge
  rw [if_neg (by simpa using hra)]
  refine wpAny_bind (wpAny_setState_of ho hd hf ?_)
  dsimp only
  by_cases h0 : n = 0
  · rw [if_pos (by rw [emp_iff]; omega)]
    refine wpAny_pure (h s.heap _ Sr nr (Heap.SameBut.refl r s.heap) hr hXr (by omega) fun j => ?_)
    subst h0
    rw [hX.none_in j, Bool.or_false]
  · rw [if_neg (by rw [emp_iff]; omega)]
    refine wpAny_bind (room_X hr hXr hnr4 (by rw [hsz]; exact hn) fun h1 o1 hs1 hr1 hX1 => ?_)
    have ho1 : h1.get? a = some o := sameBut_get hs1 (Ne.symm hra) ho
    obtain ⟨rex, rs, rep, rt, rd, rel, rmem, rsz, rf, rled, rpl⟩ := id hX1
    refine wpAny_bind (wpAny_setState_of (s := { s with heap := h1 }) hr1 rd rf ?_)
    dsimp only
    have hroad : rt.road t = .oneByOne := by
      unfold SetTable.road
      rw [if_pos]
      simp only [SetTable.fits, Bool.and_eq_true, beq_iff_eq] at rf
      simp only [SetTable.fill, bne_iff_ne]
      omega
    rw [hroad]
    dsimp only
    refine wpAny_bind (walk_X (s := { s with heap := h1 }) (f := r) (others := [r]) ho1 hX hc (fun b hb => ?_) hr1 hX1 hnr4 fun es0 es' h2 o2 hes0 hp hs2 hr2 hX2 => ?_)
    · rw [List.mem_singleton.mp hb]; exact ⟨o1, True, Sr, nr, hr1, hX1⟩
    obtain ⟨ep0, t0, hd0⟩ := hes0
    rw [hd] at hd0
    injection hd0 with hd0 _ _
    subst hd0
    rw [← Array.forIn_toList]
    have ho2 : h2.get? a = some o := sameBut_get hs2 (Ne.symm hra) ho1
    have hlen : es'.toList.length = n := by rw [hp.length_eq]; simpa using hsz
    refine wpAny_bind (fill_X (s := { s with heap := h2 }) (r := r) (K := fun _ => true) (Inv := fun g => g.get? a = some o) (m := nr + n) (fun k tk s' o' S' n' hi' ho' hX' hb' => ?_) ho2 hr2 hX2 (hel.perm hp) (by omega) (by unfold scanBound; omega) fun h' o' S' n' hi' ho' hX' hm' hsb' hS' => ?_)
    · dsimp only
      refine wpAny_bind (wpAny_holding (add_X ho' hX' hb' fun h'' o'' hsb'' ho'' hX'' => ?_))
      have ha'' : h''.get? a = some o := sameBut_get hsb'' (Ne.symm hra) hi'
      refine wpAny_bind (wpAny_mono (heach { s' with heap := h'' } ha'') (fun _ s3 e3 => ?_) fun _ _ x => x)
      subst e3
      refine wpAny_bind (wpAny_setState_of (s := { s' with heap := h'' }) ha'' hd hf ?_)
      dsimp only
      rw [if_neg (by simp)]
      refine wpAny_pure ⟨rfl, h'', o'', _, _, rfl, ha'', ho'', hX'', ?_, hsb'', fun j => ?_⟩
      · split <;> omega
      · rw [Bool.and_true]
    · refine wpAny_pure (h h' o' S' n' (hs1.trans (hs2.trans hsb')) ho' hX' hm' fun j => ?_)
      rw [hS' j, any_X hmem hp j, Bool.and_true]
end
end Mine
end
section -- MSetD
set_option maxRecDepth 100000
namespace Mine
open PySem PySem.W PyProof.Rows

theorem alias_T {id id' : String} {b : Builtin} (h1 : entriesT.find (code id) = none) (h2 : id.cutAt '#' = [id])
    (h3 : S.canonicalZ (String.map (fun c => if (c.isAlphanum || c == '_' || c == '.') = true then c else '_') id) ++ "" = id') (h4 : entriesT.find (code id') = some b) : entryFor table id = some b :=
  entryFor_alias (id' := id') (by rw [fastTable_eq_tree]; exact h1) h2 (by rw [S.canonicalZ_eq]; exact h3) (by rw [fastTable_eq_tree]; exact h4)
theorem entry_set_or : entryFor table "set.__or__" = some Builtin.«frozenset.__or__» :=
  alias_T (id' := "frozenset.__or__") (by kernel_rfl) rfl (by kernel_rfl) (by kernel_rfl)
theorem entry_set_sub : entryFor table "set.__sub__" = some Builtin.«frozenset.__sub__» :=
  alias_T (id' := "frozenset.__sub__") (by kernel_rfl) rfl (by kernel_rfl) (by kernel_rfl)
theorem entry_set_iter : entryFor table "set.__iter__" = some Builtin.«frozenset.__iter__» :=
  alias_T (id' := "frozenset.__iter__") (by kernel_rfl) rfl (by kernel_rfl) (by kernel_rfl)

section
variable {prog : Program} {w : World} {A : Around} {E : Value → Shared → Prop} {s : Shared}

def Kept (h h' : Heap) : Prop := ∀ b o, h.get? b = some o → h'.get? b = some o
theorem kept_push {h : Heap} (o : Obj) : Kept h (h.push o) := fun _ _ e => Heap.get?_push_of_some _ e
theorem kept_new {h h1 h' : Heap} (k : Kept h h1) (hs : Heap.SameBut h.objs.size h1 h') : Kept h h' := fun b o e => (hs.2 b (Nat.ne_of_lt (Heap.lt_size e))).trans (k b o e)

theorem copy_X {c : Prop} {a : Addr} {o : Obj} {S : Str → Bool} {n : Nat} {Q : Value → Shared → Prop} (ho : s.heap.get? a = some o) (hX : SetX prog w c o S n) (hc : n ≠ 0 → c) (hn : n ≤ 4)
    (h : ∀ h' o', Kept s.heap h' → h'.get? s.heap.objs.size = some o' → SetX prog w True o' S n → (n = 0 → o' = freshO w) → Q (.ref s.heap.objs.size) { s with heap := h' }) :
    wpAny (model prog w) A (Builtin.Frozenset.copyOf a) Q E s := by
  unfold Builtin.Frozenset.copyOf
  refine wpAny_bind (baseOf_X ho hX ?_)
  refine wpAny_bind (newSet_X ?_)
  refine wpAny_bind (wpAny_pure ?_)
  have hne : s.heap.objs.size ≠ a := Nat.ne_of_gt (Heap.lt_size ho)
  refine wpAny_bind (merge_fresh (s := { s with heap := s.heap.push (freshO w) }) hne (Heap.get?_push_size _ rfl) (Heap.get?_push_of_some _ ho) hX hc hn fun h' o' hs ho' hX' hz => ?_)
  exact wpAny_pure (h h' o' (kept_new (kept_push _) hs) ho' hX' hz)

theorem union_X {ca cb : Prop} {a b : Addr} {oa ob : Obj} {Sa Sb : Str → Bool} {na nb : Nat} {P : Fin → Shared → Prop} (hab : a ≠ b)
    (ha : s.heap.get? a = some oa) (hXa : SetX prog w ca oa Sa na) (hca : na ≠ 0 → ca) (hna : na ≤ 4) (hb : s.heap.get? b = some ob) (hXb : SetX prog w cb ob Sb nb) (hcb : nb ≠ 0 → cb) (hnb : nb ≤ 4)
    (h : ∀ h' o' S' n', Kept s.heap h' → h'.get? s.heap.objs.size = some o' → SetX prog w True o' S' n' → n' ≤ 8 → (∀ j, S' j = (Sa j || Sb j)) → P (.done (.ret (.ref s.heap.objs.size))) { s with heap := h' }) :
    wpAny (model prog w) A (Builtin.«frozenset.__or__» ⟨[.ref a, .ref b], []⟩) P E s := by
  show wpAny _ _ (bind (Builtin.Frozenset.isAnySet (.ref a) <&&> Builtin.Frozenset.isAnySet (.ref b)) _) _ _ _
  refine wpAny_bind ?_
  show wpAny _ _ (bind (Builtin.Frozenset.isAnySet (.ref a)) _) _ _ _
  refine wpAny_bind (anySet_X ha hXa ?_)
  show wpAny _ _ (Builtin.Frozenset.isAnySet (.ref b)) _ _ _
  refine anySet_X hb hXb ?_
  show wpAny _ _ (bind (pure a) _) _ _ _
  refine wpAny_bind (wpAny_pure ?_)
  refine wpAny_bind ?_
  show wpAny _ _ (bind (Builtin.Frozenset.copyOf a) _) _ _ _
  refine wpAny_bind (copy_X ha hXa hca hna fun h1 o1 k1 g1 X1 hz => ?_)
  show wpAny _ _ (if (Value.ref b != Value.ref a) = true then _ else _) _ _ _
  have hne : (Value.ref b != Value.ref a) = true := by
    rw [bne_iff_ne]; intro e; injection e with e; exact hab e.symm
  rw [if_pos hne]
  have hb1 := k1 b ob hb
  have hlt : s.heap.objs.size ≠ b := Nat.ne_of_gt (Heap.lt_size hb)
  refine wpAny_bind (wpAny_pure ?_)
  refine wpAny_bind (wpAny_holding ?_)
  unfold Builtin.Frozenset.updateFrom
  refine wpAny_bind (anySet_X (s := { s with heap := h1 }) hb1 hXb ?_)
  rw [if_pos rfl]
  refine wpAny_bind (wpAny_pure ?_)
  unfold Builtin.Frozenset.merge
  refine wpAny_bind (epoch_X (s := { s with heap := h1 }) hb1 hXb fun es ep t hd => ?_)
  by_cases h0 : na = 0
  · have e1 := hz h0
    subst e1
    refine merge_fresh (s := { s with heap := h1 }) hlt g1 hb1 hXb hcb hnb fun h' o' hs ho' hX' _ => ?_
    refine wpAny_pure (wpAny_pure (h h' o' _ _ (kept_new k1 hs) ho' hX' (by omega) fun j => ?_))
    subst h0
    rw [hXa.none_in j, Bool.false_or]
  · refine merge_full (s := { s with heap := h1 }) hlt g1 X1 h0 hna hb1 hXb hcb hnb (fun s' hs' => unchanged_X hs' hXb hd rfl) fun h' o' S' n' hs ho' hX' hn' hS' => ?_
    exact wpAny_pure (wpAny_pure (h h' o' S' n' (kept_new k1 hs) ho' hX' (by omega) hS'))

theorem diff_X {ca cb : Prop} {a b : Addr} {oa ob : Obj} {Sa Sb : Str → Bool} {na nb : Nat} {P : Fin → Shared → Prop} (hab : a ≠ b)
    (ha : s.heap.get? a = some oa) (hXa : SetX prog w ca oa Sa na) (hca : na ≠ 0 → ca) (hna : na ≤ 4) (hb : s.heap.get? b = some ob) (hXb : SetX prog w cb ob Sb nb) (hcb : nb ≠ 0 → cb) (hnb : nb ≤ 4)
    (h : ∀ h' o' S' n', Kept s.heap h' → h'.get? s.heap.objs.size = some o' → SetX prog w True o' S' n' → n' ≤ 4 → (∀ j, S' j = (Sa j && !Sb j)) → P (.done (.ret (.ref s.heap.objs.size))) { s with heap := h' }) :
    wpAny (model prog w) A (Builtin.«frozenset.__sub__» ⟨[.ref a, .ref b], []⟩) P E s := by
  show wpAny _ _ (bind (Builtin.Frozenset.isAnySet (.ref a) <&&> Builtin.Frozenset.isAnySet (.ref b)) _) _ _ _
  refine wpAny_bind ?_
  show wpAny _ _ (bind (Builtin.Frozenset.isAnySet (.ref a)) _) _ _ _
  refine wpAny_bind (anySet_X ha hXa ?_)
  show wpAny _ _ (Builtin.Frozenset.isAnySet (.ref b)) _ _ _
  refine anySet_X hb hXb ?_
  show wpAny _ _ (bind (pure a) _) _ _ _
  refine wpAny_bind (wpAny_pure ?_)
  refine wpAny_bind ?_
  unfold Builtin.Frozenset.difference
  dsimp only
  refine wpAny_bind (anySet_X hb hXb ?_)
  rw [if_neg (by decide)]
  refine wpAny_bind (wpAny_pure ?_)
  rw [if_neg (by simp), if_pos rfl]
  refine wpAny_bind (sizeOf_X hb hXb ?_)
  refine wpAny_bind (sizeOf_X ha hXa ?_)
  by_cases hbig : na / 4 > nb
  · rw [if_pos hbig]
    refine wpAny_bind (wpAny_rule ?_)
    refine wpAny_bind (copy_X ha hXa hca hna fun h1 o1 k1 g1 X1 hz => ?_)
    refine wpAny_bind (wpAny_pure ?_)
    have hb1 := k1 b ob hb
    have hnb0 : nb = 0 := by omega
    have hlt : s.heap.objs.size ≠ b := Nat.ne_of_gt (Heap.lt_size hb)
    refine wpAny_bind (wpAny_holding ?_)
    unfold Builtin.Frozenset.differenceUpdate
    rw [if_neg (by rw [beq_iff_eq]; intro e; injection e with e; exact hlt e.symm)]
    refine wpAny_bind (anySet_X (s := { s with heap := h1 }) hb1 hXb ?_)
    dsimp only
    rw [if_pos rfl]
    refine wpAny_bind (wpAny_pure ?_)
    refine wpAny_bind (sizeOf_X (s := { s with heap := h1 }) hb1 hXb ?_)
    refine wpAny_bind (sizeOf_X (s := { s with heap := h1 }) g1 X1 ?_)
    rw [if_neg (by omega)]
    refine wpAny_bind (epoch_X (s := { s with heap := h1 }) hb1 hXb fun es ep t hd => ?_)
    refine wpAny_bind (wpAny_holding ?_)
    -- the other is empty: its walk hands out nothing
    obtain ⟨bex, bs, bep, bt, bd, bel, bmem, bsz, bf, bled⟩ := id hXb
    have hbs : bs = #[] := by rw [← Array.size_eq_zero_iff]; omega
    subst hbs
    refine wpAny_bind ?_
    unfold setWalkUnseen setsByText
    refine wpAny_bind (wpAny_setState_of (s := { s with heap := h1 }) hb1 bd bf ?_)
    dsimp only
    refine wpAny_bind (wpAny_bind (wpAny_askSetting (wpAny_pure ?_)))
    rw [if_pos (by simp)]
    unfold setWalk setsByText
    refine wpAny_bind (wpAny_setState_of (s := { s with heap := h1 }) hb1 bd bf ?_)
    dsimp only
    refine wpAny_bind (wpAny_bind (wpAny_askSetting (wpAny_pure ?_)))
    have fin : wpAny (model prog w) A (setTidy s.heap.objs.size) (fun _ s' => wpAny (model prog w) A (pure (Value.ref s.heap.objs.size)) (fun v s'' => P (.done (.ret v)) s'') E s') E { s with heap := h1 } := by
      unfold setTidy
      obtain ⟨cex, cs, cep, ct, cd, cel, cmem, csz, cf, cled, cpl⟩ := id X1
      refine wpAny_bind (wpAny_setState_of (s := { s with heap := h1 }) g1 cd cf ?_)
      dsimp only
      have hS : ∀ j, Sa j = (Sa j && !Sb j) := fun j => by
        subst hnb0
        rw [hXb.none_in j]; simp
      split
      · refine relay_X (s := { s with heap := h1 }) g1 X1 ?_ ?_ fun h' o' hs ho' hX' => ?_
        · have : ∀ n ≤ 4, okMask (SetTable.sizeAbove (SetTable.grown n) - 1) := by unfold okMask; decide +kernel
          exact this _ (by omega)
        · have : ∀ n ≤ 4, n ≤ SetTable.sizeAbove (SetTable.grown n) - 1 := by decide +kernel
          rw [csz]; exact this _ hna
        · exact wpAny_pure (h h' o' Sa na (kept_new k1 hs) ho' hX' hna hS)
      · exact wpAny_pure (wpAny_pure (h h1 o1 Sa na k1 g1 X1 hna hS))
    have tail : ∀ bs' : Array (Int × Value), bs' = #[] → wpAny (model prog w) A (do
        forIn bs' PUnit.unit fun (x : Int × Value) (_ : PUnit) => (match x with
          | (h, x) => do
            let _ ← holding [x] (setDiscardHashed s.heap.objs.size x h)
            Builtin.Frozenset.unchanged "frozenset.__sub__" b ep
            pure (ForInStep.yield PUnit.unit) : Sem (ForInStep PUnit))
        pure ()) (fun _ s' => s' = { s with heap := h1 }) E { s with heap := h1 } := by
      rintro _ rfl
      exact wpAny_pure rfl
    split
    · refine wpAny_bind (wpAny_askSetting (wpAny_pure ?_))
      refine wpAny_mono (tail _ (by
        rw [← Array.toList_eq_nil_iff]
        exact (pickOrder_perm _ _).eq_nil)) (fun _ s' e => ?_) fun _ _ x => x
      subst e
      refine wpAny_mono fin (fun _ s' q => wpAny_mono q (fun v s'' q => wpAny_pure q) fun _ _ x => x) fun _ _ x => x
    · show wpAny _ _ (if (!bt.plain && decide ((#[] : Array (Int × Value)).size > 1)) = true then _ else _) _ _ _
      rw [if_neg (by simp)]
      refine wpAny_bind ?_
      show wpAny _ _ (if (!bt.led && decide ((#[] : Array (Int × Value)).size > 1)) = true then _ else _) _ _ _
      rw [if_neg (by simp)]
      refine wpAny_pure (wpAny_pure ?_)
      refine wpAny_mono (tail _ rfl) (fun _ s' e => ?_) fun _ _ x => x
      subst e
      refine wpAny_mono fin (fun _ s' q => wpAny_mono q (fun v s'' q => wpAny_pure q) fun _ _ x => x) fun _ _ x => x
  · rw [if_neg hbig]
    refine wpAny_bind (baseOf_X ha hXa ?_)
    refine wpAny_bind (newSet_X ?_)
    refine wpAny_bind (wpAny_pure ?_)
    have hneA : s.heap.objs.size ≠ a := Nat.ne_of_gt (Heap.lt_size ha)
    have hneB : s.heap.objs.size ≠ b := Nat.ne_of_gt (Heap.lt_size hb)
    have ha1 : (s.heap.push (freshO w)).get? a = some oa := Heap.get?_push_of_some _ ha
    have hb1 : (s.heap.push (freshO w)).get? b = some ob := Heap.get?_push_of_some _ hb
    have hr1 : (s.heap.push (freshO w)).get? s.heap.objs.size = some (freshO w) := Heap.get?_push_size _ rfl
    show wpAny (model prog w) A _ _ E { s with heap := s.heap.push (freshO w) }
    refine wpAny_bind (epoch_X (s := { s with heap := s.heap.push (freshO w) }) ha1 hXa fun es ep t hd => ?_)
    refine wpAny_bind (wpAny_holding ?_)
    rw [if_pos rfl]
    refine wpAny_bind (walk_X (s := { s with heap := s.heap.push (freshO w) }) (f := s.heap.objs.size) (others := [b, s.heap.objs.size]) ha1 hXa hca (fun x hx => ?_) hr1 freshO_X (by omega) fun es0 es' h2 o2 hes0 hp hs2 hr2 hX2 => ?_)
    · rcases List.mem_cons.mp hx with rfl | hx
      · exact ⟨ob, cb, Sb, nb, hb1, hXb⟩
      · rw [List.mem_singleton.mp hx]; exact ⟨_, True, _, _, hr1, freshO_X⟩
    obtain ⟨ep0, t0, hd0⟩ := hes0
    rw [hd] at hd0
    injection hd0 with hd0 _ _
    subst hd0
    obtain ⟨_, es1, ep1, t1, hd1, hel, hmem, hsz, _, _⟩ := id hXa
    rw [hd] at hd1
    injection hd1 with e1 e2 e3
    subst e1
    have ha2 : h2.get? a = some oa := sameBut_get hs2 (Ne.symm hneA) ha1
    have hb2 : h2.get? b = some ob := sameBut_get hs2 (Ne.symm hneB) hb1
    have hlen : es'.toList.length = na := by rw [hp.length_eq]; simpa using hsz
    rw [← Array.forIn_toList]
    refine wpAny_bind (fill_X (s := { s with heap := h2 }) (r := s.heap.objs.size) (K := fun v => match v with | .str k _ => !Sb k | _ => false) (Inv := fun g => g.get? a = some oa ∧ g.get? b = some ob) (m := na) (fun k tk s' o' S' n' hi' ho' hX' hb' => ?_) ⟨ha2, hb2⟩ hr2 hX2 (hel.perm hp) (by omega) (by unfold scanBound; omega) fun h' o' S' n' hi' ho' hX' hm' hsb' hS' => ?_)
    · dsimp only
      refine wpAny_bind (m := holding _ _) (wpAny_holding ?_)
      rw [if_pos rfl]
      refine wpAny_bind (wpAny_setFind_of (knd := PySem.strKind prog w) (strKind_is _ _ _ _) rfl (hXb.setOf hi'.2 (by unfold scanBound; omega)) fun q hq => ?_)
      refine wpAny_bind (wpAny_pure ?_)
      rw [hq]
      cases hSk : Sb k with
      | true =>
        rw [if_neg (by decide)]
        refine wpAny_pure ?_
        refine wpAny_bind (unchanged_X hi'.1 hXa hd ?_)
        exact wpAny_pure ⟨rfl, s'.heap, o', S', n', rfl, hi', ho', hX', by omega, Heap.SameBut.refl _ _, fun j => by simp⟩
      | false =>
        rw [if_pos (by decide)]
        refine wpAny_bind (add_X ho' hX' hb' fun h'' o'' hsb'' ho'' hX'' => wpAny_pure ?_)
        have ha'' : h''.get? a = some oa := sameBut_get hsb'' (Ne.symm hneA) hi'.1
        have hb'' : h''.get? b = some ob := sameBut_get hsb'' (Ne.symm hneB) hi'.2
        refine wpAny_bind (unchanged_X (s := { s' with heap := h'' }) ha'' hXa hd ?_)
        refine wpAny_pure ⟨rfl, h'', o'', _, _, rfl, ⟨ha'', hb''⟩, ho'', hX'', ?_, hsb'', fun j => ?_⟩
        · split <;> omega
        · simp
    · refine wpAny_pure (wpAny_pure (wpAny_pure (h h' o' S' n' ?_ ho' hX' (by omega) fun j => ?_)))
      · exact kept_new (kept_push _) (hs2.trans hsb')
      · rw [hS' j, any_X hmem hp j, Bool.false_or]
end
end Mine
end
section -- MSetE
set_option maxRecDepth 100000
namespace Mine
open PySem PySem.W PyProof.Rows

section
variable {prog : Program} {w : World} {A : Around} {E : Value → Shared → Prop} {s : Shared}

theorem code_set_new_L (a : Value) {Q₁ : Value → Shared → Prop} (h : Q₁ (.ref s.heap.objs.size) { s with heap := s.heap.push (freshO w) }) :
    codeAny (model prog w) A (.call (.builtin "set.__new__") ⟨[.type "set", a], []⟩) (wants Q₁ E) s := by
  refine codeAny_of_tree ?_
  show wpAny _ A.in1 (do checkBuiltinCall "set.__new__" ⟨[.type "set", a], []⟩; again (.builtin "set.__new__" ⟨[.type "set", a], []⟩)) _ _ s
  refine wpAny_bind (wpAny_of_eq (F.newCall_set_1 a) (wpAny_pure ⟨plainId_quiet F.plain_set_new _, codeAny_builtin F.entry_set_new ?_⟩))
  rw [Around.under_plainId F.plain_set_new _]
  unfold Builtin.«set.__new__» Builtin.Frozenset.newClass
  have hsub := sub_set_self
  obtain ⟨hp, g, d, tk, os⟩ := s
  dsimp only
  wp_walk
  refine wpAny_askSetting (wpAny_pure ?_)
  dsimp only
  simp only [newObj]
  refine wpAny_bind (wpAny_alloc (wpAny_pure ?_))
  exact wpAny_pure h

theorem loop_X {R : Result → Shared → Prop} {I : Addr} {fp wr : List Addr} {G : Array GenState → Array GenState → Prop} {n : Nat} {P : Nat → Value → Prop} {St : Nat → Shared → Prop}
    (W : WalksS prog w A.in1 I fp wr G n P St) (S : Addr) (hSf : S ∉ fp) (val : Nat → Str) (hval : ∀ i v, P i v → ∃ t, v = .str (val i) t) (hb : n + 1 < scanBound) :
    ∀ (k i : Nat) (s : Shared) (o : Obj) (X : Str → Bool) (m : Nat), n - i = k → i ≤ n → St i s → s.heap.get? S = some o → SetX prog w True o X m → m ≤ i → (∀ j, X j = ((List.range i).map val).contains j) →
      (∀ s' o' m', Moved (S :: wr) G s s' → s'.heap.get? S = some o' → SetX prog w True o' (fun j => ((List.range n).map val).contains j) m' → m' ≤ n → R (.ok (.ret .none)) s') →
      codeAny (model prog w) A (.builtin "set.update.loop" ⟨[.ref S, .ref I], []⟩) R s := by
  have hSw : S ∉ wr := fun h => hSf (W.sub _ h)
  have hsub : ∀ b ∈ wr, b ∈ S :: wr := fun b hb => List.mem_cons_of_mem _ hb
  intro k
  induction k with
  | zero =>
    intro i s o X m hk hi hst ho hX hm hXv hR
    have hin : i = n := by omega
    subst hin
    refine codeAny_builtin F.entry_set_update_loop ?_
    rw [Around.under_plainId F.plain_set_update_loop _]
    show wpAny _ A.in1 (pyNext (.ref I) >>= _) _ _ s
    refine wpAny_bind (W.done s _ _ hst fun s' hm' => ?_)
    show wpAny _ A.in1 (ret Value.none) _ _ s'
    exact wpAny_pure (hR s' o m (hm'.mono hsub) (hm'.heap S _ hSw ho) (hX.congr hXv rfl) hm)
  | succ k ih =>
    intro i s o X m hk hi hst ho hX hm hXv hR
    have hlt : i < n := by omega
    refine codeAny_builtin F.entry_set_update_loop ?_
    rw [Around.under_plainId F.plain_set_update_loop _]
    show wpAny _ A.in1 (pyNext (.ref I) >>= _) _ _ s
    refine wpAny_bind (W.item i s _ _ hlt hst fun v s' hP hst' hm' => ?_)
    obtain ⟨t, rfl⟩ := hval i v hP
    have ho' : s'.heap.get? S = some o := hm'.heap S _ hSw ho
    show wpAny _ A.in1 (holding [Value.str (val i) t] (setAdd S (.str (val i) t)) >>= _) _ _ s'
    refine wpAny_bind (wpAny_holding ?_)
    unfold setAdd
    refine wpAny_holding ?_
    refine wpAny_bind ((PySem.strKind prog w).pyHash (k := val i) (strKind_is _ _ _ _) ?_)
    refine add_X (s := { s' with toks := s'.toks + 1 }) ho' hX (by omega) fun h' o2 hsb ho2 hX2 => ?_
    refine wpAny_pure ⟨plainId_quiet F.plain_set_update_loop _, ih (i + 1) _ o2 _ _ (by omega) hlt (W.frame _ s' _ _ hst' (Nat.le_succ _) fun b hb o e => ?_) ho2 hX2 (by split <;> omega) (fun j => ?_) fun s'' o3 m3 hm'' ho3 hX3 hm3 => ?_⟩
    · rw [hsb.2 b (fun h : b = S => hSf (by rw [← h]; exact hb))]; exact e
    · rw [hXv j, List.range_succ, List.map_append, List.map_cons, List.map_nil, Bool.eq_iff_iff]
      simp only [Bool.or_eq_true, List.contains_iff_mem, List.mem_append, List.mem_singleton, decide_eq_true_eq]
    · refine hR s'' o3 m3 (Moved.trans W.gtrans ((hm'.mono hsub).then_heap (Nat.le_succ _) fun b o hb e => ?_) hm'') ho3 hX3 hm3
      rw [hsb.2 b (fun h : b = S => hb (by rw [h]; exact List.mem_cons_self))]; exact e

theorem strs_at : ∀ {vs : List Value} {ss : List Str}, StrsAre vs ss → ∀ (i : Nat) (v : Value), vs[i]? = some v → ∃ t, v = .str (ss.getD i Str.empty) t
  | _, _, .nil, i, v, h => by simp at h
  | _, _, .cons n t hr, 0, v, h => by simp at h; exact ⟨t, by rw [← h]; rfl⟩
  | _, _, .cons n t hr, i + 1, v, h => by
    simp only [List.getElem?_cons_succ] at h
    obtain ⟨t', e⟩ := strs_at hr i v h
    exact ⟨t', by rw [e]; rfl⟩

theorem range_getD {α : Type} (d : α) : ∀ (l : List α), (List.range l.length).map (fun i => l.getD i d) = l
  | [] => rfl
  | x :: l => by
    rw [List.length_cons, List.range_succ_eq_map, List.map_cons, List.map_map]
    have : ((fun i => (x :: l).getD i d) ∘ Nat.succ) = fun i => l.getD i d := by funext i; simp
    rw [this, range_getD d l]
    rfl

set_option maxHeartbeats 3200000 in
theorem setList_X {l : Addr} {vs : List Value} {ss : List Str} {Q : Value → Shared → Prop} (hh : A.handled = none) (hl : s.heap.IsList l vs.toArray) (hi : StrsAre vs ss) (hb : ss.length ≤ 64)
    (h : ∀ (h' : Heap) (tk : Nat) (o' : Obj) (m : Nat), Kept s.heap h' → h'.get? s.heap.objs.size = some o' → SetX prog w True o' (fun j => ss.contains j) m → m ≤ ss.length → Q (.ref s.heap.objs.size) { s with heap := h', toks := tk }) :
    wpAny (model prog w) A (call (.type "set") [.ref l]) Q E s := by
  have hlen : vs.length = ss.length := hi.len_eq
  obtain ⟨c, tl, hmro⟩ := F.called_set.mro
  have hmade := F.called_set.made
  have hsub := F.called_set.sub
  refine wpAny_call (codeAny_of_tree ?_)
  show wpAny _ _ (callAny (.type "set") _) _ _ _
  refine wpAny_pure ⟨Code.quiet_builtin _ (by decide +kernel), codeAny_builtin F.entry_type_call ?_⟩
  rw [Around.under_plain (weight_type_call_type "set" [.ref l] []) rfl]
  have h1 := F.called_set.notType
  have h2 := F.called_set.canCreate
  have hct := F.typeCall_set_1 (.ref l)
  repeat (any_goals (first | assumption | wp_step))
  refine codeAny_mono (code_set_new_L (.ref l) (E := E) (Q₁ := fun obj s₁ => obj = .ref s.heap.objs.size ∧ s₁ = { s with heap := s.heap.push (freshO w) }) ⟨rfl, rfl⟩) fun r s₁ hr => ?_
  cases r with
  | error e => exact hr
  | ok fl =>
    cases fl with
    | ret obj =>
      obtain ⟨rfl, rfl⟩ := hr
      have hS : (s.heap.push (freshO w)).get? s.heap.objs.size = some (freshO w) := Heap.get?_push_size _ rfl
      have hT : Shared.TypeIs { s with heap := s.heap.push (freshO w) } (.ref s.heap.objs.size) "set" := ⟨_, hS, rfl⟩
      have hli := F.called_set.init.lookup
      have hbi := F.called_set.init.bind (.ref s.heap.objs.size)
      repeat (any_goals (first | assumption | wp_step))
      refine codeAny_mono (codeAny_call_builtin (R := wants (fun r s₂ => r = .none ∧ ∃ h' tk o' m, s₂ = { s with heap := h', toks := tk } ∧ Kept s.heap h' ∧ h'.get? s.heap.objs.size = some o' ∧ SetX prog w True o' (fun j => ss.contains j) m ∧ m ≤ ss.length) E)
        F.called_set.init.plain F.entry_set_init (check_set_init_1 hT ?_)) fun r₂ s₂ hr₂ => ?_
      · obtain ⟨ol, hol, hcl, nl, hdl⟩ := hl
        obtain ⟨ocls, odict, odata, oslots⟩ := ol
        simp only at hcl hdl
        subst hcl; subst hdl
        have hol' : (s.heap.push (freshO w)).get? l = some { cls := .type "list", dict := odict, data := .seq vs.toArray nl, slots := oslots } := Heap.get?_push_of_some _ hol
        have hsls := F.sub_list_set
        have hslf := F.sub_list_frozenset
        have hne : (Value.type "list" == Value.type "dict") = false := by decide
        have hl1 : (s.heap.push (freshO w)).IsList l vs.toArray := ⟨_, hol', rfl, nl, rfl⟩
        unfold Builtin.«set.__init__» noKeywords Builtin.Frozenset.updateFrom
        generalize hPI : pyIter = PI
        wp_walk
        subst hPI
        refine wpAny_pyIter_list hl1 ?_
        refine wpAny_bind (wpAny_runValue ?_)
        have hlS : l < s.heap.objs.size := Heap.lt_size hol
        have hh3 : A.in1.in1.in1.handled = none := by simp [hh]
        have hneI : l ≠ (s.heap.push (freshO w)).objs.size := by
          rw [Heap.size_push]; exact Nat.ne_of_lt (Nat.lt_succ_of_lt hlS)
        have hSf : s.heap.objs.size ∉ [(s.heap.push (freshO w)).objs.size, l] := by
          rw [Heap.size_push]; simp only [List.mem_cons, List.mem_singleton, List.not_mem_nil, or_false, not_or]
          exact ⟨Nat.ne_of_lt (Nat.lt_succ_self _), Nat.ne_of_gt hlS⟩
        have hsz : vs.toArray.size = ss.length := by simpa using hlen
        refine loop_X ((Walks.list hh3 _ l hneI vs.toArray).toS) s.heap.objs.size hSf (fun i => ss.getD i Str.empty) (fun i v hv => strs_at hi i v (by simpa using hv)) (by rw [hsz]; unfold scanBound; omega) (vs.toArray.size - 0) 0 _ (freshO w) (fun _ => false) 0 (by omega) (Nat.zero_le _)
          ⟨⟨_, Heap.get?_push_size _ rfl, rfl, rfl⟩, (hl1.push _)⟩ (Heap.get?_push_of_some _ hS) freshO_X (Nat.le_refl _) (fun j => by simp) ?hR
        intro s' o' m' hm ho' hX' hm'
        obtain ⟨h', g', d', tk', os'⟩ := s'
        have eg : g' = s.gens := hm.gens
        have ed : d' = s.drawn := hm.drawn
        have eo : os' = s.os := hm.os
        subst eg; subst ed; subst eo
        show wpAny _ _ _ _ _ _
        refine wpAny_pure ?_
        show wpAny _ _ (ret Value.none) _ _ _
        rw [hsz] at hm'
        refine wpAny_pure ⟨rfl, h', tk', o', m', rfl, fun b o e => ?_, ho', hX'.congr (fun j => ?_) rfl, hm'⟩
        · have hb := Heap.lt_size e
          have hb1 : b ≠ s.heap.objs.size := Nat.ne_of_lt hb
          have hb2 : b ≠ (s.heap.push (freshO w)).objs.size := by
            rw [Heap.size_push]; exact Nat.ne_of_lt (Nat.lt_succ_of_lt hb)
          exact hm.heap b o (by simp only [List.mem_cons, List.mem_singleton, List.not_mem_nil, or_false, not_or]; exact ⟨hb1, hb2⟩) (Heap.get?_push_of_some _ (Heap.get?_push_of_some _ e))
        · rw [hsz, range_getD]
      · cases r₂ with
        | error e => exact hr₂
        | ok fl₂ =>
          cases fl₂ with
          | ret r =>
            obtain ⟨rfl, h', tk, o', m', rfl, hk', ho', hX', hm'⟩ := hr₂
            repeat (any_goals (first | assumption | wp_step))
            exact h _ _ _ _ hk' ho' hX' hm'
          | _ => exact hr₂.elim
    | _ => exact hr.elim
end
end Mine
end
section -- MSetF
set_option maxRecDepth 100000
namespace Mine
open PySem PySem.W PyProof.Rows

theorem slot_setiter_next : Slot "set_iterator" "__next__" "set_iterator.__next__" :=
  .of (owner := "set_iterator") (n := "__next__") (by rw [typeLookup_type, builtinLookup_eq_fast]; kernel_rfl) (by decide +kernel) (by decide +kernel) (by decide +kernel)
    (by first | exact .inl (by decide +kernel) | exact .inr (by decide +kernel)) (by rw [isSubtype_type]; kernel_rfl)
theorem entry_setiter_next : entryFor table "set_iterator.__next__" = some Builtin.«set_iterator.__next__» := entryFor_of_tree (by kernel_rfl)
theorem args_setiter_next (a : Value) : argsOk "set_iterator.__next__" ⟨[a], []⟩ := by unfold argsOk; rw [S.signatureZ_eq]; kernel_rfl
theorem slot_setiter_iter : Slot "set_iterator" "__iter__" "set_iterator.__iter__" :=
  .of (owner := "set_iterator") (n := "__iter__") (by rw [typeLookup_type, builtinLookup_eq_fast]; kernel_rfl) (by decide +kernel) (by decide +kernel) (by decide +kernel)
    (by first | exact .inl (by decide +kernel) | exact .inr (by decide +kernel)) (by rw [isSubtype_type]; kernel_rfl)
theorem entry_setiter_iter : entryFor table "set_iterator.__iter__" = some Builtin.«dict_keyiterator.__iter__» :=
  alias_T (id' := "dict_keyiterator.__iter__") (by kernel_rfl) rfl (by kernel_rfl) (by kernel_rfl)
theorem args_setiter_iter (a : Value) : argsOk "set_iterator.__iter__" ⟨[a], []⟩ := by unfold argsOk; rw [S.signatureZ_eq]; kernel_rfl
theorem nolen_si : typeLookup (.type "set_iterator") "__len__" = pure none := by rw [typeLookup_type, builtinLookup_eq_fast]; kernel_rfl
theorem hint_si : typeLookup (.type "set_iterator") "__length_hint__" = pure (some (.builtin "set_iterator.__length_hint__")) := by rw [typeLookup_type, builtinLookup_eq_fast]; kernel_rfl

section
variable {prog : Program} {w : World} {A : Around} {E : Value → Shared → Prop} {s : Shared}

theorem choose_X {src : Source} {n : Nat} {Q : Nat → Shared → Prop} (hn : n ≠ 0) (h : ∀ i d, i < n → Q i { s with drawn := d }) : wpAny (model prog w) A (choose src n) Q E s := fun Γ p _ => by
  show Sem.wp _ _ (.choose src n .pure) _ _ _ _
  rw [Sem.wp_choose]
  refine ⟨hn, ?_⟩
  exact h _ _ (Nat.mod_lt _ (Nat.pos_of_ne_zero hn))

theorem draw_X {α : Type} : ∀ (n : Nat) (xs : List α) (s : Shared) (Q : List α → Shared → Prop), xs.length = n → (∀ ys d, List.Perm ys xs → Q ys { s with drawn := d }) → wpAny (model prog w) A (drawOrder n xs) Q E s
  | 0, xs, s, Q, hn, h => by
    have : xs = [] := List.length_eq_zero_iff.mp hn
    subst this
    show wpAny _ _ (pure []) _ _ _
    exact wpAny_pure (h [] s.drawn .rfl)
  | n + 1, [], s, Q, hn, h => by cases hn
  | n + 1, y :: r, s, Q, hn, h => by
    show wpAny _ _ (bind (choose .order (y :: r).length) _) _ _ _
    refine wpAny_bind (choose_X (by simp) fun i d hi => ?_)
    rw [List.getElem?_eq_getElem hi]
    dsimp only
    refine wpAny_bind (draw_X n ((y :: r).eraseIdx i) { s with drawn := d } _ (by rw [List.length_eraseIdx_of_lt hi]; omega) fun ys d' hp => ?_)
    exact wpAny_pure (h _ d' ((List.Perm.cons _ hp).trans (eraseIdx_perm _ i hi)))

def ItAt (h : Heap) (I a : Addr) (first : Value) (i n ep : Nat) : Prop :=
  ∃ o, h.get? I = some o ∧ o.cls = .type "set_iterator" ∧ o.data = .fields #[first, .int i 0, .ref a, .int n 0, .int ep 0]
theorem ItAt.typeIs {I a : Addr} {first : Value} {i n ep : Nat} (x : ItAt s.heap I a first i n ep) : s.TypeIs (.ref I) "set_iterator" := let ⟨o, ho, hc, _⟩ := x; ⟨o, ho, hc⟩

theorem raise_stop {α : Type} {Q' : α → Shared → Prop} (hh : A.handled = none) (h : ∀ h' e, Kept s.heap h' → (∃ o, h'.get? e = some o ∧ o.cls = .type "StopIteration") → E (.ref e) { s with heap := h' }) :
    wpAny (model prog w) A (newExc (.type "StopIteration") [] >>= fun e => (raiseNew e : Sem α)) Q' E s := by
  refine wpAny_bind ?_
  simp only [newExc, newTuple]
  refine wpAny_bind (wpAny_newObj_type ?_ (by size_fits))
  refine wpAny_bind (m := firstArgMember _ _) (wpAny_of_eq (a := Value.none) (by first | rfl | (simp only [firstArgMember]; rfl)) ?_)
  refine wpAny_newObj_type ?_ (by size_fits)
  simp only [raiseNew]
  refine wpAny_bind (wpAny_handled ?_)
  rw [hh]
  refine wpAny_bind (wpAny_pure (wpAny_throw ?_))
  exact h _ _ (fun b o e => Heap.get?_push_of_some _ (Heap.get?_push_of_some _ e)) ⟨_, Heap.get?_push_size _ rfl, rfl⟩

theorem fieldsOf_it {I a : Addr} {first : Value} {i n ep : Nat} {Q : Array Value → Shared → Prop} (x : ItAt s.heap I a first i n ep) (h : Q #[first, .int i 0, .ref a, .int n 0, .int ep 0] s) : wpAny (model prog w) A (fieldsOf (.ref I)) Q E s := by
  obtain ⟨o, ho, hc, hd⟩ := x
  exact wpAny_fieldsOf ho hd h

theorem setField_it {I a : Addr} {first : Value} {i n ep k : Nat} {v : Value} {Q : Unit → Shared → Prop} (hk : k < 5) (x : ItAt s.heap I a first i n ep)
    (h : ∀ h' o, Heap.SameBut I s.heap h' → h'.get? I = some o → o.cls = .type "set_iterator" → o.data = .fields (#[first, .int i 0, .ref a, .int n 0, .int ep 0].setIfInBounds k v) → Q () { s with heap := h' }) : wpAny (model prog w) A (setField (.ref I) k v) Q E s := by
  obtain ⟨o, ho, hc, hd⟩ := x
  refine wpAny_setField ho hd (by simpa using hk) ?_
  exact h _ _ (Heap.SameBut.update ..) (Heap.get?_update_self _ ho (Obj.isFreed_of_fields (Obj.data_mapFields hd _))) ((Obj.cls_mapFields ..).trans hc) (Obj.data_mapFields hd _)

theorem itAt_same {h h' : Heap} {I a : Addr} {first : Value} {i n ep : Nat} (x : ItAt h I a first i n ep) (k : ∀ o, h.get? I = some o → h'.get? I = some o) : ItAt h' I a first i n ep := let ⟨o, ho, r⟩ := x; ⟨o, k o ho, r⟩
theorem same_get {a : Addr} {h h' : Heap} (hs : Heap.SameBut a h h') {b : Addr} {o : Obj} (hb : b ∉ [a]) (e : h.get? b = some o) : h'.get? b = some o := (hs.2 b (fun q => hb (by rw [q]; exact List.mem_singleton.mpr rfl))).trans e

/-- the end of a set's walk -/
theorem next_end {I a : Addr} {first : Value} {i n ep : Nat} {Q : Option Value → Shared → Prop} {R : Option Value → Shared → Prop}
    (hb : wpAny (model prog w) A.in1 (Builtin.«set_iterator.__next__» ⟨[.ref I], []⟩) (fun fin s' => ∃ r, fin = .done (.ret r) ∧ R (some r) s') (fun e s' => ∃ h', s' = { s with heap := h' } ∧ (∃ a o, e = .ref a ∧ h'.get? a = some o ∧ o.cls = .type "StopIteration") ∧ Q none s') s)
    (hR : ∀ r s', R (some r) s' → Q (some r) s') (hit : ItAt s.heap I a first i n ep) : wpAny (model prog w) A (pyNext (.ref I)) Q E s := by
  unfold pyNext
  refine wpAny_bind (wpAny_attempt (wpAny_callSpecial?_slot (name := Str.ofString "__next__") hit.typeIs slot_setiter_next
    (wpAny_call_entry slot_setiter_next hit.typeIs entry_setiter_next (wpAny_mono hb (fun fin s' h' => ?_) fun e s' h' => ?_) (args_setiter_next _))))
  · obtain ⟨r, rfl, hr⟩ := h'
    exact ⟨r, rfl, wpAny_pure (hR _ _ hr)⟩
  · obtain ⟨h', rfl, ⟨e, o, rfl, ho, hc⟩, hq⟩ := h'
    refine wpAny_bind (wpAny_isInstance (T := "StopIteration") (b := true) ⟨o, ho, hc⟩ isSubtype_stop ?_)
    exact wpAny_pure hq

theorem self_X {I a : Addr} {first : Value} {i n ep : Nat} {Q : Value → Shared → Prop} (hit : ItAt s.heap I a first i n ep) (hQ : Q (.ref I) s) : wpAny (model prog w) A (pyIter (.ref I)) Q E s := by
  refine wpAny_pyIter_slot hit.typeIs slot_setiter_iter (wpAny_call_entry slot_setiter_iter hit.typeIs entry_setiter_iter ?_ (args_setiter_iter _))
  show wpAny _ _ (ret (.ref I)) _ _ s
  exact wpAny_pure ⟨_, rfl, "set_iterator", _, hit.typeIs, slot_setiter_next.lookup, hQ⟩

/-- a drawn walk: the places stand in a tuple -/
theorem walks_drawn (hh : A.handled = none) {I a T : Addr} {oa : Obj} {es : Array (Int × Value)} {ep : Nat} {t : SetTable} {ps : List Nat} {tn : Nat} {S : Str → Bool} {c : Prop}
    (hIa : a ≠ I) (hIT : T ≠ I) (hX : SetX prog w c oa S es.size) (hd : oa.data = .set es ep t) (hp : List.Perm ps (List.range es.size)) :
    Walks prog w A I [I, a, T] [I] es.size (fun i v => (ps[i]?.bind fun p => es[p]?.map (·.2)) = some v)
      (fun i h => ItAt h I a (.ref T) i es.size ep ∧ h.get? a = some oa ∧ ∃ o, h.get? T = some o ∧ o.data = .seq (ps.map fun p => Value.int (p : Nat) 0).toArray tn) where
  sub := fun b hb => by simp at hb; simp [hb]
  frame := fun _ _ _ st hk => ⟨itAt_same st.1 fun o e => hk I (by simp) o e, hk a (by simp) _ st.2.1, let ⟨o, ho, r⟩ := st.2.2; ⟨o, hk T (by simp) o ho, r⟩⟩
  item := fun i s Q E hi st hQ => by
    obtain ⟨hit, hoa, oT, hoT, hdT⟩ := st
    obtain ⟨hex, es', ep', t', hd', hel, hmem, hsz, hf, hled, hpl⟩ := id hX
    rw [hd] at hd'
    injection hd' with e1 e2 e3
    subst e1; subst e2; subst e3
    have hlen : ps.length = es.size := by rw [hp.length_eq, List.length_range]
    have hi' : i < ps.length := by omega
    have hpm : ps[i] ∈ List.range es.size := hp.mem_iff.mp (List.getElem_mem hi')
    rw [List.mem_range] at hpm
    refine next_end (R := Q) ?_ (fun _ _ x => x) hit
    show wpAny _ _ (fieldsOf (.ref I) >>= _) _ _ s
    refine wpAny_bind (fieldsOf_it hit ?_)
    dsimp only
    refine wpAny_bind (wpAny_setEntries_of hoa hd hf ?_)
    rw [if_neg (by simp)]
    refine wpAny_bind (wpAny_seqItems hoT hdT ?_)
    dsimp only
    have e : (ps.map fun p => Value.int (p : Nat) 0).toArray[(i : Int).toNat]? = some (Value.int (ps[i] : Nat) 0) := by simp [hi']
    rw [e]
    dsimp only
    unfold setNextDrawn
    refine wpAny_bind (wpAny_bind (wpAny_setState_of hoa hd hf ?_))
    dsimp only
    rw [if_neg (by simp)]
    have e2 : es[((ps[i] : Nat) : Int).toNat]? = some es[ps[i]] := by simp [hpm]
    rw [e2]
    refine wpAny_pure ?_
    refine wpAny_bind (setField_it (by omega) hit fun h' o hs ho hc hd2 => ?_)
    refine wpAny_pure ⟨_, rfl, hQ _ h' s.toks ?_ ⟨⟨o, ho, hc, ?_⟩, (hs.2 a hIa).trans hoa, oT, (hs.2 T hIT).trans hoT, hdT⟩ fun b o hb e => same_get hs hb e⟩
    · simp [hi', hpm]
    · rw [hd2]; rfl
  done := fun s Q E st hQ => by
    obtain ⟨hit, hoa, oT, hoT, hdT⟩ := st
    obtain ⟨hex, es', ep', t', hd', hel, hmem, hsz, hf, hled, hpl⟩ := id hX
    rw [hd] at hd'
    injection hd' with e1 e2 e3
    subst e1; subst e2; subst e3
    have hlen : ps.length = es.size := by rw [hp.length_eq, List.length_range]
    refine next_end (R := Q) ?_ (fun _ _ x => x) hit
    show wpAny _ _ (fieldsOf (.ref I) >>= _) _ _ s
    refine wpAny_bind (fieldsOf_it hit ?_)
    dsimp only
    refine wpAny_bind (wpAny_setEntries_of hoa hd hf ?_)
    rw [if_neg (by simp)]
    refine wpAny_bind (wpAny_seqItems hoT hdT ?_)
    dsimp only
    have e : (ps.map fun p => Value.int (p : Nat) 0).toArray[((es.size : Nat) : Int).toNat]? = none := by simp [hlen]
    rw [e]
    dsimp only
    refine wpAny_bind (setField_it (by omega) hit fun h1 o1 hs1 ho1 hc1 hd1 => ?_)
    refine wpAny_bind (wpAny_setField (s := { s with heap := h1 }) ho1 hd1 (by simp) ?_)
    refine raise_stop (by simpa using hh) fun h' e k he => ?_
    obtain ⟨o, ho, hc⟩ := he
    refine ⟨h', rfl, ⟨e, o, rfl, ho, hc⟩, hQ h' s.toks fun b o hb e => k b o ?_⟩
    exact same_get (Heap.SameBut.update ..) hb (same_get hs1 hb e)
  self := fun i s Q E st hQ => self_X st.1 hQ

/-- a walk by the world's own order -/
theorem walks_text (hh : A.handled = none) {I a : Addr} {oa : Obj} {es : Array (Int × Value)} {ep : Nat} {t : SetTable} {S : Str → Bool} {c : Prop}
    (hIa : a ≠ I) (hX : SetX prog w c oa S es.size) (hd : oa.data = .set es ep t) (ht : w.params.followText "set-order" = true) :
    Walks prog w A I [I, a] [I] es.size (fun i v => ((pickOrder (w.params.setOrder a ep) es)[i]?.map (·.2)) = some v)
      (fun i h => ItAt h I a (.int 0 0) i es.size ep ∧ h.get? a = some oa) where
  sub := fun b hb => by simp at hb; simp [hb]
  frame := fun _ _ _ st hk => ⟨itAt_same st.1 fun o e => hk I (by simp) o e, hk a (by simp) _ st.2⟩
  item := fun i s Q E hi st hQ => by
    obtain ⟨hit, hoa⟩ := st
    obtain ⟨hex, es', ep', t', hd', hel, hmem, hsz, hf, hled, hpl⟩ := id hX
    rw [hd] at hd'
    injection hd' with e1 e2 e3
    subst e1; subst e2; subst e3
    have hlen : (pickOrder (w.params.setOrder a ep) es).size = es.size := by
      rw [← Array.length_toList, (pickOrder_perm _ _).length_eq, Array.length_toList]
    have hi' : i < (pickOrder (w.params.setOrder a ep) es).size := by omega
    refine next_end (R := Q) ?_ (fun _ _ x => x) hit
    show wpAny _ _ (fieldsOf (.ref I) >>= _) _ _ s
    refine wpAny_bind (fieldsOf_it hit ?_)
    dsimp only
    refine wpAny_bind (wpAny_setEntries_of hoa hd hf ?_)
    rw [if_neg (by simp)]
    unfold setNext setsByText
    refine wpAny_bind (wpAny_bind (wpAny_setState_of hoa hd hf ?_))
    dsimp only
    refine wpAny_bind (wpAny_bind (wpAny_askSetting (wpAny_pure ?_)))
    show wpAny _ _ (if (w.params.followText "set-order") = true then _ else _) _ _ _
    rw [if_pos ht, if_neg (by simp)]
    unfold setWalk setsByText
    refine wpAny_bind (wpAny_bind (wpAny_setState_of hoa hd hf ?_))
    dsimp only
    refine wpAny_bind (wpAny_bind (wpAny_askSetting (wpAny_pure ?_)))
    show wpAny _ _ (if (w.params.followText "set-order") = true then _ else _) _ _ _
    rw [if_pos ht]
    refine wpAny_bind (wpAny_askSetting (wpAny_pure ?_))
    refine wpAny_pure ?_
    have e9 : (pickOrder (w.params.setOrder a ep) es)[((i : Nat) : Int).toNat]? = some (pickOrder (w.params.setOrder a ep) es)[i] := by
      rw [show ((i : Nat) : Int).toNat = i by omega, Array.getElem?_eq_getElem hi']
    have e8 : (Option.map (fun e : Int × Value => (e.2, ((0 : Int)).toNat)) (pickOrder (w.params.setOrder a ep) es)[((i : Nat) : Int).toNat]?) = some ((pickOrder (w.params.setOrder a ep) es)[i].2, 0) := by rw [e9]; rfl
    refine e8 ▸ ?_
    refine wpAny_bind (setField_it (by omega) hit fun h1 o1 hs1 ho1 hc1 hd1 => ?_)
    have hit1 : ItAt h1 I a (.int 0 0) i es.size ep := ⟨o1, ho1, hc1, by rw [hd1]; rfl⟩
    refine wpAny_bind (setField_it (s := { s with heap := h1 }) (by omega) hit1 fun h' o hs ho hc hd2 => ?_)
    refine wpAny_pure ⟨_, rfl, hQ _ h' s.toks ?_ ⟨⟨o, ho, hc, by rw [hd2]; rfl⟩, (hs.2 a hIa).trans ((hs1.2 a hIa).trans hoa)⟩ fun b o hb e => same_get hs hb (same_get hs1 hb e)⟩
    rw [Array.getElem?_eq_getElem hi']; rfl
  done := fun s Q E st hQ => by
    obtain ⟨hit, hoa⟩ := st
    obtain ⟨hex, es', ep', t', hd', hel, hmem, hsz, hf, hled, hpl⟩ := id hX
    rw [hd] at hd'
    injection hd' with e1 e2 e3
    subst e1; subst e2; subst e3
    have hlen : (pickOrder (w.params.setOrder a ep) es).size = es.size := by
      rw [← Array.length_toList, (pickOrder_perm _ _).length_eq, Array.length_toList]
    refine next_end (R := Q) ?_ (fun _ _ x => x) hit
    show wpAny _ _ (fieldsOf (.ref I) >>= _) _ _ s
    refine wpAny_bind (fieldsOf_it hit ?_)
    dsimp only
    refine wpAny_bind (wpAny_setEntries_of hoa hd hf ?_)
    rw [if_neg (by simp)]
    unfold setNext setsByText
    refine wpAny_bind (wpAny_bind (wpAny_setState_of hoa hd hf ?_))
    dsimp only
    refine wpAny_bind (wpAny_bind (wpAny_askSetting (wpAny_pure ?_)))
    show wpAny _ _ (if (w.params.followText "set-order") = true then _ else _) _ _ _
    rw [if_pos ht, if_neg (by simp)]
    unfold setWalk setsByText
    refine wpAny_bind (wpAny_bind (wpAny_setState_of hoa hd hf ?_))
    dsimp only
    refine wpAny_bind (wpAny_bind (wpAny_askSetting (wpAny_pure ?_)))
    show wpAny _ _ (if (w.params.followText "set-order") = true then _ else _) _ _ _
    rw [if_pos ht]
    refine wpAny_bind (wpAny_askSetting (wpAny_pure ?_))
    refine wpAny_pure ?_
    have e8 : (Option.map (fun e : Int × Value => (e.2, ((0 : Int)).toNat)) (pickOrder (w.params.setOrder a ep) es)[((es.size : Nat) : Int).toNat]?) = none := by
      rw [show ((es.size : Nat) : Int).toNat = es.size by omega, Array.getElem?_eq_none (by omega)]; rfl
    refine e8 ▸ ?_
    refine wpAny_bind (setField_it (by omega) hit fun h1 o1 hs1 ho1 hc1 hd1 => ?_)
    refine raise_stop (s := { s with heap := h1 }) (by simpa using hh) fun h' e k he => ?_
    obtain ⟨o, ho, hc⟩ := he
    exact ⟨h', rfl, ⟨e, o, rfl, ho, hc⟩, hQ h' s.toks fun b o hb e => k b o (same_get hs1 hb e)⟩
  self := fun i s Q E st hQ => self_X st.1 hQ

theorem below_one (p j : Nat) : SetTable.below #[p] j = if p < j then 1 else 0 := by
  unfold SetTable.below
  show SetTable.below.go #[p] j 1 0 1 = _
  unfold SetTable.below.go
  by_cases h : p < j
  · rw [if_pos (by decide), if_pos (by simpa using h), if_pos h]; unfold SetTable.below.go; rfl
  · rw [if_pos (by decide), if_neg (by simpa using h), if_neg h]; unfold SetTable.below.go; rfl
theorem below_nil (j : Nat) : SetTable.below #[] j = 0 := by
  unfold SetTable.below SetTable.below.go
  rfl

/-- a walk over a set of one element or none, place by place -/
theorem walks_small (hh : A.handled = none) {I a : Addr} {oa : Obj} {es : Array (Int × Value)} {ep : Nat} {t : SetTable} {S : Str → Bool} {c : Prop}
    (hIa : a ≠ I) (hX : SetX prog w c oa S es.size) (hc : es.size ≠ 0 → c) (hd : oa.data = .set es ep t) (ht : w.params.followText "set-order" = false) (h1 : es.size ≤ 1) :
    Walks prog w A I [I, a] [I] es.size (fun i v => (es[i]?.map (·.2)) = some v)
      (fun i h => ItAt h I a (.int ((if i = 0 then 0 else t.place.getD 0 0 + 1 : Nat) : Int) 0) i es.size ep ∧ h.get? a = some oa) where
  sub := fun b hb => by simp at hb; simp [hb]
  frame := fun _ _ _ st hk => ⟨itAt_same st.1 fun o e => hk I (by simp) o e, hk a (by simp) _ st.2⟩
  item := fun i s Q E hi st hQ => by
    obtain ⟨hit, hoa⟩ := st
    obtain ⟨hex, es', ep', t', hd', hel, hmem, hsz, hf, hled, hpl⟩ := id hX
    rw [hd] at hd'
    injection hd' with e1 e2 e3
    subst e1; subst e2; subst e3
    have hi0 : i = 0 := by omega
    subst hi0
    have hn1 : es.size = 1 := by omega
    have hl : t.led = true := by rw [hled (hc (by omega))]; unfold ledOf; rw [ht]; rfl
    have hps : t.place.size = 1 := by
      simp only [SetTable.fits, Bool.and_eq_true, beq_iff_eq] at hf
      omega
    obtain ⟨p, hp⟩ : ∃ p, t.place = #[p] := by
      refine ⟨t.place[0], ?_⟩
      apply Array.ext
      · simpa using hps
      · intro i h1 h2; have : i = 0 := by simp at h2; exact h2
        subst this; rfl
    refine next_end (R := Q) ?_ (fun _ _ x => x) hit
    show wpAny _ _ (fieldsOf (.ref I) >>= _) _ _ s
    refine wpAny_bind (fieldsOf_it hit ?_)
    dsimp only
    refine wpAny_bind (wpAny_setEntries_of hoa hd hf ?_)
    rw [if_neg (by simp)]
    unfold setNext setsByText
    refine wpAny_bind (wpAny_bind (wpAny_setState_of hoa hd hf ?_))
    dsimp only
    refine wpAny_bind (wpAny_bind (wpAny_askSetting (wpAny_pure ?_)))
    show wpAny _ _ (if (w.params.followText "set-order") = true then _ else _) _ _ _
    rw [if_neg (by rw [ht]; decide)]
    show wpAny _ _ (if (!t.plain && decide (es.size > 1)) = true then _ else _) _ _ _
    rw [if_neg (by simp; omega)]
    refine wpAny_bind ?_
    show wpAny _ _ (if (!t.led && !es.isEmpty) = true then _ else _) _ _ _
    rw [if_neg (by rw [hl]; simp)]
    refine wpAny_pure (wpAny_pure ?_)
    have hb0 : SetTable.below t.place ((if (0 : Nat) = 0 then 0 else t.place.getD 0 0 + 1 : Nat) : Int).toNat = 0 := by rw [hp, below_one]; simp
    rw [hb0, show es[0]? = some es[0] from Array.getElem?_eq_getElem (by omega), show t.place[0]? = some p by rw [hp]; rfl]
    dsimp only
    refine wpAny_bind (setField_it (by omega) hit fun h1 o1 hs1 ho1 hc1 hd1 => ?_)
    have hit1 : ItAt h1 I a (.int ((p + 1 : Nat) : Int) 0) 0 es.size ep := ⟨o1, ho1, hc1, by rw [hd1]; rfl⟩
    refine wpAny_bind (setField_it (s := { s with heap := h1 }) (by omega) hit1 fun h' o hs ho hc hd2 => ?_)
    refine wpAny_pure ⟨_, rfl, hQ _ h' s.toks ?_ ⟨⟨o, ho, hc, by rw [hd2, hp]; rfl⟩, (hs.2 a hIa).trans ((hs1.2 a hIa).trans hoa)⟩ fun b o hb e => same_get hs hb (same_get hs1 hb e)⟩
    rw [show es[0]? = some es[0] from Array.getElem?_eq_getElem (by omega)]; rfl
  done := fun s Q E st hQ => by
    obtain ⟨hit, hoa⟩ := st
    obtain ⟨hex, es', ep', t', hd', hel, hmem, hsz, hf, hled, hpl⟩ := id hX
    rw [hd] at hd'
    injection hd' with e1 e2 e3
    subst e1; subst e2; subst e3
    have hps : t.place.size = es.size := by
      simp only [SetTable.fits, Bool.and_eq_true, beq_iff_eq] at hf
      omega
    refine next_end (R := Q) ?_ (fun _ _ x => x) hit
    show wpAny _ _ (fieldsOf (.ref I) >>= _) _ _ s
    refine wpAny_bind (fieldsOf_it hit ?_)
    dsimp only
    refine wpAny_bind (wpAny_setEntries_of hoa hd hf ?_)
    rw [if_neg (by simp)]
    unfold setNext setsByText
    refine wpAny_bind (wpAny_bind (wpAny_setState_of hoa hd hf ?_))
    dsimp only
    refine wpAny_bind (wpAny_bind (wpAny_askSetting (wpAny_pure ?_)))
    show wpAny _ _ (if (w.params.followText "set-order") = true then _ else _) _ _ _
    rw [if_neg (by rw [ht]; decide)]
    show wpAny _ _ (if (!t.plain && decide (es.size > 1)) = true then _ else _) _ _ _
    rw [if_neg (by simp; omega)]
    refine wpAny_bind ?_
    show wpAny _ _ (if (!t.led && !es.isEmpty) = true then _ else _) _ _ _
    rw [if_neg (by
      by_cases h0 : es.size = 0
      · rw [show es.isEmpty = true from (emp_iff es).mpr h0]; simp
      · rw [hled (hc h0)]; unfold ledOf; rw [ht]; simp)]
    refine wpAny_pure (wpAny_pure ?_)
    have hnone : es[SetTable.below t.place ((if es.size = 0 then 0 else t.place.getD 0 0 + 1 : Nat) : Int).toNat]? = none := by
      by_cases h0 : es.size = 0
      · rw [Array.getElem?_eq_none (by omega)]
      · obtain ⟨p, hp⟩ : ∃ p, t.place = #[p] := by
          refine ⟨t.place[0], ?_⟩
          apply Array.ext
          · simp; omega
          · intro i h1 h2; have : i = 0 := by simp at h2; exact h2
            subst this; rfl
        rw [hp, below_one, if_neg h0]
        rw [if_pos (by simp), Array.getElem?_eq_none (by omega)]
    rw [hnone]
    dsimp only
    refine wpAny_bind (setField_it (by omega) hit fun h1 o1 hs1 ho1 hc1 hd1 => ?_)
    refine raise_stop (s := { s with heap := h1 }) (by simpa using hh) fun h' e k he => ?_
    obtain ⟨o, ho, hc⟩ := he
    exact ⟨h', rfl, ⟨e, o, rfl, ho, hc⟩, hQ h' s.toks fun b o hb e => k b o (same_get hs1 hb e)⟩
  self := fun i s Q E st hQ => self_X st.1 hQ
end
end Mine
end
section -- MSetG
set_option maxRecDepth 100000
namespace Mine
open PySem PySem.W PyProof.Rows

theorem noBool_set : typeLookup (.type "set") "__bool__" = pure none := by rw [typeLookup_type, builtinLookup_eq_fast]; kernel_rfl

theorem walks_weak {prog : Program} {w : World} {A : Around} {I : Addr} {fp wr : List Addr} {n : Nat} {P P' : Nat → Value → Prop} {St : Nat → Heap → Prop} (W : Walks prog w A I fp wr n P St) (h : ∀ i v, P i v → P' i v) : Walks prog w A I fp wr n P' St where
  sub := W.sub
  frame := W.frame
  item := fun i s Q E hi st hQ => W.item i s Q E hi st fun v h' tk hP => hQ v h' tk (h i v hP)
  done := W.done
  self := W.self

section
variable {prog : Program} {w : World} {A : Around} {E : Value → Shared → Prop} {s : Shared}

theorem iter_X {c : Prop} {a : Addr} {oa : Obj} {S : Str → Bool} {n : Nat} {Q : Value → Shared → Prop} (ho : s.heap.get? a = some oa) (hX : SetX prog w c oa S n) (hc : n ≠ 0 → c) (hn : n ≤ 64)
    (h : ∀ (I : Addr) (h' : Heap) (d : Drawn) (fp : List Addr) (vals : List Value) (St : Nat → Heap → Prop), Kept s.heap h' → s.heap.objs.size ≤ I → (∀ A' : Around, A'.handled = none → Walks prog w A' I fp [I] n (fun i v => vals[i]? = some v) St) → St 0 h' → (∀ b ∈ fp, b < h'.objs.size) → (∀ b ∈ fp, b = a ∨ s.heap.objs.size ≤ b) → I ∈ fp →
      (∀ i g, St i g → ∃ o, g.get? I = some o ∧ o.cls = .type "set_iterator") → vals.length = n → (∀ v ∈ vals, ∃ k t, v = .str k t ∧ S k = true) → Q (.ref I) { s with heap := h', drawn := d }) :
    wpAny (model prog w) A (pyIter (.ref a)) Q E s := by
  obtain ⟨hex, es, ep, t, hd, hel, hmem, hsz, hf, hled, hpl⟩ := id hX
  subst hsz
  have hT := hX.typeIs ho
  have vals_ok : ∀ vals : List Value, List.Perm vals (es.toList.map (·.2)) → vals.length = es.size ∧ ∀ v ∈ vals, ∃ k t, v = .str k t ∧ S k = true := by
    intro vals hp
    refine ⟨by rw [hp.length_eq]; simp, fun v hv => ?_⟩
    obtain ⟨e, he, rfl⟩ := List.mem_map.mp (hp.mem_iff.mp hv)
    obtain ⟨⟨k, hk, _⟩, _⟩ := hel e he
    obtain ⟨tk, ht⟩ := str_of hk
    exact ⟨k, tk, ht, (hmem k).mpr ⟨e, he, hk⟩⟩
  refine wpAny_pyIter_slot hT F.slot_set_iter (wpAny_call_entry F.slot_set_iter hT entry_set_iter ?_ (F.args_set_iter_1 _))
  show wpAny _ _ (bind (pure a) _) _ _ _
  refine wpAny_bind (wpAny_pure ?_)
  refine wpAny_bind (sizeOf_X ho hX ?_)
  unfold setDrawn setsByText
  refine wpAny_bind (wpAny_bind (wpAny_setState_of ho hd hf ?_))
  dsimp only
  refine wpAny_bind (wpAny_bind (wpAny_askSetting (wpAny_pure (wpAny_pure ?_))))
  show wpAny _ _ (if (!w.params.followText "set-order" && (!t.plain && decide (es.size > 1))) = true then _ else _) _ _ _
  by_cases hdr : (!w.params.followText "set-order" && (!t.plain && decide (es.size > 1))) = true
  · rw [if_pos hdr]
    refine wpAny_bind (draw_X es.size (List.range es.size) s _ List.length_range fun ps d hp => ?_)
    refine wpAny_bind (wpAny_newObj_type ?_ (by show (ps.map fun (i : Nat) => rawInt i).toArray.size ≤ sizeLine; rw [List.size_toArray, List.length_map, hp.length_eq, List.length_range, sizeLine_eq]; omega))
    have ho1 : (s.heap.push { cls := .type "tuple", data := .seq (ps.map fun (i : Nat) => rawInt i).toArray }).get? a = some oa := Heap.get?_push_of_some _ ho
    refine wpAny_bind (epoch_X ho1 hX fun es1 ep1 t1 hd1 => ?_)
    rw [hd] at hd1
    injection hd1 with e1 e2 e3
    subst e1; subst e2; subst e3
    refine wpAny_bind (wpAny_newObj_type ?_)
    refine wpAny_pure ⟨_, rfl, "set_iterator", _, ⟨_, Heap.get?_push_size _ rfl, rfl⟩, slot_setiter_next.lookup, ?_⟩
    have hlt := Heap.lt_size ho
    have hsz1 : (s.heap.push { cls := .type "tuple", data := .seq (ps.map fun (i : Nat) => rawInt i).toArray }).objs.size = s.heap.objs.size + 1 := Heap.size_push ..
    have hperm : List.Perm (ps.map fun p => (es.toList.getD p (0, Value.none)).2) (es.toList.map (·.2)) := by
      refine (hp.map _).trans ?_
      have := range_getD ((0 : Int), Value.none) es.toList
      have e := congrArg (List.map (·.2)) this
      rw [List.map_map] at e
      rw [← e]
      simp only [Array.length_toList]
      exact .rfl
    have hlen : ps.length = es.size := by rw [hp.length_eq, List.length_range]
    have hpn : ∀ i p, ps[i]? = some p → p < es.size := fun i p e => List.mem_range.mp (hp.mem_iff.mp (List.mem_of_getElem? e))
    rw [hsz1]
    refine h (s.heap.objs.size + 1) _ d [s.heap.objs.size + 1, a, s.heap.objs.size] _ (fun i g => ItAt g (s.heap.objs.size + 1) a (.ref s.heap.objs.size) i es.size ep ∧ g.get? a = some oa ∧ ∃ o, g.get? s.heap.objs.size = some o ∧ o.data = .seq (ps.map fun p => Value.int (p : Nat) 0).toArray 0)
      (fun b o e => Heap.get?_push_of_some _ (Heap.get?_push_of_some _ e)) (Nat.le_succ _)
      (fun A' hh' => walks_weak (walks_drawn hh' (Nat.ne_of_lt (Nat.lt_succ_of_lt hlt)) (Nat.ne_of_lt (Nat.lt_succ_self _)) hX hd hp) fun i v hv => ?_) ?_ ?_ ?_ (by simp) (fun i g st => let ⟨o, ho, hc, _⟩ := st.1; ⟨o, ho, hc⟩) (vals_ok _ hperm).1 (vals_ok _ hperm).2
    · cases hq : ps[i]? with
      | none => rw [hq] at hv; cases hv
      | some p =>
        rw [hq] at hv
        have hpl := hpn i p hq
        have hv' : (es[p]?.map (·.2)) = some v := hv
        rw [Array.getElem?_eq_getElem hpl] at hv'
        rw [List.getElem?_map, hq]
        have : (es.toList.getD p (0, Value.none)) = es[p] := by simp [hpl]
        rw [Option.map_some, this]
        exact hv'
    · refine ⟨⟨_, by rw [← hsz1]; exact Heap.get?_push_size _ rfl, rfl, rfl⟩, Heap.get?_push_of_some _ ho1, ⟨_, Heap.get?_push_of_some _ (Heap.get?_push_size _ rfl), rfl⟩⟩
    · intro b hb
      rw [Heap.size_push, hsz1]
      rcases List.mem_cons.mp hb with rfl | hb
      · exact Nat.lt_succ_self _
      · rcases List.mem_cons.mp hb with rfl | hb
        · exact Nat.lt_succ_of_lt (Nat.lt_succ_of_lt hlt)
        · rw [List.mem_singleton.mp hb]; exact Nat.lt_succ_of_lt (Nat.lt_succ_self _)
    · intro b hb
      rcases List.mem_cons.mp hb with rfl | hb
      · exact .inr (Nat.le_succ _)
      · rcases List.mem_cons.mp hb with rfl | hb
        · exact .inl rfl
        · rw [List.mem_singleton.mp hb]; exact .inr (Nat.le_refl _)
  · rw [if_neg hdr]
    refine wpAny_bind (wpAny_pure ?_)
    refine wpAny_bind (epoch_X ho hX fun es1 ep1 t1 hd1 => ?_)
    rw [hd] at hd1
    injection hd1 with e1 e2 e3
    subst e1; subst e2; subst e3
    refine wpAny_bind (wpAny_newObj_type ?_)
    refine wpAny_pure ⟨_, rfl, "set_iterator", _, ⟨_, Heap.get?_push_size _ rfl, rfl⟩, slot_setiter_next.lookup, ?_⟩
    have hlt := Heap.lt_size ho
    have hfp : ∀ (g : Heap) (o : Obj), g = s.heap.push o → ∀ b ∈ [s.heap.objs.size, a], b < g.objs.size := by
      rintro g o rfl b hb
      rw [Heap.size_push]
      rcases List.mem_cons.mp hb with rfl | hb
      · exact Nat.lt_succ_self _
      · rw [List.mem_singleton.mp hb]; exact Nat.lt_succ_of_lt hlt
    have hfq : ∀ b ∈ [s.heap.objs.size, a], b = a ∨ s.heap.objs.size ≤ b := by
      intro b hb
      rcases List.mem_cons.mp hb with rfl | hb
      · exact .inr (Nat.le_refl _)
      · exact .inl (List.mem_singleton.mp hb)
    cases ht : w.params.followText "set-order" with
    | true =>
      have hperm := (pickOrder_perm (w.params.setOrder a ep) es).map (·.2)
      exact h s.heap.objs.size _ s.drawn [s.heap.objs.size, a] _ _ (fun b o e => Heap.get?_push_of_some _ e) (Nat.le_refl _)
        (fun A' hh' => walks_weak (walks_text hh' (Nat.ne_of_lt hlt) hX hd ht) fun i v hv => by rw [List.getElem?_map, Array.getElem?_toList]; exact hv)
        ⟨⟨_, Heap.get?_push_size _ rfl, rfl, rfl⟩, Heap.get?_push_of_some _ ho⟩ (hfp _ _ rfl) hfq (by simp) (fun i g st => let ⟨o, ho, hc, _⟩ := st.1; ⟨o, ho, hc⟩) (vals_ok _ hperm).1 (vals_ok _ hperm).2
    | false =>
      have h1 : es.size ≤ 1 := by
        rw [ht] at hdr
        by_cases h0 : es.size = 0
        · omega
        · rw [hpl h0] at hdr
          simp at hdr
          omega
      exact h s.heap.objs.size _ s.drawn [s.heap.objs.size, a] _ _ (fun b o e => Heap.get?_push_of_some _ e) (Nat.le_refl _)
        (fun A' hh' => walks_weak (walks_small hh' (Nat.ne_of_lt hlt) hX hc hd ht h1) fun i v hv => by rw [List.getElem?_map, Array.getElem?_toList]; exact hv)
        ⟨⟨_, Heap.get?_push_size _ rfl, rfl, rfl⟩, Heap.get?_push_of_some _ ho⟩ (hfp _ _ rfl) hfq (by simp) (fun i g st => let ⟨o, ho, hc, _⟩ := st.1; ⟨o, ho, hc⟩) (vals_ok _ .rfl).1 (vals_ok _ .rfl).2

theorem collect_X {c : Prop} {a : Addr} {oa : Obj} {S : Str → Bool} {n : Nat} {Q : List Value → Shared → Prop} (hh : A.handled = none) (ho : s.heap.get? a = some oa) (hX : SetX prog w c oa S n) (hc : n ≠ 0 → c) (hn : n ≤ 64)
    (h : ∀ (vals : List Value) (h' : Heap) (d : Drawn) (tk : Nat), Kept s.heap h' → s.heap.objs.size ≤ h'.objs.size → vals.length = n → (∀ v ∈ vals, ∃ k t, v = .str k t ∧ S k = true) → Q vals { s with heap := h', drawn := d, toks := tk }) :
    wpAny (model prog w) A (collect (.ref a)) Q E s := by
  unfold collect
  refine wpAny_bind (wpAny_runValue (codeAny_builtin F.entry_proto_collect ?_))
  rw [Around.under_plainId F.plain_proto_collect _]
  show wpAny _ A.in1 (newList [] >>= fun l => again (.builtin "list.__iadd__" ⟨[l, .ref a], []⟩)) _ _ s
  refine wpAny_bind (wpAny_newObj_type ?_)
  refine wpAny_pure ⟨plainId_quiet F.plain_list_iadd _, codeAny_builtin F.entry_list_iadd ?_⟩
  rw [Around.under_plainId F.plain_list_iadd _]
  have hS₁ : (s.heap.push { cls := .type "list", data := .seq ([] : List Value).toArray }).get? s.heap.objs.size = some { cls := .type "list", data := .seq ([] : List Value).toArray } := Heap.get?_push_size _ rfl
  have ho1 : (s.heap.push { cls := .type "list", data := .seq ([] : List Value).toArray }).get? a = some oa := Heap.get?_push_of_some _ ho
  have hSa : s.heap.objs.size ≠ a := Nat.ne_of_gt (Heap.lt_size ho)
  have h1 : Builtin.List.listSameRef (.ref s.heap.objs.size) (.ref a) = false := by simp [Builtin.List.listSameRef, hSa]
  show wpAny _ A.in1 (Builtin.List.listExtendWith (.ref s.heap.objs.size) (.ref a) (.ref s.heap.objs.size)) _ _ _
  unfold Builtin.List.listExtendWith
  refine wpAny_bind (wpAny_typeOf (T := "set") ⟨oa, ho1, hX.1.1⟩ ?_)
  rw [if_neg (by rw [h1]; decide)]
  refine wpAny_bind (iter_X (s := { s with heap := s.heap.push { cls := .type "list", data := .seq ([] : List Value).toArray } }) ho1 hX hc hn fun I h2 d fp vals St hk hI W hst hfp hfq hIf hT hlen hvals => ?_)
  have hS₂ := hk _ _ hS₁
  refine wpAny_bind (wpAny_holding ?_)
  unfold Builtin.List.listLengthHint
  have hTa : Shared.TypeIs { s with heap := h2, drawn := d } (.ref a) "set" := ⟨oa, hk _ _ ho1, hX.1.1⟩
  refine wpAny_bind (wpAny_specialOf hTa F.slot_set_len.lookup ?_)
  (generalize hid : ("set.__len__" : String) = id0; (fail_if_success (clear hid id0)); wp_delta; rw [show splitId id0 = some ("set", "__len__") from by subst hid; decide +kernel]; subst hid)
  refine wpAny_bind (wpAny_isInstance (b := true) hTa sub_set_self ?_)
  refine wpAny_bind (wpAny_typeOf hTa ?_)
  refine wpAny_pure ?_
  rw [if_pos (by decide)]
  refine wpAny_bind (wpAny_rule ?_)
  refine wpAny_bind ?_
  show wpAny _ A.in1 (updateSeq s.heap.objs.size (·.push .none) >>= fun _ => updateSeq s.heap.objs.size (·.pop)) _ _ _
  refine wpAny_bind (wpAny_updateSeq hS₂ rfl ?_)
  have hS₃ := Heap.get?_update_self (Obj.mapSeq (·.push Value.none)) hS₂ rfl
  refine wpAny_updateSeq (hz := by seq_fits) hS₃ rfl ?_
  have hS₄ := Heap.get?_update_self (Obj.mapSeq (·.pop)) hS₃ rfl
  have oth : ∀ b o, b ≠ s.heap.objs.size → h2.get? b = some o → ((h2.update s.heap.objs.size (Obj.mapSeq (·.push Value.none))).update s.heap.objs.size (Obj.mapSeq (·.pop))).get? b = some o :=
    fun b o hb e => (Heap.get?_update_other _ _ (Ne.symm hb)).trans ((Heap.get?_update_other _ _ (Ne.symm hb)).trans e)
  have hszD : (s.heap.push { cls := .type "list", data := .seq ([] : List Value).toArray }).objs.size = s.heap.objs.size + 1 := Heap.size_push ..
  have hSf : s.heap.objs.size ∉ fp := fun hm => by
    rcases hfq _ hm with e | e
    · exact hSa e
    · rw [hszD] at e; exact absurd e (Nat.not_succ_le_self _)
  have W' := W A.in1 (by simpa using hh)
  have hst' := W'.frame 0 h2 _ hst (fun b hb o e => oth b o (fun q => hSf (q ▸ hb)) e)
  refine wpAny_pure ⟨plainId_quiet F.plain_extend_loop _, codeAny_extend_loopS W'.toS (by rw [sizeLine_eq]; omega) _ hSf _ n 0 _ _ _ rfl (Nat.zero_le _) hst' hS₄ (ItemsOf.nil _) fun s' acc' c' hm hS' hacc => ?_⟩
  obtain ⟨h', g', d', tk', os'⟩ := s'
  have eg : g' = s.gens := hm.gens
  have ed : d' = d := hm.drawn
  have eo : os' = s.os := hm.os
  subst eg; subst ed; subst eo
  show wpAny _ A (load s.heap.objs.size >>= _) _ _ _
  refine wpAny_bind (wpAny_load hS' ?_)
  refine wpAny_pure (h acc'.toList h' d' tk' (fun b o e => ?_) (Nat.le_of_lt (Heap.lt_size hS')) (by simpa using hacc.1) fun v hv => ?_)
  · have hlt := Heap.lt_size e
    have n1 : b ≠ s.heap.objs.size := Nat.ne_of_lt hlt
    have hI' : s.heap.objs.size + 1 ≤ I := by rw [← hszD]; exact hI
    have n2 : b ≠ I := Nat.ne_of_lt (Nat.lt_of_lt_of_le hlt (Nat.le_of_succ_le hI'))
    exact hm.heap b o (by simp only [List.mem_cons, List.not_mem_nil, or_false, not_or]; exact ⟨n1, n2⟩) (oth b o n1 (hk b o (Heap.get?_push_of_some _ e)))
  · obtain ⟨j, hj, e⟩ := List.getElem_of_mem hv
    have := hacc.2 j v (by rw [← Array.getElem?_toList, List.getElem?_eq_getElem hj, e])
    exact hvals v (List.mem_of_getElem? this)

theorem sorted_X {c : Prop} {a : Addr} {oa : Obj} {S : Str → Bool} {n : Nat} {Q : Value → Shared → Prop} (hh : A.handled = none) (ho : s.heap.get? a = some oa) (hX : SetX prog w c oa S n) (hc : n ≠ 0 → c) (hn : n < 64)
    (h : ∀ (D : Addr) (h' : Heap) (d : Drawn) (tk : Nat) (vs : List Value) (ss : List Str) (e : Nat), Kept s.heap h' → s.heap.objs.size ≤ D → h'.get? D = some (seqObj "list" vs.toArray e) → StrsAre vs ss → ss.length = n → (∀ x ∈ ss, S x = true) → Q (.ref D) { s with heap := h', drawn := d, toks := tk }) :
    wpAny (model prog w) A (call (.builtin "sorted") [.ref a]) Q E s := by
  refine Calls.call_function_entry kind_sorted plain_sorted entry_sorted (args_sorted1 _) ?_
  unfold Builtin.«sorted»
  refine wpAny_bind (m := checkCount "sorted" 1 1 _) (wpAny_pure ?_)
  refine wpAny_bind (collect_X (by simpa using hh) ho hX hc (Nat.le_of_lt hn) fun vals h1 d tk k1 hle hlen hvals => ?_)
  refine wpAny_bind (wpAny_newList ?_ (by rw [sizeLine_eq]; omega))
  have hS : StrsAre vals (vals.map strOf) := strsAre_map vals fun v hv => let ⟨k, t, e, _⟩ := hvals v hv; ⟨k, t, e⟩
  have hoL : (h1.push (seqObj "list" vals.toArray 0)).get? h1.objs.size = some (seqObj "list" vals.toArray 0) := Heap.get?_push_size _ rfl
  refine wpAny_bind (wpAny_holding (wpAny_call_entry slot_list_sort ⟨_, hoL, rfl⟩ entry_list_sort (list_sort_treeK (s := { s with heap := h1.push (seqObj "list" vals.toArray 0), drawn := d, toks := tk }) strKind_oneLt hoL hS.keysOf (fun v₁ v₂ rest e => keyKind_strs (by rw [← e]; exact hS)) (by omega) fun st' a1 a2 => ⟨_, rfl, ?_⟩) (args_list_sort _)))
  obtain ⟨ss', b1, b2, b3⟩ := sorted_out_str hS a1 a2
  obtain ⟨e, he⟩ := sortedHeap_at (vs := vals) (out := (arrOf st').map (·.2)) hoL
  refine wpAny_pure ⟨_, rfl, h h1.objs.size _ d tk ((arrOf st').map (·.2)).toList ss' e (fun b o eb => ?_) hle (by rw [Array.toArray_toList]; exact he) b1 (by rw [b2.length_eq, List.length_map, hlen]) fun x hx => ?_⟩
  · have e1 := k1 b o eb
    have hlt := Heap.lt_size e1
    rw [sortedHeap_old (Nat.ne_of_lt hlt) (by rw [Heap.size_push]; exact Nat.lt_succ_of_lt hlt)]
    exact Heap.get?_push_of_some _ e1
  · obtain ⟨v, hv, rfl⟩ := List.mem_map.mp (b2.mem_iff.mp hx)
    obtain ⟨k, t, rfl, hk⟩ := hvals v hv
    exact hk

theorem truthy_X {c : Prop} {a : Addr} {oa : Obj} {S : Str → Bool} {n : Nat} {Q : Bool → Shared → Prop} (ho : s.heap.get? a = some oa) (hX : SetX prog w c oa S n) (hn : n ≤ 64) (h : Q (decide (n ≠ 0)) { s with toks := s.toks + 1 + 1 }) : wpAny (model prog w) A (truthy (.ref a)) Q E s := by
  obtain ⟨hex, es, ep, t, hd, hel, hmem, hsz, hf, hled, hpl⟩ := id hX
  subst hsz
  have hT := hX.typeIs ho
  have key : wpAny (model prog w) A (runValue (.builtin "len" ⟨[.ref a], []⟩)) (fun r s' => r = .int es.size (s.toks + 1) ∧ Q (decide (es.size ≠ 0)) s') E s := by
    refine wpAny_runValue (codeAny_builtin entry_len ?_)
    rw [Around.under_plainId plain_len _]
    exact wpAny_mono (wpAny_len_body_set (Q := fun r s' => r = .int es.size (s.toks + 1) ∧ Q (decide (es.size ≠ 0)) s') ho hex hd hf (by omega) ⟨rfl, h⟩)
      (fun fin s' h' => by obtain ⟨r, rfl, hq⟩ := h'; exact hq) fun _ _ e => e
  unfold truthy
  first
    | refine wpAny_bind (wpAny_callSpecial?_none (name := Str.ofString "__bool__") hT noBool_set ?_)
    | refine wpAny_bind (wpAny_pure (wpAny_bind (wpAny_callSpecial?_none (name := Str.ofString "__bool__") hT noBool_set ?_)))
  first
    | refine wpAny_bind (wpAny_specialOf (name := Str.ofString "__len__") hT F.slot_set_len.lookup ?_)
    | refine wpAny_bind (wpAny_pure (wpAny_bind (wpAny_specialOf (name := Str.ofString "__len__") hT F.slot_set_len.lookup ?_)))
  have fin : ∀ r s', (r = Value.int es.size (s.toks + 1) ∧ Q (decide (es.size ≠ 0)) s') → wpAny (model prog w) A (match r with | .int n _ => pure (n != 0) | _ => unsupported "internal:truth.len") Q E s' := by
    rintro r s' ⟨rfl, hq⟩
    have e : (((es.size : Nat) : Int) != 0) = decide (es.size ≠ 0) := by
      rw [Bool.eq_iff_iff]; simp
    show wpAny _ _ (pure (((es.size : Nat) : Int) != 0)) _ _ _
    rw [e]
    exact wpAny_pure hq
  first
    | exact wpAny_bind (wpAny_mono key (fun r s' h' => fin r s' h') fun _ _ e => e)
    | exact wpAny_bind (wpAny_pure (wpAny_bind (wpAny_mono key (fun r s' h' => fin r s' h') fun _ _ e => e)))
end
end Mine
end
section -- MSetL
set_option maxRecDepth 100000
namespace Mine
open PySem PySem.W PyProof.Rows

/-- a set of at most b strs -/
def StrSet (prog : Program) (w : World) (b : Nat) (o : Obj) (S : Str → Bool) : Prop := ∃ n, n ≤ b ∧ SetX prog w (n ≠ 0) o S n

section
variable {prog : Program} {w : World} {A : Around} {E : Value → Shared → Prop} {s : Shared} {h₀ : Heap} {L : Addr} {m : Str → Option Value} {news : List (Addr × Obj)}

theorem StrSet.more {b b' : Nat} {o : Obj} {S : Str → Bool} (h : StrSet prog w b o S) (hb : b ≤ b') : StrSet prog w b' o S := let ⟨n, h1, h2⟩ := h; ⟨n, Nat.le_trans h1 hb, h2⟩
theorem StrSet.empty {o : Obj} {S : Str → Bool} (h : o.SetObjOf (PySem.strKind prog w) S 0) : StrSet prog w 0 o S := ⟨0, Nat.le_refl _, SetX.of_empty h (fun x => x rfl)⟩
theorem StrSet.congr {b : Nat} {o : Obj} {S S' : Str → Bool} (h : StrSet prog w b o S) (e : ∀ k, S k = S' k) : StrSet prog w b o S' := let ⟨n, h1, h2⟩ := h; ⟨n, h1, h2.congr e rfl⟩

theorem kept_Fr {h h' : Heap} (F : Fr h₀ L h m) (k : Kept h h') : Fr h₀ L h' m := F.kept k

theorem setList_L {l : Addr} {vs : List Value} {ss : List Str} {Q : Value → Shared → Prop} (F : Fr h₀ L s.heap m) (N : News h₀ L s.heap news) (hh : A.handled = none) (hl : s.heap.IsList l vs.toArray) (hi : StrsAre vs ss) (hb : ss.length ≤ 4)
    (h : ∀ D h' tk o', Fr h₀ L h' m → News h₀ L h' ((D, o') :: news) → (∀ p ∈ news, p.1 < D) → StrSet prog w 4 o' (fun j => ss.contains j) → Q (.ref D) { s with heap := h', toks := tk }) :
    wpAny (model prog w) A (call (.type "set") [.ref l]) Q E s :=
  setList_X hh hl hi (by omega) fun h' tk o' n k g X hn => h _ h' tk o' (F.kept k) (N.kept_cons F k (Nat.le_refl _) g) (fun p hp => Heap.lt_size (N p hp).1) ⟨n, by omega, X.weak fun _ => trivial⟩

theorem sub_L {a b : Addr} {oa ob : Obj} {Sa Sb : Str → Bool} {Q : Value → Shared → Prop} (F : Fr h₀ L s.heap m) (N : News h₀ L s.heap news) (ha : (a, oa) ∈ news) (hb : (b, ob) ∈ news) (hab : a ≠ b)
    (hA : StrSet prog w 4 oa Sa) (hB : StrSet prog w 4 ob Sb)
    (h : ∀ D h' o', Fr h₀ L h' m → News h₀ L h' ((D, o') :: news) → (∀ p ∈ news, p.1 < D) → StrSet prog w 4 o' (fun j => Sa j && !Sb j) → Q (.ref D) { s with heap := h' }) :
    wpAny (model prog w) A (binaryOp .Sub (.ref a) (.ref b)) Q E s := by
  obtain ⟨na, hna, hXa⟩ := hA
  obtain ⟨nb, hnb, hXb⟩ := hB
  have ga := (N _ ha).1
  have gb := (N _ hb).1
  refine wpAny_binaryOp_same (op := .Sub) (T := "set") (hXa.typeIs ga) (hXb.typeIs gb) PySem.F.fills_set_sub PySem.F.slot_set_sub (wpAny_call_entry PySem.F.slot_set_sub (hXa.typeIs ga) entry_set_sub ?_ (PySem.F.args_set_sub_2 _ _))
  exact diff_X hab ga hXa id hna gb hXb id hnb fun h' o' S' n' k g X hn e => ⟨_, rfl, (fun q => nomatch q), h _ h' o' (F.kept k) (N.kept_cons F k (Nat.le_refl _) g) (fun p hp => Heap.lt_size (N p hp).1) ⟨n', hn, (X.congr e rfl).weak fun _ => trivial⟩⟩

theorem or_L {a b : Addr} {oa ob : Obj} {Sa Sb : Str → Bool} {Q : Value → Shared → Prop} (F : Fr h₀ L s.heap m) (N : News h₀ L s.heap news) (ha : (a, oa) ∈ news) (hb : (b, ob) ∈ news) (hab : a ≠ b)
    (hA : StrSet prog w 4 oa Sa) (hB : StrSet prog w 4 ob Sb)
    (h : ∀ D h' o', Fr h₀ L h' m → News h₀ L h' ((D, o') :: news) → (∀ p ∈ news, p.1 < D) → StrSet prog w 8 o' (fun j => Sa j || Sb j) → Q (.ref D) { s with heap := h' }) :
    wpAny (model prog w) A (binaryOp .BitOr (.ref a) (.ref b)) Q E s := by
  obtain ⟨na, hna, hXa⟩ := hA
  obtain ⟨nb, hnb, hXb⟩ := hB
  have ga := (N _ ha).1
  have gb := (N _ hb).1
  refine wpAny_binaryOp_same (op := .BitOr) (T := "set") (hXa.typeIs ga) (hXb.typeIs gb) PySem.F.fills_set_or PySem.F.slot_set_or (wpAny_call_entry PySem.F.slot_set_or (hXa.typeIs ga) entry_set_or ?_ (PySem.F.args_set_or_2 _ _))
  exact union_X hab ga hXa id hna gb hXb id hnb fun h' o' S' n' k g X hn e => ⟨_, rfl, (fun q => nomatch q), h _ h' o' (F.kept k) (N.kept_cons F k (Nat.le_refl _) g) (fun p hp => Heap.lt_size (N p hp).1) ⟨n', hn, (X.congr e rfl).weak fun _ => trivial⟩⟩

theorem truthy_L {a : Addr} {oa : Obj} {S : Str → Bool} {b : Nat} {Q : Bool → Shared → Prop} (N : News h₀ L s.heap news) (ha : (a, oa) ∈ news) (hA : StrSet prog w b oa S) (hb : b ≤ 64)
    (h : ∀ (t : Bool) tk, (t = true ↔ ∃ k, S k = true) → Q t { s with toks := tk }) : wpAny (model prog w) A (truthy (.ref a)) Q E s := by
  obtain ⟨n, hn, hX⟩ := hA
  refine truthy_X (N _ ha).1 hX (by omega) (h _ _ ?_)
  rw [decide_eq_true_iff]
  refine ⟨fun e => hX.some_in e, fun ⟨k, hk⟩ e => ?_⟩
  subst e
  rw [hX.none_in k] at hk; cases hk

theorem len_L {a : Addr} {oa : Obj} {S : Str → Bool} {b : Nat} {Q : Value → Shared → Prop} (N : News h₀ L s.heap news) (ha : (a, oa) ∈ news) (hA : StrSet prog w b oa S) (hb : b ≤ 64)
    (h : ∀ (n : Nat) t tk, n ≤ b → Q (.int n t) { s with toks := tk }) : wpAny (model prog w) A (call (.builtin "len") [.ref a]) Q E s := by
  obtain ⟨n, hn, hex, es, ep, t, hd, hel, hmem, hsz, hf, _⟩ := hA
  exact call_len_set (N _ ha).1 hex hd hf (by omega) (by rw [hsz]; exact h n _ _ hn)

theorem sorted_L {a : Addr} {oa : Obj} {S : Str → Bool} {b : Nat} {Q : Value → Shared → Prop} (F : Fr h₀ L s.heap m) (N : News h₀ L s.heap news) (hh : A.handled = none) (ha : (a, oa) ∈ news) (hA : StrSet prog w b oa S) (hb : b ≤ 32)
    (h : ∀ D h' d tk vs ss e, Fr h₀ L h' m → News h₀ L h' ((D, seqObj "list" vs.toArray e) :: news) → (∀ p ∈ news, p.1 < D) → StrsAre vs ss → ss.length ≤ b → (∀ x ∈ ss, S x = true) → Q (.ref D) { s with heap := h', drawn := d, toks := tk }) :
    wpAny (model prog w) A (call (.builtin "sorted") [.ref a]) Q E s := by
  obtain ⟨n, hn, hX⟩ := hA
  exact sorted_X hh (N _ ha).1 hX id (by omega) fun D h' d tk vs ss e k hD g hS hl hx => h D h' d tk vs ss e (F.kept k) (N.kept_cons F k hD g) (fun p hp => Nat.lt_of_lt_of_le (Heap.lt_size (N p hp).1) hD) hS (by omega) hx
end
end Mine
end
section -- LDefs
open PySem PySem.W PyProof.Rows
set_option maxRecDepth 100000
namespace Mine

/-- the law's body and scope, read off the row -/
noncomputable def lawFun : PSigma fun (p : List Stmt × Scope) => some p = (match PySem.Challenge.pw_je0007_01.main.body.getLast? with | some (.FunctionDef _ _ b _ _ _ sc _ _ _) => some (b, sc) | _ => none) := by
  refine ⟨?_, ?_⟩
  rotate_left
  · dsimp only [PySem.Challenge.pw_je0007_01, List.getLast?, List.getLast]
    rfl
noncomputable abbrev lawEnv (L fa : Addr) (cd : Value) : Env := envOfC (Str.ofString "law") lawFun.1.2 L fa cd
noncomputable abbrev lawA (L fa : Addr) (cd : Value) : Around := callerA.deeper (lawEnv L fa cd)
abbrev prg : Program := PySem.Challenge.rw_je0007_01.row.prog

/-- what the walk knows of the world around the call -/
structure Law (w : World) (h₀ : Heap) (mean : ExcName → Option Value) (mg mb : Str → Option Value) : Prop where
  X : (K w.params).In h₀
  T : Top q (looseW q loose) mean mg mb h₀
  B : Below callerA h₀ [] h₀
  G : Glob 0 mg mb (List.map itemOf (recsOf q)) (scalarsOf [] ++ constsW q) [] (namesW q loose) h₀
  V : LooseAre [] mg h₀
  TE : TopE q (looseW q loose) mg h₀
  TW : TopW q mg h₀
  TB : Tables q w mg h₀
  XM : Flt.MathXP q mg h₀
  M : ∃ a o, BMod h₀ mainGlobals mg a o

noncomputable def stmts (k : Nat) : List Stmt := [lawFun.1.1.getD k (.Pass ⟨0, 0, 0, 0⟩)]
end Mine
end
section -- MComp
set_option maxRecDepth 100000
namespace Mine
open PySem PySem.W PyProof.Rows PySem.Calls

def Short (x : Str) : Prop := x.cps.size ≤ 20
def Shorts (ss : List Str) : Prop := ss.length ≤ 4 ∧ ∀ x ∈ ss, Short x

/-- the end of a turn that takes a short text -/
def CsEl (news : List (Addr × Obj)) (P : Prop) (y : Value) (news' : List (Addr × Obj)) : Prop := news' = news ∧ P ∧ ∃ x t, y = .str x t ∧ Short x
def CsNo (news : List (Addr × Obj)) (news' : List (Addr × Obj)) : Prop := news' = news
theorem cs_el {news news' : List (Addr × Obj)} {P : Prop} {x : Str} {t : Tok} (hp : P) (hs : Short x) (e : news' = news) : CsEl news P (.str x t) news' := ⟨e, hp, x, t, rfl, hs⟩
theorem cs_no {news news' : List (Addr × Obj)} (e : news' = news) : CsNo news news' := e
def CsDone (P : Prop) : Prop := P

theorem strs_snoc {us : List Value} {ws : List Str} {x : Str} {t : Tok} (h : StrsAre us ws) : StrsAre (us ++ [.str x t]) (ws ++ [x]) := h.append' (.cons _ _ .nil)

section
variable {prog : Program} {w : World} {A : Around} {h₀ : Heap} {L : Addr} {m : Str → Option Value} {env : Env} {ct elt : Expr} {x : Str} {scope : Scope} {cl : List (Str × Addr)} {s : Shared} {S : List (Addr × Obj) → Prop} {Fin : List Value → List (Addr × Obj) → Prop} {news : List (Addr × Obj)}

theorem comp_strs (P : Prop)
    (turn : ∀ k t I oI C oC D m₂ ys h tk (E' : Value → Shared → Prop), (0 : Int) ≤ k → k < 4 → LCg.NsObj oC m₂ → m₂ x = some (.int k t) → Fr h₀ L h m → News h₀ L h ((I, oI) :: (C, oC) :: (D, LCg.lst ys) :: news) → LCg.Off3 I C D news → ((@Ne Nat I C) ∧ (@Ne Nat I D) ∧ (@Ne Nat C D)) →
      wpAny (model prog w) A (isTrue ct (compEnvC scope cl C env) (eval ct (compEnvC scope cl C env))) (fun b s' => if b = true then wpAny (model prog w) A (eval elt (compEnvC scope cl C env)) (LCg.CompEnd h₀ L m { s with heap := h, toks := tk } I oI C oC D (LCg.lst ys) S (fun y news' => CsEl news P y news')) E' s'
        else LCg.CompEnd h₀ L m { s with heap := h, toks := tk } I oI C oC D (LCg.lst ys) S (fun _ news' => CsNo news news') Value.none s') E' { s with heap := h, toks := tk })
    (fin : CsDone (∀ ys ss, StrsAre ys ss → Shorts ss → (ss ≠ [] → P) → Fin ys news)) : LCt.CompRestT prog w A h₀ L m env ct elt x scope cl s S (fun i v => ∃ t, v = .int (0 + (i : Int)) t) Fin 4 0 [] news := by
  have key : ∀ (j i : Nat) (ys : List Value) (ss : List Str), i + j = 4 → StrsAre ys ss → ss.length ≤ i → (∀ y ∈ ss, Short y) → (ss ≠ [] → P) → LCt.CompRestT prog w A h₀ L m env ct elt x scope cl s S (fun i v => ∃ t, v = .int (0 + (i : Int)) t) Fin j i ys news := by
    intro j
    induction j with
    | zero => intro i ys ss hi hy hl hsh hP; exact LCt.CompRestT.zero (fin ys ss hy ⟨by omega, hsh⟩ hP)
    | succ j ih =>
      intro i ys ss hi hy hl hsh hP
      refine LCt.CompRestT.succ ?_
      intro v I oI C oC D m₂ h tk E' hv hC hx F N off ne
      obtain ⟨t, hv'⟩ := hv
      rw [hv'] at hx
      refine wpAny_mono (turn _ t I oI C oC D m₂ ys h tk E' (by omega) (by omega) hC hx F N off ne) (fun b s₂ hq => ?_) fun _ _ e => e
      cases b with
      | true =>
        simp only [if_true] at hq ⊢
        refine wpAny_mono hq (fun y s₃ hr => ?_) fun _ _ e => e
        obtain ⟨h', tk', nw, e, F', N', off', hS, hn, hp, z, t', hy', hz⟩ := hr
        rw [hn] at N' off' hS
        refine ⟨h', tk', news, e, F', N', off', hS, ?_⟩
        rw [hy']
        exact ih (i + 1) _ (ss ++ [z]) (by omega) (strs_snoc hy) (by rw [List.length_append, List.length_singleton]; omega) (fun q hq => by
          rcases List.mem_append.mp hq with hq | hq
          · exact hsh q hq
          · rw [List.mem_singleton.mp hq]; exact hz) (fun _ => hp)
      | false =>
        simp only [Bool.false_eq_true, if_false] at hq ⊢
        obtain ⟨h', tk', nw, e, F', N', off', hS, hn⟩ := hq
        have hn' : nw = news := hn
        rw [hn'] at N' off' hS
        exact ⟨h', tk', news, e, F', N', off', hS, ih (i + 1) _ ss (by omega) hy (by omega) hsh hP⟩
  exact key 4 0 [] [] (by omega) .nil (by simp) (by simp) (by simp)

/-- the end of a turn over texts: taken just where p says so -/
def CpEl (news : List (Addr × Obj)) (P : Prop) (_ : Value) (news' : List (Addr × Obj)) : Prop := news' = news ∧ P
theorem cp_el {news news' : List (Addr × Obj)} {P : Prop} {y : Value} (hp : P) (e : news' = news) : CpEl news P y news' := ⟨e, hp⟩

theorem comp_pick {vs : List Value} {ss : List Str} (hi : StrsAre vs ss) (p : Str → Prop)
    (turn : ∀ z t I oI C oC D m₂ ys h tk (E' : Value → Shared → Prop), z ∈ ss → LCg.NsObj oC m₂ → m₂ x = some (.str z t) → Fr h₀ L h m → News h₀ L h ((I, oI) :: (C, oC) :: (D, LCg.lst ys) :: news) → LCg.Off3 I C D news → ((@Ne Nat I C) ∧ (@Ne Nat I D) ∧ (@Ne Nat C D)) →
      wpAny (model prog w) A (isTrue ct (compEnvC scope cl C env) (eval ct (compEnvC scope cl C env))) (fun b s' => if b = true then wpAny (model prog w) A (eval elt (compEnvC scope cl C env)) (LCg.CompEnd h₀ L m { s with heap := h, toks := tk } I oI C oC D (LCg.lst ys) S (fun y news' => CpEl news (p z) y news')) E' s'
        else LCg.CompEnd h₀ L m { s with heap := h, toks := tk } I oI C oC D (LCg.lst ys) S (fun _ news' => CpEl news (¬ p z) Value.none news') Value.none s') E' { s with heap := h, toks := tk })
    (fin : CsDone (∀ ys : List Value, ys.length ≤ ss.length → (ys ≠ [] ↔ ∃ z ∈ ss, p z) → Fin ys news)) : LCt.CompRestT prog w A h₀ L m env ct elt x scope cl s S (fun i v => vs.toArray[i]? = some v) Fin vs.toArray.size 0 [] news := by
  have hlen : vs.length = ss.length := hi.len_eq
  have key : ∀ (j i : Nat) (ys : List Value), i + j = ss.length → ys.length ≤ i → (ys ≠ [] ↔ ∃ z ∈ ss.take i, p z) → LCt.CompRestT prog w A h₀ L m env ct elt x scope cl s S (fun i v => vs.toArray[i]? = some v) Fin j i ys news := by
    intro j
    induction j with
    | zero =>
      intro i ys hi' hl hy
      have : i = ss.length := by omega
      subst this
      rw [List.take_length] at hy
      exact LCt.CompRestT.zero (fin ys hl hy)
    | succ j ih =>
      intro i ys hi' hl hy
      refine LCt.CompRestT.succ ?_
      intro v I oI C oC D m₂ h tk E' hv hC hx F N off ne
      obtain ⟨z, t, rfl, hz⟩ := hi.item i v (by simpa using hv)
      have htk : ss.take (i + 1) = ss.take i ++ [z] := by rw [List.take_add_one, hz]; rfl
      refine wpAny_mono (turn z t I oI C oC D m₂ ys h tk E' (List.mem_of_getElem? hz) hC hx F N off ne) (fun b s₂ hq => ?_) fun _ _ e => e
      cases b with
      | true =>
        simp only [if_true] at hq ⊢
        refine wpAny_mono hq (fun y s₃ hr => ?_) fun _ _ e => e
        obtain ⟨h', tk', nw, e, F', N', off', hS, hn, hp⟩ := hr
        rw [hn] at N' off' hS
        refine ⟨h', tk', news, e, F', N', off', hS, ih (i + 1) _ (by omega) (by rw [List.length_append, List.length_singleton]; omega) ?_⟩
        rw [htk]
        exact ⟨fun _ => ⟨z, by simp, hp⟩, fun _ => by simp⟩
      | false =>
        simp only [Bool.false_eq_true, if_false] at hq ⊢
        obtain ⟨h', tk', nw, e, F', N', off', hS, hn, hp⟩ := hq
        rw [hn] at N' off' hS
        refine ⟨h', tk', news, e, F', N', off', hS, ih (i + 1) ys (by omega) (by omega) ?_⟩
        rw [htk, hy]
        constructor
        · rintro ⟨q, hq, hpq⟩; exact ⟨q, List.mem_append_left _ hq, hpq⟩
        · rintro ⟨q, hq, hpq⟩
          rcases List.mem_append.mp hq with hq | hq
          · exact ⟨q, hq, hpq⟩
          · rw [List.mem_singleton.mp hq] at hpq; exact absurd hpq hp
  have := key ss.length 0 [] (by omega) (Nat.le_refl _) (by simp)
  have e : vs.toArray.size = ss.length := by rw [List.size_toArray]; exact hlen
  rw [e]; exact this
end
end Mine
end
section -- MMisc
set_option maxRecDepth 100000
namespace Mine
open PySem PySem.W PyProof.Rows PySem.Calls

theorem news_sub {h₀ h : Heap} {L : Addr} {news news' : List (Addr × Obj)} (N : News h₀ L h news) (hs : news'.Sublist news) : News h₀ L h news' := fun p hp => N p (hs.mem hp)

section
variable {prog : Program} {w : World} {A : Around} {E : Value → Shared → Prop} {s : Shared}
theorem to_bytes_20 {t u v : Tok} {Q : Value → Shared → Prop} (h : ∀ b t' k', Q (.bytes b t') { s with toks := k' }) :
    wpAny (model prog w) A (call (.builtin "int.to_bytes") [.int 1 t, .int 20 u, .str (PySem.Str.ofString "big") v]) Q E s := by
  refine wpAny_call_entry KTBy.slot (typeIs_int s 1 t) KTBy.entry ?_ (KTBy.args _ _ _)
  show wpAny _ _ (Builtin.Int.intOfSelf (.int 1 t) >>= fun y => _) _ _ s
  refine wpAny_bind (wpAny_of_eq (a := 1) rfl ?_)
  show wpAny _ _ (Builtin.Int.intBindNamed "to_bytes" ["length", "byteorder", "signed"] 0 2 [.int 20 u, .str (PySem.Str.ofString "big") v] [] >>= fun l => _) _ _ s
  refine wpAny_bind (wpAny_of_eq (a := [some (.int 20 u), some (.str (PySem.Str.ofString "big") v), none]) (by kernel_rfl) ?_)
  show wpAny _ _ (Builtin.Int.intIndex "int.to_bytes" (.int 20 u) >>= fun n => _) _ _ s
  refine wpAny_bind (wpAny_of_eq (a := 20) rfl ?_)
  refine KTBy.if_not (by decide) ?_
  refine wpAny_bind (wpAny_of_eq (a := PySem.Str.ofString "big") (by kernel_rfl) ?_)
  refine wpAny_bind (wpAny_of_eq (a := false) rfl ?_)
  refine wpAny_bind (wpAny_of_eq (a := false) (by kernel_rfl) ?_)
  refine wpAny_ite_false (by decide) ?_
  refine wpAny_ite_false (by decide) ?_
  refine wpAny_ite_false (by rw [sizeLine_eq]; decide) ?_
  refine KTBy.if_not (by decide) ?_
  refine KTBy.if_not (by decide +kernel) ?_
  refine wpAny_bind (wpAny_mkBytes (wpAny_pure ⟨_, rfl, h _ _ _⟩) ?_)
  show (List.reverse (KTBy.low 1 20)).length ≤ sizeLine
  rw [List.length_reverse, KTBy.low_length, sizeLine_eq]; decide
end
end Mine
namespace Mine
open PySem PySem.W PyProof.Rows
theorem ints_six {ys : List Value} {g : Int → Int} (h : IntsAre ys (List.map g (rangeKs 0 (6 - 0 : Int).toNat))) : ∃ a b c d e f t1 t2 t3 t4 t5 t6, ys = [.int a t1, .int b t2, .int c t3, .int d t4, .int e t5, .int f t6] := by
  have e : List.map g (rangeKs 0 (6 - 0 : Int).toNat) = [g 0, g 1, g 2, g 3, g 4, g 5] := rfl
  rw [e] at h
  cases h with | cons _ t1 h => cases h with | cons _ t2 h => cases h with | cons _ t3 h => cases h with | cons _ t4 h => cases h with | cons _ t5 h => cases h with | cons _ t6 h => cases h with | nil =>
    exact ⟨_, _, _, _, _, _, t1, t2, t3, t4, t5, t6, rfl⟩
end Mine
namespace Mine
open PySem PySem.W PyProof.Rows
theorem news_dup {h₀ h : Heap} {L : Addr} {p q : Addr × Obj} {news : List (Addr × Obj)} (N : News h₀ L h (p :: q :: news)) : News h₀ L h (p :: q :: p :: q :: news) := fun x hx => by
  rcases List.mem_cons.mp hx with rfl | hx
  · exact N _ (.head _)
  · rcases List.mem_cons.mp hx with rfl | hx
    · exact N _ (.tail _ (.head _))
    · exact N _ hx
end Mine
end
section -- MMisc2
set_option maxRecDepth 100000
namespace Mine
open PySem PySem.W PyProof.Rows PySem.Calls
section
variable {prog : Program} {w : World} {A : Around} {E : Value → Shared → Prop} {s : Shared} {h₀ : Heap} {L : Addr} {m : Str → Option Value} {news : List (Addr × Obj)}
theorem isi_set_L {a : Addr} {oa : Obj} {S : Str → Bool} {b : Nat} {Q : Value → Shared → Prop} (N : News h₀ L s.heap news) (ha : (a, oa) ∈ news) (hA : StrSet prog w b oa S) (h : Q (.bool true) s) : wpAny (model prog w) A (call (.builtin "isinstance") [.ref a, .type "set"]) Q E s := by
  obtain ⟨n, _, hX⟩ := hA
  exact call_isinstance_yes (hX.typeIs (N _ ha).1) PySem.F.isi_meta_set sub_set_self h
theorem isi_list_L {a : Addr} {vs : List Value} {Q : Value → Shared → Prop} (N : News h₀ L s.heap news) (ha : (a, LCg.lst vs) ∈ news) (h : Q (.bool false) { s with toks := s.toks + 1 }) : wpAny (model prog w) A (call (.builtin "isinstance") [.ref a, .type "set"]) Q E s :=
  IsiPair.list_set (N _ ha).1 rfl h
end
end Mine

namespace Mine
open PySem PySem.W PyProof.Rows PySem.Calls
/-- a fact out of sight of omega -/
def Hid (p : Prop) : Prop := p
theorem modes3 (k : Int) : ((k == 1) = true ∧ (k == 2) = false) ∨ ((k == 1) = false ∧ (k == 2) = true) ∨ ((k == 1) = false ∧ (k == 2) = false) := by
  by_cases h : k = 1
  · subst h; exact .inl ⟨rfl, rfl⟩
  · by_cases h2 : k = 2
    · subst h2; exact .inr (.inl ⟨rfl, rfl⟩)
    · exact .inr (.inr ⟨by simpa using h, by simpa using h2⟩)
/-- what stands in a place of demands -/
def Pick (k : Int) (v : Value) (A0 FL : Addr) : Prop := (k = 1 ∧ v = .none) ∨ (k = 2 ∧ v = .ref FL) ∨ (k ≠ 1 ∧ k ≠ 2 ∧ v = .ref A0)
theorem pick1 {k : Int} {A0 FL : Addr} (h : (k == 1) = true) : Pick k .none A0 FL := .inl ⟨by simpa using h, rfl⟩
theorem pick2 {k : Int} {A0 FL : Addr} (h : (k == 2) = true) : Pick k (.ref FL) A0 FL := .inr (.inl ⟨by simpa using h, rfl⟩)
theorem pick3 {k : Int} {A0 FL : Addr} (h : (k == 1) = false) (h2 : (k == 2) = false) : Pick k (.ref A0) A0 FL := .inr (.inr ⟨by simpa using h, by simpa using h2, rfl⟩)
/-- a mark: which fact the comprehension at hand keeps -/
def PMark (_ : Prop) : Prop := True
theorem pmark (P : Prop) : PMark P := trivial
section
variable {prog : Program} {w : World} {A : Around} {h₀ : Heap} {L : Addr} {m : Str → Option Value} {env : Env} {ct elt : Expr} {x : Str} {scope : Scope} {cl : List (Str × Addr)} {s : Shared} {S : List (Addr × Obj) → Prop} {Fin : List Value → List (Addr × Obj) → Prop} {news : List (Addr × Obj)}
theorem comp_strs_m {P : Prop} (_ : PMark P)
    (turn : ∀ k t I oI C oC D m₂ ys h tk (E' : Value → Shared → Prop), (0 : Int) ≤ k → k < 4 → LCg.NsObj oC m₂ → m₂ x = some (.int k t) → Fr h₀ L h m → News h₀ L h ((I, oI) :: (C, oC) :: (D, LCg.lst ys) :: news) → LCg.Off3 I C D news → ((@Ne Nat I C) ∧ (@Ne Nat I D) ∧ (@Ne Nat C D)) →
      wpAny (model prog w) A (isTrue ct (compEnvC scope cl C env) (eval ct (compEnvC scope cl C env))) (fun b s' => if b = true then wpAny (model prog w) A (eval elt (compEnvC scope cl C env)) (LCg.CompEnd h₀ L m { s with heap := h, toks := tk } I oI C oC D (LCg.lst ys) S (fun y news' => CsEl news P y news')) E' s'
        else LCg.CompEnd h₀ L m { s with heap := h, toks := tk } I oI C oC D (LCg.lst ys) S (fun _ news' => CsNo news news') Value.none s') E' { s with heap := h, toks := tk })
    (fin : CsDone (∀ ys ss, StrsAre ys ss → Shorts ss → (ss ≠ [] → P) → Fin ys news)) : LCt.CompRestT prog w A h₀ L m env ct elt x scope cl s S (fun i v => ∃ t, v = .int (0 + (i : Int)) t) Fin 4 0 [] news := comp_strs P turn fin
end
end Mine
end
section -- MLoop
set_option maxRecDepth 100000
namespace Mine
open PySem PySem.W PyProof.Rows PySem.Calls

theorem replace_length (x y z : Str) (hz : z.length ≤ 1) : (Txt.replace x y z).length ≤ x.length + x.length + 1 := by
  unfold Txt.replace
  split
  · omega
  · have h1 := StrLaws.occ_length_le x y 0 x.length (x.length + 1)
    have hy : (Builtin.Str.glued y (Builtin.Str.partsBetween x (Builtin.Str.occurrences x y 0 x.length (x.length + 1)) y.length)).length = x.length := by rw [StrLaws.glued_between_self]
    rw [size_glued, length_partsBetween, Nat.add_sub_cancel] at hy
    rw [size_glued, length_partsBetween, Nat.add_sub_cancel]
    have h2 : (Builtin.Str.occurrences x y 0 x.length (x.length + 1)).length * z.length ≤ (x.length + 1) * 1 := Nat.mul_le_mul h1 hz
    omega

def Longs (rs : List Str) : Prop := rs.length ≤ 8 ∧ ∀ r ∈ rs, r.length ≤ 41
theorem longs_nil : Longs [] := ⟨Nat.zero_le _, by simp⟩
theorem longs_sum {rs : List Str} (h : Longs rs) : (rs.map (·.length)).sum + rs.length ≤ 1048576 := by
  obtain ⟨h1, h2⟩ := h
  have key : ∀ (l : List Str), (∀ r ∈ l, r.length ≤ 41) → (l.map (·.length)).sum ≤ l.length * 41 := by
    intro l
    induction l with
    | nil => intro _; simp
    | cons a l ih =>
      intro h
      have h3 := h a (.head _)
      have h4 := ih fun r hr => h r (.tail _ hr)
      simp only [List.map_cons, List.sum_cons, List.length_cons]
      omega
  have := key rs h2
  omega

section
variable {prog : Program} {w : World} {A : Around} {E : Value → Shared → Prop} {s : Shared} {env : Env} {h₀ : Heap} {x : Str} {body : List Stmt} {Q : Flow → Shared → Prop}

theorem iter_strs_L {l d : Addr} {q : Addr × Obj} {e : Nat} {vs : List Value} {ss : List Str} {m₀ : Str → Option Value} {post : List (Addr × Obj)} {n₀ : Nat}
    (hh : A.handled = none) (F : Fr h₀ env.locals s.heap m₀) (N : News h₀ env.locals s.heap ((l, seqObj "list" vs.toArray e) :: q :: (d, listOf #[] n₀) :: post)) (hlt : ∀ p ∈ q :: (d, listOf #[] n₀) :: post, p.1 < l) (hi : StrsAre vs ss) (hlen : ss.length ≤ 8)
    (hsh : ∀ x ∈ ss, x.length ≤ 20)
    (turn : ∀ (z : Str) t (us : List Value) nn h tk own, z.length ≤ 20 → us.toArray.size ≤ sizeLine → OwnOff own (d :: post.map (·.1)) → Fr h₀ env.locals h (fun y => if y = x then some (.str z t) else m₀ y) → News h₀ env.locals h (((d, listOf us.toArray nn) :: post) ++ own) →
      wpAny (model prog w) A (execs body env) (InvPostN h₀ env.locals (fun m' nx => (∃ r t' n', nx = (d, listOf (us.toArray.push (.str r t')) n') :: post ∧ r.length ≤ 41) ∧ ∀ z, z ≠ x → m' z = m₀ z) own (d :: post.map (·.1)) { s with heap := h, toks := tk } Q) E { s with heap := h, toks := tk })
    (done : ∀ (u : Str → Option Value) us rs nn h tk, StrsAre us rs → Longs rs → Fr h₀ env.locals h (fun z => if z = x then u z else m₀ z) → News h₀ env.locals h ((d, listOf us.toArray nn) :: post) → Q .next { s with heap := h, toks := tk }) :
    wpAny (model prog w) A (pyIter (.ref l)) (fun it s₂ => LoopAtV prog w A h₀ env x body Q E it s₂) E s := by
  have hl := N _ (.head _)
  have hls : s.heap.IsList l vs.toArray := News.isList N (.head _)
  have hne : l ≠ s.heap.objs.size := Nat.ne_of_lt (Heap.lt_size hl.1)
  refine wpAny_pyIter_list hls ?_
  have W := Walks.list (prog := prog) (w := w) hh s.heap.objs.size l hne vs.toArray
  have hsz : vs.toArray.size = ss.length := by simp [hi.len_eq]
  rw [hsz] at W
  have N' : News h₀ env.locals s.heap ((d, listOf #[] n₀) :: post) := fun p hp => N p (.tail _ (.tail _ hp))
  refine loop_invN (news := (d, listOf #[] n₀) :: post) (fun i m nx => (∃ us rs n, nx = (d, listOf us.toArray n) :: post ∧ StrsAre us rs ∧ rs.length ≤ i ∧ ∀ r ∈ rs, r.length ≤ 41) ∧ ∀ z, z ≠ x → m z = m₀ z) W ?_ ?_ ?_ ?_ ⟨⟨_, Heap.get?_push_size _ rfl, rfl, rfl⟩, hls.at fun o e => Heap.get?_push_of_some _ e⟩ (F.push _) (fun p hp => ⟨Heap.get?_push_of_some _ (N' p hp).1, (N' p hp).2⟩) ⟨⟨[], [], n₀, rfl, .nil, Nat.le_refl _, by simp⟩, fun _ _ => rfl⟩ ?_ ?_
  · intro hm
    rcases List.mem_cons.mp hm with e | hm
    · exact absurd F.ns.lt (e ▸ Nat.lt_irrefl _)
    · exact absurd (List.mem_singleton.mp hm) (Ne.symm hl.2.1)
  · intro b hb
    rw [List.mem_singleton.mp hb]
    exact next_is_new F
  · intro p hp hI
    exact absurd (Heap.lt_size (N' p hp).1) ((List.mem_singleton.mp hI) ▸ Nat.lt_irrefl _)
  · intro p hp hI
    rcases List.mem_cons.mp hI with e | hI
    · exact absurd (Heap.lt_size (N' p hp).1) (by rw [e]; exact Nat.lt_irrefl _)
    · exact absurd (hlt p (.tail _ hp)) (by rw [List.mem_singleton.mp hI]; exact Nat.lt_irrefl _)
  · rintro i v m₁ nx h tk own hin hP hadr hoff ⟨⟨us, rs, nn, rfl, hu, hr, hx⟩, hm⟩ F₁ N₁
    rw [map_none hm] at F₁
    simp only [List.map_cons] at hoff ⊢
    obtain ⟨z, t, rfl, hz⟩ := hi.item i v (by simpa using hP)
    refine wpAny_mono (turn z t us nn h tk own (hsh z (List.mem_of_getElem? hz)) (by rw [List.size_toArray, hu.len_eq, sizeLine_eq]; omega) hoff F₁ N₁) (fun f s₂ hq => ?_) fun _ _ e => e
    have fin : InvEndN h₀ env.locals (fun m' nx => (∃ r t' n', nx = (d, listOf (us.toArray.push (.str r t')) n') :: post ∧ r.length ≤ 41) ∧ ∀ z, z ≠ x → m' z = m₀ z) own (d :: post.map (·.1)) { s with heap := h, toks := tk } s₂ →
        InvEndN h₀ env.locals (fun m nx => (∃ us rs n, nx = (d, listOf us.toArray n) :: post ∧ StrsAre us rs ∧ rs.length ≤ i + 1 ∧ ∀ r ∈ rs, r.length ≤ 41) ∧ ∀ z, z ≠ x → m z = m₀ z) own (d :: post.map (·.1)) { s with heap := h, toks := tk } s₂ := by
      rintro ⟨h', tk, m', news', nx, e, F', N', hn, ho, ha, ⟨r, t', n', hnx, hr'⟩, hm'⟩
      refine ⟨h', tk, m', news', nx, e, F', N', hn, ho, ha, ⟨us ++ [.str r t'], rs ++ [r], n', by rw [hnx]; simp, strs_snoc hu, by simp; omega, fun q hq => ?_⟩, hm'⟩
      rcases List.mem_append.mp hq with hq | hq
      · exact hx q hq
      · rw [List.mem_singleton.mp hq]; exact hr'
    cases f with
    | ret v => exact hq
    | brk => exact hq
    | next => exact fin hq
    | cont => exact fin hq
  · rintro m₁ nx h tk ⟨⟨us, rs, nn, rfl, hu, hr, hx⟩, hm⟩ F₁ N₁
    refine done m₁ us rs nn h tk hu ⟨by omega, hx⟩ ?_ N₁
    rw [done_none hm]; exact F₁

theorem join_L {L d : Addr} {news : List (Addr × Obj)} {y : Str} {t : Tok} {us : List Value} {rs : List Str} {nn : Nat} {Q : Value → Shared → Prop} (N : News h₀ L s.heap news) (hm : (d, listOf us.toArray nn) ∈ news) (hy : y.length ≤ 16) (hu : StrsAre us rs) (hl : Longs rs)
    (h : ∀ t' k, Q (.str (Txt.join y rs) t') { s with toks := k }) : wpAny (model prog w) A (call (.builtin "str.join") [.str y t, .ref d]) Q E s :=
  join_listW (items := us.toArray) (N.isList hm) (by simpa using hu) hy (longs_sum hl) h
end

inductive PMark2 : List Str → (Str → Prop) → Prop where
  | mk (ss : List Str) (p : Str → Prop) : PMark2 ss p
theorem pmark2 (ss : List Str) (p : Str → Prop) : PMark2 ss p := .mk ss p
section
variable {prog : Program} {w : World} {A : Around} {h₀ : Heap} {L : Addr} {m : Str → Option Value} {env : Env} {ct elt : Expr} {x : Str} {scope : Scope} {cl : List (Str × Addr)} {s : Shared} {Fin : Shared → List Value → List (Addr × Obj) → Prop} {news : List (Addr × Obj)}
theorem src_pick {ax : Addr} {vs : List Value} {ss : List Str} {p : Str → Prop} (hh : A.handled = none) (F : Fr h₀ L s.heap m) (N : News h₀ L s.heap news) (hm : (ax, LCg.lst vs) ∈ news) (hi : StrsAre vs ss) (hs : Shorts ss) (_ : PMark2 ss p)
    (turn : ∀ g z t I oI C oC D m₂ ys h tk (E' : Value → Shared → Prop), z ∈ ss → LCg.NsObj oC m₂ → m₂ x = some (.str z t) → Fr h₀ L h m → News h₀ L h ((I, oI) :: (C, oC) :: (D, LCg.lst ys) :: news) → LCg.Off3 I C D news → ((@Ne Nat I C) ∧ (@Ne Nat I D) ∧ (@Ne Nat C D)) →
      wpAny (model prog w) A (isTrue ct (compEnvC scope cl C env) (eval ct (compEnvC scope cl C env))) (fun b s' => if b = true then wpAny (model prog w) A (eval elt (compEnvC scope cl C env)) (LCg.CompEnd h₀ L m { { s with heap := g } with heap := h, toks := tk } I oI C oC D (LCg.lst ys) (LCg.SrcAt h₀ ax vs.toArray) (fun y news' => CpEl news (p z) y news')) E' s'
        else LCg.CompEnd h₀ L m { { s with heap := g } with heap := h, toks := tk } I oI C oC D (LCg.lst ys) (LCg.SrcAt h₀ ax vs.toArray) (fun _ news' => CpEl news (¬ p z) Value.none news') Value.none s') E' { { s with heap := g } with heap := h, toks := tk })
    (fin : ∀ g, CsDone (∀ ys : List Value, ys.length ≤ ss.length → (ys ≠ [] ↔ ∃ z ∈ ss, p z) → Fin { s with heap := g } ys news)) : LCt.CompSrcT prog w A h₀ L m env ct elt x scope cl Fin (.ref ax) s := by
  refine LCt.CompSrcT.ledger (its := vs.toArray) hh F N hm ?_ fun g => comp_pick (s := { s with heap := g }) hi p (turn g) (fin g)
  rw [List.size_toArray, hi.len_eq, sizeLine_eq]
  have := hs.1
  omega
end

section
variable {prog : Program} {w : World} {A : Around} {h₀ : Heap} {L : Addr} {s : Shared} {news : List (Addr × Obj)} {E : Value → Shared → Prop}
theorem truthy_list_L {a : Addr} {vs : List Value} {ss : List Str} {P : Prop} {Q : Bool → Shared → Prop} (N : News h₀ L s.heap news) (ha : (a, LCg.lst vs) ∈ news) (hl : vs.length ≤ ss.length) (hs : Shorts ss) (hp : vs ≠ [] ↔ P)
    (h : ∀ (b : Bool) tk, (b = true ↔ P) → Q b { s with toks := tk }) : wpAny (model prog w) A (truthy (.ref a)) Q E s := by
  have := hs.1
  refine wpAny_truthy_list (N.isList ha) (by rw [List.size_toArray]; omega) (h _ _ ?_)
  rw [← hp]; cases vs <;> simp
end

/-- which purposes are missed -/
def Miss (a f : Int) (ss1 ss2 ss3 ss4 : List Str) : Prop :=
  (∃ z, z ∈ ss3 ∧ (ss1.any fun x => x == z) = false) ∨ (∃ z, z ∈ ss4 ∧ if a.fmod 3 = 1 then f.fmod 4 ≠ 1 else (ss2.any fun x => x == z) = false)
/-- what due holds -/
def DueIs (lb : Bool) (a d e f : Int) (ss1 ss2 ss3 ss4 : List Str) (du : Str) : Prop :=
  (lb = true ∧ du = Str.ofString "given") ∨ (lb = false ∧ ((d.fdiv 16).fmod 4 = 2 ∨ (e.fdiv 16).fmod 4 = 2 ∨ f.fmod 4 = 3) ∧ du = Str.ofString "odd") ∨
    (lb = false ∧ (d.fdiv 16).fmod 4 ≠ 2 ∧ (e.fdiv 16).fmod 4 ≠ 2 ∧ f.fmod 4 ≠ 3 ∧ ((Miss a f ss1 ss2 ss3 ss4 ∧ du = Str.ofString "refused") ∨ (¬ Miss a f ss1 ss2 ss3 ss4 ∧ du = Str.ofString "given")))
section
variable {a d e f : Int} {ss1 ss2 ss3 ss4 : List Str}
theorem nf_of {b : Bool} (h : b = true) : ¬ b = false := by simp [h]
theorem due_listed : DueIs true a d e f ss1 ss2 ss3 ss4 (Str.ofString "given") := .inl ⟨rfl, rfl⟩
theorem due_odd1 (h : ((d.fdiv 16).fmod 4 == 2) = true) : DueIs false a d e f ss1 ss2 ss3 ss4 (Str.ofString "odd") := .inr (.inl ⟨rfl, .inl (by simpa using h), rfl⟩)
theorem due_odd2 (h : ((e.fdiv 16).fmod 4 == 2) = true) : DueIs false a d e f ss1 ss2 ss3 ss4 (Str.ofString "odd") := .inr (.inl ⟨rfl, .inr (.inl (by simpa using h)), rfl⟩)
theorem due_odd3 (h : (f.fmod 4 == 3) = true) : DueIs false a d e f ss1 ss2 ss3 ss4 (Str.ofString "odd") := .inr (.inl ⟨rfl, .inr (.inr (by simpa using h)), rfl⟩)
variable (hd : ((d.fdiv 16).fmod 4 == 2) = false) (he : ((e.fdiv 16).fmod 4 == 2) = false) (hf : (f.fmod 4 == 3) = false) {p : Str → Prop}
include hd he hf
theorem due_main (hp : ∀ z, p z ↔ if a.fmod 3 = 1 then f.fmod 4 ≠ 1 else (ss2.any fun x => x == z) = false) {du : Str}
    (h : (((∃ z, z ∈ ss3 ∧ (ss1.any fun x => x == z) = false) ∨ ∃ z, z ∈ ss4 ∧ p z) ∧ du = Str.ofString "refused") ∨ (¬ ((∃ z, z ∈ ss3 ∧ (ss1.any fun x => x == z) = false) ∨ ∃ z, z ∈ ss4 ∧ p z) ∧ du = Str.ofString "given")) : DueIs false a d e f ss1 ss2 ss3 ss4 du := by
  have key : Miss a f ss1 ss2 ss3 ss4 ↔ ((∃ z, z ∈ ss3 ∧ (ss1.any fun x => x == z) = false) ∨ ∃ z, z ∈ ss4 ∧ p z) := by
    unfold Miss
    constructor
    · rintro (h | ⟨z, hz, h⟩)
      · exact .inl h
      · exact .inr ⟨z, hz, (hp z).mpr h⟩
    · rintro (h | ⟨z, hz, h⟩)
      · exact .inl h
      · exact .inr ⟨z, hz, (hp z).mp h⟩
  refine .inr (.inr ⟨rfl, by simpa using hd, by simpa using he, by simpa using hf, ?_⟩)
  rw [key]; exact h
theorem due_end1 (hp : ∀ z, p z ↔ if a.fmod 3 = 1 then f.fmod 4 ≠ 1 else (ss2.any fun x => x == z) = false) {t1 : Bool} (h1 : t1 = true ↔ ∃ z, z ∈ ss3 ∧ (ss1.any fun x => x == z) = false) (e1 : t1 = true) : DueIs false a d e f ss1 ss2 ss3 ss4 (Str.ofString "refused") :=
  due_main hd he hf hp (.inl ⟨.inl (h1.mp e1), rfl⟩)
theorem due_end2 (hp : ∀ z, p z ↔ if a.fmod 3 = 1 then f.fmod 4 ≠ 1 else (ss2.any fun x => x == z) = false) {t2 : Bool} (h2 : t2 = true ↔ ∃ z, z ∈ ss4 ∧ p z) (e2 : t2 = true) : DueIs false a d e f ss1 ss2 ss3 ss4 (Str.ofString "refused") :=
  due_main hd he hf hp (.inl ⟨.inr (h2.mp e2), rfl⟩)
theorem due_end3 (hp : ∀ z, p z ↔ if a.fmod 3 = 1 then f.fmod 4 ≠ 1 else (ss2.any fun x => x == z) = false) {t1 t2 : Bool} (h1 : t1 = true ↔ ∃ z, z ∈ ss3 ∧ (ss1.any fun x => x == z) = false) (h2 : t2 = true ↔ ∃ z, z ∈ ss4 ∧ p z) (e1 : t1 = false) (e2 : t2 = false) : DueIs false a d e f ss1 ss2 ss3 ss4 (Str.ofString "given") :=
  due_main hd he hf hp (.inr ⟨by rw [← h1, ← h2, e1, e2]; simp, rfl⟩)
end

theorem fr_again {h₀ h : Heap} {L : Addr} {x : Str} {v u : Option Value} {m : Str → Option Value} (F : Fr h₀ L h (fun y => if y = x then v else if y = x then u else m y)) : Fr h₀ L h (fun y => if y = x then v else m y) := by
  have e : (fun y => if y = x then v else if y = x then u else m y) = fun y => if y = x then v else m y := by
    funext y; split <;> rfl
  rw [← e]; exact F

theorem short_c {ss : List Str} {x : Str} (hs : Shorts ss) (h : ss.contains x = true) : x.length ≤ 20 := hs.2 x (by simpa using h)
theorem repl_le {x y z : Str} (h : x.length ≤ 20) (hz : z.length ≤ 1) : (Txt.replace x y z).length ≤ 41 := Nat.le_trans (replace_length x y z hz) (by omega)
section
variable {prog : Program} {w : World} {A : Around} {h₀ : Heap} {L : Addr} {s : Shared} {news news' : List (Addr × Obj)} {E : Value → Shared → Prop} {m : Str → Option Value}
theorem append_LL {D : Addr} {its : Array Value} {n : Nat} {x : Value} {Q : Value → Shared → Prop} (F : Fr h₀ L s.heap m) (N : News h₀ L s.heap news) (U : Upd D (listOf its n) (listOf (its.push x) (n + 1)) news news') (hsz : its.size ≤ sizeLine)
    (h : ∀ h', Fr h₀ L h' m → News h₀ L h' news' → Q .none { s with heap := h' }) : wpAny (model prog w) A (call (.builtin "list.append") [.ref D, x]) Q E s := append_K F N U h hsz
end

theorem short_or {ss : List Str} {S₁ S₂ : Str → Bool} (h : ∀ x ∈ ss, (S₁ x || S₂ x) = true) (h1 : ∀ x, S₁ x = true → x.length ≤ 20) (h2 : ∀ x, S₂ x = true → x.length ≤ 20) : ∀ x ∈ ss, x.length ≤ 20 := fun x hx => by
  have := h x hx
  rw [Bool.or_eq_true] at this
  exact this.elim (h1 x) (h2 x)
end Mine

namespace Mine
open PySem PySem.W PyProof.Rows PySem.Calls
section
variable {prog : Program} {w : World} {A : Around} {E : Value → Shared → Prop} {s : Shared} {env : Env} {h₀ : Heap} {x : Str} {px : Pos} {body : List Stmt} {Q : Flow → Shared → Prop}
/-- the loop itself, as a mark of this text -/
def LoopP (prog : Program) (w : World) (A : Around) (env : Env) (x : Str) (px : Pos) (body : List Stmt) (Q : Flow → Shared → Prop) (E : Value → Shared → Prop) (it : Value) (s₂ : Shared) : Prop :=
  codeAny (model prog w) A (.forLoop (.Name x px) it body [] env) (fun r s' => match r with | .ok f => Q f s' | .error e => cameBackBy (model prog w) A env E e s') s₂
theorem For_P {iter : Expr} {pos : Pos} (h : wpAny (model prog w) A (eval iter env) (fun xv s₁ => wpAny (model prog w) A (pyIter xv) (fun it s₂ => LoopP prog w A env x px body Q E it s₂) E s₁) E s) (hs : ∀ x, foldedSetIterable iter env x = pure x := by intro _; rfl) :
    wpAny (model prog w) A (exec (.For (.Name x px) iter body [] pos) env) Q E s := wpAny_For h hs

theorem iter_strs_P {l d : Addr} {q : Addr × Obj} {e : Nat} {vs : List Value} {ss : List Str} {m₀ : Str → Option Value} {post : List (Addr × Obj)} {n₀ : Nat}
    (hh : A.handled = none) (F : Fr h₀ env.locals s.heap m₀) (N : News h₀ env.locals s.heap ((l, seqObj "list" vs.toArray e) :: q :: (d, listOf #[] n₀) :: post)) (hlt : ∀ p ∈ q :: (d, listOf #[] n₀) :: post, p.1 < l) (hi : StrsAre vs ss) (hlen : ss.length ≤ 8)
    (hsh : ∀ x ∈ ss, x.length ≤ 20)
    (hx : env.kindOf x = some .local) (hp : (env.scope.kind == .class || (env.scope.kind == .module && env.locals != env.globals)) = false)
    (turn : ∀ (z : Str) t (us : List Value) nn h tk own, 1 ≤ tk → z.length ≤ 20 → us.toArray.size ≤ sizeLine → OwnOff own (d :: post.map (·.1)) → Fr h₀ env.locals h (fun y => if y = x then some (.str z t) else m₀ y) → News h₀ env.locals h (((d, listOf us.toArray nn) :: post) ++ own) →
      wpAny (model prog w) A (execs body env) (InvPostN h₀ env.locals (fun m' nx => (∃ r t' n', nx = (d, listOf (us.toArray.push (.str r t')) n') :: post ∧ r.length ≤ 41) ∧ ∀ z, z ≠ x → m' z = m₀ z) own (d :: post.map (·.1)) { s with heap := h, toks := tk } Q) E { s with heap := h, toks := tk })
    (done : ∀ (u : Str → Option Value) us rs nn h tk, StrsAre us rs → Longs rs → Fr h₀ env.locals h (fun z => if z = x then u z else m₀ z) → News h₀ env.locals h ((d, listOf us.toArray nn) :: post) → Q .next { s with heap := h, toks := tk })
    (hE : PassesOwn (model prog w) A env E := by passes_own) :
    wpAny (model prog w) A (pyIter (.ref l)) (fun it s₂ => LoopP prog w A env x px body Q E it s₂) E s := by
  have hl := N _ (.head _)
  have hls : s.heap.IsList l vs.toArray := News.isList N (.head _)
  have hsz : vs.toArray.size = ss.length := by simp [hi.len_eq]
  have N' : News h₀ env.locals s.heap ((d, listOf #[] n₀) :: post) := fun p hp => N p (.tail _ (.tail _ hp))
  have hIh : h₀.get? s.heap.objs.size = none := next_is_new F
  have hIL : s.heap.objs.size ≠ env.locals := fun e => absurd F.ns.lt (by rw [e]; exact Nat.lt_irrefl _)
  have hIl : ∀ p ∈ (l, seqObj "list" vs.toArray e) :: q :: (d, listOf #[] n₀) :: post, p.1 ≠ s.heap.objs.size := fun p hp e => absurd (Heap.lt_size (N p hp).1) (by rw [e]; exact Nat.lt_irrefl _)
  refine wpAny_pyIter_list hls ?_
  unfold LoopP
  refine codeAny_forLoop (fun k s' => ∃ h' tk m' oi us rs nn i, s' = { s with heap := h', toks := tk } ∧ oi.cls = .type "list_iterator" ∧ oi.data = .fields #[.ref l, .int (i : Nat) 0] ∧ Fr h₀ env.locals h' m' ∧ (∀ z, z ≠ x → m' z = m₀ z) ∧
    News h₀ env.locals h' ((s.heap.objs.size, oi) :: (l, seqObj "list" vs.toArray e) :: (d, listOf us.toArray nn) :: post) ∧ StrsAre us rs ∧ rs.length ≤ i ∧ (∀ r ∈ rs, r.length ≤ 41) ∧ i ≤ ss.length ∧ k = ss.length + 1 - i) ?_ (ss.length + 1)
    ⟨_, s.toks, m₀, { cls := .type "list_iterator", data := .fields #[.ref l, .int 0 0] }, [], [], n₀, 0, rfl, rfl, rfl, F.push _, fun _ _ => rfl, ?_, .nil, Nat.le_refl _, by simp, Nat.zero_le _, rfl⟩
  · rintro k s' ⟨h', tk, m', oi, us, rs, nn, i, rfl, hc, hd, F', hm, N1, hu, hr, h41, hin, rfl⟩
    have hit : h'.IsListIter s.heap.objs.size l i := ⟨oi, (N1 _ (.head _)).1, hc, hd⟩
    have hl' : h'.IsList l vs.toArray := News.isList N1 (.tail _ (.head _))
    by_cases hlt' : i < ss.length
    · have hv : vs.toArray[i]? = some (vs.toArray[i]'(by rw [hsz]; exact hlt')) := by simp [hsz, hlt']
      obtain ⟨z, t, hz, hzs⟩ := hi.item i _ ((List.getElem?_toArray).symm.trans hv)
      refine wpAny_pyNext_list_item hit hl' hv fun h1 hit1 hs1 => ?_
      obtain ⟨oi1, g1, hc1, hd1⟩ := hit1
      have F1 : Fr h₀ env.locals h1 m' := F'.change hs1 hIL hIh
      have N2 : News h₀ env.locals h1 ((s.heap.objs.size, oi1) :: (l, seqObj "list" vs.toArray e) :: (d, listOf us.toArray nn) :: post) := news_set (pre := []) N1 (by simp) (fun p hp => by
        rcases List.mem_cons.mp hp with rfl | hp
        · exact hIl _ (.head _)
        · rcases List.mem_cons.mp hp with rfl | hp
          · exact hIl (d, listOf #[] n₀) (.tail _ (.tail _ (.head _)))
          · exact hIl p (.tail _ (.tail _ (.tail _ hp)))) hs1 g1
      refine wpAny_assign_Name (wpAny_storeName_local hx F1.ns (fun h2 hn2 hs2 => ?_) hp)
      have F2 := F1.set hn2 hs2
      have N3 := N2.set hs2
      rw [hz, map_none hm] at F2
      have hadr : List.map (·.1) ((d, listOf us.toArray nn) :: post) = d :: post.map (·.1) := rfl
      refine wpAny_passesOwn hE (wpAny_mono (turn z t us nn h2 _ [(s.heap.objs.size, oi1), (l, seqObj "list" vs.toArray e)] (Nat.le_add_left 1 _) (hsh z (List.mem_of_getElem? hzs)) (by rw [List.size_toArray, hu.len_eq, sizeLine_eq]; omega) ?_ F2 ?_) (fun f s₂ hq => ?_) fun _ _ e => e)
      · intro p hp b hb e
        have hb' : ∃ q' ∈ q :: (d, listOf #[] n₀) :: post, q'.1 = b := by
          rcases List.mem_cons.mp hb with rfl | hb
          · exact ⟨_, .tail _ (.head _), rfl⟩
          · obtain ⟨q', h1, h2⟩ := List.mem_map.mp hb
            exact ⟨q', .tail _ (.tail _ h1), h2⟩
        obtain ⟨q', hq', rfl⟩ := hb'
        rcases List.mem_cons.mp hp with rfl | hp
        · exact hIl q' (.tail _ hq') e.symm
        · rw [List.mem_singleton.mp hp] at e
          exact absurd (hlt q' hq') (by rw [← e]; exact Nat.lt_irrefl _)
      · intro p hp
        rcases List.mem_append.mp hp with hp | hp
        · exact N3 p (.tail _ (.tail _ hp))
        · rcases List.mem_cons.mp hp with rfl | hp
          · exact N3 _ (.head _)
          · rw [List.mem_singleton.mp hp]; exact N3 _ (.tail _ (.head _))
      have fin : InvEndN h₀ env.locals (fun m' nx => (∃ r t' n', nx = (d, listOf (us.toArray.push (.str r t')) n') :: post ∧ r.length ≤ 41) ∧ ∀ z, z ≠ x → m' z = m₀ z) [(s.heap.objs.size, oi1), (l, seqObj "list" vs.toArray e)] (d :: post.map (·.1)) { s with heap := h2, toks := tk + 1 } s₂ →
          ∃ mm, mm < ss.length + 1 - i ∧ ∃ h' tk m' oi us rs nn i, s₂ = { s with heap := h', toks := tk } ∧ oi.cls = .type "list_iterator" ∧ oi.data = .fields #[.ref l, .int (i : Nat) 0] ∧ Fr h₀ env.locals h' m' ∧ (∀ z, z ≠ x → m' z = m₀ z) ∧
            News h₀ env.locals h' ((s.heap.objs.size, oi) :: (l, seqObj "list" vs.toArray e) :: (d, listOf us.toArray nn) :: post) ∧ StrsAre us rs ∧ rs.length ≤ i ∧ (∀ r ∈ rs, r.length ≤ 41) ∧ i ≤ ss.length ∧ mm = ss.length + 1 - i := by
        rintro ⟨h', tk, m', news', nx, rfl, F', N', hn, ho, ha, ⟨r, t', n', rfl, hr'⟩, hm'⟩
        refine ⟨ss.length + 1 - (i + 1), by omega, h', tk, m', oi1, us ++ [.str r t'], rs ++ [r], n', i + 1, rfl, hc1, hd1, F', hm', ?_, strs_snoc hu, by simp; omega, ?_, hlt', rfl⟩
        · intro p hp
          rcases List.mem_cons.mp hp with rfl | hp
          · exact N' _ (ho _ (.head _))
          · rcases List.mem_cons.mp hp with rfl | hp
            · exact N' _ (ho _ (.tail _ (.head _)))
            · exact N' _ (hn _ (by simpa using hp))
        · intro y hy
          rcases List.mem_append.mp hy with hy | hy
          · exact h41 y hy
          · rw [List.mem_singleton.mp hy]; exact hr'
      cases f with
      | ret v => exact hq
      | brk => exact hq
      | next => exact fin hq
      | cont => exact fin hq
    · have e9 : i = ss.length := by omega
      subst e9
      refine wpAny_pyNext_list_end hh hit hl' (by simp [hsz]) fun h1 hs1 => wpAny_execs_nil ?_
      have keep : ∀ b o, b ≠ s.heap.objs.size → h'.get? b = some o → h1.get? b = some o := fun b o hb e => hs1 b o hb e
      refine done m' us rs nn h1 _ hu ⟨by omega, h41⟩ ?_ fun p hp => ?_
      · rw [done_none hm]
        exact ⟨F'.ns.at' fun o e => keep _ o (Ne.symm hIL) e, fun b o e => keep b o (fun q => by rw [q, hIh] at e; cases e) (F'.keep b o e), F'.above⟩
      · have z := N1 p (.tail _ (.tail _ hp))
        refine ⟨keep _ _ ?_ z.1, z.2⟩
        rcases List.mem_cons.mp hp with rfl | hp
        · exact hIl (d, listOf #[] n₀) (.tail _ (.tail _ (.head _)))
        · exact hIl p (.tail _ (.tail _ (.tail _ hp)))
  · intro p hp
    rcases List.mem_cons.mp hp with rfl | hp
    · exact ⟨Heap.get?_push_size _ rfl, hIL, hIh⟩
    · have z : News h₀ env.locals s.heap ((l, seqObj "list" vs.toArray e) :: (d, listOf #[] n₀) :: post) := fun p hp => by
        rcases List.mem_cons.mp hp with rfl | hp
        · exact hl
        · exact N' p hp
      exact ⟨Heap.get?_push_of_some _ (z p hp).1, (z p hp).2⟩
end
end Mine
end
section -- MCatch
set_option maxRecDepth 100000
namespace Mine
open PySem PySem.W PyProof.Rows PySem.Calls
section
variable {prog : Program} {w : World} {A A₀ : Around} {E : Value → Shared → Prop} {s : Shared} {KF : Frag} {h₀ h : Heap} {L a e t : Addr} {m mg mb : Str → Option Value} {name : Str} {scope : Scope} {cd : Value} {cl : List (Str × Addr)} {p : Program} {loose : List Str}
  {x : Str} {np pos : Pos} {c cls a0 : Value} {b₀ : Stmt} {suite body : List Stmt} {rest hs : List ExceptHandler} {nm : Option Str} {Q : Flow → Shared → Prop} {outer l : List Env} {vs : List Value} {news : List (Addr × Obj)}

theorem flying_ty {M : Model} (hfl : Heap.FlyingW h₀ l e cls a0 h) : Looks M h (typeOf (.ref e)) cls := by
  obtain ⟨ob, hob, hc⟩ := hfl.there
  subst hc
  exact (Looks.ld hob).andThen .now

theorem lookC (K : Below A₀ h₀ outer h₀) (F : Fr h₀ L h m) (hsm : h.UpToSlots s.heap) (R : RaisedK h₀ (envX name scope L a cd cl :: outer) e cls t vs news s.heap)
    (k : ∀ h', Heap.FlyingW h₀ (envX name scope L a cd cl :: outer) e cls (.ref t) h' → Fr h₀ L h' m → wpAny (model prog w) (A₀.deeper (envX name scope L a cd cl)) (handleBy (.ref e) (envX name scope L a cd cl) hs) Q E { s with heap := h' }) :
    wpAny (model prog w) (A₀.deeper (envX name scope L a cd cl)) (noteFrame (.ref e) (envX name scope L a cd cl))
      (fun _ s₂ => wpAny (model prog w) (A₀.deeper (envX name scope L a cd cl)) (setFlight (.ref e) none) (fun _ s₃ =>
        wpAny (model prog w) (A₀.deeper (envX name scope L a cd cl)) (handleBy (.ref e) (envX name scope L a cd cl) hs) Q E s₃) E s₂) E s := by
  obtain ⟨⟨B, hB, hl, hfl, hnew⟩, htup⟩ := R
  refine wpAny_looks_onW (Around.frames_deeper K.stack) rfl hfl fun h₄ hheld₄ hsm₄ => ?_
  refine wpAny_landsW hheld₄ fun h₅ hheld hsm₅ => ?_
  have hf := flyingW_base hB hheld
  exact k h₅ hf (F.of_stays hf.1 (hsm.trans (hsm₄.trans hsm₅)))

theorem hitC (hfl : Heap.FlyingW h₀ l e cls a0 s.heap) (F : Fr h₀ L s.heap m) (X : KF.In h₀) (T : TopRead p loose mg mb h₀) (ex : nsIn KF mainGlobals x = some (some c)) (hx : exmOne KF cls c = some true)
    (k : ∀ h', Fr h₀ L h' m → wpAny (model prog w) (A.mark (some (.ref e))) (execs (b₀ :: suite) (envX name scope L a cd cl)) Q (fun _ _ => False) { s with heap := h' })
    (hk : scope.kind = .function := by rfl) (hg : (envX name scope L a cd cl).kindOf x = some .globalImplicit := by rfl) (hd : (x == ("__debug__" : Str)) = false := by decide) :
    wpAny (model prog w) A (handleBy (.ref e) (envX name scope L a cd cl) (.ExceptHandler (some (.Name x np)) none (b₀ :: suite) pos :: rest)) Q E s := by
  refine wpAny_handleBy_cons (codeAny_handlers_test (nameX_K F X T ex ?_ hk hg hd)) (by intro q; cases q)
  refine exm_one (X.keeps F.keep) (flying_ty hfl) hx _ _ _ _ (fun _ _ z => z) ?_
  refine codeAny_handlers_suite (lands_againW hfl fun h6 hfl6 hsm6 => ?_)
  exact wpAny_mono (k h6 (F.of_stays hfl6.1 hsm6)) (fun _ _ z => z) fun _ _ z => z.elim

theorem passC (hfl : Heap.FlyingW h₀ l e cls a0 s.heap) (F : Fr h₀ L s.heap m) (X : KF.In h₀) (T : TopRead p loose mg mb h₀) (ex : nsIn KF mainGlobals x = some (some c)) (hx : exmOne KF cls c = some false)
    (k : wpAny (model prog w) A (handleBy (.ref e) (envX name scope L a cd cl) rest) Q E s)
    (hk : scope.kind = .function := by rfl) (hg : (envX name scope L a cd cl).kindOf x = some .globalImplicit := by rfl) (hd : (x == ("__debug__" : Str)) = false := by decide) :
    wpAny (model prog w) A (handleBy (.ref e) (envX name scope L a cd cl) (.ExceptHandler (some (.Name x np)) nm body pos :: rest)) Q E s := by
  refine wpAny_handleBy_cons (codeAny_handlers_test (nameX_K F X T ex ?_ hk hg hd)) (by intro q; cases q)
  exact exm_one (X.keeps F.keep) (flying_ty hfl) hx _ _ _ _ (fun _ _ z => z) k

theorem hitBC (hfl : Heap.FlyingW h₀ l e cls a0 s.heap) (F : Fr h₀ L s.heap m) (X : KF.In h₀) (T : TopRead p loose mg mb h₀) (ex : nsIn KF mainGlobals x = some none) (hv : bootBuiltins x = some c) (hn : x ≠ "__name__") (hx : exmOne KF cls c = some true)
    (k : ∀ h', Fr h₀ L h' m → wpAny (model prog w) (A.mark (some (.ref e))) (execs (b₀ :: suite) (envX name scope L a cd cl)) Q (fun _ _ => False) { s with heap := h' })
    (hk : scope.kind = .function := by rfl) (hg : (envX name scope L a cd cl).kindOf x = some .globalImplicit := by rfl) (hd : (x == ("__debug__" : Str)) = false := by decide) :
    wpAny (model prog w) A (handleBy (.ref e) (envX name scope L a cd cl) (.ExceptHandler (some (.Name x np)) none (b₀ :: suite) pos :: rest)) Q E s := by
  refine wpAny_handleBy_cons (codeAny_handlers_test (nameX_B F X T ex hv hn ?_ hk hg hd)) (by intro q; cases q)
  refine exm_one (X.keeps F.keep) (flying_ty hfl) hx _ _ _ _ (fun _ _ z => z) ?_
  refine codeAny_handlers_suite (lands_againW hfl fun h6 hfl6 hsm6 => ?_)
  exact wpAny_mono (k h6 (F.of_stays hfl6.1 hsm6)) (fun _ _ z => z) fun _ _ z => z.elim
end

section
variable {prog : Program} {w : World} {A A₀ : Around} {E : Value → Shared → Prop} {s : Shared} {KF : Frag} {h₀ h : Heap} {L a e t : Addr} {m mg mb : Str → Option Value} {name : Str} {scope : Scope} {cd : Value} {p : Program} {loose : List Str}
  {x : Str} {np pos : Pos} {c cls a0 : Value} {b₀ : Stmt} {suite body : List Stmt} {rest hs : List ExceptHandler} {nm : Option Str} {Q : Flow → Shared → Prop} {outer l : List Env} {vs : List Value} {news : List (Addr × Obj)}
theorem lookO (K : Below A₀ h₀ outer h₀) (F : Fr h₀ L h m) (hsm : h.UpToSlots s.heap) (R : RaisedK h₀ (envOfC name scope L a cd :: outer) e cls t vs news s.heap)
    (k : ∀ h', Heap.FlyingW h₀ (envOfC name scope L a cd :: outer) e cls (.ref t) h' → Fr h₀ L h' m → wpAny (model prog w) (A₀.deeper (envOfC name scope L a cd)) (handleBy (.ref e) (envOfC name scope L a cd) hs) Q E { s with heap := h' }) :
    wpAny (model prog w) (A₀.deeper (envOfC name scope L a cd)) (noteFrame (.ref e) (envOfC name scope L a cd))
      (fun _ s₂ => wpAny (model prog w) (A₀.deeper (envOfC name scope L a cd)) (setFlight (.ref e) none) (fun _ s₃ =>
        wpAny (model prog w) (A₀.deeper (envOfC name scope L a cd)) (handleBy (.ref e) (envOfC name scope L a cd) hs) Q E s₃) E s₂) E s := lookC (cl := cellsFrom (L + 1) scope.names []) K F hsm R k
theorem hitO (hfl : Heap.FlyingW h₀ l e cls a0 s.heap) (F : Fr h₀ L s.heap m) (X : KF.In h₀) (T : TopRead p loose mg mb h₀) (ex : nsIn KF mainGlobals x = some (some c)) (hx : exmOne KF cls c = some true)
    (k : ∀ h', Fr h₀ L h' m → News h₀ L h' [] → wpAny (model prog w) (A.mark (some (.ref e))) (execs (b₀ :: suite) (envOfC name scope L a cd)) Q (fun _ _ => False) { s with heap := h' })
    (hk : scope.kind = .function := by rfl) (hg : (envOfC name scope L a cd).kindOf x = some .globalImplicit := by rfl) (hd : (x == ("__debug__" : Str)) = false := by decide) :
    wpAny (model prog w) A (handleBy (.ref e) (envOfC name scope L a cd) (.ExceptHandler (some (.Name x np)) none (b₀ :: suite) pos :: rest)) Q E s := hitC (cl := cellsFrom (L + 1) scope.names []) hfl F X T ex hx (fun h' F' => k h' F' News.nil) hk hg hd
theorem passO (hfl : Heap.FlyingW h₀ l e cls a0 s.heap) (F : Fr h₀ L s.heap m) (X : KF.In h₀) (T : TopRead p loose mg mb h₀) (ex : nsIn KF mainGlobals x = some (some c)) (hx : exmOne KF cls c = some false)
    (k : wpAny (model prog w) A (handleBy (.ref e) (envOfC name scope L a cd) rest) Q E s)
    (hk : scope.kind = .function := by rfl) (hg : (envOfC name scope L a cd).kindOf x = some .globalImplicit := by rfl) (hd : (x == ("__debug__" : Str)) = false := by decide) :
    wpAny (model prog w) A (handleBy (.ref e) (envOfC name scope L a cd) (.ExceptHandler (some (.Name x np)) nm body pos :: rest)) Q E s := passC (cl := cellsFrom (L + 1) scope.names []) hfl F X T ex hx k hk hg hd
theorem hitBO (hfl : Heap.FlyingW h₀ l e cls a0 s.heap) (F : Fr h₀ L s.heap m) (X : KF.In h₀) (T : TopRead p loose mg mb h₀) (ex : nsIn KF mainGlobals x = some none) (hv : bootBuiltins x = some c) (hn : x ≠ "__name__") (hx : exmOne KF cls c = some true)
    (k : ∀ h', Fr h₀ L h' m → News h₀ L h' [] → wpAny (model prog w) (A.mark (some (.ref e))) (execs (b₀ :: suite) (envOfC name scope L a cd)) Q (fun _ _ => False) { s with heap := h' })
    (hk : scope.kind = .function := by rfl) (hg : (envOfC name scope L a cd).kindOf x = some .globalImplicit := by rfl) (hd : (x == ("__debug__" : Str)) = false := by decide) :
    wpAny (model prog w) A (handleBy (.ref e) (envOfC name scope L a cd) (.ExceptHandler (some (.Name x np)) none (b₀ :: suite) pos :: rest)) Q E s := hitBC (cl := cellsFrom (L + 1) scope.names []) hfl F X T ex hv hn hx (fun h' F' => k h' F' News.nil) hk hg hd
end
end Mine
end
section -- MJoin
set_option maxRecDepth 100000
namespace Mine
open PySem PySem.W PyProof.Rows PySem.Calls
section
variable {prog : Program} {w : World} {A : Around} {E : Value → Shared → Prop} {s : Shared} {h₀ : Heap} {L : Addr} {m : Str → Option Value} {news : List (Addr × Obj)} {x : Str} {Q : Flow → Shared → Prop} {S : Str → Bool} {t : Sem Flow}

/-- what a demand is, when it is no list: None (and then nothing is asked), or its set -/
inductive Dem : Value → (Str → Bool) → Addr → Addr → Prop where
  | mk {v : Value} {S : Str → Bool} {A0 b : Addr} (is : (v = .none ∧ ∀ k, S k = false) ∨ v = .ref A0) (off : b < A0) : Dem v S A0 b
inductive AnyDem : Value → Prop where
  | none : AnyDem .none
  | ref (r : Addr) : AnyDem (.ref r)

/-- the end of «if x is None: x = set()» -/
def JoinK (prog : Program) (w : World) (h₀ : Heap) (L : Addr) (m : Str → Option Value) (x : Str) (news : List (Addr × Obj)) (S : Str → Bool) (b c : Addr) (s : Shared) (f : Flow) (s' : Shared) : Prop :=
  f = .next ∧ ∃ h' tk' KU oK, s' = { s with heap := h', toks := tk' } ∧ Fr h₀ L h' (fun y => if y = x then some (.ref KU) else m y) ∧ News h₀ L h' ((KU, oK) :: news) ∧ StrSet prog w 4 oK S ∧ b < KU ∧ KU ≠ c
/-- the same, when nothing is asked of what x holds -/
def JoinW (h₀ : Heap) (L : Addr) (m : Str → Option Value) (x : Str) (news : List (Addr × Obj)) (s : Shared) (f : Flow) (s' : Shared) : Prop :=
  f = .next ∧ ∃ h' tk' u, s' = { s with heap := h', toks := tk' } ∧ Fr h₀ L h' (fun y => if y = x then some u else m y) ∧ News h₀ L h' news

theorem JoinK.new {b c D : Addr} {o : Obj} {h' : Heap} {tk' : Nat} (F : Fr h₀ L h' (fun y => if y = x then some (.ref D) else m y)) (N : News h₀ L h' ((D, o) :: news)) (hz : o.SetObjOf (PySem.strKind prog w) (fun _ => false) 0) (hS : ∀ k, S k = false) (h1 : @LT.lt Nat _ b D) (h2 : @Ne Nat D c) :
    JoinK prog w h₀ L m x news S b c s .next { s with heap := h', toks := tk' } :=
  ⟨rfl, h', tk', D, o, rfl, F, N, ((StrSet.empty hz).more (Nat.zero_le _)).congr fun k => (hS k).symm, h1, h2⟩
theorem fr_known {h' : Heap} {u : Value} (F : Fr h₀ L h' m) (hm : m x = some u) : Fr h₀ L h' (fun y => if y = x then some u else m y) := by
  have e : (fun y => if y = x then some u else m y) = m := by
    funext y
    by_cases h : y = x
    · subst h; rw [if_pos rfl, hm]
    · rw [if_neg h]
  rw [e]; exact F
theorem JoinK.same {A0 b c : Addr} {o : Obj} {h' : Heap} {tk' : Nat} (F : Fr h₀ L h' m) (hm : m x = some (.ref A0)) (N : News h₀ L h' news) (ha : (A0, o) ∈ news) (hA : StrSet prog w 4 o S) (h1 : @LT.lt Nat _ b A0) (h2 : @Ne Nat A0 c) :
    JoinK prog w h₀ L m x news S b c s .next { s with heap := h', toks := tk' } := by
  refine ⟨rfl, h', tk', A0, o, rfl, fr_known F hm, fun p hp => ?_, hA, h1, h2⟩
  rcases List.mem_cons.mp hp with rfl | hp
  · exact N _ ha
  · exact N p hp
theorem JoinW.new {q : Addr × Obj} {u : Value} {h' : Heap} {tk' : Nat} (F : Fr h₀ L h' (fun y => if y = x then some u else m y)) (N : News h₀ L h' (q :: news)) : JoinW h₀ L m x news s .next { s with heap := h', toks := tk' } :=
  ⟨rfl, h', tk', u, rfl, F, fun p hp => N p (.tail _ hp)⟩
theorem JoinW.same {u : Value} {h' : Heap} {tk' : Nat} (F : Fr h₀ L h' m) (hm : m x = some u) (N : News h₀ L h' news) : JoinW h₀ L m x news s .next { s with heap := h', toks := tk' } :=
  ⟨rfl, h', tk', u, rfl, fr_known F hm, N⟩
theorem join_K {v : Value} {A0 b c : Addr} (_ : Fr h₀ L s.heap m) (_ : News h₀ L s.heap news) (_ : m x = some v) (hv : Dem v S A0 b) (hne : @Ne Nat c A0)
    (w1 : v = .none → (∀ k, S k = false) → wpAny (model prog w) A t (JoinK prog w h₀ L m x news S b c s) E s)
    (w2 : v = .ref A0 → @LT.lt Nat _ b A0 → @Ne Nat A0 c → wpAny (model prog w) A t (JoinK prog w h₀ L m x news S b c s) E s)
    (k : ∀ h' tk' KU oK, Fr h₀ L h' (fun y => if y = x then some (.ref KU) else m y) → News h₀ L h' ((KU, oK) :: news) → StrSet prog w 4 oK S → @LT.lt Nat _ b KU → @Ne Nat KU c → Q .next { s with heap := h', toks := tk' }) :
    wpAny (model prog w) A t Q E s := by
  refine wpAny_mono (Q := JoinK prog w h₀ L m x news S b c s) ?_ (fun f s' hj => ?_) fun _ _ e => e
  · obtain ⟨h, ho⟩ := hv
    rcases h with ⟨h1, h2⟩ | h1
    · exact w1 h1 h2
    · exact w2 h1 ho (Ne.symm hne)
  · obtain ⟨rfl, h', tk', KU, oK, rfl, F', N', hK, h1, h2⟩ := hj
    exact k h' tk' KU oK F' N' hK h1 h2
theorem join_W {v : Value} (_ : Fr h₀ L s.heap m) (_ : News h₀ L s.heap news) (_ : m x = some v) (hv : AnyDem v)
    (w1 : v = .none → wpAny (model prog w) A t (JoinW h₀ L m x news s) E s)
    (w2 : ∀ r, v = .ref r → wpAny (model prog w) A t (JoinW h₀ L m x news s) E s)
    (k : ∀ h' tk' u, Fr h₀ L h' (fun y => if y = x then some u else m y) → News h₀ L h' news → Q .next { s with heap := h', toks := tk' }) :
    wpAny (model prog w) A t Q E s := by
  refine wpAny_mono (Q := JoinW h₀ L m x news s) ?_ (fun f s' hj => ?_) fun _ _ e => e
  · cases hv with
    | none => exact w1 rfl
    | ref r => exact w2 r rfl
  · obtain ⟨rfl, h', tk', u, rfl, F', N'⟩ := hj
    exact k h' tk' u F' N'
end

section
variable {prog : Program} {w : World} {A : Around} {E : Value → Shared → Prop} {s : Shared} {h₀ : Heap} {L : Addr} {m : Str → Option Value} {news : List (Addr × Obj)} {x : Str} {Q : Flow → Shared → Prop} {S T : Str → Bool} {t : Sem Flow}
/-- the certificate's extended usages: none, or the list EX; T says which purposes are then missed -/
inductive MExt : Value → Value → Addr → Addr → Bool → List Str → (Str → Bool) → Prop where
  | no {vE nE : Value} {EN EX : Addr} {b : Bool} {ss : List Str} {T : Str → Bool} (h : vE = .none) (hT : ∀ j, T j = !b) : MExt vE nE EN EX b ss T
  | yes {vE nE : Value} {EN EX : Addr} {b : Bool} {ss : List Str} {T : Str → Bool} (h : vE = .ref EN) (h' : nE = .ref EX) (hT : ∀ j, T j = !ss.contains j) : MExt vE nE EN EX b ss T
/-- the end of the statement that says what is missed of the extended usages -/
def JoinM (prog : Program) (w : World) (h₀ : Heap) (L : Addr) (m : Str → Option Value) (x : Str) (news : List (Addr × Obj)) (SM : Str → Bool) (c : Addr) (s : Shared) (f : Flow) (s' : Shared) : Prop :=
  f = .next ∧ ∃ h' tk' ME oM, s' = { s with heap := h', toks := tk' } ∧ Fr h₀ L h' (fun y => if y = x then some (.ref ME) else m y) ∧ News h₀ L h' ((ME, oM) :: news) ∧ StrSet prog w 4 oM SM ∧ c ≠ ME
theorem JoinM.all {c ME : Addr} {oM : Obj} {h' : Heap} {tk' : Nat} (F : Fr h₀ L h' (fun y => if y = x then some (.ref ME) else m y)) (N : News h₀ L h' news) (hm : (ME, oM) ∈ news) (hS : StrSet prog w 4 oM S) (hT : ∀ j, T j = !false) (hc : @Ne Nat c ME) :
    JoinM prog w h₀ L m x news (fun j => S j && T j) c s .next { s with heap := h', toks := tk' } :=
  ⟨rfl, h', tk', ME, oM, rfl, F, fun p hp => by
    rcases List.mem_cons.mp hp with rfl | hp
    · exact N _ hm
    · exact N p hp, hS.congr fun k => by rw [hT k]; simp, hc⟩
theorem JoinM.nil {c ME : Addr} {oM : Obj} {h' : Heap} {tk' : Nat} (F : Fr h₀ L h' m) (hx : m x = some (.ref ME)) (N : News h₀ L h' news) (hm : (ME, oM) ∈ news) (hz : oM.SetObjOf (PySem.strKind prog w) (fun _ => false) 0) (hT : ∀ j, T j = !true) (hc : @Ne Nat c ME) :
    JoinM prog w h₀ L m x news (fun j => S j && T j) c s .next { s with heap := h', toks := tk' } :=
  ⟨rfl, h', tk', ME, oM, rfl, fr_known F hx, fun p hp => by
    rcases List.mem_cons.mp hp with rfl | hp
    · exact N _ hm
    · exact N p hp, ((StrSet.empty hz).more (Nat.zero_le _)).congr fun k => by rw [hT k]; simp, hc⟩
theorem JoinM.diff {c ME : Addr} {oM : Obj} {h' : Heap} {tk' : Nat} {q : Addr × Obj} {ss : List Str} (F : Fr h₀ L h' (fun y => if y = x then some (.ref ME) else m y)) (N : News h₀ L h' ((ME, oM) :: q :: news)) (hS : StrSet prog w 4 oM (fun j => S j && !ss.contains j)) (hT : ∀ j, T j = !ss.contains j) (hc : @Ne Nat c ME) :
    JoinM prog w h₀ L m x news (fun j => S j && T j) c s .next { s with heap := h', toks := tk' } :=
  ⟨rfl, h', tk', ME, oM, rfl, F, fun p hp => by
    rcases List.mem_cons.mp hp with rfl | hp
    · exact N _ (.head _)
    · exact N p (.tail _ (.tail _ hp)), hS.congr fun k => by rw [hT k], hc⟩
theorem join_M {vE nE : Value} {EN EX MK XU : Addr} {oX : Obj} {b : Bool} {ss : List Str} {y : Str} (_ : Fr h₀ L s.heap m) (_ : News h₀ L s.heap news) (_ : m (Str.ofString "missing_key_usage") = some (.ref MK)) (_ : m (Str.ofString "extended_key_usage") = some (.ref XU)) (_ : (XU, oX) ∈ news) (_ : StrSet prog w 4 oX S) (hE : MExt vE nE EN EX b ss T)
    (w1 : b = false → vE = .none → (∀ j, T j = !false) → wpAny (model prog w) A t (JoinM prog w h₀ L m x news (fun j => S j && T j) MK s) E s)
    (w2 : b = true → vE = .none → (∀ j, T j = !true) → wpAny (model prog w) A t (JoinM prog w h₀ L m x news (fun j => S j && T j) MK s) E s)
    (w3 : b = false → vE = .ref EN → nE = .ref EX → (∀ j, T j = !ss.contains j) → wpAny (model prog w) A t (JoinM prog w h₀ L m x news (fun j => S j && T j) MK s) E s)
    (w4 : b = true → vE = .ref EN → nE = .ref EX → (∀ j, T j = !ss.contains j) → wpAny (model prog w) A t (JoinM prog w h₀ L m x news (fun j => S j && T j) MK s) E s)
    (k : ∀ h' tk' ME oM, Fr h₀ L h' (fun y => if y = x then some (.ref ME) else m y) → News h₀ L h' ((ME, oM) :: news) → StrSet prog w 4 oM (fun j => S j && T j) → @Ne Nat MK ME → Q .next { s with heap := h', toks := tk' }) :
    wpAny (model prog w) A t Q E s := by
  refine wpAny_mono (Q := JoinM prog w h₀ L m x news (fun j => S j && T j) MK s) ?_ (fun f s' hj => ?_) fun _ _ e => e
  · cases hE with
    | no h hT =>
      cases b with
      | false => exact w1 rfl h hT
      | true => exact w2 rfl h hT
    | yes h h' hT =>
      cases b with
      | false => exact w3 rfl h h' hT
      | true => exact w4 rfl h h' hT
  · obtain ⟨rfl, h', tk', ME, oM, rfl, F', N', hK, h1⟩ := hj
    exact k h' tk' ME oM F' N' hK h1
/-- what due holds on the main path -/
inductive Due3 : Str → (Str → Bool) → (Str → Bool) → Prop where
  | ref {du : Str} {S1 S2 : Str → Bool} (h : (∃ k, S1 k = true) ∨ ∃ k, S2 k = true) (e : du = Str.ofString "refused") : Due3 du S1 S2
  | giv {du : Str} {S1 S2 : Str → Bool} (h : ¬ ((∃ k, S1 k = true) ∨ ∃ k, S2 k = true)) (e : du = Str.ofString "given") : Due3 du S1 S2
theorem due3_a {du : Str} {S1 S2 : Str → Bool} {t1 : Bool} (h : Due3 du S1 S2) (h1 : t1 = true ↔ ∃ k, S1 k = true) (e : t1 = true) : du = Str.ofString "refused" := by
  cases h with
  | ref _ e => exact e
  | giv h _ => exact absurd (.inl (h1.mp e)) h
theorem due3_b {du : Str} {S1 S2 : Str → Bool} {t2 : Bool} (h : Due3 du S1 S2) (h1 : t2 = true ↔ ∃ k, S2 k = true) (e : t2 = true) : du = Str.ofString "refused" := by
  cases h with
  | ref _ e => exact e
  | giv h _ => exact absurd (.inr (h1.mp e)) h
theorem due3_c {du : Str} {S1 S2 : Str → Bool} {t1 t2 : Bool} (h : Due3 du S1 S2) (h1 : t1 = true ↔ ∃ k, S1 k = true) (h2 : t2 = true ↔ ∃ k, S2 k = true) (e1 : t1 = false) (e2 : t2 = false) : du = Str.ofString "given" := by
  cases h with
  | ref h _ =>
    rcases h with h | h
    · rw [h1.mpr h] at e1; cases e1
    · rw [h2.mpr h] at e2; cases e2
  | giv _ e => exact e
end
end Mine
end
section -- MPlain
set_option maxRecDepth 100000
namespace Mine
open PySem PySem.W PyProof.Rows PySem.Calls

theorem wp_seq {M : Model} {A : Around} {env : Env} {rest : List Stmt} {Q : Flow → Shared → Prop} {E : Value → Shared → Prop} {Γ : Ctx} (hΓ : Γ.In A) : ∀ (a : List Stmt) (p : Pos) (s : Shared),
    Sem.wp M Γ (execs a env) (fun f _ s' => (match f with | .next => wpAny M A (execs rest env) Q E s' | f => Q f s')) (fun e _ s' => E e s') p s → Sem.wp M Γ (execs (a ++ rest) env) (fun f _ s' => Q f s') (fun e _ s' => E e s') p s
  | [], p, s, h => (show wpAny M A (execs rest env) Q E s from h) Γ p hΓ
  | st :: a, p, s, h => by
    rw [List.cons_append, execs_cons, Sem.wp_bind']
    rw [execs_cons, Sem.wp_bind'] at h
    refine Sem.wp_mono M Γ _ (fun f p' s' h' => ?_) (fun _ _ _ h' => h') _ _ h
    cases f <;> first | exact wp_seq hΓ a p' s' h' | exact h'
theorem seq {M : Model} {A : Around} {env : Env} {a rest : List Stmt} {Q : Flow → Shared → Prop} {E : Value → Shared → Prop} {s : Shared} (h : wpAny M A (execs a env) (fun f s' => (match f with | .next => wpAny M A (execs rest env) Q E s' | f => Q f s')) E s) : wpAny M A (execs (a ++ rest) env) Q E s :=
  fun Γ p hΓ => wp_seq hΓ a p s (h Γ p hΓ)

theorem any_beq {ss : List Str} {z : Str} : (ss.any fun x => x == z) = ss.contains z := by
  rw [Bool.eq_iff_iff, List.any_eq_true]
  simp
theorem miss_iff {a f : Int} {ss1 ss2 ss3 ss4 : List Str} {T : Str → Bool} (hT : ∀ z, T z = true ↔ if a.fmod 3 = 1 then f.fmod 4 ≠ 1 else ss2.contains z = false) :
    Miss a f ss1 ss2 ss3 ss4 ↔ (∃ k, (ss3.contains k && !ss1.contains k) = true) ∨ ∃ k, (ss4.contains k && T k) = true := by
  unfold Miss
  simp only [any_beq]
  constructor
  · rintro (⟨z, hz, h⟩ | ⟨z, hz, h⟩)
    · exact .inl ⟨z, by rw [h]; simpa using hz⟩
    · exact .inr ⟨z, by rw [(hT z).mpr h]; simpa using hz⟩
  · rintro (⟨z, h⟩ | ⟨z, h⟩)
    · rw [Bool.and_eq_true] at h
      exact .inl ⟨z, by simpa using h.1, by simpa using h.2⟩
    · rw [Bool.and_eq_true] at h
      exact .inr ⟨z, by simpa using h.1, (hT z).mp h.2⟩
theorem due3_of {lb : Bool} {a d e f : Int} {ss1 ss2 ss3 ss4 : List Str} {du : Str} {T : Str → Bool} (h : DueIs lb a d e f ss1 ss2 ss3 ss4 du) (hl : lb = false) (hd : (d.fdiv 16).fmod 4 ≠ 2) (he : (e.fdiv 16).fmod 4 ≠ 2) (hf : f.fmod 4 ≠ 3)
    (hT : ∀ z, T z = true ↔ if a.fmod 3 = 1 then f.fmod 4 ≠ 1 else ss2.contains z = false) : Due3 du (fun j => ss3.contains j && !ss1.contains j) (fun j => ss4.contains j && T j) := by
  subst hl
  rcases h with ⟨h, _⟩ | ⟨_, h, _⟩ | ⟨_, _, _, _, ⟨h, e⟩ | ⟨h, e⟩⟩
  · cases h
  · rcases h with h | h | h
    · exact absurd h hd
    · exact absurd h he
    · exact absurd h hf
  · exact .ref ((miss_iff hT).mp h) e
  · exact .giv (fun q => h ((miss_iff hT).mpr q)) e
theorem dem_of {k : Int} {v : Value} {A0 FL b : Addr} {ss : List Str} (h : Pick k v A0 FL) (hk : k ≠ 2) (hp : ss ≠ [] → k ≠ 1) (hb : b < A0) : Dem v (fun j => ss.contains j) A0 b := by
  rcases h with ⟨h, hv⟩ | ⟨h, _⟩ | ⟨_, _, hv⟩
  · refine .mk (.inl ⟨hv, fun j => ?_⟩) hb
    have e : ss = [] := Classical.byContradiction fun q => hp q h
    subst e; rfl
  · exact absurd h hk
  · exact .mk (.inr hv) hb
end Mine
end
section -- MRest
set_option maxRecDepth 100000
namespace Mine
open PySem PySem.W PyProof.Rows
section
variable {R : List (Addr × Obj)} {d : Addr}
theorem neR {R : List (Addr × Obj)} {d : Addr} (h : AllLt d R) : ∀ p ∈ R, @Ne Nat p.1 d := by
  induction R with
  | nil => exact fun _ h => nomatch h
  | cons q r ih => exact fun p hp => (List.mem_cons.mp hp).elim (fun e => e ▸ Nat.ne_of_lt h.1) fun hp => ih h.2 p hp
theorem neOf {R : List (Addr × Obj)} {d : Addr} (h : LCg.Off1 d R) : ∀ p ∈ R, @Ne Nat p.1 d := by
  induction R with
  | nil => exact fun _ h => nomatch h
  | cons q r ih => exact fun p hp => (List.mem_cons.mp hp).elim (fun e => e ▸ h.1) fun hp => ih h.2 p hp
end
section
variable {prog : Program} {w : World} {A : Around} {E : Value → Shared → Prop} {s : Shared}
theorem item_short {value slice : PySem.Expr} {l : Addr} {vs : List Value} {ss : List Str} {k : Int} {u : Tok} {Q : Value → Shared → Prop}
    (hl : s.heap.IsList l vs.toArray) (hi : StrsAre vs ss) (hs : Shorts ss) (h0 : 0 ≤ k) (hk : k < 4) (hn : vs.length = 4) (h : ∀ x t, Short x → Q (.str x t) s)
    (hsub : subscripted slice false (.ref l) (.int k u) = operate [.ref l, .int k u] (getItem (.ref l) (.int k u)) := by with_unfolding_all rfl) :
    wpAny (model prog w) A (subscriptTail value slice (.ref l) (.int k u)) Q E s := by
  have hlt : k.toNat < vs.length := by omega
  have key : ∀ {vs : List Value} {ss : List Str}, StrsAre vs ss → (∀ x ∈ ss, Short x) → ∀ v ∈ vs, ∃ x t, v = .str x t ∧ Short x := by
    intro vs ss hi
    induction hi with
    | nil => exact fun _ _ h => nomatch h
    | cons x t r ih =>
      intro hs v hv
      rcases List.mem_cons.mp hv with rfl | hv
      · exact ⟨_, _, rfl, hs _ (.head _)⟩
      · exact ih (fun y hy => hs y (.tail _ hy)) v hv
  obtain ⟨x, t, e, hx⟩ := key hi hs.2 _ (List.getElem_mem hlt)
  refine tail_any hl.typeIs slot_list_getitem.lookup (wpAny_getItem_list hl h0 (by omega) (x := .str x t) ?_ (h x t hx)) hsub
  rw [← e]
  simp [hlt]
end
/-- a ledger less one object -/
inductive Del (x : Addr × Obj) : List (Addr × Obj) → List (Addr × Obj) → Prop
  | head {r} : Del x (x :: r) r
  | tail {q r r'} : Del x r r' → Del x (q :: r) (q :: r')
theorem Del.mem {x : Addr × Obj} {l l' : List (Addr × Obj)} (h : Del x l l') : x ∈ l ∧ ∀ p ∈ l', p ∈ l := by
  induction h with
  | head => exact ⟨.head _, fun p hp => .tail _ hp⟩
  | tail _ ih => exact ⟨.tail _ ih.1, fun p hp => (List.mem_cons.mp hp).elim (fun e => e ▸ .head _) fun hp => .tail _ (ih.2 p hp)⟩
theorem unrEnd_del {h₀ : Heap} {L I : Addr} {it : Obj} {rest : (Str → Option Value) → List (Addr × Obj) → Prop} {s₁ : Shared} {h' : Heap} {tk : Nat} {m' : Str → Option Value} {all news' : List (Addr × Obj)} (F : Fr h₀ L h' m') (N : News h₀ L h' all)
    (D : Del (I, it) all news') (off : ∀ p ∈ news', p.1 ≠ I) (r : rest m' news') : UnrEnd h₀ L s₁ I it rest { s₁ with heap := h', toks := tk } :=
  UnrEnd.intro F N news' (fun p hp => by
    rcases List.mem_cons.mp hp with rfl | hp
    · exact D.mem.1
    · exact D.mem.2 p hp) off r
/-- the end of «[cert.sha1] if listed else [7]»: a list of one int, 1 just where b holds -/
def JoinL (h₀ : Heap) (L : Addr) (m : Str → Option Value) (news : List (Addr × Obj)) (b : Bool) (s : Shared) (v : Value) (s' : Shared) : Prop :=
  ∃ h' tk' l x u, s' = { s with heap := h', toks := tk' } ∧ Fr h₀ L h' m ∧ News h₀ L h' ((l, PySem.W.listOf #[.int x u] 0) :: news) ∧ AllLt l news ∧ v = .ref l ∧ (x == 1) = b
inductive BMark (b : Bool) : Prop where
  | mk : BMark b
section
variable {prog : Program} {w : World} {A : Around} {E : Value → Shared → Prop} {s : Shared} {h₀ : Heap} {L : Addr} {m : Str → Option Value} {news : List (Addr × Obj)} {b : Bool}
theorem JoinL.mk' {h' : Heap} {tk' : Nat} {l : Addr} {x : Int} {u : Tok} (F : Fr h₀ L h' m) (N : News h₀ L h' ((l, PySem.W.listOf #[.int x u] 0) :: news)) (hl : AllLt l news) (hx : (x == 1) = b) :
    JoinL h₀ L m news b s (.ref l) { s with heap := h', toks := tk' } := ⟨h', tk', l, x, u, rfl, F, N, hl, rfl, hx⟩
theorem join_X {t : Sem Value} {Q : Value → Shared → Prop} (_ : Fr h₀ L s.heap m) (_ : News h₀ L s.heap news) (_ : BMark b) (W : wpAny (model prog w) A t (JoinL h₀ L m news b s) E s)
    (k : ∀ h' tk' l x u, Fr h₀ L h' m → News h₀ L h' ((l, PySem.W.listOf #[.int x u] 0) :: news) → AllLt l news → (x == 1) = b → Q (.ref l) { s with heap := h', toks := tk' }) : wpAny (model prog w) A t Q E s := by
  refine wpAny_mono W (fun v s' hj => ?_) fun _ _ e => e
  obtain ⟨h', tk', l, x, u, rfl, F', N', hl, rfl, hx⟩ := hj
  exact k h' tk' l x u F' N' hl hx
end
theorem wl_of {x : Int} {b : Bool} (hx : (x == 1) = b) : (false || decide ((1 : Int) = x)) = b := by
  rw [← hx]
  by_cases h : x = 1
  · subst h; rfl
  · rw [decide_eq_false (Ne.symm h), beq_eq_false_iff_ne.mpr h]; rfl
section
variable {x y : Nat} {B : Prop}
theorem pn2 {A0 A1 : Prop} (h : A0 ∧ A1 ∧ (@Ne Nat x y) ∧ B) : @Ne Nat y x := Ne.symm h.2.2.1
theorem pn3 {A0 A1 A2 : Prop} (h : A0 ∧ A1 ∧ A2 ∧ (@Ne Nat x y) ∧ B) : @Ne Nat y x := Ne.symm h.2.2.2.1
theorem pn4 {A0 A1 A2 A3 : Prop} (h : A0 ∧ A1 ∧ A2 ∧ A3 ∧ (@Ne Nat x y) ∧ B) : @Ne Nat y x := Ne.symm h.2.2.2.2.1
theorem pn5 {A0 A1 A2 A3 A4 : Prop} (h : A0 ∧ A1 ∧ A2 ∧ A3 ∧ A4 ∧ (@Ne Nat x y) ∧ B) : @Ne Nat y x := Ne.symm h.2.2.2.2.2.1
theorem pn6 {A0 A1 A2 A3 A4 A5 : Prop} (h : A0 ∧ A1 ∧ A2 ∧ A3 ∧ A4 ∧ A5 ∧ (@Ne Nat x y) ∧ B) : @Ne Nat y x := Ne.symm h.2.2.2.2.2.2.1
end
/-- the end of «missing_key_usage or missing_extended_key_usage» as a truth value -/
def JoinB (P : Prop) (s : Shared) (b : Bool) (s' : Shared) : Prop := ∃ tk', s' = { s with toks := tk' } ∧ (b = true ↔ P)
inductive OrMark (S1 S2 : Str → Bool) : Prop where
  | mk : OrMark S1 S2
inductive StrMark : Prop where
  | mk : StrMark
/-- the end of «'s' if .. else ''»: a text, the ledger as before -/
def JoinS (h₀ : Heap) (L : Addr) (m : Str → Option Value) (news : List (Addr × Obj)) (s : Shared) (v : Value) (s' : Shared) : Prop :=
  ∃ h' tk' x u, s' = { s with heap := h', toks := tk' } ∧ Fr h₀ L h' m ∧ News h₀ L h' news ∧ v = .str x u
section
variable {prog : Program} {w : World} {A : Around} {E : Value → Shared → Prop} {s : Shared} {S1 S2 : Str → Bool} {tk : Nat} {t1 t2 : Bool}
theorem join_B {t : Sem Bool} {Q : Bool → Shared → Prop} (_ : OrMark S1 S2) (W : wpAny (model prog w) A t (JoinB ((∃ k, S1 k = true) ∨ ∃ k, S2 k = true) s) E s)
    (k : ∀ b tk', (b = true ↔ (∃ k, S1 k = true) ∨ ∃ k, S2 k = true) → Q b { s with toks := tk' }) : wpAny (model prog w) A t Q E s :=
  wpAny_mono W (fun b s' hj => by obtain ⟨tk', rfl, hb⟩ := hj; exact k b tk' hb) fun _ _ e => e
theorem JoinB.a (h1 : t1 = true ↔ ∃ k, S1 k = true) (e : t1 = true) : JoinB ((∃ k, S1 k = true) ∨ ∃ k, S2 k = true) s true { s with toks := tk } := ⟨tk, rfl, fun _ => .inl (h1.mp e), fun _ => rfl⟩
theorem JoinB.b (h1 : t1 = true ↔ ∃ k, S1 k = true) (e : t1 = false) (h2 : t2 = true ↔ ∃ k, S2 k = true) : JoinB ((∃ k, S1 k = true) ∨ ∃ k, S2 k = true) s t2 { s with toks := tk } :=
  ⟨tk, rfl, fun q => .inr (h2.mp q), fun q => q.elim (fun q => (by rw [h1.mpr q] at e; cases e)) h2.mpr⟩
theorem JoinB.c (h2 : t2 = true ↔ ∃ k, S2 k = true) (e : t2 = true) : JoinB ((∃ k, S1 k = true) ∨ ∃ k, S2 k = true) s true { s with toks := tk } := ⟨tk, rfl, fun _ => .inr (h2.mp e), fun _ => rfl⟩
theorem JoinB.d (h1 : t1 = true ↔ ∃ k, S1 k = true) (e1 : t1 = false) (h2 : t2 = true ↔ ∃ k, S2 k = true) (e2 : t2 = false) : JoinB ((∃ k, S1 k = true) ∨ ∃ k, S2 k = true) s false { s with toks := tk } :=
  ⟨tk, rfl, fun q => (by cases q), fun q => q.elim (fun q => (by rw [h1.mpr q] at e1; cases e1)) (fun q => (by rw [h2.mpr q] at e2; cases e2))⟩
theorem due3_t {du : Str} {b : Bool} (h : Due3 du S1 S2) (hb : b = true ↔ (∃ k, S1 k = true) ∨ ∃ k, S2 k = true) (e : b = true) : du = Str.ofString "refused" := by
  cases h with
  | ref _ e => exact e
  | giv h _ => exact absurd (hb.mp e) h
theorem due3_f {du : Str} {b : Bool} (h : Due3 du S1 S2) (hb : b = true ↔ (∃ k, S1 k = true) ∨ ∃ k, S2 k = true) (e : b = false) : du = Str.ofString "given" := by
  cases h with
  | ref h _ => rw [hb.mpr h] at e; cases e
  | giv _ e => exact e
variable {h₀ : Heap} {L : Addr} {m : Str → Option Value} {news : List (Addr × Obj)} {h' : Heap} {x : Str} {u : Tok}
theorem join_S {t : Sem Value} {Q : Value → Shared → Prop} (_ : Fr h₀ L s.heap m) (_ : News h₀ L s.heap news) (_ : StrMark) (W : wpAny (model prog w) A t (JoinS h₀ L m news s) E s)
    (k : ∀ h' tk' x u, Fr h₀ L h' m → News h₀ L h' news → Q (.str x u) { s with heap := h', toks := tk' }) : wpAny (model prog w) A t Q E s :=
  wpAny_mono W (fun v s' hj => by obtain ⟨h', tk', x, u, rfl, F', N', rfl⟩ := hj; exact k h' tk' x u F' N') fun _ _ e => e
theorem JoinS.one {q : Addr × Obj} (F : Fr h₀ L h' m) (N : News h₀ L h' (q :: news)) : JoinS h₀ L m news s (.str x u) { s with heap := h', toks := tk } := ⟨h', tk, x, u, rfl, F, fun p hp => N p (.tail _ hp), rfl⟩
theorem JoinS.same (F : Fr h₀ L h' m) (N : News h₀ L h' news) : JoinS h₀ L m news s (.str x u) { s with heap := h', toks := tk } := ⟨h', tk, x, u, rfl, F, N, rfl⟩
end
end Mine
end
section -- Sg0
open PySem PySem.W PyProof.Rows
set_option maxRecDepth 100000
namespace Mine
local macro_rules | `(tactic| k_ne) => `(tactic| (refine neN ?_; (try dsimp only); first | exact Mine.pn2 (by with_reducible assumption) | exact Mine.pn3 (by with_reducible assumption) | exact Mine.pn4 (by with_reducible assumption) | exact Mine.pn5 (by with_reducible assumption) | exact Mine.pn6 (by with_reducible assumption) | omega))
set_option maxHeartbeats 4000000 in
theorem sg0 {w : World} {h₀ : Heap} {mean : ExcName → Option Value} {mg mb : Str → Option Value} (Y : Law w h₀ mean mg mb) {s : Shared} {fa cdA : Addr} {l : Addr} {vs : List Value} {ns : List Int} {o1 o2 o3 o4 o5 o6 o7 o8 o9 o10 o11 : Obj}
  (F : Fr h₀ h₀.objs.size s.heap (fun _ => none))
  (N : News h₀ h₀.objs.size s.heap [(h₀.objs.size + 1 + 1 + 1 + 1 + 1 + 1 + 1 + 1 + 1 + 1 + 1, o11), (h₀.objs.size + 1 + 1 + 1 + 1 + 1 + 1 + 1 + 1 + 1 + 1, o10), (h₀.objs.size + 1 + 1 + 1 + 1 + 1 + 1 + 1 + 1 + 1, o9), (h₀.objs.size + 1 + 1 + 1 + 1 + 1 + 1 + 1 + 1, o8), (h₀.objs.size + 1 + 1 + 1 + 1 + 1 + 1 + 1, o7), (h₀.objs.size + 1 + 1 + 1 + 1 + 1 + 1, o6), (h₀.objs.size + 1 + 1 + 1 + 1 + 1, o5), (h₀.objs.size + 1 + 1 + 1 + 1, o4), (h₀.objs.size + 1 + 1 + 1, o3), (h₀.objs.size + 1 + 1, o2), (h₀.objs.size + 1, o1)])
  (d1 : o1.data = .cell (some (.ref l)))
  (d2 : o2.data = .cell (none))
  (d3 : o3.data = .cell (none))
  (d4 : o4.data = .cell (none))
  (d5 : o5.data = .cell (none))
  (d6 : o6.data = .cell (none))
  (d7 : o7.data = .cell (none))
  (d8 : o8.data = .cell (none))
  (d9 : o9.data = .cell (none))
  (d10 : o10.data = .cell (none))
  (d11 : o11.data = .cell (none))
  (hl : h₀.IsList l vs.toArray)
  (hi : IntsAre vs ns)
  (hlen : ns.length ≤ 63)
  {Q : Flow → Shared → Prop} {E : Value → Shared → Prop}
  (h : ∀ (h' : Heap) (tk' : Nat) (a b c d e f : Int) (t1 t2 t3 t4 t5 t6 : Tok) (o2 o3 o4 o5 o6 : Obj),
    Fr h₀ h₀.objs.size h' (fun y => if y = Str.ofString "f" then some (Value.int f t6) else none) →
    News h₀ h₀.objs.size h' [(h₀.objs.size + 1 + 1 + 1 + 1 + 1 + 1 + 1 + 1 + 1 + 1 + 1, o11), (h₀.objs.size + 1 + 1 + 1 + 1 + 1 + 1 + 1 + 1 + 1 + 1, o10), (h₀.objs.size + 1 + 1 + 1 + 1 + 1 + 1 + 1 + 1 + 1, o9), (h₀.objs.size + 1 + 1 + 1 + 1 + 1 + 1 + 1 + 1, o8), (h₀.objs.size + 1 + 1 + 1 + 1 + 1 + 1 + 1, o7), (h₀.objs.size + 1 + 1 + 1 + 1 + 1 + 1, o6), (h₀.objs.size + 1 + 1 + 1 + 1 + 1, o5), (h₀.objs.size + 1 + 1 + 1 + 1, o4), (h₀.objs.size + 1 + 1 + 1, o3), (h₀.objs.size + 1 + 1, o2)] →
    (o2.data = .cell (some (.int a t1))) →
    (o3.data = .cell (some (.int b t2))) →
    (o4.data = .cell (some (.int c t3))) →
    (o5.data = .cell (some (.int d t4))) →
    (o6.data = .cell (some (.int e t5))) →
    Q .next { s with heap := h', toks := tk' }) :
  wpAny (model prg w) (lawA h₀.objs.size fa (.ref cdA)) (execs (stmts 0) (lawEnv h₀.objs.size fa (.ref cdA))) Q E s := by
  obtain ⟨X, T, B, G, V, TE, TW, TB, XM, ma, mo, M'⟩ := Y
  revert X
  dsimp only [prg] at *
  k_fill
  intro X
  dsimp only [stmts, lawFun, lawEnv, lawA, List.getD, List.getElem?_cons_zero, List.getElem?_cons_succ, Option.getD, List.cons_append, List.nil_append]
  k_steps
  rename IntsAre _ (List.map _ (rangeKs 0 _)) => hI8
  obtain ⟨a, b, c, d, e, f, t1, t2, t3, t4, t5, t6, hys⟩ := ints_six hI8
  clear hI8
  subst hys
  k_steps
  all_goals (try k_data)
  refine' h _ _ _ _ _ _ _ _ _ _ _ _ _ _ _ _ _ _ _ (by k_asm) (news_sub (by k_asm) ?sub) ?e2 ?e3 ?e4 ?e5 ?e6
  case sub => repeat (first | exact List.nil_sublist _ | (with_reducible exact List.Sublist.refl _) | (with_reducible refine List.Sublist.cons_cons _ ?_) | refine List.Sublist.cons _ ?_)
  case e2 => assumption
  case e3 => assumption
  case e4 => assumption
  case e5 => assumption
  case e6 => assumption
end Mine
end
section -- stages
open PySem PySem.W PyProof.Rows
set_option maxRecDepth 100000
namespace Mine
local macro_rules | `(tactic| walk_at "eval ListComp") => `(tactic| (k_here; k_dflt (refine LCt.ListComp_T (F₀ := by k_asm) (by with_unfolding_all rfl) (by decide) (by rfl) (by decide) (by rfl) ?_)))
local macro_rules | `(tactic| walk_at "exec Assign cons ListComp") => `(tactic| (k_here; k_dflt (refine LCt.Assign_ListComp_T (F₀ := by k_asm) (by rfl) (by with_unfolding_all rfl) (by with_unfolding_all rfl) (by decide) (by rfl) (by decide) (by rfl) (by rfl) (by rfl) ?_)))
local macro_rules | `(tactic| walk_at "CsEl") => `(tactic| (refine Mine.cs_el ?_ (by unfold Mine.Short; decide +kernel) (by with_unfolding_all rfl); first | trivial | assumption | (show _ ≠ _; assumption)))
local macro_rules | `(tactic| walk_at "CsNo") => `(tactic| exact Mine.cs_no (by with_unfolding_all rfl))
local macro_rules | `(tactic| walk_at "CsDone") => `(tactic| (unfold Mine.CsDone; intro _ _ _ _ _))
local macro_rules | `(tactic| walk_at "CompEnd") => `(tactic| (refine LCg.CompEnd.intro (by assumption) (by assumption) _ (fun _ hp => hp) (by first | assumption | (simp only [LCg.Off3, and_true]; assumption) | (simp only [LCg.Off3, and_true]; done)) (by first | exact True.intro | lcg_src | assumption) ?_))
local macro_rules | `(tactic| walk_at "call builtin:int.to_bytes") => `(tactic| (k_here; refine Mine.to_bytes_20 ?_; intro _ _ _))
local macro_rules | `(tactic| walk_at "call type:set cons nil") => `(tactic| (k_here; k_dflt (refine' Mine.setList_L (by k_asm) (by k_asm) (by rfl) (News.isList (by k_asm) (by k_mem)) (by first | assumption | exact .cons _ _ (.cons _ _ .nil)) (by first | exact (And.left (by assumption : Mine.Shorts _)) | decide) ?_); intro _ _ _ _ _ _ l1 _; (try k_lt l1)))
local macro_rules | `(tactic| walk_at "eval Dict nil nil") => `(tactic| (k_here; k_dflt (refine' newDict_K (by k_asm) (by k_asm) (by first | exact TopRead.nolimit (by k_asm) | exact TopRead.nolimit (topRead_of (by assumption))) ?_; k_whole); intro _ _ _ _ _ l1 _ _ _ _ _; (try k_lt l1); (try k_sweep)))
local macro_rules | `(tactic| walk_at "ite") => `(tactic| ((try dsimp only); first | refine ite_isFalse (by with_reducible assumption) ?_ | refine ite_pos (by with_reducible assumption) ?_ | refine ite_neg (by decide) ?_ | refine ite_pos (by decide) ?_))
local macro_rules | `(tactic| k_all) => `(tactic| first | exact (by assumption) | exact Mine.neR (by assumption))
local macro_rules | `(tactic| k_ne) => `(tactic| (refine neN ?_; (try dsimp only); first | exact Mine.pn2 (by with_reducible assumption) | exact Mine.pn3 (by with_reducible assumption) | exact Mine.pn4 (by with_reducible assumption) | exact Mine.pn5 (by with_reducible assumption) | exact Mine.pn6 (by with_reducible assumption) | omega))
set_option maxHeartbeats 4000000 in
theorem sg3 {w : World} {h₀ : Heap} {mean : ExcName → Option Value} {mg mb : Str → Option Value} (Y : Law w h₀ mean mg mb) {s : Shared} {fa cdA : Addr} {f : Int} {t6 : Tok} {OW : Addr} {ys1 : List Value} {ss1 : List Str} {o9 : Obj} {R : List (Addr × Obj)}
  (F : Fr h₀ h₀.objs.size s.heap (fun y => if y = Str.ofString "f" then some (Value.int f t6) else none))
  (N : News h₀ h₀.objs.size s.heap ((OW, LCg.lst ys1) :: (h₀.objs.size + 1 + 1 + 1 + 1 + 1 + 1 + 1 + 1 + 1, o9) :: R))
  (d9 : o9.data = .cell (some (.ref OW)))
  (hy1 : StrsAre ys1 ss1)
  (hs1 : Shorts ss1)
  {Q : Flow → Shared → Prop} {E : Value → Shared → Prop}
  (h : ∀ (h' : Heap) (tk' : Nat) (k1 k2 k3 k4 k5 k6 k7 k8 k9 k10 k11 k12 k13 k14 k15 k16 k17 k18 k19 k20 k21 k22 k23 k24 tS kN : Tok) (z1 z3 z4 z5 z6 z7 z8 z9 z10 z11 z12 z13 z14 z15 z16 z17 z20 z21 z22 z23 z24 : Value) (cd cx SO ND NX : Addr) (oS : Obj),
    Fr h₀ h₀.objs.size h' (fun y => if y = Str.ofString "cert" then some (Value.ref cx) else if y = Str.ofString "f" then some (Value.int f t6) else none) →
    News h₀ h₀.objs.size h' ((NX, PySem.W.instObj 52 ND) :: (ND, PySem.W.dictOf [{ hash := PyData.keyHash w.params (Str.ofString "native"), key := Value.str (Str.ofString "native") kN, val := Value.ref SO }] 1) :: (SO, oS) :: (cx, PySem.W.instObj 160 cd) :: (cd, PySem.W.dictOf [{ hash := PyData.keyHash w.params (Str.ofString "signature"), key := Value.str (Str.ofString "signature") k1, val := z1 }, { hash := PyData.keyHash w.params (Str.ofString "sha1"), key := Value.str (Str.ofString "sha1") k2, val := Value.int 1 tS }, { hash := PyData.keyHash w.params (Str.ofString "sha256"), key := Value.str (Str.ofString "sha256") k3, val := z3 }, { hash := PyData.keyHash w.params (Str.ofString "serial_number"), key := Value.str (Str.ofString "serial_number") k4, val := z4 }, { hash := PyData.keyHash w.params (Str.ofString "subject"), key := Value.str (Str.ofString "subject") k5, val := z5 }, { hash := PyData.keyHash w.params (Str.ofString "issuer"), key := Value.str (Str.ofString "issuer") k6, val := z6 }, { hash := PyData.keyHash w.params (Str.ofString "public_key"), key := Value.str (Str.ofString "public_key") k7, val := z7 }, { hash := PyData.keyHash w.params (Str.ofString "signer"), key := Value.str (Str.ofString "signer") k8, val := z8 }, { hash := PyData.keyHash w.params (Str.ofString "signature_algo"), key := Value.str (Str.ofString "signature_algo") k9, val := z9 }, { hash := PyData.keyHash w.params (Str.ofString "hash_algo"), key := Value.str (Str.ofString "hash_algo") k10, val := z10 }, { hash := PyData.keyHash w.params (Str.ofString "not_before"), key := Value.str (Str.ofString "not_before") k11, val := z11 }, { hash := PyData.keyHash w.params (Str.ofString "not_after"), key := Value.str (Str.ofString "not_after") k12, val := z12 }, { hash := PyData.keyHash w.params (Str.ofString "ca"), key := Value.str (Str.ofString "ca") k13, val := z13 }, { hash := PyData.keyHash w.params (Str.ofString "max_path_length"), key := Value.str (Str.ofString "max_path_length") k14, val := z14 }, { hash := PyData.keyHash w.params (Str.ofString "key_identifier"), key := Value.str (Str.ofString "key_identifier") k15, val := z15 }, { hash := PyData.keyHash w.params (Str.ofString "authority_key_identifier"), key := Value.str (Str.ofString "authority_key_identifier") k16, val := z16 }, { hash := PyData.keyHash w.params (Str.ofString "authority_issuer_serial"), key := Value.str (Str.ofString "authority_issuer_serial") k17, val := z17 }, { hash := PyData.keyHash w.params (Str.ofString "key_usage_value"), key := Value.str (Str.ofString "key_usage_value") k18, val := Value.ref NX }, { hash := PyData.keyHash w.params (Str.ofString "extended_key_usage_value"), key := Value.str (Str.ofString "extended_key_usage_value") k19, val := Value.none }, { hash := PyData.keyHash w.params (Str.ofString "certificate_policies_value"), key := Value.str (Str.ofString "certificate_policies_value") k20, val := z20 }, { hash := PyData.keyHash w.params (Str.ofString "policy_mappings_value"), key := Value.str (Str.ofString "policy_mappings_value") k21, val := z21 }, { hash := PyData.keyHash w.params (Str.ofString "policy_constraints_value"), key := Value.str (Str.ofString "policy_constraints_value") k22, val := z22 }, { hash := PyData.keyHash w.params (Str.ofString "inhibit_any_policy_value"), key := Value.str (Str.ofString "inhibit_any_policy_value") k23, val := z23 }, { hash := PyData.keyHash w.params (Str.ofString "critical_extensions"), key := Value.str (Str.ofString "critical_extensions") k24, val := z24 }] 24) :: (OW, LCg.lst ys1) :: (h₀.objs.size + 1 + 1 + 1 + 1 + 1 + 1 + 1 + 1 + 1, o9) :: R) →
    (StrSet prg w 4 oS (fun j => ss1.contains j)) →
    (AllLt (cd) ((OW, LCg.lst ys1) :: (h₀.objs.size + 1 + 1 + 1 + 1 + 1 + 1 + 1 + 1 + 1, o9) :: R)) →
    (@LT.lt Nat _ (cd) (cx) ∧ @LT.lt Nat _ (cx) (SO) ∧ @LT.lt Nat _ (SO) (ND) ∧ @LT.lt Nat _ (ND) (NX)) →
    Q .next { s with heap := h', toks := tk' }) :
  wpAny (model prg w) (lawA h₀.objs.size fa (.ref cdA)) (execs (stmts 3 ++ stmts 4) (lawEnv h₀.objs.size fa (.ref cdA))) Q E s := by
  obtain ⟨X, T, B, G, V, TE, TW, TB, XM, ma, mo, M'⟩ := Y
  revert X
  dsimp only [prg] at *
  k_fill
  intro X
  dsimp only [stmts, lawFun, lawEnv, lawA, List.getD, List.getElem?_cons_zero, List.getElem?_cons_succ, Option.getD, List.cons_append, List.nil_append]
  k_steps
  all_goals (try k_data)
  refine' h _ _ _ _ _ _ _ _ _ _ _ _ _ _ _ _ _ _ _ _ _ _ _ _ _ _ _ _ _ _ _ _ _ _ _ _ _ _ _ _ _ _ _ _ _ _ _ _ _ _ _ _ _ _ _ (by k_asm) (news_sub (by k_asm) ?sub) ?hS ?gcd ?c
  case sub => repeat (first | exact List.nil_sublist _ | (with_reducible exact List.Sublist.refl _) | (with_reducible refine List.Sublist.cons_cons _ ?_) | refine List.Sublist.cons _ ?_)
  case hS => assumption
  case gcd => exact And.right (And.right (And.right (And.right (And.right (And.right (by assumption))))))
  case c => (refine ⟨ltN ?_, ltN ?_, ltN ?_, ltN ?_⟩ <;> omega)
set_option maxHeartbeats 4000000 in
theorem sg5 {w : World} {h₀ : Heap} {mean : ExcName → Option Value} {mg mb : Str → Option Value} (Y : Law w h₀ mean mg mb) {s : Shared} {fa cdA : Addr} {a f : Int} {t1 t6 : Tok} {EX : Addr} {o2 o10 : Obj} {k1 k2 k3 k4 k5 k6 k7 k8 k9 k10 k11 k12 k13 k14 k15 k16 k17 k18 k19 k20 k21 k22 k23 k24 tS kN : Tok} {z1 z3 z4 z5 z6 z7 z8 z9 z10 z11 z12 z13 z14 z15 z16 z17 z20 z21 z22 z23 z24 : Value} {cd cx SO ND NX : Addr} {R : List (Addr × Obj)}
  (F : Fr h₀ h₀.objs.size s.heap (fun y => if y = Str.ofString "cert" then some (Value.ref cx) else if y = Str.ofString "f" then some (Value.int f t6) else none))
  (N : News h₀ h₀.objs.size s.heap ((NX, PySem.W.instObj 52 ND) :: (ND, PySem.W.dictOf [{ hash := PyData.keyHash w.params (Str.ofString "native"), key := Value.str (Str.ofString "native") kN, val := Value.ref SO }] 1) :: (cx, PySem.W.instObj 160 cd) :: (cd, PySem.W.dictOf [{ hash := PyData.keyHash w.params (Str.ofString "signature"), key := Value.str (Str.ofString "signature") k1, val := z1 }, { hash := PyData.keyHash w.params (Str.ofString "sha1"), key := Value.str (Str.ofString "sha1") k2, val := Value.int 1 tS }, { hash := PyData.keyHash w.params (Str.ofString "sha256"), key := Value.str (Str.ofString "sha256") k3, val := z3 }, { hash := PyData.keyHash w.params (Str.ofString "serial_number"), key := Value.str (Str.ofString "serial_number") k4, val := z4 }, { hash := PyData.keyHash w.params (Str.ofString "subject"), key := Value.str (Str.ofString "subject") k5, val := z5 }, { hash := PyData.keyHash w.params (Str.ofString "issuer"), key := Value.str (Str.ofString "issuer") k6, val := z6 }, { hash := PyData.keyHash w.params (Str.ofString "public_key"), key := Value.str (Str.ofString "public_key") k7, val := z7 }, { hash := PyData.keyHash w.params (Str.ofString "signer"), key := Value.str (Str.ofString "signer") k8, val := z8 }, { hash := PyData.keyHash w.params (Str.ofString "signature_algo"), key := Value.str (Str.ofString "signature_algo") k9, val := z9 }, { hash := PyData.keyHash w.params (Str.ofString "hash_algo"), key := Value.str (Str.ofString "hash_algo") k10, val := z10 }, { hash := PyData.keyHash w.params (Str.ofString "not_before"), key := Value.str (Str.ofString "not_before") k11, val := z11 }, { hash := PyData.keyHash w.params (Str.ofString "not_after"), key := Value.str (Str.ofString "not_after") k12, val := z12 }, { hash := PyData.keyHash w.params (Str.ofString "ca"), key := Value.str (Str.ofString "ca") k13, val := z13 }, { hash := PyData.keyHash w.params (Str.ofString "max_path_length"), key := Value.str (Str.ofString "max_path_length") k14, val := z14 }, { hash := PyData.keyHash w.params (Str.ofString "key_identifier"), key := Value.str (Str.ofString "key_identifier") k15, val := z15 }, { hash := PyData.keyHash w.params (Str.ofString "authority_key_identifier"), key := Value.str (Str.ofString "authority_key_identifier") k16, val := z16 }, { hash := PyData.keyHash w.params (Str.ofString "authority_issuer_serial"), key := Value.str (Str.ofString "authority_issuer_serial") k17, val := z17 }, { hash := PyData.keyHash w.params (Str.ofString "key_usage_value"), key := Value.str (Str.ofString "key_usage_value") k18, val := Value.ref NX }, { hash := PyData.keyHash w.params (Str.ofString "extended_key_usage_value"), key := Value.str (Str.ofString "extended_key_usage_value") k19, val := Value.none }, { hash := PyData.keyHash w.params (Str.ofString "certificate_policies_value"), key := Value.str (Str.ofString "certificate_policies_value") k20, val := z20 }, { hash := PyData.keyHash w.params (Str.ofString "policy_mappings_value"), key := Value.str (Str.ofString "policy_mappings_value") k21, val := z21 }, { hash := PyData.keyHash w.params (Str.ofString "policy_constraints_value"), key := Value.str (Str.ofString "policy_constraints_value") k22, val := z22 }, { hash := PyData.keyHash w.params (Str.ofString "inhibit_any_policy_value"), key := Value.str (Str.ofString "inhibit_any_policy_value") k23, val := z23 }, { hash := PyData.keyHash w.params (Str.ofString "critical_extensions"), key := Value.str (Str.ofString "critical_extensions") k24, val := z24 }] 24) :: (h₀.objs.size + 1 + 1 + 1 + 1 + 1 + 1 + 1 + 1 + 1 + 1, o10) :: (h₀.objs.size + 1 + 1, o2) :: R))
  (d2 : o2.data = .cell (some (.int a t1)))
  (d10 : o10.data = .cell (some (.ref EX)))
  (g5 : @LT.lt Nat _ (cd) (cx) ∧ @LT.lt Nat _ (cx) (ND) ∧ @LT.lt Nat _ (ND) (NX) ∧ @LT.lt Nat _ (h₀.objs.size + 1 + 1 + 1 + 1 + 1 + 1 + 1 + 1 + 1 + 1) (cd) ∧ @LT.lt Nat _ (h₀.objs.size + 1 + 1) (cd))
  (r5 : ∀ p ∈ R, @Ne Nat p.1 (cd))
  {Q : Flow → Shared → Prop} {E : Value → Shared → Prop}
  (h : ∀ (h' : Heap) (tk' : Nat) (vE nE : Value) (EN ED : Addr) (kE : Tok),
    Fr h₀ h₀.objs.size h' (fun y => if y = Str.ofString "cert" then some (Value.ref cx) else if y = Str.ofString "f" then some (Value.int f t6) else none) →
    News h₀ h₀.objs.size h' ((EN, PySem.W.instObj 52 ED) :: (ED, PySem.W.dictOf [{ hash := PyData.keyHash w.params (Str.ofString "native"), key := Value.str (Str.ofString "native") kE, val := nE }] 1) :: (NX, PySem.W.instObj 52 ND) :: (ND, PySem.W.dictOf [{ hash := PyData.keyHash w.params (Str.ofString "native"), key := Value.str (Str.ofString "native") kN, val := Value.ref SO }] 1) :: (cx, PySem.W.instObj 160 cd) :: (cd, PySem.W.dictOf [{ hash := PyData.keyHash w.params (Str.ofString "signature"), key := Value.str (Str.ofString "signature") k1, val := z1 }, { hash := PyData.keyHash w.params (Str.ofString "sha1"), key := Value.str (Str.ofString "sha1") k2, val := Value.int 1 tS }, { hash := PyData.keyHash w.params (Str.ofString "sha256"), key := Value.str (Str.ofString "sha256") k3, val := z3 }, { hash := PyData.keyHash w.params (Str.ofString "serial_number"), key := Value.str (Str.ofString "serial_number") k4, val := z4 }, { hash := PyData.keyHash w.params (Str.ofString "subject"), key := Value.str (Str.ofString "subject") k5, val := z5 }, { hash := PyData.keyHash w.params (Str.ofString "issuer"), key := Value.str (Str.ofString "issuer") k6, val := z6 }, { hash := PyData.keyHash w.params (Str.ofString "public_key"), key := Value.str (Str.ofString "public_key") k7, val := z7 }, { hash := PyData.keyHash w.params (Str.ofString "signer"), key := Value.str (Str.ofString "signer") k8, val := z8 }, { hash := PyData.keyHash w.params (Str.ofString "signature_algo"), key := Value.str (Str.ofString "signature_algo") k9, val := z9 }, { hash := PyData.keyHash w.params (Str.ofString "hash_algo"), key := Value.str (Str.ofString "hash_algo") k10, val := z10 }, { hash := PyData.keyHash w.params (Str.ofString "not_before"), key := Value.str (Str.ofString "not_before") k11, val := z11 }, { hash := PyData.keyHash w.params (Str.ofString "not_after"), key := Value.str (Str.ofString "not_after") k12, val := z12 }, { hash := PyData.keyHash w.params (Str.ofString "ca"), key := Value.str (Str.ofString "ca") k13, val := z13 }, { hash := PyData.keyHash w.params (Str.ofString "max_path_length"), key := Value.str (Str.ofString "max_path_length") k14, val := z14 }, { hash := PyData.keyHash w.params (Str.ofString "key_identifier"), key := Value.str (Str.ofString "key_identifier") k15, val := z15 }, { hash := PyData.keyHash w.params (Str.ofString "authority_key_identifier"), key := Value.str (Str.ofString "authority_key_identifier") k16, val := z16 }, { hash := PyData.keyHash w.params (Str.ofString "authority_issuer_serial"), key := Value.str (Str.ofString "authority_issuer_serial") k17, val := z17 }, { hash := PyData.keyHash w.params (Str.ofString "key_usage_value"), key := Value.str (Str.ofString "key_usage_value") k18, val := Value.ref NX }, { hash := PyData.keyHash w.params (Str.ofString "extended_key_usage_value"), key := Value.str (Str.ofString "extended_key_usage_value") k19, val := vE }, { hash := PyData.keyHash w.params (Str.ofString "certificate_policies_value"), key := Value.str (Str.ofString "certificate_policies_value") k20, val := z20 }, { hash := PyData.keyHash w.params (Str.ofString "policy_mappings_value"), key := Value.str (Str.ofString "policy_mappings_value") k21, val := z21 }, { hash := PyData.keyHash w.params (Str.ofString "policy_constraints_value"), key := Value.str (Str.ofString "policy_constraints_value") k22, val := z22 }, { hash := PyData.keyHash w.params (Str.ofString "inhibit_any_policy_value"), key := Value.str (Str.ofString "inhibit_any_policy_value") k23, val := z23 }, { hash := PyData.keyHash w.params (Str.ofString "critical_extensions"), key := Value.str (Str.ofString "critical_extensions") k24, val := z24 }] 24) :: (h₀.objs.size + 1 + 1 + 1 + 1 + 1 + 1 + 1 + 1 + 1 + 1, o10) :: (h₀.objs.size + 1 + 1, o2) :: R) →
    ((vE = Value.none ∧ a.fmod 3 = 1 ∧ EN = NX ∧ ED = ND) ∨ (vE = Value.ref EN ∧ nE = Value.ref EX ∧ a.fmod 3 ≠ 1 ∧ @LT.lt Nat _ (NX) (ED) ∧ @LT.lt Nat _ (ED) (EN) ∧ AllLt (ED) ((NX, PySem.W.instObj 52 ND) :: (ND, PySem.W.dictOf [{ hash := PyData.keyHash w.params (Str.ofString "native"), key := Value.str (Str.ofString "native") kN, val := Value.ref SO }] 1) :: (cx, PySem.W.instObj 160 cd) :: (cd, PySem.W.dictOf [{ hash := PyData.keyHash w.params (Str.ofString "signature"), key := Value.str (Str.ofString "signature") k1, val := z1 }, { hash := PyData.keyHash w.params (Str.ofString "sha1"), key := Value.str (Str.ofString "sha1") k2, val := Value.int 1 tS }, { hash := PyData.keyHash w.params (Str.ofString "sha256"), key := Value.str (Str.ofString "sha256") k3, val := z3 }, { hash := PyData.keyHash w.params (Str.ofString "serial_number"), key := Value.str (Str.ofString "serial_number") k4, val := z4 }, { hash := PyData.keyHash w.params (Str.ofString "subject"), key := Value.str (Str.ofString "subject") k5, val := z5 }, { hash := PyData.keyHash w.params (Str.ofString "issuer"), key := Value.str (Str.ofString "issuer") k6, val := z6 }, { hash := PyData.keyHash w.params (Str.ofString "public_key"), key := Value.str (Str.ofString "public_key") k7, val := z7 }, { hash := PyData.keyHash w.params (Str.ofString "signer"), key := Value.str (Str.ofString "signer") k8, val := z8 }, { hash := PyData.keyHash w.params (Str.ofString "signature_algo"), key := Value.str (Str.ofString "signature_algo") k9, val := z9 }, { hash := PyData.keyHash w.params (Str.ofString "hash_algo"), key := Value.str (Str.ofString "hash_algo") k10, val := z10 }, { hash := PyData.keyHash w.params (Str.ofString "not_before"), key := Value.str (Str.ofString "not_before") k11, val := z11 }, { hash := PyData.keyHash w.params (Str.ofString "not_after"), key := Value.str (Str.ofString "not_after") k12, val := z12 }, { hash := PyData.keyHash w.params (Str.ofString "ca"), key := Value.str (Str.ofString "ca") k13, val := z13 }, { hash := PyData.keyHash w.params (Str.ofString "max_path_length"), key := Value.str (Str.ofString "max_path_length") k14, val := z14 }, { hash := PyData.keyHash w.params (Str.ofString "key_identifier"), key := Value.str (Str.ofString "key_identifier") k15, val := z15 }, { hash := PyData.keyHash w.params (Str.ofString "authority_key_identifier"), key := Value.str (Str.ofString "authority_key_identifier") k16, val := z16 }, { hash := PyData.keyHash w.params (Str.ofString "authority_issuer_serial"), key := Value.str (Str.ofString "authority_issuer_serial") k17, val := z17 }, { hash := PyData.keyHash w.params (Str.ofString "key_usage_value"), key := Value.str (Str.ofString "key_usage_value") k18, val := Value.ref NX }, { hash := PyData.keyHash w.params (Str.ofString "extended_key_usage_value"), key := Value.str (Str.ofString "extended_key_usage_value") k19, val := Value.none }, { hash := PyData.keyHash w.params (Str.ofString "certificate_policies_value"), key := Value.str (Str.ofString "certificate_policies_value") k20, val := z20 }, { hash := PyData.keyHash w.params (Str.ofString "policy_mappings_value"), key := Value.str (Str.ofString "policy_mappings_value") k21, val := z21 }, { hash := PyData.keyHash w.params (Str.ofString "policy_constraints_value"), key := Value.str (Str.ofString "policy_constraints_value") k22, val := z22 }, { hash := PyData.keyHash w.params (Str.ofString "inhibit_any_policy_value"), key := Value.str (Str.ofString "inhibit_any_policy_value") k23, val := z23 }, { hash := PyData.keyHash w.params (Str.ofString "critical_extensions"), key := Value.str (Str.ofString "critical_extensions") k24, val := z24 }] 24) :: (h₀.objs.size + 1 + 1 + 1 + 1 + 1 + 1 + 1 + 1 + 1 + 1, o10) :: (h₀.objs.size + 1 + 1, o2) :: R))) →
    Q .next { s with heap := h', toks := tk' }) :
  wpAny (model prg w) (lawA h₀.objs.size fa (.ref cdA)) (execs (stmts 5) (lawEnv h₀.objs.size fa (.ref cdA))) Q E s := by
  obtain ⟨X, T, B, G, V, TE, TW, TB, XM, ma, mo, M'⟩ := Y
  revert X
  dsimp only [prg] at *
  k_fill
  intro X
  dsimp only [stmts, lawFun, lawEnv, lawA, List.getD, List.getElem?_cons_zero, List.getElem?_cons_succ, Option.getD, List.cons_append, List.nil_append]
  k_steps
  · refine' h _ _ _ _ _ _ _ (by k_asm) (news_sub (by k_asm) ?sub) (Or.inr ⟨rfl, rfl, ?q, ltN ?_, ltN ?_, ?g⟩)
    case sub => repeat (first | exact List.nil_sublist _ | (with_reducible exact List.Sublist.refl _) | (with_reducible refine List.Sublist.cons_cons _ ?_) | refine List.Sublist.cons _ ?_)
    case q => simp_all
    case g => assumption
    all_goals omega
  · refine' h _ _ Value.none (Value.ref SO) NX ND kN (by k_asm) (news_dup (news_sub (by k_asm) ?sub)) (Or.inl ⟨rfl, ?q, rfl, rfl⟩)
    case q => assumption
    case sub => repeat (first | exact List.nil_sublist _ | (with_reducible exact List.Sublist.refl _) | (with_reducible refine List.Sublist.cons_cons _ ?_) | refine List.Sublist.cons _ ?_)
set_option maxHeartbeats 4000000 in
theorem sg10 {w : World} {h₀ : Heap} {mean : ExcName → Option Value} {mg mb : Str → Option Value} (Y : Law w h₀ mean mg mb) {s : Shared} {fa cdA : Addr} {f : Int} {t6 : Tok} {cx CX FL GL : Addr} {lb : Bool} {ys3 ys4 : List Value} {ss3 ss4 : List Str} {R : List (Addr × Obj)}
  (F : Fr h₀ h₀.objs.size s.heap (fun y => if y = Str.ofString "second" then some (Value.ref GL) else if y = Str.ofString "first" then some (Value.ref FL) else if y = Str.ofString "context" then some (Value.ref CX) else if y = Str.ofString "listed" then some (Value.bool lb) else if y = Str.ofString "cert" then some (Value.ref cx) else if y = Str.ofString "f" then some (Value.int f t6) else none))
  (N : News h₀ h₀.objs.size s.heap ((GL, LCg.lst ys4) :: (FL, LCg.lst ys3) :: R))
  (hy3 : StrsAre ys3 ss3)
  (hs3 : Shorts ss3)
  (hy4 : StrsAre ys4 ss4)
  (hs4 : Shorts ss4)
  {Q : Flow → Shared → Prop} {E : Value → Shared → Prop}
  (h : ∀ (h' : Heap) (tk' : Nat) (A0 B0 DL : Addr) (oA oB : Obj),
    Fr h₀ h₀.objs.size h' (fun y => if y = Str.ofString "demands" then some (Value.ref DL) else if y = Str.ofString "second" then some (Value.ref GL) else if y = Str.ofString "first" then some (Value.ref FL) else if y = Str.ofString "context" then some (Value.ref CX) else if y = Str.ofString "listed" then some (Value.bool lb) else if y = Str.ofString "cert" then some (Value.ref cx) else if y = Str.ofString "f" then some (Value.int f t6) else none) →
    News h₀ h₀.objs.size h' ((DL, PySem.W.listOf #[Value.ref A0, Value.ref B0] 0) :: (B0, oB) :: (A0, oA) :: (GL, LCg.lst ys4) :: (FL, LCg.lst ys3) :: R) →
    (StrSet prg w 4 oA (fun j => ss3.contains j)) →
    (StrSet prg w 4 oB (fun j => ss4.contains j)) →
    (AllLt (A0) ((GL, LCg.lst ys4) :: (FL, LCg.lst ys3) :: R)) →
    (AllLt (B0) ((A0, oA) :: (GL, LCg.lst ys4) :: (FL, LCg.lst ys3) :: R)) →
    (AllLt (DL) ((B0, oB) :: (A0, oA) :: (GL, LCg.lst ys4) :: (FL, LCg.lst ys3) :: R)) →
    Q .next { s with heap := h', toks := tk' }) :
  wpAny (model prg w) (lawA h₀.objs.size fa (.ref cdA)) (execs (stmts 10) (lawEnv h₀.objs.size fa (.ref cdA))) Q E s := by
  obtain ⟨X, T, B, G, V, TE, TW, TB, XM, ma, mo, M'⟩ := Y
  revert X
  dsimp only [prg] at *
  k_fill
  intro X
  dsimp only [stmts, lawFun, lawEnv, lawA, List.getD, List.getElem?_cons_zero, List.getElem?_cons_succ, Option.getD, List.cons_append, List.nil_append]
  k_steps
  all_goals (try k_data)
  refine' h _ _ _ _ _ _ _ (by k_asm) (news_sub (by k_asm) ?zsub) ?zA ?zB ?zc ?zd ?ze
  case zsub => repeat (first | exact List.nil_sublist _ | (with_reducible exact List.Sublist.refl _) | (with_reducible refine List.Sublist.cons_cons _ ?_) | refine List.Sublist.cons _ ?_)
  case zA => assumption
  case zB => assumption
  case zc => assumption
  case zd => assumption
  case ze => assumption
set_option maxHeartbeats 1000000 in
theorem sg11 {w : World} {h₀ : Heap} {mean : ExcName → Option Value} {mg mb : Str → Option Value} (Y : Law w h₀ mean mg mb) {s : Shared} {fa cdA : Addr} {f : Int} {t6 : Tok} {cx CX FL GL A0 B0 DL : Addr} {lb : Bool} {d : Int} {t4 : Tok} {o5 : Obj} {R : List (Addr × Obj)}
  (F : Fr h₀ h₀.objs.size s.heap (fun y => if y = Str.ofString "demands" then some (Value.ref DL) else if y = Str.ofString "second" then some (Value.ref GL) else if y = Str.ofString "first" then some (Value.ref FL) else if y = Str.ofString "context" then some (Value.ref CX) else if y = Str.ofString "listed" then some (Value.bool lb) else if y = Str.ofString "cert" then some (Value.ref cx) else if y = Str.ofString "f" then some (Value.int f t6) else none))
  (N : News h₀ h₀.objs.size s.heap ((DL, PySem.W.listOf #[Value.ref A0, Value.ref B0] 0) :: (h₀.objs.size + 1 + 1 + 1 + 1 + 1, o5) :: R))
  (d5 : o5.data = .cell (some (.int d t4)))
  (g11 : @LT.lt Nat _ (h₀.objs.size + 1 + 1 + 1 + 1 + 1) (DL))
  (r11 : ∀ p ∈ R, @Ne Nat p.1 (DL))
  {Q : Flow → Shared → Prop} {E : Value → Shared → Prop}
  (h : ∀ (h' : Heap) (tk' : Nat) (v0 : Value),
    Fr h₀ h₀.objs.size h' (fun y => if y = Str.ofString "demands" then some (Value.ref DL) else if y = Str.ofString "second" then some (Value.ref GL) else if y = Str.ofString "first" then some (Value.ref FL) else if y = Str.ofString "context" then some (Value.ref CX) else if y = Str.ofString "listed" then some (Value.bool lb) else if y = Str.ofString "cert" then some (Value.ref cx) else if y = Str.ofString "f" then some (Value.int f t6) else none) →
    News h₀ h₀.objs.size h' ((DL, PySem.W.listOf #[v0, Value.ref B0] 0) :: (h₀.objs.size + 1 + 1 + 1 + 1 + 1, o5) :: R) →
    (Pick ((d.fdiv 16).fmod 4) v0 A0 FL) →
    Q .next { s with heap := h', toks := tk' }) :
  wpAny (model prg w) (lawA h₀.objs.size fa (.ref cdA)) (execs (stmts 11) (lawEnv h₀.objs.size fa (.ref cdA))) Q E s := by
  obtain ⟨X, T, B, G, V, TE, TW, TB, XM, ma, mo, M'⟩ := Y
  revert X
  dsimp only [prg] at *
  k_fill
  intro X
  dsimp only [stmts, lawFun, lawEnv, lawA, List.getD, List.getElem?_cons_zero, List.getElem?_cons_succ, Option.getD, List.cons_append, List.nil_append]
  rcases modes3 ((d.fdiv 16).fmod 4) with ⟨hb1, hb2⟩ | ⟨hb1, hb2⟩ | ⟨hb1, hb2⟩
  all_goals k_steps
  · refine' h _ _ Value.none (by k_asm) (news_sub (by k_asm) ?zsub) (pick1 hb1)
    case zsub => repeat (first | exact List.nil_sublist _ | (with_reducible exact List.Sublist.refl _) | (with_reducible refine List.Sublist.cons_cons _ ?_) | refine List.Sublist.cons _ ?_)
  · refine' h _ _ (Value.ref FL) (by k_asm) (news_sub (by k_asm) ?zsub) (pick2 hb2)
    case zsub => repeat (first | exact List.nil_sublist _ | (with_reducible exact List.Sublist.refl _) | (with_reducible refine List.Sublist.cons_cons _ ?_) | refine List.Sublist.cons _ ?_)
  · refine' h _ _ (Value.ref A0) (by k_asm) (news_sub (by k_asm) ?zsub) (pick3 hb1 hb2)
    case zsub => repeat (first | exact List.nil_sublist _ | (with_reducible exact List.Sublist.refl _) | (with_reducible refine List.Sublist.cons_cons _ ?_) | refine List.Sublist.cons _ ?_)
set_option maxHeartbeats 1000000 in
theorem sg12 {w : World} {h₀ : Heap} {mean : ExcName → Option Value} {mg mb : Str → Option Value} (Y : Law w h₀ mean mg mb) {s : Shared} {fa cdA : Addr} {f : Int} {t6 : Tok} {cx CX FL GL A0 B0 DL : Addr} {lb : Bool} {e : Int} {t5 : Tok} {o6 : Obj} {v0 : Value} {R : List (Addr × Obj)}
  (F : Fr h₀ h₀.objs.size s.heap (fun y => if y = Str.ofString "demands" then some (Value.ref DL) else if y = Str.ofString "second" then some (Value.ref GL) else if y = Str.ofString "first" then some (Value.ref FL) else if y = Str.ofString "context" then some (Value.ref CX) else if y = Str.ofString "listed" then some (Value.bool lb) else if y = Str.ofString "cert" then some (Value.ref cx) else if y = Str.ofString "f" then some (Value.int f t6) else none))
  (N : News h₀ h₀.objs.size s.heap ((DL, PySem.W.listOf #[v0, Value.ref B0] 0) :: (h₀.objs.size + 1 + 1 + 1 + 1 + 1 + 1, o6) :: R))
  (d6 : o6.data = .cell (some (.int e t5)))
  (g11 : @LT.lt Nat _ (h₀.objs.size + 1 + 1 + 1 + 1 + 1 + 1) (DL))
  (r11 : ∀ p ∈ R, @Ne Nat p.1 (DL))
  {Q : Flow → Shared → Prop} {E : Value → Shared → Prop}
  (h : ∀ (h' : Heap) (tk' : Nat) (v1 : Value),
    Fr h₀ h₀.objs.size h' (fun y => if y = Str.ofString "demands" then some (Value.ref DL) else if y = Str.ofString "second" then some (Value.ref GL) else if y = Str.ofString "first" then some (Value.ref FL) else if y = Str.ofString "context" then some (Value.ref CX) else if y = Str.ofString "listed" then some (Value.bool lb) else if y = Str.ofString "cert" then some (Value.ref cx) else if y = Str.ofString "f" then some (Value.int f t6) else none) →
    News h₀ h₀.objs.size h' ((DL, PySem.W.listOf #[v0, v1] 0) :: (h₀.objs.size + 1 + 1 + 1 + 1 + 1 + 1, o6) :: R) →
    (Pick ((e.fdiv 16).fmod 4) v1 B0 GL) →
    Q .next { s with heap := h', toks := tk' }) :
  wpAny (model prg w) (lawA h₀.objs.size fa (.ref cdA)) (execs (stmts 12) (lawEnv h₀.objs.size fa (.ref cdA))) Q E s := by
  obtain ⟨X, T, B, G, V, TE, TW, TB, XM, ma, mo, M'⟩ := Y
  revert X
  dsimp only [prg] at *
  k_fill
  intro X
  dsimp only [stmts, lawFun, lawEnv, lawA, List.getD, List.getElem?_cons_zero, List.getElem?_cons_succ, Option.getD, List.cons_append, List.nil_append]
  rcases modes3 ((e.fdiv 16).fmod 4) with ⟨hb1, hb2⟩ | ⟨hb1, hb2⟩ | ⟨hb1, hb2⟩
  all_goals k_steps
  · refine' h _ _ Value.none (by k_asm) (news_sub (by k_asm) ?zsub) (pick1 hb1)
    case zsub => repeat (first | exact List.nil_sublist _ | (with_reducible exact List.Sublist.refl _) | (with_reducible refine List.Sublist.cons_cons _ ?_) | refine List.Sublist.cons _ ?_)
  · refine' h _ _ (Value.ref GL) (by k_asm) (news_sub (by k_asm) ?zsub) (pick2 hb2)
    case zsub => repeat (first | exact List.nil_sublist _ | (with_reducible exact List.Sublist.refl _) | (with_reducible refine List.Sublist.cons_cons _ ?_) | refine List.Sublist.cons _ ?_)
  · refine' h _ _ (Value.ref B0) (by k_asm) (news_sub (by k_asm) ?zsub) (pick3 hb1 hb2)
    case zsub => repeat (first | exact List.nil_sublist _ | (with_reducible exact List.Sublist.refl _) | (with_reducible refine List.Sublist.cons_cons _ ?_) | refine List.Sublist.cons _ ?_)
set_option maxHeartbeats 1000000 in
theorem sg13 {w : World} {h₀ : Heap} {mean : ExcName → Option Value} {mg mb : Str → Option Value} (Y : Law w h₀ mean mg mb) {s : Shared} {fa cdA : Addr} {f : Int} {t6 : Tok} {cx CX FL GL DL : Addr} {lb : Bool} {o11 : Obj} {R : List (Addr × Obj)}
  (F : Fr h₀ h₀.objs.size s.heap (fun y => if y = Str.ofString "demands" then some (Value.ref DL) else if y = Str.ofString "second" then some (Value.ref GL) else if y = Str.ofString "first" then some (Value.ref FL) else if y = Str.ofString "context" then some (Value.ref CX) else if y = Str.ofString "listed" then some (Value.bool lb) else if y = Str.ofString "cert" then some (Value.ref cx) else if y = Str.ofString "f" then some (Value.int f t6) else none))
  (N : News h₀ h₀.objs.size s.heap ((h₀.objs.size + 1 + 1 + 1 + 1 + 1 + 1 + 1 + 1 + 1 + 1 + 1, o11) :: R))
  (d11 : o11.data = .cell (none))
  (r13 : ∀ p ∈ R, @Ne Nat p.1 (h₀.objs.size + 1 + 1 + 1 + 1 + 1 + 1 + 1 + 1 + 1 + 1 + 1))
  {Q : Flow → Shared → Prop} {E : Value → Shared → Prop}
  (h : ∀ (h' : Heap) (tk' : Nat) (vL : Value) (tdu : Tok) (o11 : Obj),
    Fr h₀ h₀.objs.size h' (fun y => if y = Str.ofString "due" then some (Value.str (Str.ofString "given") tdu) else if y = Str.ofString "demands" then some (Value.ref DL) else if y = Str.ofString "second" then some (Value.ref GL) else if y = Str.ofString "first" then some (Value.ref FL) else if y = Str.ofString "context" then some (Value.ref CX) else if y = Str.ofString "listed" then some (Value.bool lb) else if y = Str.ofString "cert" then some (Value.ref cx) else if y = Str.ofString "f" then some (Value.int f t6) else none) →
    News h₀ h₀.objs.size h' ((h₀.objs.size + 1 + 1 + 1 + 1 + 1 + 1 + 1 + 1 + 1 + 1 + 1, o11) :: R) →
    (o11.data = .cell (some vL)) →
    ((∃ t, vL = Value.int 1 t ∧ f.fmod 4 = 3) ∨ (vL = Value.bool (f.fmod 4 == 1) ∧ f.fmod 4 ≠ 3)) →
    Q .next { s with heap := h', toks := tk' }) :
  wpAny (model prg w) (lawA h₀.objs.size fa (.ref cdA)) (execs (stmts 13 ++ stmts 14) (lawEnv h₀.objs.size fa (.ref cdA))) Q E s := by
  obtain ⟨X, T, B, G, V, TE, TW, TB, XM, ma, mo, M'⟩ := Y
  revert X
  dsimp only [prg] at *
  k_fill
  intro X
  dsimp only [stmts, lawFun, lawEnv, lawA, List.getD, List.getElem?_cons_zero, List.getElem?_cons_succ, Option.getD, List.cons_append, List.nil_append]
  by_cases hf3 : (f.fmod 4 == 3) = true
  · k_steps
    all_goals (try k_data)
    refine' h _ _ (Value.int 1 _) _ _ (by k_asm) (news_sub (by k_asm) ?zsub) ?zd (Or.inl ⟨_, rfl, by simpa using hf3⟩)
    case zd => assumption
    case zsub => repeat (first | exact List.nil_sublist _ | (with_reducible exact List.Sublist.refl _) | (with_reducible refine List.Sublist.cons_cons _ ?_) | refine List.Sublist.cons _ ?_)
  · have hf3' : (f.fmod 4 == 3) = false := by simpa using hf3
    k_steps
    all_goals (try k_data)
    refine' h _ _ (Value.bool (f.fmod 4 == 1)) _ _ (by k_asm) (news_sub (by k_asm) ?zsub) ?zd (Or.inr ⟨rfl, by simpa using hf3⟩)
    case zd => assumption
    case zsub => repeat (first | exact List.nil_sublist _ | (with_reducible exact List.Sublist.refl _) | (with_reducible refine List.Sublist.cons_cons _ ?_) | refine List.Sublist.cons _ ?_)
set_option maxHeartbeats 1000000 in
theorem sg17 {w : World} {h₀ : Heap} {mean : ExcName → Option Value} {mg mb : Str → Option Value} (Y : Law w h₀ mean mg mb) {s : Shared} {fa cdA : Addr} {f : Int} {t6 : Tok} {cx CX FL GL DL : Addr} {lb : Bool} {du : Str} {td2 tt : Tok}
  (F : Fr h₀ h₀.objs.size s.heap (fun y => if y = Str.ofString "told" then some (Value.str du tt) else if y = Str.ofString "due" then some (Value.str du td2) else if y = Str.ofString "demands" then some (Value.ref DL) else if y = Str.ofString "second" then some (Value.ref GL) else if y = Str.ofString "first" then some (Value.ref FL) else if y = Str.ofString "context" then some (Value.ref CX) else if y = Str.ofString "listed" then some (Value.bool lb) else if y = Str.ofString "cert" then some (Value.ref cx) else if y = Str.ofString "f" then some (Value.int f t6) else none))
  (N : News h₀ h₀.objs.size s.heap [])
  {Q : Flow → Shared → Prop} {E : Value → Shared → Prop}
  (h : ∀ (h' : Heap) (tk' : Nat) ,
    Fr h₀ h₀.objs.size h' (fun y => if y = Str.ofString "told" then some (Value.str du tt) else if y = Str.ofString "due" then some (Value.str du td2) else if y = Str.ofString "demands" then some (Value.ref DL) else if y = Str.ofString "second" then some (Value.ref GL) else if y = Str.ofString "first" then some (Value.ref FL) else if y = Str.ofString "context" then some (Value.ref CX) else if y = Str.ofString "listed" then some (Value.bool lb) else if y = Str.ofString "cert" then some (Value.ref cx) else if y = Str.ofString "f" then some (Value.int f t6) else none) →
    News h₀ h₀.objs.size h' [] →
    Q (.ret (.bool true)) { s with heap := h', toks := tk' }) :
  wpAny (model prg w) (lawA h₀.objs.size fa (.ref cdA)) (execs (stmts 17) (lawEnv h₀.objs.size fa (.ref cdA))) Q E s := by
  obtain ⟨X, T, B, G, V, TE, TW, TB, XM, ma, mo, M'⟩ := Y
  revert X
  dsimp only [prg] at *
  k_fill
  intro X
  dsimp only [stmts, lawFun, lawEnv, lawA, List.getD, List.getElem?_cons_zero, List.getElem?_cons_succ, Option.getD, List.cons_append, List.nil_append]
  k_steps
  show Q (Flow.ret (Value.bool (du == du))) _
  rw [beq_self_eq_true]
  refine' h _ _ (by k_asm) News.nil
section
local macro_rules | `(tactic| k_get) => `(tactic| assumption)
section
local macro_rules | `(tactic| walk_at "exec For Name Name cons nil") => `(tactic| (k_here; (rename Fr _ _ _ _ => lF'); (with_unfolding_all refine' For_invVF lF' (by exact rfl) (by exact rfl) ?_; k_whole)))
local macro_rules | `(tactic| walk_at "pyIter ref") => `(tactic| ((with_reducible show wpAny _ _ (pyIter (Value.ref _)) (fun it s₂ => LoopAtV _ _ _ _ _ _ _ _ _ it s₂) _ _); (rename Fr _ _ _ _ => lF'); (with_unfolding_all refine' iter_listUnr (by rfl) lF' (by k_asm) (by k_mem) (by rfl) (by rfl) ?_); clear lF'; intro _ l1; (try k_lt l1)))
local macro_rules | `(tactic| walk_at "UnrEnd") => `(tactic| (refine' Mine.unrEnd_del (by assumption) (by k_asm) (by (repeat (first | exact Mine.Del.head | refine Mine.Del.tail ?_))) (by k_all) ⟨(by k_mem), ?_⟩))
local macro_rules | `(tactic| walk_at "eval IfExp") => `(tactic| (k_here; k_dflt (refine' Mine.join_X (by k_asm) (by k_asm) (by assumption) ?tw (fun _ _ _ _ _ _ _ l1 _ => ?_)); (all_goals ((rename Mine.BMark _ => bm'); clear bm')); (case' _ => ((try simp only [AllLt, and_true] at l1); try dsimp only))))
local macro_rules | `(tactic| walk_at "JoinL") => `(tactic| (refine' Mine.JoinL.mk' (by k_asm) (by k_asm) (by assumption) (by first | (simp [*]; done) | simp_all)))
set_option maxHeartbeats 4000000 in
theorem sg6 {w : World} {h₀ : Heap} {mean : ExcName → Option Value} {mg mb : Str → Option Value} (Y : Law w h₀ mean mg mb) {s : Shared} {fa cdA : Addr} {a f : Int} {t1 t6 : Tok} {o2 : Obj} {es : List DictEntry} {tS : Tok} {cd cx : Addr} {R : List (Addr × Obj)}
  (F : Fr h₀ h₀.objs.size s.heap (fun y => if y = Str.ofString "cert" then some (Value.ref cx) else if y = Str.ofString "f" then some (Value.int f t6) else none))
  (N : News h₀ h₀.objs.size s.heap ((cx, PySem.W.instObj 160 cd) :: (cd, PySem.W.dictOf es 24) :: (h₀.objs.size + 1 + 1, o2) :: R))
  (d2 : o2.data = .cell (some (.int a t1)))
  (hsha : getL (Str.ofString "sha1") es = some (some (Value.int 1 tS)))
  (g6 : @LT.lt Nat _ (cd) (cx))
  {Q : Flow → Shared → Prop} {E : Value → Shared → Prop}
  (h : ∀ (h' : Heap) (tk' : Nat) (lb : Bool) (CD CX WS : Addr) (q1 q2 q3 q4 q5 q6 : Tok) (y1 y2 y3 y4 y5 : Value) (oW : Obj) (SW : Int → Bool),
    Fr h₀ h₀.objs.size h' (fun y => if y = Str.ofString "context" then some (Value.ref CX) else if y = Str.ofString "listed" then some (Value.bool lb) else if y = Str.ofString "cert" then some (Value.ref cx) else if y = Str.ofString "f" then some (Value.int f t6) else none) →
    News h₀ h₀.objs.size h' ((WS, oW) :: (CX, PySem.W.instObj 326 CD) :: (CD, PySem.W.dictOf [{ hash := PyData.keyHash w.params (Str.ofString "_whitelisted_certs"), key := Value.str (Str.ofString "_whitelisted_certs") q1, val := Value.ref WS }, { hash := PyData.keyHash w.params (Str.ofString "certificate_registry"), key := Value.str (Str.ofString "certificate_registry") q2, val := y1 }, { hash := PyData.keyHash w.params (Str.ofString "moment"), key := Value.str (Str.ofString "moment") q3, val := y2 }, { hash := PyData.keyHash w.params (Str.ofString "_validate_map"), key := Value.str (Str.ofString "_validate_map") q4, val := y3 }, { hash := PyData.keyHash w.params (Str.ofString "weak_hash_algos"), key := Value.str (Str.ofString "weak_hash_algos") q5, val := y4 }, { hash := PyData.keyHash w.params (Str.ofString "verify"), key := Value.str (Str.ofString "verify") q6, val := y5 }] 6) :: (cx, PySem.W.instObj 160 cd) :: (cd, PySem.W.dictOf es 24) :: (h₀.objs.size + 1 + 1, o2) :: R) →
    (Obj.SetObjOf (intKind prg w) oW SW 1) →
    (SW 1 = lb) →
    (AllLt (CD) ((cx, PySem.W.instObj 160 cd) :: (cd, PySem.W.dictOf es 24) :: (h₀.objs.size + 1 + 1, o2) :: R)) →
    (@LT.lt Nat _ (CD) (CX) ∧ @LT.lt Nat _ (CX) (WS)) →
    Q .next { s with heap := h', toks := tk' }) :
  wpAny (model prg w) (lawA h₀.objs.size fa (.ref cdA)) (execs (stmts 6 ++ stmts 7) (lawEnv h₀.objs.size fa (.ref cdA))) Q E s := by
  obtain ⟨X, T, B, G, V, TE, TW, TB, XM, ma, mo, M'⟩ := Y
  revert X
  dsimp only [prg] at *
  k_fill
  intro X
  dsimp only [stmts, lawFun, lawEnv, lawA, List.getD, List.getElem?_cons_zero, List.getElem?_cons_succ, Option.getD, List.cons_append, List.nil_append]
  have bm : BMark ((a.fdiv 3).fmod 4 == 3) := .mk
  k_steps
  · refine' h _ _ ((a.fdiv 3).fmod 4 == 3) _ _ _ _ _ _ _ _ _ _ _ _ _ _ _ _ (by k_asm) (news_sub (by k_asm) ?sub) ?hW ?hWl ?gCD ?c4
    case hW => assumption
    case sub => repeat (first | exact List.nil_sublist _ | (with_reducible exact List.Sublist.refl _) | (with_reducible refine List.Sublist.cons_cons _ ?_) | refine List.Sublist.cons _ ?_)
    case hWl => exact Mine.wl_of (by assumption)
    case gCD => exact And.right (And.right (by assumption))
    case c4 => refine ⟨ltN ?_, ltN ?_⟩ <;> omega
end
section
local macro_rules | `(tactic| walk_at "binaryOp Sub") => `(tactic| (k_here; (with_reducible show wpAny _ _ (binaryOp _ (Value.ref _) (Value.ref _)) _ _ _); k_dflt (refine' Mine.sub_L (by k_asm) (by k_asm) (by k_mem) (by k_mem) (by k_ne) (by k_asm) (by k_asm) ?_); intro _ _ _ _ _ l1 _; (try k_lt l1)))
local macro_rules | `(tactic| walk_at "binaryOp BitOr") => `(tactic| (k_here; (with_reducible show wpAny _ _ (binaryOp _ (Value.ref _) (Value.ref _)) _ _ _); k_dflt (refine' Mine.or_L (by k_asm) (by k_asm) (by k_mem) (by k_mem) (by k_ne) (by k_asm) (by k_asm) ?_); intro _ _ _ _ _ l1 _; (try k_lt l1)))
local macro_rules | `(tactic| walk_at "truthy ref") => `(tactic| (k_here; k_dflt (refine' Mine.truthy_L (by k_asm) (by k_mem) (by k_asm) (by decide) ?_); intro _ _ _))
local macro_rules | `(tactic| walk_at "call builtin:len") => `(tactic| (k_here; k_dflt (refine' Mine.len_L (by k_asm) (by k_mem) (by k_asm) (by decide) ?_); intro _ _ _ _))
local macro_rules | `(tactic| walk_at "call builtin:sorted") => `(tactic| (k_here; k_dflt (refine' Mine.sorted_L (by k_asm) (by k_asm) (by rfl) (by k_mem) (by k_asm) (by decide) ?_); intro _ _ _ _ _ _ _ _ _ l1 _ _ _; (try k_lt l1)))
local macro_rules | `(tactic| walk_at "exec Try") => `(tactic| (k_here; refine wpAny_Try_except ?_))
local macro_rules | `(tactic| walk_at "call builtin:isinstance") => `(tactic| (k_here; (with_reducible show wpAny _ _ (call _ [Value.ref _, Value.type "set"]) _ _ _); k_dflt (first
  | (refine' Mine.isi_set_L (by k_asm) (by k_mem) (by k_asm) ?_)
  | (refine' Mine.isi_list_L (by k_asm) (by k_mem) ?_))))
local macro_rules | `(tactic| walk_at "call builtin:sorted") => `(tactic| (k_here; k_dflt (refine' Mine.sorted_L (by k_asm) (by k_asm) (by rfl) (by k_mem) (by k_asm) (by decide) ?_); intro _ _ _ _ _ _ _ _ _ l1 _ _ _; (have hlt' := l1); (try k_lt l1)))
local macro_rules | `(tactic| walk_at "pyIter ref") => `(tactic| ((with_reducible show wpAny _ _ (pyIter (Value.ref _)) (fun it s₂ => LoopP _ _ _ _ _ _ _ _ _ it s₂) _ _); refine' Mine.iter_strs_P (by rfl) (by k_asm) (by k_asm) (by assumption) (by assumption) (by assumption) (by (refine Mine.short_or (by assumption) ?_ ?_ <;> intro _ hq' <;> (try simp only [Bool.and_eq_true] at hq') <;> first | exact Mine.short_c (by assumption) hq' | exact Mine.short_c (by assumption) hq'.1)) (by rfl) (by rfl) (fun _ _ us' nn' h' tk' _ _ _ _ _ F' N' => ?_) (fun _ us' _ nn' h' tk' _ _ F' N' => ?_); (all_goals (try simp only [List.nil_append, List.cons_append, List.append_nil] at N'))))
local macro_rules | `(tactic| walk_at "call builtin:str.replace") => `(tactic| (k_here; refine SC.replaceW (by show @Ne Nat _ _; omega) (by show @Ne Nat _ _; omega) (by show @Ne Nat _ _; omega) (by decide +kernel) (by omega) (by decide +kernel) ?_; intro _ _))
local macro_rules | `(tactic| walk_at "call builtin:list.append") => `(tactic| (k_here; (with_reducible show wpAny _ _ (call (Value.builtin _) [Value.ref _, _]) _ _ _); k_dflt (refine' Mine.append_LL (by k_asm) (by k_asm) (by k_upd) (by assumption) ?_); intro _ _ _))
local macro_rules | `(tactic| walk_at "call builtin:str.join") => `(tactic| (k_here; (with_reducible show wpAny _ _ (call (Value.builtin _) [Value.str _ _, Value.ref _]) _ _ _); k_dflt (refine' Mine.join_L (by k_asm) (by k_mem) (by decide +kernel) (by assumption) (by assumption) ?_); intro _ _))
local macro_rules | `(tactic| walk_at "exec For Name Call cons nil") => `(tactic| (k_here; with_unfolding_all refine Mine.For_P ?_))
local macro_rules | `(tactic| walk_at "InvEndN") => `(tactic| (refine' InvEndN.intro ?F ?N ⟨⟨_, _, _, rfl, ?hr⟩, fun _ h1 => if_neg h1⟩ ?ha ?hn ?ho; (case F => k_asm); (case N => k_asm); (case ha => rfl); (case hn => (with_unfolding_all ((try simp only [List.nil_append, List.cons_append]); k_allIn))); (case ho => (intro _ _; k_ownIn)); (case hr => exact Mine.repl_le (by assumption) (by decide +kernel))))
local macro_rules | `(tactic| walk_at "noteFrame ref") => `(tactic| (k_here; refine' Mine.lookO (by assumption) (by assumption) (by assumption) (by assumption) ?_; intro h' hfl' F'; first
  | (refine Mine.hitO hfl' F' (by k_asm) (topRead_of (by assumption)) (by k_is) (by with_unfolding_all rfl) ?_; intro h' F' N')
  | (refine Mine.passO hfl' F' (by k_asm) (topRead_of (by assumption)) (by k_is) (by with_unfolding_all rfl) ?_; refine Mine.hitBO hfl' F' (by k_asm) (topRead_of (by assumption)) (by k_is) (by rfl) (by decide +kernel) (by with_unfolding_all rfl) ?_; intro h' F' N')))
local macro_rules | `(tactic| walk_at "exec If") => `(tactic| (k_here; (with_reducible show wpAny _ _ (exec (Stmt.If (Expr.Compare (Expr.Name ("key_usage" : Str) _) [CmpOp.Is] [Expr.Constant Const.none _ _] _) _ [] _) _) _ _ _); k_dflt (refine' Mine.join_K (x := Str.ofString "key_usage") (by k_asm) (by k_asm) (by with_unfolding_all rfl) (by assumption) (by assumption) (fun hv' _ => ?j0w1) (fun hv' _ _ => ?j0w2) (fun _ _ _ _ _ _ _ _ _ => ?_)); (case' j0w1 => (subst hv'; (rename Mine.Dem Value.none _ _ _ => hd'); clear hd')); (case' j0w2 => (subst hv'; (rename Mine.Dem (Value.ref _) _ _ _ => hd'); clear hd')); (try dsimp only)))
local macro_rules | `(tactic| walk_at "exec If") => `(tactic| (k_here; (with_reducible show wpAny _ _ (exec (Stmt.If (Expr.Compare (Expr.Name ("key_usage" : Str) _) [CmpOp.Is] [Expr.Constant Const.none _ _] _) _ [] _) _) _ _ _); k_dflt (refine' Mine.join_W (x := Str.ofString "key_usage") (by k_asm) (by k_asm) (by with_unfolding_all rfl) (by assumption) (fun hv' => ?j1w1) (fun _ hv' => ?j1w2) (fun _ _ _ _ _ => ?_)); (case' j1w1 => (subst hv'; (rename Mine.AnyDem Value.none => hd'); clear hd')); (case' j1w2 => (subst hv'; (rename Mine.AnyDem (Value.ref _) => hd'); clear hd')); (try dsimp only)))
local macro_rules | `(tactic| walk_at "exec If") => `(tactic| (k_here; (with_reducible show wpAny _ _ (exec (Stmt.If (Expr.Compare (Expr.Name ("extended_key_usage" : Str) _) [CmpOp.Is] [Expr.Constant Const.none _ _] _) _ [] _) _) _ _ _); k_dflt (refine' Mine.join_K (x := Str.ofString "extended_key_usage") (by k_asm) (by k_asm) (by with_unfolding_all rfl) (by assumption) (by assumption) (fun hv' _ => ?j2w1) (fun hv' _ _ => ?j2w2) (fun _ _ _ _ _ _ _ _ _ => ?_)); (case' j2w1 => (subst hv'; (rename Mine.Dem Value.none _ _ _ => hd'); clear hd')); (case' j2w2 => (subst hv'; (rename Mine.Dem (Value.ref _) _ _ _ => hd'); clear hd')); (try dsimp only)))
local macro_rules | `(tactic| walk_at "exec If") => `(tactic| (k_here; (with_reducible show wpAny _ _ (exec (Stmt.If (Expr.Compare (Expr.Name ("extended_key_usage" : Str) _) [CmpOp.Is] [Expr.Constant Const.none _ _] _) _ [] _) _) _ _ _); k_dflt (refine' Mine.join_W (x := Str.ofString "extended_key_usage") (by k_asm) (by k_asm) (by with_unfolding_all rfl) (by assumption) (fun hv' => ?j3w1) (fun _ hv' => ?j3w2) (fun _ _ _ _ _ => ?_)); (case' j3w1 => (subst hv'; (rename Mine.AnyDem Value.none => hd'); clear hd')); (case' j3w2 => (subst hv'; (rename Mine.AnyDem (Value.ref _) => hd'); clear hd')); (try dsimp only)))
local macro_rules | `(tactic| walk_at "JoinK") => `(tactic| (first
  | (refine' Mine.JoinK.new (by k_asm) (by k_asm) (by assumption) (by assumption) (by omega) (by omega))
  | (refine' Mine.JoinK.same (by k_asm) (by with_unfolding_all rfl) (by k_asm) (by k_mem) (by assumption) (by assumption) (by assumption))))
local macro_rules | `(tactic| walk_at "JoinW") => `(tactic| (first
  | (refine' Mine.JoinW.new (by k_asm) (by k_asm))
  | (refine' Mine.JoinW.same (by k_asm) (by with_unfolding_all rfl) (by k_asm))))
set_option maxHeartbeats 1500000 in
theorem sg16a {w : World} {h₀ : Heap} {mean : ExcName → Option Value} {mg mb : Str → Option Value} (Y : Law w h₀ mean mg mb) {s : Shared} {fa cdA : Addr} {a d e f : Int} {t6 : Tok} {EX : Addr} {ys2 : List Value} {ss1 ss2 : List Str} {tS kN : Tok} {cd cx SO ND NX : Addr} {oS : Obj} {vE nE : Value} {EN ED : Addr} {kE : Tok} {lb : Bool} {CD CX WS : Addr} {oW : Obj} {SW : Int → Bool} {FL : Addr} {ss3 : List Str} {GL : Addr} {ss4 : List Str} {A0 B0 DL : Addr} {oA oB : Obj} {v0 : Value} {v1 : Value} {vL : Value} {o11 : Obj} {du : Str} {td2 : Tok} {es ces : List DictEntry}
  (F : Fr h₀ h₀.objs.size s.heap (fun y => if y = Str.ofString "due" then some (Value.str du td2) else if y = Str.ofString "demands" then some (Value.ref DL) else if y = Str.ofString "second" then some (Value.ref GL) else if y = Str.ofString "first" then some (Value.ref FL) else if y = Str.ofString "context" then some (Value.ref CX) else if y = Str.ofString "listed" then some (Value.bool lb) else if y = Str.ofString "cert" then some (Value.ref cx) else if y = Str.ofString "f" then some (Value.int f t6) else none))
  (N : News h₀ h₀.objs.size s.heap [(DL, PySem.W.listOf #[v0, v1] 0), (B0, oB), (A0, oA), (WS, oW), (CX, PySem.W.instObj 326 CD), (CD, PySem.W.dictOf ces 6), (EN, PySem.W.instObj 52 ED), (ED, PySem.W.dictOf [{ hash := PyData.keyHash w.params (Str.ofString "native"), key := Value.str (Str.ofString "native") kE, val := nE }] 1), (NX, PySem.W.instObj 52 ND), (ND, PySem.W.dictOf [{ hash := PyData.keyHash w.params (Str.ofString "native"), key := Value.str (Str.ofString "native") kN, val := Value.ref SO }] 1), (SO, oS), (cx, PySem.W.instObj 160 cd), (cd, PySem.W.dictOf es 24), (EX, LCg.lst ys2), (h₀.objs.size + 1 + 1 + 1 + 1 + 1 + 1 + 1 + 1 + 1 + 1 + 1, o11)])
  (hsha : getL (Str.ofString "sha1") es = some (some (Value.int 1 tS)))
  (hku : getL (Str.ofString "key_usage_value") es = some (some (Value.ref NX)))
  (hek : getL (Str.ofString "extended_key_usage_value") es = some (some (vE)))
  (hwl : getL (Str.ofString "_whitelisted_certs") ces = some (some (Value.ref WS)))
  (hnw : getL (Str.ofString "is_whitelisted") ces = some none)
  (hW : Obj.SetObjOf (intKind prg w) oW SW 1)
  (hWl : SW 1 = lb)
  (d11 : o11.data = .cell (some vL))
  (hdu : DueIs lb a d e f ss1 ss2 ss3 ss4 du)
  (c : @LT.lt Nat _ (cd) (cx) ∧ @LT.lt Nat _ (cx) (SO) ∧ @LT.lt Nat _ (SO) (ND) ∧ @LT.lt Nat _ (ND) (NX) ∧ @LT.lt Nat _ (NX) (CD) ∧ @LT.lt Nat _ (ED) (CD) ∧ @LT.lt Nat _ (EN) (CD) ∧ @LT.lt Nat _ (CD) (CX) ∧ @LT.lt Nat _ (CX) (WS) ∧ @LT.lt Nat _ (WS) (A0) ∧ @LT.lt Nat _ (A0) (B0) ∧ @LT.lt Nat _ (B0) (DL) ∧ @LT.lt Nat _ (EX) (cd) ∧ @LT.lt Nat _ (h₀.objs.size + 1 + 1 + 1 + 1 + 1 + 1 + 1 + 1 + 1 + 1 + 1) (cd) ∧ @Ne Nat (EX) (h₀.objs.size + 1 + 1 + 1 + 1 + 1 + 1 + 1 + 1 + 1 + 1 + 1))
  (hlb : lb = true)
  {Q : Flow → Shared → Prop} {E : Value → Shared → Prop}
  (h : ∀ (h' : Heap) (tk' : Nat) (dr : Drawn) (tt : Tok),
    Fr h₀ h₀.objs.size h' (fun y => if y = Str.ofString "told" then some (Value.str du tt) else if y = Str.ofString "due" then some (Value.str du td2) else if y = Str.ofString "demands" then some (Value.ref DL) else if y = Str.ofString "second" then some (Value.ref GL) else if y = Str.ofString "first" then some (Value.ref FL) else if y = Str.ofString "context" then some (Value.ref CX) else if y = Str.ofString "listed" then some (Value.bool lb) else if y = Str.ofString "cert" then some (Value.ref cx) else if y = Str.ofString "f" then some (Value.int f t6) else none) →
    News h₀ h₀.objs.size h' [] →
    Q .next { s with heap := h', toks := tk', drawn := dr }) :
  wpAny (model prg w) (lawA h₀.objs.size fa (.ref cdA)) (execs (stmts 16) (lawEnv h₀.objs.size fa (.ref cdA))) Q E s := by
  obtain ⟨X, T, B, G, V, TE, TW, TB, XM, ma, mo, M'⟩ := Y
  revert X
  dsimp only [prg] at *
  k_fill
  intro X
  dsimp only [stmts, lawFun, lawEnv, lawA, List.getD, List.getElem?_cons_zero, List.getElem?_cons_succ, Option.getD, List.cons_append, List.nil_append]
  subst hlb
  have hdu2 : du = Str.ofString "given" := by
    rcases hdu with ⟨_, h⟩ | ⟨h, _⟩ | ⟨h, _⟩
    · exact h
    · cases h
    · cases h
  subst hdu2
  k_steps
  refine' h _ _ _ _ (by k_asm) News.nil
set_option maxHeartbeats 1500000 in
theorem sg16b {w : World} {h₀ : Heap} {mean : ExcName → Option Value} {mg mb : Str → Option Value} (Y : Law w h₀ mean mg mb) {s : Shared} {fa cdA : Addr} {a d e f : Int} {t6 : Tok} {EX : Addr} {ys2 : List Value} {ss1 ss2 : List Str} {tS kN : Tok} {cd cx SO ND NX : Addr} {oS : Obj} {vE nE : Value} {EN ED : Addr} {kE : Tok} {lb : Bool} {CD CX WS : Addr} {oW : Obj} {SW : Int → Bool} {FL : Addr} {ys3 : List Value} {ss3 : List Str} {GL : Addr} {ys4 : List Value} {ss4 : List Str} {A0 B0 DL : Addr} {oA oB : Obj} {v0 : Value} {v1 : Value} {vL : Value} {o11 : Obj} {du : Str} {td2 : Tok} {es ces : List DictEntry}
  (F : Fr h₀ h₀.objs.size s.heap (fun y => if y = Str.ofString "due" then some (Value.str du td2) else if y = Str.ofString "demands" then some (Value.ref DL) else if y = Str.ofString "second" then some (Value.ref GL) else if y = Str.ofString "first" then some (Value.ref FL) else if y = Str.ofString "context" then some (Value.ref CX) else if y = Str.ofString "listed" then some (Value.bool lb) else if y = Str.ofString "cert" then some (Value.ref cx) else if y = Str.ofString "f" then some (Value.int f t6) else none))
  (N : News h₀ h₀.objs.size s.heap [(DL, PySem.W.listOf #[v0, v1] 0), (B0, oB), (A0, oA), (GL, LCg.lst ys4), (FL, LCg.lst ys3), (WS, oW), (CX, PySem.W.instObj 326 CD), (CD, PySem.W.dictOf ces 6), (EN, PySem.W.instObj 52 ED), (ED, PySem.W.dictOf [{ hash := PyData.keyHash w.params (Str.ofString "native"), key := Value.str (Str.ofString "native") kE, val := nE }] 1), (NX, PySem.W.instObj 52 ND), (ND, PySem.W.dictOf [{ hash := PyData.keyHash w.params (Str.ofString "native"), key := Value.str (Str.ofString "native") kN, val := Value.ref SO }] 1), (SO, oS), (cx, PySem.W.instObj 160 cd), (cd, PySem.W.dictOf es 24), (EX, LCg.lst ys2), (h₀.objs.size + 1 + 1 + 1 + 1 + 1 + 1 + 1 + 1 + 1 + 1 + 1, o11)])
  (hsha : getL (Str.ofString "sha1") es = some (some (Value.int 1 tS)))
  (hku : getL (Str.ofString "key_usage_value") es = some (some (Value.ref NX)))
  (hek : getL (Str.ofString "extended_key_usage_value") es = some (some (vE)))
  (hwl : getL (Str.ofString "_whitelisted_certs") ces = some (some (Value.ref WS)))
  (hnw : getL (Str.ofString "is_whitelisted") ces = some none)
  (hW : Obj.SetObjOf (intKind prg w) oW SW 1)
  (hWl : SW 1 = lb)
  (hA : StrSet prg w 4 oA (fun j => ss3.contains j))
  (hB : StrSet prg w 4 oB (fun j => ss4.contains j))
  (d11 : o11.data = .cell (some vL))
  (hdu : DueIs lb a d e f ss1 ss2 ss3 ss4 du)
  (c : @LT.lt Nat _ (cd) (cx) ∧ @LT.lt Nat _ (cx) (SO) ∧ @LT.lt Nat _ (SO) (ND) ∧ @LT.lt Nat _ (ND) (NX) ∧ @LT.lt Nat _ (NX) (CD) ∧ @LT.lt Nat _ (ED) (CD) ∧ @LT.lt Nat _ (EN) (CD) ∧ @LT.lt Nat _ (CD) (CX) ∧ @LT.lt Nat _ (CX) (WS) ∧ @LT.lt Nat _ (WS) (A0) ∧ @LT.lt Nat _ (A0) (B0) ∧ @LT.lt Nat _ (B0) (DL) ∧ @LT.lt Nat _ (EX) (cd) ∧ @LT.lt Nat _ (h₀.objs.size + 1 + 1 + 1 + 1 + 1 + 1 + 1 + 1 + 1 + 1 + 1) (cd) ∧ @Ne Nat (EX) (h₀.objs.size + 1 + 1 + 1 + 1 + 1 + 1 + 1 + 1 + 1 + 1 + 1) ∧ @Ne Nat (FL) (WS) ∧ @Ne Nat (GL) (WS) ∧ @Ne Nat (GL) (FL) ∧ @LT.lt Nat _ (FL) (A0) ∧ @LT.lt Nat _ (GL) (A0))
  (hlb : lb = false)
  (hd2 : (d.fdiv 16).fmod 4 = 2)
  (hv0 : v0 = Value.ref FL)
  (hv1 : Pick ((e.fdiv 16).fmod 4) v1 B0 GL)
  {Q : Flow → Shared → Prop} {E : Value → Shared → Prop}
  (h : ∀ (h' : Heap) (tk' : Nat) (dr : Drawn) (tt : Tok),
    Fr h₀ h₀.objs.size h' (fun y => if y = Str.ofString "told" then some (Value.str du tt) else if y = Str.ofString "due" then some (Value.str du td2) else if y = Str.ofString "demands" then some (Value.ref DL) else if y = Str.ofString "second" then some (Value.ref GL) else if y = Str.ofString "first" then some (Value.ref FL) else if y = Str.ofString "context" then some (Value.ref CX) else if y = Str.ofString "listed" then some (Value.bool lb) else if y = Str.ofString "cert" then some (Value.ref cx) else if y = Str.ofString "f" then some (Value.int f t6) else none) →
    News h₀ h₀.objs.size h' [] →
    Q .next { s with heap := h', toks := tk', drawn := dr }) :
  wpAny (model prg w) (lawA h₀.objs.size fa (.ref cdA)) (execs (stmts 16) (lawEnv h₀.objs.size fa (.ref cdA))) Q E s := by
  obtain ⟨X, T, B, G, V, TE, TW, TB, XM, ma, mo, M'⟩ := Y
  revert X
  dsimp only [prg] at *
  k_fill
  intro X
  dsimp only [stmts, lawFun, lawEnv, lawA, List.getD, List.getElem?_cons_zero, List.getElem?_cons_succ, Option.getD, List.cons_append, List.nil_append]
  subst hlb
  have hdu2 : du = Str.ofString "odd" := by
    rcases hdu with ⟨h, _⟩ | ⟨_, _, h⟩ | ⟨_, h1, h2, h3, _⟩
    · cases h
    · exact h
    · first | exact absurd (by assumption) h1 | exact absurd (by assumption) h2 | exact absurd (by assumption) h3
  subst hdu2
  subst hv0
  have hv1' : AnyDem v1 := by
    rcases hv1 with ⟨_, rfl⟩ | ⟨_, rfl⟩ | ⟨_, _, rfl⟩
    · exact .none
    · exact .ref _
    · exact .ref _
  clear hv1
  k_steps
  all_goals refine' h _ _ _ _ (by k_asm) News.nil
set_option maxHeartbeats 1500000 in
theorem sg16c {w : World} {h₀ : Heap} {mean : ExcName → Option Value} {mg mb : Str → Option Value} (Y : Law w h₀ mean mg mb) {s : Shared} {fa cdA : Addr} {a d e f : Int} {t6 : Tok} {EX : Addr} {ys2 : List Value} {ss1 ss2 : List Str} {tS kN : Tok} {cd cx SO ND NX : Addr} {oS : Obj} {vE nE : Value} {EN ED : Addr} {kE : Tok} {lb : Bool} {CD CX WS : Addr} {oW : Obj} {SW : Int → Bool} {FL : Addr} {ys3 : List Value} {ss3 : List Str} {GL : Addr} {ys4 : List Value} {ss4 : List Str} {A0 B0 DL : Addr} {oA oB : Obj} {v0 : Value} {v1 : Value} {vL : Value} {o11 : Obj} {du : Str} {td2 : Tok} {es ces : List DictEntry}
  (F : Fr h₀ h₀.objs.size s.heap (fun y => if y = Str.ofString "due" then some (Value.str du td2) else if y = Str.ofString "demands" then some (Value.ref DL) else if y = Str.ofString "second" then some (Value.ref GL) else if y = Str.ofString "first" then some (Value.ref FL) else if y = Str.ofString "context" then some (Value.ref CX) else if y = Str.ofString "listed" then some (Value.bool lb) else if y = Str.ofString "cert" then some (Value.ref cx) else if y = Str.ofString "f" then some (Value.int f t6) else none))
  (N : News h₀ h₀.objs.size s.heap [(DL, PySem.W.listOf #[v0, v1] 0), (B0, oB), (A0, oA), (GL, LCg.lst ys4), (FL, LCg.lst ys3), (WS, oW), (CX, PySem.W.instObj 326 CD), (CD, PySem.W.dictOf ces 6), (EN, PySem.W.instObj 52 ED), (ED, PySem.W.dictOf [{ hash := PyData.keyHash w.params (Str.ofString "native"), key := Value.str (Str.ofString "native") kE, val := nE }] 1), (NX, PySem.W.instObj 52 ND), (ND, PySem.W.dictOf [{ hash := PyData.keyHash w.params (Str.ofString "native"), key := Value.str (Str.ofString "native") kN, val := Value.ref SO }] 1), (SO, oS), (cx, PySem.W.instObj 160 cd), (cd, PySem.W.dictOf es 24), (EX, LCg.lst ys2), (h₀.objs.size + 1 + 1 + 1 + 1 + 1 + 1 + 1 + 1 + 1 + 1 + 1, o11)])
  (hsha : getL (Str.ofString "sha1") es = some (some (Value.int 1 tS)))
  (hku : getL (Str.ofString "key_usage_value") es = some (some (Value.ref NX)))
  (hek : getL (Str.ofString "extended_key_usage_value") es = some (some (vE)))
  (hwl : getL (Str.ofString "_whitelisted_certs") ces = some (some (Value.ref WS)))
  (hnw : getL (Str.ofString "is_whitelisted") ces = some none)
  (hW : Obj.SetObjOf (intKind prg w) oW SW 1)
  (hWl : SW 1 = lb)
  (hA : StrSet prg w 4 oA (fun j => ss3.contains j))
  (hB : StrSet prg w 4 oB (fun j => ss4.contains j))
  (d11 : o11.data = .cell (some vL))
  (hdu : DueIs lb a d e f ss1 ss2 ss3 ss4 du)
  (c : @LT.lt Nat _ (cd) (cx) ∧ @LT.lt Nat _ (cx) (SO) ∧ @LT.lt Nat _ (SO) (ND) ∧ @LT.lt Nat _ (ND) (NX) ∧ @LT.lt Nat _ (NX) (CD) ∧ @LT.lt Nat _ (ED) (CD) ∧ @LT.lt Nat _ (EN) (CD) ∧ @LT.lt Nat _ (CD) (CX) ∧ @LT.lt Nat _ (CX) (WS) ∧ @LT.lt Nat _ (WS) (A0) ∧ @LT.lt Nat _ (A0) (B0) ∧ @LT.lt Nat _ (B0) (DL) ∧ @LT.lt Nat _ (EX) (cd) ∧ @LT.lt Nat _ (h₀.objs.size + 1 + 1 + 1 + 1 + 1 + 1 + 1 + 1 + 1 + 1 + 1) (cd) ∧ @Ne Nat (EX) (h₀.objs.size + 1 + 1 + 1 + 1 + 1 + 1 + 1 + 1 + 1 + 1 + 1) ∧ @Ne Nat (FL) (WS) ∧ @Ne Nat (GL) (WS) ∧ @Ne Nat (GL) (FL) ∧ @LT.lt Nat _ (FL) (A0) ∧ @LT.lt Nat _ (GL) (A0))
  (hlb : lb = false)
  (he2 : (e.fdiv 16).fmod 4 = 2)
  (hv1 : v1 = Value.ref GL)
  (hne : @Ne Nat B0 A0)
  (hv0 : Dem v0 (fun j => ss3.contains j) A0 SO)
  {Q : Flow → Shared → Prop} {E : Value → Shared → Prop}
  (h : ∀ (h' : Heap) (tk' : Nat) (dr : Drawn) (tt : Tok),
    Fr h₀ h₀.objs.size h' (fun y => if y = Str.ofString "told" then some (Value.str du tt) else if y = Str.ofString "due" then some (Value.str du td2) else if y = Str.ofString "demands" then some (Value.ref DL) else if y = Str.ofString "second" then some (Value.ref GL) else if y = Str.ofString "first" then some (Value.ref FL) else if y = Str.ofString "context" then some (Value.ref CX) else if y = Str.ofString "listed" then some (Value.bool lb) else if y = Str.ofString "cert" then some (Value.ref cx) else if y = Str.ofString "f" then some (Value.int f t6) else none) →
    News h₀ h₀.objs.size h' [] →
    Q .next { s with heap := h', toks := tk', drawn := dr }) :
  wpAny (model prg w) (lawA h₀.objs.size fa (.ref cdA)) (execs (stmts 16) (lawEnv h₀.objs.size fa (.ref cdA))) Q E s := by
  obtain ⟨X, T, B, G, V, TE, TW, TB, XM, ma, mo, M'⟩ := Y
  revert X
  dsimp only [prg] at *
  k_fill
  intro X
  dsimp only [stmts, lawFun, lawEnv, lawA, List.getD, List.getElem?_cons_zero, List.getElem?_cons_succ, Option.getD, List.cons_append, List.nil_append]
  subst hlb
  have hdu2 : du = Str.ofString "odd" := by
    rcases hdu with ⟨h, _⟩ | ⟨_, _, h⟩ | ⟨_, h1, h2, h3, _⟩
    · cases h
    · exact h
    · first | exact absurd (by assumption) h1 | exact absurd (by assumption) h2 | exact absurd (by assumption) h3
  subst hdu2
  subst hv1
  k_steps
  all_goals refine' h _ _ _ _ (by k_asm) News.nil
set_option maxHeartbeats 1500000 in
theorem sg16d {w : World} {h₀ : Heap} {mean : ExcName → Option Value} {mg mb : Str → Option Value} (Y : Law w h₀ mean mg mb) {s : Shared} {fa cdA : Addr} {a d e f : Int} {t6 : Tok} {EX : Addr} {ys2 : List Value} {ss1 ss2 : List Str} {tS kN : Tok} {cd cx SO ND NX : Addr} {oS : Obj} {vE nE : Value} {EN ED : Addr} {kE : Tok} {lb : Bool} {CD CX WS : Addr} {oW : Obj} {SW : Int → Bool} {FL : Addr} {ss3 : List Str} {GL : Addr} {ss4 : List Str} {A0 B0 DL : Addr} {oA oB : Obj} {v0 : Value} {v1 : Value} {o11 : Obj} {du : Str} {td2 : Tok} {tL : Tok} {es ces : List DictEntry}
  (F : Fr h₀ h₀.objs.size s.heap (fun y => if y = Str.ofString "due" then some (Value.str du td2) else if y = Str.ofString "demands" then some (Value.ref DL) else if y = Str.ofString "second" then some (Value.ref GL) else if y = Str.ofString "first" then some (Value.ref FL) else if y = Str.ofString "context" then some (Value.ref CX) else if y = Str.ofString "listed" then some (Value.bool lb) else if y = Str.ofString "cert" then some (Value.ref cx) else if y = Str.ofString "f" then some (Value.int f t6) else none))
  (N : News h₀ h₀.objs.size s.heap [(DL, PySem.W.listOf #[v0, v1] 0), (B0, oB), (A0, oA), (WS, oW), (CX, PySem.W.instObj 326 CD), (CD, PySem.W.dictOf ces 6), (EN, PySem.W.instObj 52 ED), (ED, PySem.W.dictOf [{ hash := PyData.keyHash w.params (Str.ofString "native"), key := Value.str (Str.ofString "native") kE, val := nE }] 1), (NX, PySem.W.instObj 52 ND), (ND, PySem.W.dictOf [{ hash := PyData.keyHash w.params (Str.ofString "native"), key := Value.str (Str.ofString "native") kN, val := Value.ref SO }] 1), (SO, oS), (cx, PySem.W.instObj 160 cd), (cd, PySem.W.dictOf es 24), (EX, LCg.lst ys2), (h₀.objs.size + 1 + 1 + 1 + 1 + 1 + 1 + 1 + 1 + 1 + 1 + 1, o11)])
  (hsha : getL (Str.ofString "sha1") es = some (some (Value.int 1 tS)))
  (hku : getL (Str.ofString "key_usage_value") es = some (some (Value.ref NX)))
  (hek : getL (Str.ofString "extended_key_usage_value") es = some (some (vE)))
  (hwl : getL (Str.ofString "_whitelisted_certs") ces = some (some (Value.ref WS)))
  (hnw : getL (Str.ofString "is_whitelisted") ces = some none)
  (hW : Obj.SetObjOf (intKind prg w) oW SW 1)
  (hWl : SW 1 = lb)
  (hA : StrSet prg w 4 oA (fun j => ss3.contains j))
  (hB : StrSet prg w 4 oB (fun j => ss4.contains j))
  (hdu : DueIs lb a d e f ss1 ss2 ss3 ss4 du)
  (c : @LT.lt Nat _ (cd) (cx) ∧ @LT.lt Nat _ (cx) (SO) ∧ @LT.lt Nat _ (SO) (ND) ∧ @LT.lt Nat _ (ND) (NX) ∧ @LT.lt Nat _ (NX) (CD) ∧ @LT.lt Nat _ (ED) (CD) ∧ @LT.lt Nat _ (EN) (CD) ∧ @LT.lt Nat _ (CD) (CX) ∧ @LT.lt Nat _ (CX) (WS) ∧ @LT.lt Nat _ (WS) (A0) ∧ @LT.lt Nat _ (A0) (B0) ∧ @LT.lt Nat _ (B0) (DL) ∧ @LT.lt Nat _ (EX) (cd) ∧ @LT.lt Nat _ (h₀.objs.size + 1 + 1 + 1 + 1 + 1 + 1 + 1 + 1 + 1 + 1 + 1) (cd) ∧ @Ne Nat (EX) (h₀.objs.size + 1 + 1 + 1 + 1 + 1 + 1 + 1 + 1 + 1 + 1 + 1))
  (hlb : lb = false)
  (hf3 : f.fmod 4 = 3)
  (hv1 : Dem v1 (fun j => ss4.contains j) B0 SO)
  (d11 : o11.data = .cell (some (Value.int 1 tL)))
  (hne : @Ne Nat B0 A0)
  (hv0 : Dem v0 (fun j => ss3.contains j) A0 SO)
  {Q : Flow → Shared → Prop} {E : Value → Shared → Prop}
  (h : ∀ (h' : Heap) (tk' : Nat) (dr : Drawn) (tt : Tok),
    Fr h₀ h₀.objs.size h' (fun y => if y = Str.ofString "told" then some (Value.str du tt) else if y = Str.ofString "due" then some (Value.str du td2) else if y = Str.ofString "demands" then some (Value.ref DL) else if y = Str.ofString "second" then some (Value.ref GL) else if y = Str.ofString "first" then some (Value.ref FL) else if y = Str.ofString "context" then some (Value.ref CX) else if y = Str.ofString "listed" then some (Value.bool lb) else if y = Str.ofString "cert" then some (Value.ref cx) else if y = Str.ofString "f" then some (Value.int f t6) else none) →
    News h₀ h₀.objs.size h' [] →
    Q .next { s with heap := h', toks := tk', drawn := dr }) :
  wpAny (model prg w) (lawA h₀.objs.size fa (.ref cdA)) (execs (stmts 16) (lawEnv h₀.objs.size fa (.ref cdA))) Q E s := by
  obtain ⟨X, T, B, G, V, TE, TW, TB, XM, ma, mo, M'⟩ := Y
  revert X
  dsimp only [prg] at *
  k_fill
  intro X
  dsimp only [stmts, lawFun, lawEnv, lawA, List.getD, List.getElem?_cons_zero, List.getElem?_cons_succ, Option.getD, List.cons_append, List.nil_append]
  subst hlb
  have hdu2 : du = Str.ofString "odd" := by
    rcases hdu with ⟨h, _⟩ | ⟨_, _, h⟩ | ⟨_, h1, h2, h3, _⟩
    · cases h
    · exact h
    · first | exact absurd (by assumption) h1 | exact absurd (by assumption) h2 | exact absurd (by assumption) h3
  subst hdu2
  k_steps
  all_goals refine' h _ _ _ _ (by k_asm) News.nil
section
local macro_rules | `(tactic| walk_at "exec If") => `(tactic| (k_here; (with_reducible show wpAny _ _ (exec (Stmt.If (Expr.BoolOp BoolOp.And _ _) _ _ _) _) _ _ _); k_dflt (refine' Mine.join_M (x := Str.ofString "missing_extended_key_usage") (y := Str.ofString "x") (by k_asm) (by k_asm) (by with_unfolding_all rfl) (by with_unfolding_all rfl) (by k_mem) (by assumption) (by assumption) (fun hb' hv' hT' => ?jmw1) (fun hb' hv' hT' => ?jmw2) (fun hb' hv' hn' hT' => ?jmw3) (fun hb' hv' hn' hT' => ?jmw4) (fun _ _ _ _ _ _ _ _ => ?_)); (case' jmw1 => (subst hb' hv')); (case' jmw2 => (subst hb' hv')); (case' jmw3 => (subst hb' hv' hn')); (case' jmw4 => (subst hb' hv' hn')); (all_goals (try (rename Mine.MExt _ _ _ _ _ _ _ => hd'; clear hd'))); (try dsimp only)))
local macro_rules | `(tactic| walk_at "JoinM") => `(tactic| (first
  | (refine' Mine.JoinM.all (by k_asm) (by k_asm) (by k_mem) (by assumption) (by assumption) (by k_ne))
  | (refine' Mine.JoinM.nil (by k_asm) (by with_unfolding_all rfl) (by k_asm) (by k_mem) (by assumption) (by assumption) (by k_ne))
  | (refine' Mine.JoinM.diff (by k_asm) (by k_asm) (by assumption) (by assumption) (by k_ne))))
local macro_rules | `(tactic| walk_at "isTrue BoolOp") => `(tactic| (k_here; (with_reducible show wpAny _ _ (isTrue (Expr.BoolOp BoolOp.Or _ _) _ _) _ _ _); k_dflt (refine' Mine.join_B (by assumption) ?bw (fun _ _ _ => ?_)); (all_goals ((rename Mine.OrMark _ _ => om'); clear om'; (try dsimp only)))))
local macro_rules | `(tactic| walk_at "JoinB") => `(tactic| (first | exact Mine.JoinB.a (by assumption) (by assumption) | exact Mine.JoinB.d (by assumption) (by assumption) (by assumption) (by assumption) | exact Mine.JoinB.b (by assumption) (by assumption) (by assumption) | exact Mine.JoinB.c (by assumption) (by assumption)))
local macro_rules | `(tactic| walk_at "eval IfExp") => `(tactic| (k_here; (with_reducible show wpAny _ _ (eval (Expr.IfExp (Expr.Compare (Expr.Call (Expr.Name ("len" : Str) _) _ _ _) _ _ _) _ _ _) _) _ _ _); k_dflt (refine' Mine.join_S (by k_asm) (by k_asm) (by assumption) ?sw (fun _ _ _ _ _ _ => ?_)); (all_goals ((rename Mine.StrMark => sm'); clear sm'; (try dsimp only)))))
local macro_rules | `(tactic| walk_at "JoinS") => `(tactic| (first | (refine' Mine.JoinS.one (by k_asm) (by k_asm)) | (refine' Mine.JoinS.same (by k_asm) (by k_asm))))
set_option maxHeartbeats 3000000 in
theorem sg16e {w : World} {h₀ : Heap} {mean : ExcName → Option Value} {mg mb : Str → Option Value} (Y : Law w h₀ mean mg mb) {s : Shared} {fa cdA : Addr} {f : Int} {t6 : Tok} {EX : Addr} {ys2 : List Value} {ss1 ss2 : List Str} {tS kN : Tok} {cd cx SO ND NX : Addr} {oS : Obj} {vE nE : Value} {EN ED : Addr} {kE : Tok} {lb : Bool} {CD CX WS : Addr} {oW : Obj} {SW : Int → Bool} {FL : Addr} {ss3 : List Str} {GL : Addr} {ss4 : List Str} {A0 B0 DL : Addr} {oA oB : Obj} {v0 : Value} {v1 : Value} {o11 : Obj} {du : Str} {td2 : Tok} {bL : Bool} {T4 : Str → Bool} {es ces : List DictEntry}
  (F : Fr h₀ h₀.objs.size s.heap (fun y => if y = Str.ofString "due" then some (Value.str du td2) else if y = Str.ofString "demands" then some (Value.ref DL) else if y = Str.ofString "second" then some (Value.ref GL) else if y = Str.ofString "first" then some (Value.ref FL) else if y = Str.ofString "context" then some (Value.ref CX) else if y = Str.ofString "listed" then some (Value.bool lb) else if y = Str.ofString "cert" then some (Value.ref cx) else if y = Str.ofString "f" then some (Value.int f t6) else none))
  (N : News h₀ h₀.objs.size s.heap [(DL, PySem.W.listOf #[v0, v1] 0), (B0, oB), (A0, oA), (WS, oW), (CX, PySem.W.instObj 326 CD), (CD, PySem.W.dictOf ces 6), (EN, PySem.W.instObj 52 ED), (ED, PySem.W.dictOf [{ hash := PyData.keyHash w.params (Str.ofString "native"), key := Value.str (Str.ofString "native") kE, val := nE }] 1), (NX, PySem.W.instObj 52 ND), (ND, PySem.W.dictOf [{ hash := PyData.keyHash w.params (Str.ofString "native"), key := Value.str (Str.ofString "native") kN, val := Value.ref SO }] 1), (SO, oS), (cx, PySem.W.instObj 160 cd), (cd, PySem.W.dictOf es 24), (EX, LCg.lst ys2), (h₀.objs.size + 1 + 1 + 1 + 1 + 1 + 1 + 1 + 1 + 1 + 1 + 1, o11)])
  (hsha : getL (Str.ofString "sha1") es = some (some (Value.int 1 tS)))
  (hku : getL (Str.ofString "key_usage_value") es = some (some (Value.ref NX)))
  (hek : getL (Str.ofString "extended_key_usage_value") es = some (some (vE)))
  (hwl : getL (Str.ofString "_whitelisted_certs") ces = some (some (Value.ref WS)))
  (hnw : getL (Str.ofString "is_whitelisted") ces = some none)
  (hy2 : StrsAre ys2 ss2)
  (hs2 : Shorts ss2)
  (hS : StrSet prg w 4 oS (fun j => ss1.contains j))
  (hW : Obj.SetObjOf (intKind prg w) oW SW 1)
  (hWl : SW 1 = lb)
  (hs3 : Shorts ss3)
  (hs4 : Shorts ss4)
  (hA : StrSet prg w 4 oA (fun j => ss3.contains j))
  (hB : StrSet prg w 4 oB (fun j => ss4.contains j))
  (c : @LT.lt Nat _ (cd) (cx) ∧ @LT.lt Nat _ (cx) (SO) ∧ @LT.lt Nat _ (SO) (ND) ∧ @LT.lt Nat _ (ND) (NX) ∧ @LT.lt Nat _ (NX) (CD) ∧ @LT.lt Nat _ (ED) (CD) ∧ @LT.lt Nat _ (EN) (CD) ∧ @LT.lt Nat _ (CD) (CX) ∧ @LT.lt Nat _ (CX) (WS) ∧ @LT.lt Nat _ (WS) (A0) ∧ @LT.lt Nat _ (A0) (B0) ∧ @LT.lt Nat _ (B0) (DL) ∧ @LT.lt Nat _ (EX) (cd) ∧ @LT.lt Nat _ (h₀.objs.size + 1 + 1 + 1 + 1 + 1 + 1 + 1 + 1 + 1 + 1 + 1) (cd) ∧ @Ne Nat (EX) (h₀.objs.size + 1 + 1 + 1 + 1 + 1 + 1 + 1 + 1 + 1 + 1 + 1))
  (hlb : lb = false)
  (hne : @Ne Nat B0 A0)
  (hv0 : Dem v0 (fun j => ss3.contains j) A0 SO)
  (hv1 : Dem v1 (fun j => ss4.contains j) B0 SO)
  (d11 : o11.data = .cell (some (Value.bool bL)))
  (hE : MExt vE nE EN EX bL ss2 T4)
  (hdu : Due3 du (fun j => ss3.contains j && !ss1.contains j) (fun j => ss4.contains j && T4 j))
  {Q : Flow → Shared → Prop} {E : Value → Shared → Prop}
  (h : ∀ (h' : Heap) (tk' : Nat) (dr : Drawn) (tt : Tok),
    Fr h₀ h₀.objs.size h' (fun y => if y = Str.ofString "told" then some (Value.str du tt) else if y = Str.ofString "due" then some (Value.str du td2) else if y = Str.ofString "demands" then some (Value.ref DL) else if y = Str.ofString "second" then some (Value.ref GL) else if y = Str.ofString "first" then some (Value.ref FL) else if y = Str.ofString "context" then some (Value.ref CX) else if y = Str.ofString "listed" then some (Value.bool lb) else if y = Str.ofString "cert" then some (Value.ref cx) else if y = Str.ofString "f" then some (Value.int f t6) else none) →
    News h₀ h₀.objs.size h' [] →
    Q .next { s with heap := h', toks := tk', drawn := dr }) :
  wpAny (model prg w) (lawA h₀.objs.size fa (.ref cdA)) (execs (stmts 16) (lawEnv h₀.objs.size fa (.ref cdA))) Q E s := by
  obtain ⟨X, T, B, G, V, TE, TW, TB, XM, ma, mo, M'⟩ := Y
  revert X
  dsimp only [prg] at *
  k_fill
  intro X
  dsimp only [stmts, lawFun, lawEnv, lawA, List.getD, List.getElem?_cons_zero, List.getElem?_cons_succ, Option.getD, List.cons_append, List.nil_append]
  subst hlb
  have om : OrMark (fun j => ss3.contains j && !ss1.contains j) (fun j => ss4.contains j && T4 j) := .mk
  have sm : StrMark := .mk
  k_steps
  all_goals first
    | (have e9 := due3_t hdu (by assumption) (by assumption); subst e9; refine' h _ _ _ _ (by k_asm) News.nil)
    | (have e9 := due3_f hdu (by assumption) (by assumption); subst e9; refine' h _ _ _ _ (by k_asm) News.nil)
end
end
end
section
local macro_rules | `(tactic| walk_at "CompSrcT") => `(tactic| (k_here; k_dflt (refine Mine.src_pick (by rfl) (by k_asm) (by k_asm) (by k_mem) (by assumption) (by assumption) (by assumption) (fun g' _ _ _ _ _ _ _ _ _ _ _ _ _ _ _ _ _ off' _ => ?_) (fun g' => ?_); (all_goals (try (simp only [LCg.Off3, and_true] at off'))))))
local macro_rules | `(tactic| walk_at "CpEl") => `(tactic| (refine Mine.cp_el ?_ (by with_unfolding_all rfl); first | assumption | trivial | (exact Mine.nf_of (by assumption)) | (exact fun hc => hc) | (exact fun hc => nomatch hc)))
local macro_rules | `(tactic| walk_at "CsDone") => `(tactic| (unfold Mine.CsDone; intro _ _ _))
local macro_rules | `(tactic| walk_at "truthy ref") => `(tactic| (k_here; k_dflt (refine' Mine.truthy_list_L (by k_asm) (by k_mem) (by assumption) (by assumption) (by assumption) ?_); intro _ _ _))
set_option maxHeartbeats 4000000 in
theorem sg15 {w : World} {h₀ : Heap} {mean : ExcName → Option Value} {mg mb : Str → Option Value} (Y : Law w h₀ mean mg mb) {s : Shared} {fa cdA : Addr} {a d e f : Int} {t1 t4 t5 t6 : Tok} {OW EX cx CX FL GL DL : Addr} {lb : Bool} {ys1 ys2 ys3 ys4 : List Value} {ss1 ss2 ss3 ss4 : List Str} {o2 o5 o6 o9 o10 o11 : Obj} {vL : Value} {tdu : Tok} {R : List (Addr × Obj)}
  (F : Fr h₀ h₀.objs.size s.heap (fun y => if y = Str.ofString "due" then some (Value.str (Str.ofString "given") tdu) else if y = Str.ofString "demands" then some (Value.ref DL) else if y = Str.ofString "second" then some (Value.ref GL) else if y = Str.ofString "first" then some (Value.ref FL) else if y = Str.ofString "context" then some (Value.ref CX) else if y = Str.ofString "listed" then some (Value.bool lb) else if y = Str.ofString "cert" then some (Value.ref cx) else if y = Str.ofString "f" then some (Value.int f t6) else none))
  (N : News h₀ h₀.objs.size s.heap ((GL, LCg.lst ys4) :: (FL, LCg.lst ys3) :: (h₀.objs.size + 1 + 1, o2) :: (h₀.objs.size + 1 + 1 + 1 + 1 + 1 + 1 + 1 + 1 + 1 + 1, o10) :: (OW, LCg.lst ys1) :: (h₀.objs.size + 1 + 1 + 1 + 1 + 1 + 1 + 1 + 1 + 1, o9) :: (EX, LCg.lst ys2) :: (h₀.objs.size + 1 + 1 + 1 + 1 + 1 + 1 + 1 + 1 + 1 + 1 + 1, o11) :: (h₀.objs.size + 1 + 1 + 1 + 1 + 1 + 1, o6) :: (h₀.objs.size + 1 + 1 + 1 + 1 + 1, o5) :: R))
  (d2 : o2.data = .cell (some (.int a t1)))
  (d5 : o5.data = .cell (some (.int d t4)))
  (d6 : o6.data = .cell (some (.int e t5)))
  (d9 : o9.data = .cell (some (.ref OW)))
  (d10 : o10.data = .cell (some (.ref EX)))
  (d11 : o11.data = .cell (some vL))
  (hvL : (∃ t, vL = Value.int 1 t ∧ f.fmod 4 = 3) ∨ (vL = Value.bool (f.fmod 4 == 1) ∧ f.fmod 4 ≠ 3))
  (hy1 : StrsAre ys1 ss1)
  (hy2 : StrsAre ys2 ss2)
  (hy3 : StrsAre ys3 ss3)
  (hy4 : StrsAre ys4 ss4)
  (hs1 : Shorts ss1)
  (hs2 : Shorts ss2)
  (hs3 : Shorts ss3)
  (hs4 : Shorts ss4)
  {Q : Flow → Shared → Prop} {E : Value → Shared → Prop}
  (h : ∀ (h' : Heap) (tk' : Nat) (du : Str) (td2 : Tok),
    Fr h₀ h₀.objs.size h' (fun y => if y = Str.ofString "due" then some (Value.str du td2) else if y = Str.ofString "demands" then some (Value.ref DL) else if y = Str.ofString "second" then some (Value.ref GL) else if y = Str.ofString "first" then some (Value.ref FL) else if y = Str.ofString "context" then some (Value.ref CX) else if y = Str.ofString "listed" then some (Value.bool lb) else if y = Str.ofString "cert" then some (Value.ref cx) else if y = Str.ofString "f" then some (Value.int f t6) else none) →
    News h₀ h₀.objs.size h' ((GL, LCg.lst ys4) :: (FL, LCg.lst ys3) :: (h₀.objs.size + 1 + 1, o2) :: (h₀.objs.size + 1 + 1 + 1 + 1 + 1 + 1 + 1 + 1 + 1 + 1, o10) :: (OW, LCg.lst ys1) :: (h₀.objs.size + 1 + 1 + 1 + 1 + 1 + 1 + 1 + 1 + 1, o9) :: (EX, LCg.lst ys2) :: (h₀.objs.size + 1 + 1 + 1 + 1 + 1 + 1 + 1 + 1 + 1 + 1 + 1, o11) :: (h₀.objs.size + 1 + 1 + 1 + 1 + 1 + 1, o6) :: (h₀.objs.size + 1 + 1 + 1 + 1 + 1, o5) :: R) →
    (DueIs lb a d e f ss1 ss2 ss3 ss4 du) →
    Q .next { s with heap := h', toks := tk' }) :
  wpAny (model prg w) (lawA h₀.objs.size fa (.ref cdA)) (execs (stmts 15) (lawEnv h₀.objs.size fa (.ref cdA))) Q E s := by
  obtain ⟨X, T, B, G, V, TE, TW, TB, XM, ma, mo, M'⟩ := Y
  revert X
  dsimp only [prg] at *
  k_fill
  intro X
  dsimp only [stmts, lawFun, lawEnv, lawA, List.getD, List.getElem?_cons_zero, List.getElem?_cons_succ, Option.getD, List.cons_append, List.nil_append]
  have pm1 := pmark2 ss3 (fun z => (ss1.any (· == z)) = false)
  cases lb with
  | true =>
    k_steps
    refine' h _ _ (Str.ofString "given") _ (by k_asm) (news_sub (by k_asm) ?zsub) (due_listed)
    case zsub => repeat (first | exact List.nil_sublist _ | (with_reducible exact List.Sublist.refl _) | (with_reducible refine List.Sublist.cons_cons _ ?_) | refine List.Sublist.cons _ ?_)
  | false =>
    rcases Bool.eq_false_or_eq_true ((d.fdiv 16).fmod 4 == 2) with hd2 | hd2
    · k_steps
      refine' h _ _ (Str.ofString "odd") _ (fr_again (by k_asm)) (news_sub (by k_asm) ?zsub) (due_odd1 hd2)
      case zsub => repeat (first | exact List.nil_sublist _ | (with_reducible exact List.Sublist.refl _) | (with_reducible refine List.Sublist.cons_cons _ ?_) | refine List.Sublist.cons _ ?_)
    rcases Bool.eq_false_or_eq_true ((e.fdiv 16).fmod 4 == 2) with he2 | he2
    · k_steps
      refine' h _ _ (Str.ofString "odd") _ (fr_again (by k_asm)) (news_sub (by k_asm) ?zsub) (due_odd2 he2)
      case zsub => repeat (first | exact List.nil_sublist _ | (with_reducible exact List.Sublist.refl _) | (with_reducible refine List.Sublist.cons_cons _ ?_) | refine List.Sublist.cons _ ?_)
    rcases Bool.eq_false_or_eq_true (f.fmod 4 == 3) with hf3 | hf3
    · k_steps
      refine' h _ _ (Str.ofString "odd") _ (fr_again (by k_asm)) (news_sub (by k_asm) ?zsub) (due_odd3 hf3)
      case zsub => repeat (first | exact List.nil_sublist _ | (with_reducible exact List.Sublist.refl _) | (with_reducible refine List.Sublist.cons_cons _ ?_) | refine List.Sublist.cons _ ?_)
    have hvL2 : vL = Value.bool (f.fmod 4 == 1) := by
      rcases hvL with ⟨t, _, e⟩ | ⟨e, _⟩
      · rw [e] at hf3; cases hf3
      · exact e
    subst hvL2
    rcases Bool.eq_false_or_eq_true (a.fmod 3 == 1) with ha1 | ha1
    · have ha2 : a.fmod 3 = 1 := by simpa using ha1
      rcases Bool.eq_false_or_eq_true (f.fmod 4 == 1) with hf1 | hf1
      · have hf2 : f.fmod 4 = 1 := by simpa using hf1
        rw [hf1] at d11
        have hp : ∀ z, (fun (_ : Str) => False) z ↔ if a.fmod 3 = 1 then f.fmod 4 ≠ 1 else (ss2.any fun x => x == z) = false := fun z => by rw [if_pos ha2]; simp [hf2]
        have pm2 := pmark2 ss4 (fun _ => False)
        k_steps
        · refine' h _ _ (Str.ofString "refused") _ (fr_again (by k_asm)) (news_sub (by k_asm) ?zsub) (due_end1 hd2 he2 hf3 hp (by assumption) (by assumption))
          case zsub => repeat (first | exact List.nil_sublist _ | (with_reducible exact List.Sublist.refl _) | (with_reducible refine List.Sublist.cons_cons _ ?_) | refine List.Sublist.cons _ ?_)
        · refine' h _ _ (Str.ofString "refused") _ (fr_again (by k_asm)) (news_sub (by k_asm) ?zsub) (due_end2 hd2 he2 hf3 hp (by assumption) (by assumption))
          case zsub => repeat (first | exact List.nil_sublist _ | (with_reducible exact List.Sublist.refl _) | (with_reducible refine List.Sublist.cons_cons _ ?_) | refine List.Sublist.cons _ ?_)
        · refine' h _ _ (Str.ofString "given") _ (by k_asm) (news_sub (by k_asm) ?zsub) (due_end3 hd2 he2 hf3 hp (by assumption) (by assumption) (by assumption) (by assumption))
          case zsub => repeat (first | exact List.nil_sublist _ | (with_reducible exact List.Sublist.refl _) | (with_reducible refine List.Sublist.cons_cons _ ?_) | refine List.Sublist.cons _ ?_)
      · have hf2 : f.fmod 4 ≠ 1 := by simpa using hf1
        rw [hf1] at d11
        have hp : ∀ z, (fun (_ : Str) => True) z ↔ if a.fmod 3 = 1 then f.fmod 4 ≠ 1 else (ss2.any fun x => x == z) = false := fun z => by rw [if_pos ha2]; simp [hf2]
        have pm2 := pmark2 ss4 (fun _ => True)
        k_steps
        · refine' h _ _ (Str.ofString "refused") _ (fr_again (by k_asm)) (news_sub (by k_asm) ?zsub) (due_end1 hd2 he2 hf3 hp (by assumption) (by assumption))
          case zsub => repeat (first | exact List.nil_sublist _ | (with_reducible exact List.Sublist.refl _) | (with_reducible refine List.Sublist.cons_cons _ ?_) | refine List.Sublist.cons _ ?_)
        · refine' h _ _ (Str.ofString "refused") _ (fr_again (by k_asm)) (news_sub (by k_asm) ?zsub) (due_end2 hd2 he2 hf3 hp (by assumption) (by assumption))
          case zsub => repeat (first | exact List.nil_sublist _ | (with_reducible exact List.Sublist.refl _) | (with_reducible refine List.Sublist.cons_cons _ ?_) | refine List.Sublist.cons _ ?_)
        · refine' h _ _ (Str.ofString "given") _ (by k_asm) (news_sub (by k_asm) ?zsub) (due_end3 hd2 he2 hf3 hp (by assumption) (by assumption) (by assumption) (by assumption))
          case zsub => repeat (first | exact List.nil_sublist _ | (with_reducible exact List.Sublist.refl _) | (with_reducible refine List.Sublist.cons_cons _ ?_) | refine List.Sublist.cons _ ?_)
    · have ha2 : a.fmod 3 ≠ 1 := by simpa using ha1
      have hp : ∀ z, (fun (z : Str) => (ss2.any fun x => x == z) = false) z ↔ if a.fmod 3 = 1 then f.fmod 4 ≠ 1 else (ss2.any fun x => x == z) = false := fun z => by rw [if_neg ha2]
      have pm2 := pmark2 ss4 (fun z => (ss2.any fun x => x == z) = false)
      k_steps
      · refine' h _ _ (Str.ofString "refused") _ (fr_again (by k_asm)) (news_sub (by k_asm) ?zsub) (due_end1 hd2 he2 hf3 hp (by assumption) (by assumption))
        case zsub => repeat (first | exact List.nil_sublist _ | (with_reducible exact List.Sublist.refl _) | (with_reducible refine List.Sublist.cons_cons _ ?_) | refine List.Sublist.cons _ ?_)
      · refine' h _ _ (Str.ofString "refused") _ (fr_again (by k_asm)) (news_sub (by k_asm) ?zsub) (due_end2 hd2 he2 hf3 hp (by assumption) (by assumption))
        case zsub => repeat (first | exact List.nil_sublist _ | (with_reducible exact List.Sublist.refl _) | (with_reducible refine List.Sublist.cons_cons _ ?_) | refine List.Sublist.cons _ ?_)
      · refine' h _ _ (Str.ofString "given") _ (by k_asm) (news_sub (by k_asm) ?zsub) (due_end3 hd2 he2 hf3 hp (by assumption) (by assumption) (by assumption) (by assumption))
        case zsub => repeat (first | exact List.nil_sublist _ | (with_reducible exact List.Sublist.refl _) | (with_reducible refine List.Sublist.cons_cons _ ?_) | refine List.Sublist.cons _ ?_)
end
section
local macro_rules | `(tactic| walk_at "subscriptTail") => `(tactic| (k_here; (with_reducible show wpAny _ _ (subscriptTail _ _ (Value.ref _) (Value.int _ _)) _ _ _); (refine' Mine.item_short (News.isList (by k_asm) (by k_mem)) (by exact .cons _ _ (.cons _ _ (.cons _ _ (.cons _ _ .nil)))) (by (unfold Mine.Shorts Mine.Short; decide +kernel)) (by assumption) (by assumption) (by rfl) ?_); intro _ _ _))
local macro_rules | `(tactic| walk_at "CsEl") => `(tactic| (refine Mine.cs_el ?_ (by assumption) (by with_unfolding_all rfl); first | trivial | assumption | (show _ ≠ _; assumption)))
section
local macro_rules | `(tactic| walk_at "CompSrcT") => `(tactic| (k_here; k_dflt (refine LCt.CompSrcT.range (by rfl) (by k_asm) (by k_asm) (by assumption) (by decide) (by rfl) (by exact Nat.le_of_ble_eq_true rfl) ?_; intro _; (refine' Mine.comp_strs True (fun _ _ _ _ _ _ _ _ _ _ _ _ _ _ _ _ _ _ off' _ => ?_) ?_); (all_goals (try (simp only [LCg.Off3, and_true] at off'))); kcf_last)))
set_option maxHeartbeats 4000000 in
theorem sg1 {w : World} {h₀ : Heap} {mean : ExcName → Option Value} {mg mb : Str → Option Value} (Y : Law w h₀ mean mg mb) {s : Shared} {fa cdA : Addr} {b c f : Int} {t2 t3 t6 : Tok} {o3 o4 o7 o8 o9 o10 : Obj} {R : List (Addr × Obj)}
  (F : Fr h₀ h₀.objs.size s.heap (fun y => if y = Str.ofString "f" then some (Value.int f t6) else none))
  (N : News h₀ h₀.objs.size s.heap ((h₀.objs.size + 1 + 1 + 1 + 1 + 1 + 1 + 1 + 1 + 1 + 1, o10) :: (h₀.objs.size + 1 + 1 + 1 + 1 + 1 + 1 + 1 + 1 + 1, o9) :: (h₀.objs.size + 1 + 1 + 1 + 1 + 1 + 1 + 1 + 1, o8) :: (h₀.objs.size + 1 + 1 + 1 + 1 + 1 + 1 + 1, o7) :: (h₀.objs.size + 1 + 1 + 1 + 1, o4) :: (h₀.objs.size + 1 + 1 + 1, o3) :: R))
  (d3 : o3.data = .cell (some (.int b t2)))
  (d4 : o4.data = .cell (some (.int c t3)))
  (d7 : o7.data = .cell (none))
  (d8 : o8.data = .cell (none))
  (d9 : o9.data = .cell (none))
  (d10 : o10.data = .cell (none))
  (r7 : ∀ p ∈ R, @Ne Nat p.1 (h₀.objs.size + 1 + 1 + 1 + 1 + 1 + 1 + 1))
  (r8 : ∀ p ∈ R, @Ne Nat p.1 (h₀.objs.size + 1 + 1 + 1 + 1 + 1 + 1 + 1 + 1))
  (r9 : ∀ p ∈ R, @Ne Nat p.1 (h₀.objs.size + 1 + 1 + 1 + 1 + 1 + 1 + 1 + 1 + 1))
  (r10 : ∀ p ∈ R, @Ne Nat p.1 (h₀.objs.size + 1 + 1 + 1 + 1 + 1 + 1 + 1 + 1 + 1 + 1))
  {Q : Flow → Shared → Prop} {E : Value → Shared → Prop}
  (h : ∀ (h' : Heap) (tk' : Nat) (u1 u2 u3 u4 u5 u6 u7 u8 : Tok) (U M OW EX : Addr) (ys1 ys2 : List Value) (ss1 ss2 : List Str) (o7 o8 o9 o10 : Obj),
    Fr h₀ h₀.objs.size h' (fun y => if y = Str.ofString "f" then some (Value.int f t6) else none) →
    News h₀ h₀.objs.size h' ((EX, LCg.lst ys2) :: (OW, LCg.lst ys1) :: (M, PySem.W.listOf #[Value.str (Str.ofString "client_auth") u5, Value.str (Str.ofString "code_signing") u6, Value.str (Str.ofString "server_auth") u7, Value.str (Str.ofString "1.3.6.1") u8] 0) :: (U, PySem.W.listOf #[Value.str (Str.ofString "crl_sign") u1, Value.str (Str.ofString "digital_signature") u2, Value.str (Str.ofString "key_cert_sign") u3, Value.str (Str.ofString "non_repudiation") u4] 0) :: (h₀.objs.size + 1 + 1 + 1 + 1 + 1 + 1 + 1 + 1 + 1 + 1, o10) :: (h₀.objs.size + 1 + 1 + 1 + 1 + 1 + 1 + 1 + 1 + 1, o9) :: (h₀.objs.size + 1 + 1 + 1 + 1 + 1 + 1 + 1 + 1, o8) :: (h₀.objs.size + 1 + 1 + 1 + 1 + 1 + 1 + 1, o7) :: R) →
    (o7.data = .cell (some (.ref U))) →
    (o8.data = .cell (some (.ref M))) →
    (o9.data = .cell (some (.ref OW))) →
    (o10.data = .cell (some (.ref EX))) →
    (StrsAre ys1 ss1) →
    (Shorts ss1) →
    (StrsAre ys2 ss2) →
    (Shorts ss2) →
    (AllLt (U) ((h₀.objs.size + 1 + 1 + 1 + 1 + 1 + 1 + 1 + 1 + 1 + 1, o10) :: (h₀.objs.size + 1 + 1 + 1 + 1 + 1 + 1 + 1 + 1 + 1, o9) :: (h₀.objs.size + 1 + 1 + 1 + 1 + 1 + 1 + 1 + 1, o8) :: (h₀.objs.size + 1 + 1 + 1 + 1 + 1 + 1 + 1, o7) :: (h₀.objs.size + 1 + 1 + 1 + 1, o4) :: (h₀.objs.size + 1 + 1 + 1, o3) :: R)) →
    (AllLt (M) ((U, PySem.W.listOf #[Value.str (Str.ofString "crl_sign") u1, Value.str (Str.ofString "digital_signature") u2, Value.str (Str.ofString "key_cert_sign") u3, Value.str (Str.ofString "non_repudiation") u4] 0) :: (h₀.objs.size + 1 + 1 + 1 + 1 + 1 + 1 + 1 + 1 + 1 + 1, o10) :: (h₀.objs.size + 1 + 1 + 1 + 1 + 1 + 1 + 1 + 1 + 1, o9) :: (h₀.objs.size + 1 + 1 + 1 + 1 + 1 + 1 + 1 + 1, o8) :: (h₀.objs.size + 1 + 1 + 1 + 1 + 1 + 1 + 1, o7) :: (h₀.objs.size + 1 + 1 + 1 + 1, o4) :: (h₀.objs.size + 1 + 1 + 1, o3) :: R)) →
    (LCg.Off1 (OW) ((M, PySem.W.listOf #[Value.str (Str.ofString "client_auth") u5, Value.str (Str.ofString "code_signing") u6, Value.str (Str.ofString "server_auth") u7, Value.str (Str.ofString "1.3.6.1") u8] 0) :: (U, PySem.W.listOf #[Value.str (Str.ofString "crl_sign") u1, Value.str (Str.ofString "digital_signature") u2, Value.str (Str.ofString "key_cert_sign") u3, Value.str (Str.ofString "non_repudiation") u4] 0) :: (h₀.objs.size + 1 + 1 + 1 + 1 + 1 + 1 + 1 + 1 + 1 + 1, o10) :: (h₀.objs.size + 1 + 1 + 1 + 1 + 1 + 1 + 1 + 1 + 1, o9) :: (h₀.objs.size + 1 + 1 + 1 + 1 + 1 + 1 + 1 + 1, o8) :: (h₀.objs.size + 1 + 1 + 1 + 1 + 1 + 1 + 1, o7) :: (h₀.objs.size + 1 + 1 + 1 + 1, o4) :: (h₀.objs.size + 1 + 1 + 1, o3) :: R)) →
    (LCg.Off1 (EX) ((M, PySem.W.listOf #[Value.str (Str.ofString "client_auth") u5, Value.str (Str.ofString "code_signing") u6, Value.str (Str.ofString "server_auth") u7, Value.str (Str.ofString "1.3.6.1") u8] 0) :: (U, PySem.W.listOf #[Value.str (Str.ofString "crl_sign") u1, Value.str (Str.ofString "digital_signature") u2, Value.str (Str.ofString "key_cert_sign") u3, Value.str (Str.ofString "non_repudiation") u4] 0) :: (h₀.objs.size + 1 + 1 + 1 + 1 + 1 + 1 + 1 + 1 + 1 + 1, o10) :: (h₀.objs.size + 1 + 1 + 1 + 1 + 1 + 1 + 1 + 1 + 1, o9) :: (h₀.objs.size + 1 + 1 + 1 + 1 + 1 + 1 + 1 + 1, o8) :: (h₀.objs.size + 1 + 1 + 1 + 1 + 1 + 1 + 1, o7) :: (h₀.objs.size + 1 + 1 + 1 + 1, o4) :: (h₀.objs.size + 1 + 1 + 1, o3) :: R)) →
    Q .next { s with heap := h', toks := tk' }) :
  wpAny (model prg w) (lawA h₀.objs.size fa (.ref cdA)) (execs (stmts 1 ++ stmts 2) (lawEnv h₀.objs.size fa (.ref cdA))) Q E s := by
  obtain ⟨X, T, B, G, V, TE, TW, TB, XM, ma, mo, M'⟩ := Y
  revert X
  dsimp only [prg] at *
  k_fill
  intro X
  dsimp only [stmts, lawFun, lawEnv, lawA, List.getD, List.getElem?_cons_zero, List.getElem?_cons_succ, Option.getD, List.cons_append, List.nil_append]
  k_steps
  all_goals (try k_data)
  refine' h _ _ _ _ _ _ _ _ _ _ _ _ _ _ _ _ _ _ _ _ _ _ (by k_asm) (news_sub (by k_asm) ?sub) ?e7 ?e8 ?e9 ?e10 ?y1 ?s1 ?y2 ?s2 ?gU ?gM ?gOW ?gEX
  case sub => repeat (first | exact List.nil_sublist _ | (with_reducible exact List.Sublist.refl _) | (with_reducible refine List.Sublist.cons_cons _ ?_) | refine List.Sublist.cons _ ?_)
  case e7 => assumption
  case e8 => assumption
  case e9 => assumption
  case e10 => assumption
  case y1 => assumption
  case s1 => assumption
  case y2 => assumption
  case s2 => assumption
  case gU => assumption
  case gM => assumption
  case gOW => exact And.right (by assumption)
  case gEX => exact And.right (And.right (by assumption))
end
section
local macro_rules | `(tactic| walk_at "CompSrcT") => `(tactic| (k_here; k_dflt (refine LCt.CompSrcT.range (by rfl) (by k_asm) (by k_asm) (by assumption) (by decide) (by rfl) (by exact Nat.le_of_ble_eq_true rfl) ?_; intro _; (refine' Mine.comp_strs_m (by assumption) (fun _ _ _ _ _ _ _ _ _ _ _ _ _ _ _ _ _ _ off' _ => ?_) ?_); (all_goals (try (simp only [LCg.Off3, and_true] at off'))); kcf_last)))
local macro_rules | `(tactic| walk_at "Mine8") => `(tactic| fail)
set_option maxHeartbeats 4000000 in
theorem sg8 {w : World} {h₀ : Heap} {mean : ExcName → Option Value} {mg mb : Str → Option Value} (Y : Law w h₀ mean mg mb) {s : Shared} {fa cdA : Addr} {d f : Int} {t4 t6 u1 u2 u3 u4 : Tok} {U : Addr} {cx CX : Addr} {lb : Bool} {o5 o7 : Obj} {R : List (Addr × Obj)}
  (F : Fr h₀ h₀.objs.size s.heap (fun y => if y = Str.ofString "context" then some (Value.ref CX) else if y = Str.ofString "listed" then some (Value.bool lb) else if y = Str.ofString "cert" then some (Value.ref cx) else if y = Str.ofString "f" then some (Value.int f t6) else none))
  (N : News h₀ h₀.objs.size s.heap ((U, PySem.W.listOf #[Value.str (Str.ofString "crl_sign") u1, Value.str (Str.ofString "digital_signature") u2, Value.str (Str.ofString "key_cert_sign") u3, Value.str (Str.ofString "non_repudiation") u4] 0) :: (h₀.objs.size + 1 + 1 + 1 + 1 + 1 + 1 + 1, o7) :: (h₀.objs.size + 1 + 1 + 1 + 1 + 1, o5) :: R))
  (d5 : o5.data = .cell (some (.int d t4)))
  (d7 : o7.data = .cell (some (.ref U)))
  (g8 : @LT.lt Nat _ (h₀.objs.size + 1 + 1 + 1 + 1 + 1) (U) ∧ @LT.lt Nat _ (h₀.objs.size + 1 + 1 + 1 + 1 + 1 + 1 + 1) (U))
  {Q : Flow → Shared → Prop} {E : Value → Shared → Prop}
  (h : ∀ (h' : Heap) (tk' : Nat) (FL : Addr) (ys3 : List Value) (ss3 : List Str),
    Fr h₀ h₀.objs.size h' (fun y => if y = Str.ofString "first" then some (Value.ref FL) else if y = Str.ofString "context" then some (Value.ref CX) else if y = Str.ofString "listed" then some (Value.bool lb) else if y = Str.ofString "cert" then some (Value.ref cx) else if y = Str.ofString "f" then some (Value.int f t6) else none) →
    News h₀ h₀.objs.size h' ((FL, LCg.lst ys3) :: (U, PySem.W.listOf #[Value.str (Str.ofString "crl_sign") u1, Value.str (Str.ofString "digital_signature") u2, Value.str (Str.ofString "key_cert_sign") u3, Value.str (Str.ofString "non_repudiation") u4] 0) :: (h₀.objs.size + 1 + 1 + 1 + 1 + 1 + 1 + 1, o7) :: (h₀.objs.size + 1 + 1 + 1 + 1 + 1, o5) :: R) →
    (StrsAre ys3 ss3) →
    (Shorts ss3) →
    (ss3 ≠ [] → (d.fdiv 16).fmod 4 ≠ 1) →
    (LCg.Off1 (FL) ((U, PySem.W.listOf #[Value.str (Str.ofString "crl_sign") u1, Value.str (Str.ofString "digital_signature") u2, Value.str (Str.ofString "key_cert_sign") u3, Value.str (Str.ofString "non_repudiation") u4] 0) :: (h₀.objs.size + 1 + 1 + 1 + 1 + 1 + 1 + 1, o7) :: (h₀.objs.size + 1 + 1 + 1 + 1 + 1, o5) :: R)) →
    Q .next { s with heap := h', toks := tk' }) :
  wpAny (model prg w) (lawA h₀.objs.size fa (.ref cdA)) (execs (stmts 8) (lawEnv h₀.objs.size fa (.ref cdA))) Q E s := by
  obtain ⟨X, T, B, G, V, TE, TW, TB, XM, ma, mo, M'⟩ := Y
  revert X
  dsimp only [prg] at *
  k_fill
  intro X
  dsimp only [stmts, lawFun, lawEnv, lawA, List.getD, List.getElem?_cons_zero, List.getElem?_cons_succ, Option.getD, List.cons_append, List.nil_append]
  have pm := pmark ((d.fdiv 16).fmod 4 ≠ 1)
  k_steps
  all_goals (try k_data)
  refine' h _ _ _ _ _ (by k_asm) (news_sub (by k_asm) ?zsub) ?zy ?zs ?zp ?zc
  case zsub => repeat (first | exact List.nil_sublist _ | (with_reducible exact List.Sublist.refl _) | (with_reducible refine List.Sublist.cons_cons _ ?_) | refine List.Sublist.cons _ ?_)
  case zy => assumption
  case zs => assumption
  case zp => assumption
  case zc => assumption
set_option maxHeartbeats 4000000 in
theorem sg9 {w : World} {h₀ : Heap} {mean : ExcName → Option Value} {mg mb : Str → Option Value} (Y : Law w h₀ mean mg mb) {s : Shared} {fa cdA : Addr} {e f : Int} {t5 t6 u5 u6 u7 u8 : Tok} {M : Addr} {cx CX FL : Addr} {lb : Bool} {o6 o8 : Obj} {R : List (Addr × Obj)}
  (F : Fr h₀ h₀.objs.size s.heap (fun y => if y = Str.ofString "first" then some (Value.ref FL) else if y = Str.ofString "context" then some (Value.ref CX) else if y = Str.ofString "listed" then some (Value.bool lb) else if y = Str.ofString "cert" then some (Value.ref cx) else if y = Str.ofString "f" then some (Value.int f t6) else none))
  (N : News h₀ h₀.objs.size s.heap ((M, PySem.W.listOf #[Value.str (Str.ofString "client_auth") u5, Value.str (Str.ofString "code_signing") u6, Value.str (Str.ofString "server_auth") u7, Value.str (Str.ofString "1.3.6.1") u8] 0) :: (h₀.objs.size + 1 + 1 + 1 + 1 + 1 + 1 + 1 + 1, o8) :: (h₀.objs.size + 1 + 1 + 1 + 1 + 1 + 1, o6) :: R))
  (d6 : o6.data = .cell (some (.int e t5)))
  (d8 : o8.data = .cell (some (.ref M)))
  (g8 : @LT.lt Nat _ (h₀.objs.size + 1 + 1 + 1 + 1 + 1 + 1) (M) ∧ @LT.lt Nat _ (h₀.objs.size + 1 + 1 + 1 + 1 + 1 + 1 + 1 + 1) (M))
  {Q : Flow → Shared → Prop} {E : Value → Shared → Prop}
  (h : ∀ (h' : Heap) (tk' : Nat) (GL : Addr) (ys4 : List Value) (ss4 : List Str),
    Fr h₀ h₀.objs.size h' (fun y => if y = Str.ofString "second" then some (Value.ref GL) else if y = Str.ofString "first" then some (Value.ref FL) else if y = Str.ofString "context" then some (Value.ref CX) else if y = Str.ofString "listed" then some (Value.bool lb) else if y = Str.ofString "cert" then some (Value.ref cx) else if y = Str.ofString "f" then some (Value.int f t6) else none) →
    News h₀ h₀.objs.size h' ((GL, LCg.lst ys4) :: (M, PySem.W.listOf #[Value.str (Str.ofString "client_auth") u5, Value.str (Str.ofString "code_signing") u6, Value.str (Str.ofString "server_auth") u7, Value.str (Str.ofString "1.3.6.1") u8] 0) :: (h₀.objs.size + 1 + 1 + 1 + 1 + 1 + 1 + 1 + 1, o8) :: (h₀.objs.size + 1 + 1 + 1 + 1 + 1 + 1, o6) :: R) →
    (StrsAre ys4 ss4) →
    (Shorts ss4) →
    (ss4 ≠ [] → (e.fdiv 16).fmod 4 ≠ 1) →
    (LCg.Off1 (GL) ((M, PySem.W.listOf #[Value.str (Str.ofString "client_auth") u5, Value.str (Str.ofString "code_signing") u6, Value.str (Str.ofString "server_auth") u7, Value.str (Str.ofString "1.3.6.1") u8] 0) :: (h₀.objs.size + 1 + 1 + 1 + 1 + 1 + 1 + 1 + 1, o8) :: (h₀.objs.size + 1 + 1 + 1 + 1 + 1 + 1, o6) :: R)) →
    Q .next { s with heap := h', toks := tk' }) :
  wpAny (model prg w) (lawA h₀.objs.size fa (.ref cdA)) (execs (stmts 9) (lawEnv h₀.objs.size fa (.ref cdA))) Q E s := by
  obtain ⟨X, T, B, G, V, TE, TW, TB, XM, ma, mo, M'⟩ := Y
  revert X
  dsimp only [prg] at *
  k_fill
  intro X
  dsimp only [stmts, lawFun, lawEnv, lawA, List.getD, List.getElem?_cons_zero, List.getElem?_cons_succ, Option.getD, List.cons_append, List.nil_append]
  have pm := pmark ((e.fdiv 16).fmod 4 ≠ 1)
  k_steps
  all_goals (try k_data)
  refine' h _ _ _ _ _ (by k_asm) (news_sub (by k_asm) ?zsub) ?zy ?zs ?zp ?zc
  case zsub => repeat (first | exact List.nil_sublist _ | (with_reducible exact List.Sublist.refl _) | (with_reducible refine List.Sublist.cons_cons _ ?_) | refine List.Sublist.cons _ ?_)
  case zy => assumption
  case zs => assumption
  case zp => assumption
  case zc => assumption
end
end
end Mine
end
section -- Chain
open PySem PySem.W PyProof.Rows
set_option maxRecDepth 100000
namespace Mine
theorem news_cons {h₀ h : Heap} {L : Addr} {p : Addr × Obj} {old r : List (Addr × Obj)} (N : News h₀ L h old) (hm : p ∈ old) (N2 : News h₀ L h r) : News h₀ L h (p :: r) := fun x hx => by
  rcases List.mem_cons.mp hx with rfl | hx
  · exact N _ hm
  · exact N2 _ hx
theorem ce2_7 (n : Nat) : @Ne Nat (n + 1 + 1) (n + 1 + 1 + 1 + 1 + 1 + 1 + 1) := by omega
theorem ce3_7 (n : Nat) : @Ne Nat (n + 1 + 1 + 1) (n + 1 + 1 + 1 + 1 + 1 + 1 + 1) := by omega
theorem ce4_7 (n : Nat) : @Ne Nat (n + 1 + 1 + 1 + 1) (n + 1 + 1 + 1 + 1 + 1 + 1 + 1) := by omega
theorem ce5_7 (n : Nat) : @Ne Nat (n + 1 + 1 + 1 + 1 + 1) (n + 1 + 1 + 1 + 1 + 1 + 1 + 1) := by omega
theorem ce6_7 (n : Nat) : @Ne Nat (n + 1 + 1 + 1 + 1 + 1 + 1) (n + 1 + 1 + 1 + 1 + 1 + 1 + 1) := by omega
theorem ce8_7 (n : Nat) : @Ne Nat (n + 1 + 1 + 1 + 1 + 1 + 1 + 1 + 1) (n + 1 + 1 + 1 + 1 + 1 + 1 + 1) := by omega
theorem ce9_7 (n : Nat) : @Ne Nat (n + 1 + 1 + 1 + 1 + 1 + 1 + 1 + 1 + 1) (n + 1 + 1 + 1 + 1 + 1 + 1 + 1) := by omega
theorem ce10_7 (n : Nat) : @Ne Nat (n + 1 + 1 + 1 + 1 + 1 + 1 + 1 + 1 + 1 + 1) (n + 1 + 1 + 1 + 1 + 1 + 1 + 1) := by omega
theorem ce11_7 (n : Nat) : @Ne Nat (n + 1 + 1 + 1 + 1 + 1 + 1 + 1 + 1 + 1 + 1 + 1) (n + 1 + 1 + 1 + 1 + 1 + 1 + 1) := by omega
theorem ce2_8 (n : Nat) : @Ne Nat (n + 1 + 1) (n + 1 + 1 + 1 + 1 + 1 + 1 + 1 + 1) := by omega
theorem ce3_8 (n : Nat) : @Ne Nat (n + 1 + 1 + 1) (n + 1 + 1 + 1 + 1 + 1 + 1 + 1 + 1) := by omega
theorem ce4_8 (n : Nat) : @Ne Nat (n + 1 + 1 + 1 + 1) (n + 1 + 1 + 1 + 1 + 1 + 1 + 1 + 1) := by omega
theorem ce5_8 (n : Nat) : @Ne Nat (n + 1 + 1 + 1 + 1 + 1) (n + 1 + 1 + 1 + 1 + 1 + 1 + 1 + 1) := by omega
theorem ce6_8 (n : Nat) : @Ne Nat (n + 1 + 1 + 1 + 1 + 1 + 1) (n + 1 + 1 + 1 + 1 + 1 + 1 + 1 + 1) := by omega
theorem ce7_8 (n : Nat) : @Ne Nat (n + 1 + 1 + 1 + 1 + 1 + 1 + 1) (n + 1 + 1 + 1 + 1 + 1 + 1 + 1 + 1) := by omega
theorem ce9_8 (n : Nat) : @Ne Nat (n + 1 + 1 + 1 + 1 + 1 + 1 + 1 + 1 + 1) (n + 1 + 1 + 1 + 1 + 1 + 1 + 1 + 1) := by omega
theorem ce10_8 (n : Nat) : @Ne Nat (n + 1 + 1 + 1 + 1 + 1 + 1 + 1 + 1 + 1 + 1) (n + 1 + 1 + 1 + 1 + 1 + 1 + 1 + 1) := by omega
theorem ce11_8 (n : Nat) : @Ne Nat (n + 1 + 1 + 1 + 1 + 1 + 1 + 1 + 1 + 1 + 1 + 1) (n + 1 + 1 + 1 + 1 + 1 + 1 + 1 + 1) := by omega
theorem ce2_9 (n : Nat) : @Ne Nat (n + 1 + 1) (n + 1 + 1 + 1 + 1 + 1 + 1 + 1 + 1 + 1) := by omega
theorem ce3_9 (n : Nat) : @Ne Nat (n + 1 + 1 + 1) (n + 1 + 1 + 1 + 1 + 1 + 1 + 1 + 1 + 1) := by omega
theorem ce4_9 (n : Nat) : @Ne Nat (n + 1 + 1 + 1 + 1) (n + 1 + 1 + 1 + 1 + 1 + 1 + 1 + 1 + 1) := by omega
theorem ce5_9 (n : Nat) : @Ne Nat (n + 1 + 1 + 1 + 1 + 1) (n + 1 + 1 + 1 + 1 + 1 + 1 + 1 + 1 + 1) := by omega
theorem ce6_9 (n : Nat) : @Ne Nat (n + 1 + 1 + 1 + 1 + 1 + 1) (n + 1 + 1 + 1 + 1 + 1 + 1 + 1 + 1 + 1) := by omega
theorem ce7_9 (n : Nat) : @Ne Nat (n + 1 + 1 + 1 + 1 + 1 + 1 + 1) (n + 1 + 1 + 1 + 1 + 1 + 1 + 1 + 1 + 1) := by omega
theorem ce8_9 (n : Nat) : @Ne Nat (n + 1 + 1 + 1 + 1 + 1 + 1 + 1 + 1) (n + 1 + 1 + 1 + 1 + 1 + 1 + 1 + 1 + 1) := by omega
theorem ce10_9 (n : Nat) : @Ne Nat (n + 1 + 1 + 1 + 1 + 1 + 1 + 1 + 1 + 1 + 1) (n + 1 + 1 + 1 + 1 + 1 + 1 + 1 + 1 + 1) := by omega
theorem ce11_9 (n : Nat) : @Ne Nat (n + 1 + 1 + 1 + 1 + 1 + 1 + 1 + 1 + 1 + 1 + 1) (n + 1 + 1 + 1 + 1 + 1 + 1 + 1 + 1 + 1) := by omega
theorem ce2_10 (n : Nat) : @Ne Nat (n + 1 + 1) (n + 1 + 1 + 1 + 1 + 1 + 1 + 1 + 1 + 1 + 1) := by omega
theorem ce3_10 (n : Nat) : @Ne Nat (n + 1 + 1 + 1) (n + 1 + 1 + 1 + 1 + 1 + 1 + 1 + 1 + 1 + 1) := by omega
theorem ce4_10 (n : Nat) : @Ne Nat (n + 1 + 1 + 1 + 1) (n + 1 + 1 + 1 + 1 + 1 + 1 + 1 + 1 + 1 + 1) := by omega
theorem ce5_10 (n : Nat) : @Ne Nat (n + 1 + 1 + 1 + 1 + 1) (n + 1 + 1 + 1 + 1 + 1 + 1 + 1 + 1 + 1 + 1) := by omega
theorem ce6_10 (n : Nat) : @Ne Nat (n + 1 + 1 + 1 + 1 + 1 + 1) (n + 1 + 1 + 1 + 1 + 1 + 1 + 1 + 1 + 1 + 1) := by omega
theorem ce7_10 (n : Nat) : @Ne Nat (n + 1 + 1 + 1 + 1 + 1 + 1 + 1) (n + 1 + 1 + 1 + 1 + 1 + 1 + 1 + 1 + 1 + 1) := by omega
theorem ce8_10 (n : Nat) : @Ne Nat (n + 1 + 1 + 1 + 1 + 1 + 1 + 1 + 1) (n + 1 + 1 + 1 + 1 + 1 + 1 + 1 + 1 + 1 + 1) := by omega
theorem ce9_10 (n : Nat) : @Ne Nat (n + 1 + 1 + 1 + 1 + 1 + 1 + 1 + 1 + 1) (n + 1 + 1 + 1 + 1 + 1 + 1 + 1 + 1 + 1 + 1) := by omega
theorem ce11_10 (n : Nat) : @Ne Nat (n + 1 + 1 + 1 + 1 + 1 + 1 + 1 + 1 + 1 + 1 + 1) (n + 1 + 1 + 1 + 1 + 1 + 1 + 1 + 1 + 1 + 1) := by omega
theorem ce2_11 (n : Nat) : @Ne Nat (n + 1 + 1) (n + 1 + 1 + 1 + 1 + 1 + 1 + 1 + 1 + 1 + 1 + 1) := by omega
theorem ce3_11 (n : Nat) : @Ne Nat (n + 1 + 1 + 1) (n + 1 + 1 + 1 + 1 + 1 + 1 + 1 + 1 + 1 + 1 + 1) := by omega
theorem ce4_11 (n : Nat) : @Ne Nat (n + 1 + 1 + 1 + 1) (n + 1 + 1 + 1 + 1 + 1 + 1 + 1 + 1 + 1 + 1 + 1) := by omega
theorem ce5_11 (n : Nat) : @Ne Nat (n + 1 + 1 + 1 + 1 + 1) (n + 1 + 1 + 1 + 1 + 1 + 1 + 1 + 1 + 1 + 1 + 1) := by omega
theorem ce6_11 (n : Nat) : @Ne Nat (n + 1 + 1 + 1 + 1 + 1 + 1) (n + 1 + 1 + 1 + 1 + 1 + 1 + 1 + 1 + 1 + 1 + 1) := by omega
theorem ce7_11 (n : Nat) : @Ne Nat (n + 1 + 1 + 1 + 1 + 1 + 1 + 1) (n + 1 + 1 + 1 + 1 + 1 + 1 + 1 + 1 + 1 + 1 + 1) := by omega
theorem ce8_11 (n : Nat) : @Ne Nat (n + 1 + 1 + 1 + 1 + 1 + 1 + 1 + 1) (n + 1 + 1 + 1 + 1 + 1 + 1 + 1 + 1 + 1 + 1 + 1) := by omega
theorem ce9_11 (n : Nat) : @Ne Nat (n + 1 + 1 + 1 + 1 + 1 + 1 + 1 + 1 + 1) (n + 1 + 1 + 1 + 1 + 1 + 1 + 1 + 1 + 1 + 1 + 1) := by omega
theorem ce10_11 (n : Nat) : @Ne Nat (n + 1 + 1 + 1 + 1 + 1 + 1 + 1 + 1 + 1 + 1) (n + 1 + 1 + 1 + 1 + 1 + 1 + 1 + 1 + 1 + 1 + 1) := by omega
set_option maxHeartbeats 4000000 in
theorem tail16 {w : World} {h₀ : Heap} {mean : ExcName → Option Value} {mg mb : Str → Option Value} (Y : Law w h₀ mean mg mb) {s : Shared} {fa cdA : Addr} {a d e f : Int} {t6 : Tok} {EX : Addr} {ys2 : List Value} {ss1 ss2 : List Str} {tS kN : Tok} {cd cx SO ND NX : Addr} {oS : Obj} {vE nE : Value} {EN ED : Addr} {kE : Tok} {lb : Bool} {CD CX WS : Addr} {oW : Obj} {SW : Int → Bool} {FL : Addr} {ys3 : List Value} {ss3 : List Str} {GL : Addr} {ys4 : List Value} {ss4 : List Str} {A0 B0 DL : Addr} {oA oB : Obj} {v0 : Value} {v1 : Value} {vL : Value} {o11 : Obj} {du : Str} {td2 : Tok} {es ces : List DictEntry}
  (F : Fr h₀ h₀.objs.size s.heap (fun y => if y = Str.ofString "due" then some (Value.str du td2) else if y = Str.ofString "demands" then some (Value.ref DL) else if y = Str.ofString "second" then some (Value.ref GL) else if y = Str.ofString "first" then some (Value.ref FL) else if y = Str.ofString "context" then some (Value.ref CX) else if y = Str.ofString "listed" then some (Value.bool lb) else if y = Str.ofString "cert" then some (Value.ref cx) else if y = Str.ofString "f" then some (Value.int f t6) else none))
  (N : News h₀ h₀.objs.size s.heap [(DL, PySem.W.listOf #[v0, v1] 0), (B0, oB), (A0, oA), (GL, LCg.lst ys4), (FL, LCg.lst ys3), (WS, oW), (CX, PySem.W.instObj 326 CD), (CD, PySem.W.dictOf ces 6), (EN, PySem.W.instObj 52 ED), (ED, PySem.W.dictOf [{ hash := PyData.keyHash w.params (Str.ofString "native"), key := Value.str (Str.ofString "native") kE, val := nE }] 1), (NX, PySem.W.instObj 52 ND), (ND, PySem.W.dictOf [{ hash := PyData.keyHash w.params (Str.ofString "native"), key := Value.str (Str.ofString "native") kN, val := Value.ref SO }] 1), (SO, oS), (cx, PySem.W.instObj 160 cd), (cd, PySem.W.dictOf es 24), (EX, LCg.lst ys2), (h₀.objs.size + 1 + 1 + 1 + 1 + 1 + 1 + 1 + 1 + 1 + 1 + 1, o11)])
  (hsha : getL (Str.ofString "sha1") es = some (some (Value.int 1 tS)))
  (hku : getL (Str.ofString "key_usage_value") es = some (some (Value.ref NX)))
  (hek : getL (Str.ofString "extended_key_usage_value") es = some (some (vE)))
  (hwl : getL (Str.ofString "_whitelisted_certs") ces = some (some (Value.ref WS)))
  (hnw : getL (Str.ofString "is_whitelisted") ces = some none)
  (hy2 : StrsAre ys2 ss2)
  (hs2 : Shorts ss2)
  (hS : StrSet prg w 4 oS (fun j => ss1.contains j))
  (hE : (vE = Value.none ∧ a.fmod 3 = 1) ∨ (vE = Value.ref EN ∧ nE = Value.ref EX ∧ a.fmod 3 ≠ 1))
  (hWl : SW 1 = lb)
  (hs3 : Shorts ss3)
  (hp3 : ss3 ≠ [] → (d.fdiv 16).fmod 4 ≠ 1)
  (hs4 : Shorts ss4)
  (hp4 : ss4 ≠ [] → (e.fdiv 16).fmod 4 ≠ 1)
  (hA : StrSet prg w 4 oA (fun j => ss3.contains j))
  (hB : StrSet prg w 4 oB (fun j => ss4.contains j))
  (hv0 : Pick ((d.fdiv 16).fmod 4) v0 A0 FL)
  (hv1 : Pick ((e.fdiv 16).fmod 4) v1 B0 GL)
  (d11 : o11.data = .cell (some vL))
  (hvL : (∃ t, vL = Value.int 1 t ∧ f.fmod 4 = 3) ∨ (vL = Value.bool (f.fmod 4 == 1) ∧ f.fmod 4 ≠ 3))
  (hdu : DueIs lb a d e f ss1 ss2 ss3 ss4 du)
  (c : @LT.lt Nat _ (cd) (cx) ∧ @LT.lt Nat _ (cx) (SO) ∧ @LT.lt Nat _ (SO) (ND) ∧ @LT.lt Nat _ (ND) (NX) ∧ @LT.lt Nat _ (NX) (CD) ∧ @LT.lt Nat _ (ED) (CD) ∧ @LT.lt Nat _ (EN) (CD) ∧ @LT.lt Nat _ (CD) (CX) ∧ @LT.lt Nat _ (CX) (WS) ∧ @LT.lt Nat _ (WS) (A0) ∧ @LT.lt Nat _ (A0) (B0) ∧ @LT.lt Nat _ (B0) (DL) ∧ @LT.lt Nat _ (EX) (cd) ∧ @LT.lt Nat _ (h₀.objs.size + 1 + 1 + 1 + 1 + 1 + 1 + 1 + 1 + 1 + 1 + 1) (cd) ∧ @Ne Nat (EX) (h₀.objs.size + 1 + 1 + 1 + 1 + 1 + 1 + 1 + 1 + 1 + 1 + 1) ∧ @Ne Nat (FL) (WS) ∧ @Ne Nat (GL) (WS) ∧ @Ne Nat (GL) (FL) ∧ @LT.lt Nat _ (FL) (A0) ∧ @LT.lt Nat _ (GL) (A0))
  (hW : Obj.SetObjOf (intKind prg w) oW SW 1)
  {Q : Flow → Shared → Prop} {E : Value → Shared → Prop}
  (h : ∀ (h' : Heap) (tk' : Nat) (dr : Drawn) (m' : Str → Option Value), Fr h₀ h₀.objs.size h' m' → Q (.ret (.bool true)) { s with heap := h', toks := tk', drawn := dr }) :
  wpAny (model prg w) (lawA h₀.objs.size fa (.ref cdA)) (execs (stmts 16 ++ stmts 17) (lawEnv h₀.objs.size fa (.ref cdA))) Q E s := by
  have cc : @LT.lt Nat _ (cd) (cx) ∧ @LT.lt Nat _ (cx) (SO) ∧ @LT.lt Nat _ (SO) (ND) ∧ @LT.lt Nat _ (ND) (NX) ∧ @LT.lt Nat _ (NX) (CD) ∧ @LT.lt Nat _ (ED) (CD) ∧ @LT.lt Nat _ (EN) (CD) ∧ @LT.lt Nat _ (CD) (CX) ∧ @LT.lt Nat _ (CX) (WS) ∧ @LT.lt Nat _ (WS) (A0) ∧ @LT.lt Nat _ (A0) (B0) ∧ @LT.lt Nat _ (B0) (DL) ∧ @LT.lt Nat _ (EX) (cd) ∧ @LT.lt Nat _ (h₀.objs.size + 1 + 1 + 1 + 1 + 1 + 1 + 1 + 1 + 1 + 1 + 1) (cd) ∧ @Ne Nat (EX) (h₀.objs.size + 1 + 1 + 1 + 1 + 1 + 1 + 1 + 1 + 1 + 1 + 1) := ⟨c.1, c.2.1, c.2.2.1, c.2.2.2.1, c.2.2.2.2.1, c.2.2.2.2.2.1, c.2.2.2.2.2.2.1, c.2.2.2.2.2.2.2.1, c.2.2.2.2.2.2.2.2.1, c.2.2.2.2.2.2.2.2.2.1, c.2.2.2.2.2.2.2.2.2.2.1, c.2.2.2.2.2.2.2.2.2.2.2.1, c.2.2.2.2.2.2.2.2.2.2.2.2.1, c.2.2.2.2.2.2.2.2.2.2.2.2.2.1, c.2.2.2.2.2.2.2.2.2.2.2.2.2.2.1⟩
  have wz : ∀ (h' : Heap) (tk' : Nat) (dr : Drawn) (tt : Tok), Fr h₀ h₀.objs.size h' (fun y => if y = Str.ofString "told" then some (Value.str du tt) else if y = Str.ofString "due" then some (Value.str du td2) else if y = Str.ofString "demands" then some (Value.ref DL) else if y = Str.ofString "second" then some (Value.ref GL) else if y = Str.ofString "first" then some (Value.ref FL) else if y = Str.ofString "context" then some (Value.ref CX) else if y = Str.ofString "listed" then some (Value.bool lb) else if y = Str.ofString "cert" then some (Value.ref cx) else if y = Str.ofString "f" then some (Value.int f t6) else none) → wpAny (model prg w) (lawA h₀.objs.size fa (.ref cdA)) (execs (stmts 17) (lawEnv h₀.objs.size fa (.ref cdA))) Q E { s with heap := h', toks := tk', drawn := dr } := fun h' tk' dr tt F' =>
    sg17 Y F' News.nil (fun h'' tk'' F'' _ => h h'' tk'' dr _ F'')
  refine seq ?_
  cases hlb : lb with
  | true =>
    refine @sg16a w h₀ mean mg mb Y _ fa cdA a d e f t6 EX ys2 ss1 ss2 tS kN cd cx SO ND NX oS vE nE EN ED kE lb CD CX WS oW SW FL ss3 GL ss4 A0 B0 DL oA oB v0 v1 vL o11 du td2 es ces F (news_sub N (by repeat (first | exact List.nil_sublist _ | (with_reducible exact List.Sublist.refl _) | (with_reducible refine List.Sublist.cons_cons _ ?_) | refine List.Sublist.cons _ ?_))) hsha hku hek hwl hnw hW hWl d11 hdu cc hlb _ _ ?_
    intro h' tk' dr tt F' N'
    exact wz h' tk' dr tt F'
  | false =>
    by_cases hd2 : (d.fdiv 16).fmod 4 = 2
    · have e0 : v0 = Value.ref FL := by
        rcases hv0 with ⟨h1, _⟩ | ⟨_, h1⟩ | ⟨_, h1, _⟩
        · rw [hd2] at h1; exact absurd h1 (by decide)
        · exact h1
        · exact absurd hd2 h1
      refine @sg16b w h₀ mean mg mb Y _ fa cdA a d e f t6 EX ys2 ss1 ss2 tS kN cd cx SO ND NX oS vE nE EN ED kE lb CD CX WS oW SW FL ys3 ss3 GL ys4 ss4 A0 B0 DL oA oB v0 v1 vL o11 du td2 es ces F (news_sub N (by repeat (first | exact List.nil_sublist _ | (with_reducible exact List.Sublist.refl _) | (with_reducible refine List.Sublist.cons_cons _ ?_) | refine List.Sublist.cons _ ?_))) hsha hku hek hwl hnw hW hWl hA hB d11 hdu c hlb hd2 e0 hv1 _ _ ?_
      intro h' tk' dr tt F' N'
      exact wz h' tk' dr tt F'
    have D0 : Dem v0 (fun j => ss3.contains j) A0 SO := dem_of hv0 hd2 hp3 (Nat.lt_trans c.2.2.1 (Nat.lt_trans c.2.2.2.1 (Nat.lt_trans c.2.2.2.2.1 (Nat.lt_trans c.2.2.2.2.2.2.2.1 (Nat.lt_trans c.2.2.2.2.2.2.2.2.1 c.2.2.2.2.2.2.2.2.2.1)))))
    by_cases he2 : (e.fdiv 16).fmod 4 = 2
    · have e1 : v1 = Value.ref GL := by
        rcases hv1 with ⟨h1, _⟩ | ⟨_, h1⟩ | ⟨_, h1, _⟩
        · rw [he2] at h1; exact absurd h1 (by decide)
        · exact h1
        · exact absurd he2 h1
      refine @sg16c w h₀ mean mg mb Y _ fa cdA a d e f t6 EX ys2 ss1 ss2 tS kN cd cx SO ND NX oS vE nE EN ED kE lb CD CX WS oW SW FL ys3 ss3 GL ys4 ss4 A0 B0 DL oA oB v0 v1 vL o11 du td2 es ces F (news_sub N (by repeat (first | exact List.nil_sublist _ | (with_reducible exact List.Sublist.refl _) | (with_reducible refine List.Sublist.cons_cons _ ?_) | refine List.Sublist.cons _ ?_))) hsha hku hek hwl hnw hW hWl hA hB d11 hdu c hlb he2 e1 (Nat.ne_of_gt c.2.2.2.2.2.2.2.2.2.2.1) D0 _ _ ?_
      intro h' tk' dr tt F' N'
      exact wz h' tk' dr tt F'
    have D1 : Dem v1 (fun j => ss4.contains j) B0 SO := dem_of hv1 he2 hp4 (Nat.lt_trans (Nat.lt_trans c.2.2.1 (Nat.lt_trans c.2.2.2.1 (Nat.lt_trans c.2.2.2.2.1 (Nat.lt_trans c.2.2.2.2.2.2.2.1 (Nat.lt_trans c.2.2.2.2.2.2.2.2.1 c.2.2.2.2.2.2.2.2.2.1))))) c.2.2.2.2.2.2.2.2.2.2.1)
    rcases hvL with ⟨tL, eL, hf3⟩ | ⟨eL, hf3⟩
    · rw [eL] at d11
      refine @sg16d w h₀ mean mg mb Y _ fa cdA a d e f t6 EX ys2 ss1 ss2 tS kN cd cx SO ND NX oS vE nE EN ED kE lb CD CX WS oW SW FL ss3 GL ss4 A0 B0 DL oA oB v0 v1 o11 du td2 tL es ces F (news_sub N (by repeat (first | exact List.nil_sublist _ | (with_reducible exact List.Sublist.refl _) | (with_reducible refine List.Sublist.cons_cons _ ?_) | refine List.Sublist.cons _ ?_))) hsha hku hek hwl hnw hW hWl hA hB hdu cc hlb hf3 D1 d11 (Nat.ne_of_gt c.2.2.2.2.2.2.2.2.2.2.1) D0 _ _ ?_
      intro h' tk' dr tt F' N'
      exact wz h' tk' dr tt F'
    · rw [eL] at d11
      rcases hE with ⟨hE1, ha⟩ | ⟨hE1, hE2, ha⟩
      · have hT : ∀ z, (fun (_ : Str) => !(f.fmod 4 == 1)) z = true ↔ if a.fmod 3 = 1 then f.fmod 4 ≠ 1 else ss2.contains z = false := fun z => by rw [if_pos ha]; simp
        refine @sg16e w h₀ mean mg mb Y _ fa cdA f t6 EX ys2 ss1 ss2 tS kN cd cx SO ND NX oS vE nE EN ED kE lb CD CX WS oW SW FL ss3 GL ss4 A0 B0 DL oA oB v0 v1 o11 du td2 (f.fmod 4 == 1) (fun _ => !(f.fmod 4 == 1)) es ces F (news_sub N (by repeat (first | exact List.nil_sublist _ | (with_reducible exact List.Sublist.refl _) | (with_reducible refine List.Sublist.cons_cons _ ?_) | refine List.Sublist.cons _ ?_))) hsha hku hek hwl hnw hy2 hs2 hS hW hWl hs3 hs4 hA hB cc hlb (Nat.ne_of_gt c.2.2.2.2.2.2.2.2.2.2.1) D0 D1 d11 (.no hE1 fun _ => rfl) (due3_of hdu hlb hd2 he2 hf3 hT) _ _ ?_
        intro h' tk' dr tt F' N'
        exact wz h' tk' dr tt F'
      · have hT : ∀ z, (fun (j : Str) => !ss2.contains j) z = true ↔ if a.fmod 3 = 1 then f.fmod 4 ≠ 1 else ss2.contains z = false := fun z => by rw [if_neg ha]; simp
        refine @sg16e w h₀ mean mg mb Y _ fa cdA f t6 EX ys2 ss1 ss2 tS kN cd cx SO ND NX oS vE nE EN ED kE lb CD CX WS oW SW FL ss3 GL ss4 A0 B0 DL oA oB v0 v1 o11 du td2 (f.fmod 4 == 1) (fun j => !ss2.contains j) es ces F (news_sub N (by repeat (first | exact List.nil_sublist _ | (with_reducible exact List.Sublist.refl _) | (with_reducible refine List.Sublist.cons_cons _ ?_) | refine List.Sublist.cons _ ?_))) hsha hku hek hwl hnw hy2 hs2 hS hW hWl hs3 hs4 hA hB cc hlb (Nat.ne_of_gt c.2.2.2.2.2.2.2.2.2.2.1) D0 D1 d11 (.yes hE1 hE2 fun _ => rfl) (due3_of hdu hlb hd2 he2 hf3 hT) _ _ ?_
        intro h' tk' dr tt F' N'
        exact wz h' tk' dr tt F'
set_option maxHeartbeats 4000000 in
theorem chain {w : World} {h₀ : Heap} {mean : ExcName → Option Value} {mg mb : Str → Option Value} (Y : Law w h₀ mean mg mb) {s : Shared} {fa cdA : Addr} {l : Addr} {vs : List Value} {ns : List Int} {o1 o2 o3 o4 o5 o6 o7 o8 o9 o10 o11 : Obj}
  (F : Fr h₀ h₀.objs.size s.heap (fun _ => none))
  (N : News h₀ h₀.objs.size s.heap [(h₀.objs.size + 1 + 1 + 1 + 1 + 1 + 1 + 1 + 1 + 1 + 1 + 1, o11), (h₀.objs.size + 1 + 1 + 1 + 1 + 1 + 1 + 1 + 1 + 1 + 1, o10), (h₀.objs.size + 1 + 1 + 1 + 1 + 1 + 1 + 1 + 1 + 1, o9), (h₀.objs.size + 1 + 1 + 1 + 1 + 1 + 1 + 1 + 1, o8), (h₀.objs.size + 1 + 1 + 1 + 1 + 1 + 1 + 1, o7), (h₀.objs.size + 1 + 1 + 1 + 1 + 1 + 1, o6), (h₀.objs.size + 1 + 1 + 1 + 1 + 1, o5), (h₀.objs.size + 1 + 1 + 1 + 1, o4), (h₀.objs.size + 1 + 1 + 1, o3), (h₀.objs.size + 1 + 1, o2), (h₀.objs.size + 1, o1)])
  (d1 : o1.data = .cell (some (.ref l)))
  (d2 : o2.data = .cell (none))
  (d3 : o3.data = .cell (none))
  (d4 : o4.data = .cell (none))
  (d5 : o5.data = .cell (none))
  (d6 : o6.data = .cell (none))
  (d7 : o7.data = .cell (none))
  (d8 : o8.data = .cell (none))
  (d9 : o9.data = .cell (none))
  (d10 : o10.data = .cell (none))
  (d11 : o11.data = .cell (none))
  (hl : h₀.IsList l vs.toArray)
  (hi : IntsAre vs ns)
  (hlen : ns.length ≤ 63)
  {Q : Flow → Shared → Prop} {E : Value → Shared → Prop}
  (h : ∀ (h' : Heap) (tk' : Nat) (dr : Drawn) (m' : Str → Option Value), Fr h₀ h₀.objs.size h' m' → Q (.ret (.bool true)) { s with heap := h', toks := tk', drawn := dr }) :
  wpAny (model prg w) (lawA h₀.objs.size fa (.ref cdA)) (execs (stmts 0 ++ ((stmts 1 ++ stmts 2) ++ ((stmts 3 ++ stmts 4) ++ (stmts 5 ++ ((stmts 6 ++ stmts 7) ++ (stmts 8 ++ (stmts 9 ++ (stmts 10 ++ (stmts 11 ++ (stmts 12 ++ ((stmts 13 ++ stmts 14) ++ (stmts 15 ++ (stmts 16 ++ stmts 17))))))))))))) (lawEnv h₀.objs.size fa (.ref cdA))) Q E s := by
  refine seq ?_
  refine @sg0 w h₀ mean mg mb Y _ fa cdA l vs ns o1 o2 o3 o4 o5 o6 o7 o8 o9 o10 o11 F N d1 d2 d3 d4 d5 d6 d7 d8 d9 d10 d11 hl hi hlen _ _ ?_
  intro h' tk' a b c d e f t1 t2 t3 t4 t5 t6 o2 o3 o4 o5 o6 F N d2 d3 d4 d5 d6
  show wpAny (model prg w) (lawA h₀.objs.size fa (.ref cdA)) (execs ((stmts 1 ++ stmts 2) ++ ((stmts 3 ++ stmts 4) ++ (stmts 5 ++ ((stmts 6 ++ stmts 7) ++ (stmts 8 ++ (stmts 9 ++ (stmts 10 ++ (stmts 11 ++ (stmts 12 ++ ((stmts 13 ++ stmts 14) ++ (stmts 15 ++ (stmts 16 ++ stmts 17)))))))))))) (lawEnv h₀.objs.size fa (.ref cdA))) Q E _
  refine seq ?_
  refine @sg1 w h₀ mean mg mb Y _ fa cdA b c f t2 t3 t6 o3 o4 o7 o8 o9 o10 [(h₀.objs.size + 1 + 1 + 1 + 1 + 1 + 1 + 1 + 1 + 1 + 1 + 1, o11), (h₀.objs.size + 1 + 1 + 1 + 1 + 1 + 1, o6), (h₀.objs.size + 1 + 1 + 1 + 1 + 1, o5), (h₀.objs.size + 1 + 1, o2)] F (news_cons N (by k_mem) (news_cons N (by k_mem) (news_cons N (by k_mem) (news_cons N (by k_mem) (news_cons N (by k_mem) (news_cons N (by k_mem) (news_sub N (by repeat (first | exact List.nil_sublist _ | (with_reducible exact List.Sublist.refl _) | (with_reducible refine List.Sublist.cons_cons _ ?_) | refine List.Sublist.cons _ ?_))))))))) d3 d4 d7 d8 d9 d10 (List.forall_mem_cons.mpr ⟨(ce11_7 _), (List.forall_mem_cons.mpr ⟨(ce6_7 _), (List.forall_mem_cons.mpr ⟨(ce5_7 _), (List.forall_mem_cons.mpr ⟨(ce2_7 _), (fun _ h => nomatch h)⟩)⟩)⟩)⟩) (List.forall_mem_cons.mpr ⟨(ce11_8 _), (List.forall_mem_cons.mpr ⟨(ce6_8 _), (List.forall_mem_cons.mpr ⟨(ce5_8 _), (List.forall_mem_cons.mpr ⟨(ce2_8 _), (fun _ h => nomatch h)⟩)⟩)⟩)⟩) (List.forall_mem_cons.mpr ⟨(ce11_9 _), (List.forall_mem_cons.mpr ⟨(ce6_9 _), (List.forall_mem_cons.mpr ⟨(ce5_9 _), (List.forall_mem_cons.mpr ⟨(ce2_9 _), (fun _ h => nomatch h)⟩)⟩)⟩)⟩) (List.forall_mem_cons.mpr ⟨(ce11_10 _), (List.forall_mem_cons.mpr ⟨(ce6_10 _), (List.forall_mem_cons.mpr ⟨(ce5_10 _), (List.forall_mem_cons.mpr ⟨(ce2_10 _), (fun _ h => nomatch h)⟩)⟩)⟩)⟩) _ _ ?_
  intro h' tk' u1 u2 u3 u4 u5 u6 u7 u8 U M OW EX ys1 ys2 ss1 ss2 o7 o8 o9 o10 F N d7 d8 d9 d10 hy1 hs1 hy2 hs2 gU gM gOW gEX
  show wpAny (model prg w) (lawA h₀.objs.size fa (.ref cdA)) (execs ((stmts 3 ++ stmts 4) ++ (stmts 5 ++ ((stmts 6 ++ stmts 7) ++ (stmts 8 ++ (stmts 9 ++ (stmts 10 ++ (stmts 11 ++ (stmts 12 ++ ((stmts 13 ++ stmts 14) ++ (stmts 15 ++ (stmts 16 ++ stmts 17))))))))))) (lawEnv h₀.objs.size fa (.ref cdA))) Q E _
  refine seq ?_
  refine @sg3 w h₀ mean mg mb Y _ fa cdA f t6 OW ys1 ss1 o9 [(EX, LCg.lst ys2), (M, PySem.W.listOf #[Value.str (Str.ofString "client_auth") u5, Value.str (Str.ofString "code_signing") u6, Value.str (Str.ofString "server_auth") u7, Value.str (Str.ofString "1.3.6.1") u8] 0), (U, PySem.W.listOf #[Value.str (Str.ofString "crl_sign") u1, Value.str (Str.ofString "digital_signature") u2, Value.str (Str.ofString "key_cert_sign") u3, Value.str (Str.ofString "non_repudiation") u4] 0), (h₀.objs.size + 1 + 1 + 1 + 1 + 1 + 1 + 1 + 1 + 1 + 1, o10), (h₀.objs.size + 1 + 1 + 1 + 1 + 1 + 1 + 1 + 1, o8), (h₀.objs.size + 1 + 1 + 1 + 1 + 1 + 1 + 1, o7), (h₀.objs.size + 1 + 1 + 1 + 1 + 1 + 1 + 1 + 1 + 1 + 1 + 1, o11), (h₀.objs.size + 1 + 1 + 1 + 1 + 1 + 1, o6), (h₀.objs.size + 1 + 1 + 1 + 1 + 1, o5), (h₀.objs.size + 1 + 1, o2)] F (news_cons N (by k_mem) (news_cons N (by k_mem) (news_sub N (by repeat (first | exact List.nil_sublist _ | (with_reducible exact List.Sublist.refl _) | (with_reducible refine List.Sublist.cons_cons _ ?_) | refine List.Sublist.cons _ ?_))))) d9 hy1 hs1 _ _ ?_
  intro h' tk' k1 k2 k3 k4 k5 k6 k7 k8 k9 k10 k11 k12 k13 k14 k15 k16 k17 k18 k19 k20 k21 k22 k23 k24 tS kN z1 z3 z4 z5 z6 z7 z8 z9 z10 z11 z12 z13 z14 z15 z16 z17 z20 z21 z22 z23 z24 cd cx SO ND NX oS F N hS gcd c2
  show wpAny (model prg w) (lawA h₀.objs.size fa (.ref cdA)) (execs (stmts 5 ++ ((stmts 6 ++ stmts 7) ++ (stmts 8 ++ (stmts 9 ++ (stmts 10 ++ (stmts 11 ++ (stmts 12 ++ ((stmts 13 ++ stmts 14) ++ (stmts 15 ++ (stmts 16 ++ stmts 17)))))))))) (lawEnv h₀.objs.size fa (.ref cdA))) Q E _
  refine seq ?_
  refine @sg5 w h₀ mean mg mb Y _ fa cdA a f t1 t6 EX o2 o10 k1 k2 k3 k4 k5 k6 k7 k8 k9 k10 k11 k12 k13 k14 k15 k16 k17 k18 k19 k20 k21 k22 k23 k24 tS kN z1 z3 z4 z5 z6 z7 z8 z9 z10 z11 z12 z13 z14 z15 z16 z17 z20 z21 z22 z23 z24 cd cx SO ND NX [(SO, oS), (OW, LCg.lst ys1), (h₀.objs.size + 1 + 1 + 1 + 1 + 1 + 1 + 1 + 1 + 1, o9), (EX, LCg.lst ys2), (M, PySem.W.listOf #[Value.str (Str.ofString "client_auth") u5, Value.str (Str.ofString "code_signing") u6, Value.str (Str.ofString "server_auth") u7, Value.str (Str.ofString "1.3.6.1") u8] 0), (U, PySem.W.listOf #[Value.str (Str.ofString "crl_sign") u1, Value.str (Str.ofString "digital_signature") u2, Value.str (Str.ofString "key_cert_sign") u3, Value.str (Str.ofString "non_repudiation") u4] 0), (h₀.objs.size + 1 + 1 + 1 + 1 + 1 + 1 + 1 + 1, o8), (h₀.objs.size + 1 + 1 + 1 + 1 + 1 + 1 + 1, o7), (h₀.objs.size + 1 + 1 + 1 + 1 + 1 + 1 + 1 + 1 + 1 + 1 + 1, o11), (h₀.objs.size + 1 + 1 + 1 + 1 + 1 + 1, o6), (h₀.objs.size + 1 + 1 + 1 + 1 + 1, o5)] F (news_cons N (by k_mem) (news_cons N (by k_mem) (news_cons N (by k_mem) (news_cons N (by k_mem) (news_cons N (by k_mem) (news_cons N (by k_mem) (news_sub N (by repeat (first | exact List.nil_sublist _ | (with_reducible exact List.Sublist.refl _) | (with_reducible refine List.Sublist.cons_cons _ ?_) | refine List.Sublist.cons _ ?_))))))))) d2 d10 ⟨c2.1, (Nat.lt_trans c2.2.1 c2.2.2.1), c2.2.2.2, gcd.2.2.2.2.2.1, gcd.2.2.2.2.2.2.2.2.2.2.2.1⟩ (List.forall_mem_cons.mpr ⟨(Nat.ne_of_gt (Nat.lt_trans c2.1 c2.2.1)), (List.forall_mem_cons.mpr ⟨(Nat.ne_of_lt gcd.1), (List.forall_mem_cons.mpr ⟨(Nat.ne_of_lt gcd.2.1), (List.forall_mem_cons.mpr ⟨(Nat.ne_of_lt gcd.2.2.1), (List.forall_mem_cons.mpr ⟨(Nat.ne_of_lt gcd.2.2.2.1), (List.forall_mem_cons.mpr ⟨(Nat.ne_of_lt gcd.2.2.2.2.1), (List.forall_mem_cons.mpr ⟨(Nat.ne_of_lt gcd.2.2.2.2.2.2.1), (List.forall_mem_cons.mpr ⟨(Nat.ne_of_lt gcd.2.2.2.2.2.2.2.1), (List.forall_mem_cons.mpr ⟨(Nat.ne_of_lt gcd.2.2.2.2.2.2.2.2.1), (List.forall_mem_cons.mpr ⟨(Nat.ne_of_lt gcd.2.2.2.2.2.2.2.2.2.1), (List.forall_mem_cons.mpr ⟨(Nat.ne_of_lt gcd.2.2.2.2.2.2.2.2.2.2.1), (fun _ h => nomatch h)⟩)⟩)⟩)⟩)⟩)⟩)⟩)⟩)⟩)⟩)⟩) _ _ ?_
  intro h' tk' vE nE EN ED kE F N hE
  show wpAny (model prg w) (lawA h₀.objs.size fa (.ref cdA)) (execs ((stmts 6 ++ stmts 7) ++ (stmts 8 ++ (stmts 9 ++ (stmts 10 ++ (stmts 11 ++ (stmts 12 ++ ((stmts 13 ++ stmts 14) ++ (stmts 15 ++ (stmts 16 ++ stmts 17))))))))) (lawEnv h₀.objs.size fa (.ref cdA))) Q E _
  have lND : @LT.lt Nat _ (h₀.objs.size + 1 + 1 + 1 + 1 + 1 + 1 + 1 + 1 + 1 + 1 + 1) (ND) := (Nat.lt_trans gcd.2.2.2.2.2.2.2.2.1 (Nat.lt_trans c2.1 (Nat.lt_trans c2.2.1 c2.2.2.1)))
  have lNX : @LT.lt Nat _ (h₀.objs.size + 1 + 1 + 1 + 1 + 1 + 1 + 1 + 1 + 1 + 1 + 1) (NX) := (Nat.lt_trans gcd.2.2.2.2.2.2.2.2.1 (Nat.lt_trans c2.1 (Nat.lt_trans c2.2.1 (Nat.lt_trans c2.2.2.1 c2.2.2.2))))
  have lED : @LT.lt Nat _ (h₀.objs.size + 1 + 1 + 1 + 1 + 1 + 1 + 1 + 1 + 1 + 1 + 1) (ED) := by
    rcases hE with ⟨_, _, _, e2⟩ | ⟨_, _, _, h1, _⟩
    · rw [e2]; exact lND
    · exact Nat.lt_trans lNX h1
  have lEN : @LT.lt Nat _ (h₀.objs.size + 1 + 1 + 1 + 1 + 1 + 1 + 1 + 1 + 1 + 1 + 1) (EN) := by
    rcases hE with ⟨_, _, e1, _⟩ | ⟨_, _, _, h1, h2, _⟩
    · rw [e1]; exact lNX
    · exact Nat.lt_trans lNX (Nat.lt_trans h1 h2)
  have hE2 : (vE = Value.none ∧ a.fmod 3 = 1) ∨ (vE = Value.ref EN ∧ nE = Value.ref EX ∧ a.fmod 3 ≠ 1) := by
    rcases hE with ⟨e1, e2, _, _⟩ | ⟨e1, e2, e3, _, _, _⟩
    · exact .inl ⟨e1, e2⟩
    · exact .inr ⟨e1, e2, e3⟩
  refine seq ?_
  refine @sg6 w h₀ mean mg mb Y _ fa cdA a f t1 t6 o2 [{ hash := PyData.keyHash w.params (Str.ofString "signature"), key := Value.str (Str.ofString "signature") k1, val := z1 }, { hash := PyData.keyHash w.params (Str.ofString "sha1"), key := Value.str (Str.ofString "sha1") k2, val := Value.int 1 tS }, { hash := PyData.keyHash w.params (Str.ofString "sha256"), key := Value.str (Str.ofString "sha256") k3, val := z3 }, { hash := PyData.keyHash w.params (Str.ofString "serial_number"), key := Value.str (Str.ofString "serial_number") k4, val := z4 }, { hash := PyData.keyHash w.params (Str.ofString "subject"), key := Value.str (Str.ofString "subject") k5, val := z5 }, { hash := PyData.keyHash w.params (Str.ofString "issuer"), key := Value.str (Str.ofString "issuer") k6, val := z6 }, { hash := PyData.keyHash w.params (Str.ofString "public_key"), key := Value.str (Str.ofString "public_key") k7, val := z7 }, { hash := PyData.keyHash w.params (Str.ofString "signer"), key := Value.str (Str.ofString "signer") k8, val := z8 }, { hash := PyData.keyHash w.params (Str.ofString "signature_algo"), key := Value.str (Str.ofString "signature_algo") k9, val := z9 }, { hash := PyData.keyHash w.params (Str.ofString "hash_algo"), key := Value.str (Str.ofString "hash_algo") k10, val := z10 }, { hash := PyData.keyHash w.params (Str.ofString "not_before"), key := Value.str (Str.ofString "not_before") k11, val := z11 }, { hash := PyData.keyHash w.params (Str.ofString "not_after"), key := Value.str (Str.ofString "not_after") k12, val := z12 }, { hash := PyData.keyHash w.params (Str.ofString "ca"), key := Value.str (Str.ofString "ca") k13, val := z13 }, { hash := PyData.keyHash w.params (Str.ofString "max_path_length"), key := Value.str (Str.ofString "max_path_length") k14, val := z14 }, { hash := PyData.keyHash w.params (Str.ofString "key_identifier"), key := Value.str (Str.ofString "key_identifier") k15, val := z15 }, { hash := PyData.keyHash w.params (Str.ofString "authority_key_identifier"), key := Value.str (Str.ofString "authority_key_identifier") k16, val := z16 }, { hash := PyData.keyHash w.params (Str.ofString "authority_issuer_serial"), key := Value.str (Str.ofString "authority_issuer_serial") k17, val := z17 }, { hash := PyData.keyHash w.params (Str.ofString "key_usage_value"), key := Value.str (Str.ofString "key_usage_value") k18, val := Value.ref NX }, { hash := PyData.keyHash w.params (Str.ofString "extended_key_usage_value"), key := Value.str (Str.ofString "extended_key_usage_value") k19, val := vE }, { hash := PyData.keyHash w.params (Str.ofString "certificate_policies_value"), key := Value.str (Str.ofString "certificate_policies_value") k20, val := z20 }, { hash := PyData.keyHash w.params (Str.ofString "policy_mappings_value"), key := Value.str (Str.ofString "policy_mappings_value") k21, val := z21 }, { hash := PyData.keyHash w.params (Str.ofString "policy_constraints_value"), key := Value.str (Str.ofString "policy_constraints_value") k22, val := z22 }, { hash := PyData.keyHash w.params (Str.ofString "inhibit_any_policy_value"), key := Value.str (Str.ofString "inhibit_any_policy_value") k23, val := z23 }, { hash := PyData.keyHash w.params (Str.ofString "critical_extensions"), key := Value.str (Str.ofString "critical_extensions") k24, val := z24 }] tS cd cx [(EN, PySem.W.instObj 52 ED), (ED, PySem.W.dictOf [{ hash := PyData.keyHash w.params (Str.ofString "native"), key := Value.str (Str.ofString "native") kE, val := nE }] 1), (NX, PySem.W.instObj 52 ND), (ND, PySem.W.dictOf [{ hash := PyData.keyHash w.params (Str.ofString "native"), key := Value.str (Str.ofString "native") kN, val := Value.ref SO }] 1), (h₀.objs.size + 1 + 1 + 1 + 1 + 1 + 1 + 1 + 1 + 1 + 1, o10), (SO, oS), (OW, LCg.lst ys1), (h₀.objs.size + 1 + 1 + 1 + 1 + 1 + 1 + 1 + 1 + 1, o9), (EX, LCg.lst ys2), (M, PySem.W.listOf #[Value.str (Str.ofString "client_auth") u5, Value.str (Str.ofString "code_signing") u6, Value.str (Str.ofString "server_auth") u7, Value.str (Str.ofString "1.3.6.1") u8] 0), (U, PySem.W.listOf #[Value.str (Str.ofString "crl_sign") u1, Value.str (Str.ofString "digital_signature") u2, Value.str (Str.ofString "key_cert_sign") u3, Value.str (Str.ofString "non_repudiation") u4] 0), (h₀.objs.size + 1 + 1 + 1 + 1 + 1 + 1 + 1 + 1, o8), (h₀.objs.size + 1 + 1 + 1 + 1 + 1 + 1 + 1, o7), (h₀.objs.size + 1 + 1 + 1 + 1 + 1 + 1 + 1 + 1 + 1 + 1 + 1, o11), (h₀.objs.size + 1 + 1 + 1 + 1 + 1 + 1, o6), (h₀.objs.size + 1 + 1 + 1 + 1 + 1, o5)] F (news_cons N (by k_mem) (news_cons N (by k_mem) (news_cons N (by k_mem) (news_sub N (by repeat (first | exact List.nil_sublist _ | (with_reducible exact List.Sublist.refl _) | (with_reducible refine List.Sublist.cons_cons _ ?_) | refine List.Sublist.cons _ ?_)))))) d2 rfl c2.1 _ _ ?_
  intro h' tk' lb CD CX WS q1 q2 q3 q4 q5 q6 y1 y2 y3 y4 y5 oW SW F N hW hWl gCD c4
  show wpAny (model prg w) (lawA h₀.objs.size fa (.ref cdA)) (execs (stmts 8 ++ (stmts 9 ++ (stmts 10 ++ (stmts 11 ++ (stmts 12 ++ ((stmts 13 ++ stmts 14) ++ (stmts 15 ++ (stmts 16 ++ stmts 17)))))))) (lawEnv h₀.objs.size fa (.ref cdA))) Q E _
  refine seq ?_
  refine @sg8 w h₀ mean mg mb Y _ fa cdA d f t4 t6 u1 u2 u3 u4 U cx CX lb o5 o7 [(WS, oW), (CX, PySem.W.instObj 326 CD), (CD, PySem.W.dictOf [{ hash := PyData.keyHash w.params (Str.ofString "_whitelisted_certs"), key := Value.str (Str.ofString "_whitelisted_certs") q1, val := Value.ref WS }, { hash := PyData.keyHash w.params (Str.ofString "certificate_registry"), key := Value.str (Str.ofString "certificate_registry") q2, val := y1 }, { hash := PyData.keyHash w.params (Str.ofString "moment"), key := Value.str (Str.ofString "moment") q3, val := y2 }, { hash := PyData.keyHash w.params (Str.ofString "_validate_map"), key := Value.str (Str.ofString "_validate_map") q4, val := y3 }, { hash := PyData.keyHash w.params (Str.ofString "weak_hash_algos"), key := Value.str (Str.ofString "weak_hash_algos") q5, val := y4 }, { hash := PyData.keyHash w.params (Str.ofString "verify"), key := Value.str (Str.ofString "verify") q6, val := y5 }] 6), (cx, PySem.W.instObj 160 cd), (cd, PySem.W.dictOf [{ hash := PyData.keyHash w.params (Str.ofString "signature"), key := Value.str (Str.ofString "signature") k1, val := z1 }, { hash := PyData.keyHash w.params (Str.ofString "sha1"), key := Value.str (Str.ofString "sha1") k2, val := Value.int 1 tS }, { hash := PyData.keyHash w.params (Str.ofString "sha256"), key := Value.str (Str.ofString "sha256") k3, val := z3 }, { hash := PyData.keyHash w.params (Str.ofString "serial_number"), key := Value.str (Str.ofString "serial_number") k4, val := z4 }, { hash := PyData.keyHash w.params (Str.ofString "subject"), key := Value.str (Str.ofString "subject") k5, val := z5 }, { hash := PyData.keyHash w.params (Str.ofString "issuer"), key := Value.str (Str.ofString "issuer") k6, val := z6 }, { hash := PyData.keyHash w.params (Str.ofString "public_key"), key := Value.str (Str.ofString "public_key") k7, val := z7 }, { hash := PyData.keyHash w.params (Str.ofString "signer"), key := Value.str (Str.ofString "signer") k8, val := z8 }, { hash := PyData.keyHash w.params (Str.ofString "signature_algo"), key := Value.str (Str.ofString "signature_algo") k9, val := z9 }, { hash := PyData.keyHash w.params (Str.ofString "hash_algo"), key := Value.str (Str.ofString "hash_algo") k10, val := z10 }, { hash := PyData.keyHash w.params (Str.ofString "not_before"), key := Value.str (Str.ofString "not_before") k11, val := z11 }, { hash := PyData.keyHash w.params (Str.ofString "not_after"), key := Value.str (Str.ofString "not_after") k12, val := z12 }, { hash := PyData.keyHash w.params (Str.ofString "ca"), key := Value.str (Str.ofString "ca") k13, val := z13 }, { hash := PyData.keyHash w.params (Str.ofString "max_path_length"), key := Value.str (Str.ofString "max_path_length") k14, val := z14 }, { hash := PyData.keyHash w.params (Str.ofString "key_identifier"), key := Value.str (Str.ofString "key_identifier") k15, val := z15 }, { hash := PyData.keyHash w.params (Str.ofString "authority_key_identifier"), key := Value.str (Str.ofString "authority_key_identifier") k16, val := z16 }, { hash := PyData.keyHash w.params (Str.ofString "authority_issuer_serial"), key := Value.str (Str.ofString "authority_issuer_serial") k17, val := z17 }, { hash := PyData.keyHash w.params (Str.ofString "key_usage_value"), key := Value.str (Str.ofString "key_usage_value") k18, val := Value.ref NX }, { hash := PyData.keyHash w.params (Str.ofString "extended_key_usage_value"), key := Value.str (Str.ofString "extended_key_usage_value") k19, val := vE }, { hash := PyData.keyHash w.params (Str.ofString "certificate_policies_value"), key := Value.str (Str.ofString "certificate_policies_value") k20, val := z20 }, { hash := PyData.keyHash w.params (Str.ofString "policy_mappings_value"), key := Value.str (Str.ofString "policy_mappings_value") k21, val := z21 }, { hash := PyData.keyHash w.params (Str.ofString "policy_constraints_value"), key := Value.str (Str.ofString "policy_constraints_value") k22, val := z22 }, { hash := PyData.keyHash w.params (Str.ofString "inhibit_any_policy_value"), key := Value.str (Str.ofString "inhibit_any_policy_value") k23, val := z23 }, { hash := PyData.keyHash w.params (Str.ofString "critical_extensions"), key := Value.str (Str.ofString "critical_extensions") k24, val := z24 }] 24), (h₀.objs.size + 1 + 1, o2), (EN, PySem.W.instObj 52 ED), (ED, PySem.W.dictOf [{ hash := PyData.keyHash w.params (Str.ofString "native"), key := Value.str (Str.ofString "native") kE, val := nE }] 1), (NX, PySem.W.instObj 52 ND), (ND, PySem.W.dictOf [{ hash := PyData.keyHash w.params (Str.ofString "native"), key := Value.str (Str.ofString "native") kN, val := Value.ref SO }] 1), (h₀.objs.size + 1 + 1 + 1 + 1 + 1 + 1 + 1 + 1 + 1 + 1, o10), (SO, oS), (OW, LCg.lst ys1), (h₀.objs.size + 1 + 1 + 1 + 1 + 1 + 1 + 1 + 1 + 1, o9), (EX, LCg.lst ys2), (M, PySem.W.listOf #[Value.str (Str.ofString "client_auth") u5, Value.str (Str.ofString "code_signing") u6, Value.str (Str.ofString "server_auth") u7, Value.str (Str.ofString "1.3.6.1") u8] 0), (h₀.objs.size + 1 + 1 + 1 + 1 + 1 + 1 + 1 + 1, o8), (h₀.objs.size + 1 + 1 + 1 + 1 + 1 + 1 + 1 + 1 + 1 + 1 + 1, o11), (h₀.objs.size + 1 + 1 + 1 + 1 + 1 + 1, o6)] F (news_cons N (by k_mem) (news_cons N (by k_mem) (news_cons N (by k_mem) (news_sub N (by repeat (first | exact List.nil_sublist _ | (with_reducible exact List.Sublist.refl _) | (with_reducible refine List.Sublist.cons_cons _ ?_) | refine List.Sublist.cons _ ?_)))))) d5 d7 ⟨gU.2.2.2.2.2.2.2.2.1, gU.2.2.2.1⟩ _ _ ?_
  intro h' tk' FL ys3 ss3 F N hy3 hs3 hp3 gFL
  show wpAny (model prg w) (lawA h₀.objs.size fa (.ref cdA)) (execs (stmts 9 ++ (stmts 10 ++ (stmts 11 ++ (stmts 12 ++ ((stmts 13 ++ stmts 14) ++ (stmts 15 ++ (stmts 16 ++ stmts 17))))))) (lawEnv h₀.objs.size fa (.ref cdA))) Q E _
  refine seq ?_
  refine @sg9 w h₀ mean mg mb Y _ fa cdA e f t5 t6 u5 u6 u7 u8 M cx CX FL lb o6 o8 [(FL, LCg.lst ys3), (U, PySem.W.listOf #[Value.str (Str.ofString "crl_sign") u1, Value.str (Str.ofString "digital_signature") u2, Value.str (Str.ofString "key_cert_sign") u3, Value.str (Str.ofString "non_repudiation") u4] 0), (h₀.objs.size + 1 + 1 + 1 + 1 + 1 + 1 + 1, o7), (h₀.objs.size + 1 + 1 + 1 + 1 + 1, o5), (WS, oW), (CX, PySem.W.instObj 326 CD), (CD, PySem.W.dictOf [{ hash := PyData.keyHash w.params (Str.ofString "_whitelisted_certs"), key := Value.str (Str.ofString "_whitelisted_certs") q1, val := Value.ref WS }, { hash := PyData.keyHash w.params (Str.ofString "certificate_registry"), key := Value.str (Str.ofString "certificate_registry") q2, val := y1 }, { hash := PyData.keyHash w.params (Str.ofString "moment"), key := Value.str (Str.ofString "moment") q3, val := y2 }, { hash := PyData.keyHash w.params (Str.ofString "_validate_map"), key := Value.str (Str.ofString "_validate_map") q4, val := y3 }, { hash := PyData.keyHash w.params (Str.ofString "weak_hash_algos"), key := Value.str (Str.ofString "weak_hash_algos") q5, val := y4 }, { hash := PyData.keyHash w.params (Str.ofString "verify"), key := Value.str (Str.ofString "verify") q6, val := y5 }] 6), (cx, PySem.W.instObj 160 cd), (cd, PySem.W.dictOf [{ hash := PyData.keyHash w.params (Str.ofString "signature"), key := Value.str (Str.ofString "signature") k1, val := z1 }, { hash := PyData.keyHash w.params (Str.ofString "sha1"), key := Value.str (Str.ofString "sha1") k2, val := Value.int 1 tS }, { hash := PyData.keyHash w.params (Str.ofString "sha256"), key := Value.str (Str.ofString "sha256") k3, val := z3 }, { hash := PyData.keyHash w.params (Str.ofString "serial_number"), key := Value.str (Str.ofString "serial_number") k4, val := z4 }, { hash := PyData.keyHash w.params (Str.ofString "subject"), key := Value.str (Str.ofString "subject") k5, val := z5 }, { hash := PyData.keyHash w.params (Str.ofString "issuer"), key := Value.str (Str.ofString "issuer") k6, val := z6 }, { hash := PyData.keyHash w.params (Str.ofString "public_key"), key := Value.str (Str.ofString "public_key") k7, val := z7 }, { hash := PyData.keyHash w.params (Str.ofString "signer"), key := Value.str (Str.ofString "signer") k8, val := z8 }, { hash := PyData.keyHash w.params (Str.ofString "signature_algo"), key := Value.str (Str.ofString "signature_algo") k9, val := z9 }, { hash := PyData.keyHash w.params (Str.ofString "hash_algo"), key := Value.str (Str.ofString "hash_algo") k10, val := z10 }, { hash := PyData.keyHash w.params (Str.ofString "not_before"), key := Value.str (Str.ofString "not_before") k11, val := z11 }, { hash := PyData.keyHash w.params (Str.ofString "not_after"), key := Value.str (Str.ofString "not_after") k12, val := z12 }, { hash := PyData.keyHash w.params (Str.ofString "ca"), key := Value.str (Str.ofString "ca") k13, val := z13 }, { hash := PyData.keyHash w.params (Str.ofString "max_path_length"), key := Value.str (Str.ofString "max_path_length") k14, val := z14 }, { hash := PyData.keyHash w.params (Str.ofString "key_identifier"), key := Value.str (Str.ofString "key_identifier") k15, val := z15 }, { hash := PyData.keyHash w.params (Str.ofString "authority_key_identifier"), key := Value.str (Str.ofString "authority_key_identifier") k16, val := z16 }, { hash := PyData.keyHash w.params (Str.ofString "authority_issuer_serial"), key := Value.str (Str.ofString "authority_issuer_serial") k17, val := z17 }, { hash := PyData.keyHash w.params (Str.ofString "key_usage_value"), key := Value.str (Str.ofString "key_usage_value") k18, val := Value.ref NX }, { hash := PyData.keyHash w.params (Str.ofString "extended_key_usage_value"), key := Value.str (Str.ofString "extended_key_usage_value") k19, val := vE }, { hash := PyData.keyHash w.params (Str.ofString "certificate_policies_value"), key := Value.str (Str.ofString "certificate_policies_value") k20, val := z20 }, { hash := PyData.keyHash w.params (Str.ofString "policy_mappings_value"), key := Value.str (Str.ofString "policy_mappings_value") k21, val := z21 }, { hash := PyData.keyHash w.params (Str.ofString "policy_constraints_value"), key := Value.str (Str.ofString "policy_constraints_value") k22, val := z22 }, { hash := PyData.keyHash w.params (Str.ofString "inhibit_any_policy_value"), key := Value.str (Str.ofString "inhibit_any_policy_value") k23, val := z23 }, { hash := PyData.keyHash w.params (Str.ofString "critical_extensions"), key := Value.str (Str.ofString "critical_extensions") k24, val := z24 }] 24), (h₀.objs.size + 1 + 1, o2), (EN, PySem.W.instObj 52 ED), (ED, PySem.W.dictOf [{ hash := PyData.keyHash w.params (Str.ofString "native"), key := Value.str (Str.ofString "native") kE, val := nE }] 1), (NX, PySem.W.instObj 52 ND), (ND, PySem.W.dictOf [{ hash := PyData.keyHash w.params (Str.ofString "native"), key := Value.str (Str.ofString "native") kN, val := Value.ref SO }] 1), (h₀.objs.size + 1 + 1 + 1 + 1 + 1 + 1 + 1 + 1 + 1 + 1, o10), (SO, oS), (OW, LCg.lst ys1), (h₀.objs.size + 1 + 1 + 1 + 1 + 1 + 1 + 1 + 1 + 1, o9), (EX, LCg.lst ys2), (h₀.objs.size + 1 + 1 + 1 + 1 + 1 + 1 + 1 + 1 + 1 + 1 + 1, o11)] F (news_cons N (by k_mem) (news_cons N (by k_mem) (news_cons N (by k_mem) (news_sub N (by repeat (first | exact List.nil_sublist _ | (with_reducible exact List.Sublist.refl _) | (with_reducible refine List.Sublist.cons_cons _ ?_) | refine List.Sublist.cons _ ?_)))))) d6 d8 ⟨gM.2.2.2.2.2.2.2.2.1, gM.2.2.2.1⟩ _ _ ?_
  intro h' tk' GL ys4 ss4 F N hy4 hs4 hp4 gGL
  show wpAny (model prg w) (lawA h₀.objs.size fa (.ref cdA)) (execs (stmts 10 ++ (stmts 11 ++ (stmts 12 ++ ((stmts 13 ++ stmts 14) ++ (stmts 15 ++ (stmts 16 ++ stmts 17)))))) (lawEnv h₀.objs.size fa (.ref cdA))) Q E _
  refine seq ?_
  refine @sg10 w h₀ mean mg mb Y _ fa cdA f t6 cx CX FL GL lb ys3 ys4 ss3 ss4 [(M, PySem.W.listOf #[Value.str (Str.ofString "client_auth") u5, Value.str (Str.ofString "code_signing") u6, Value.str (Str.ofString "server_auth") u7, Value.str (Str.ofString "1.3.6.1") u8] 0), (h₀.objs.size + 1 + 1 + 1 + 1 + 1 + 1 + 1 + 1, o8), (h₀.objs.size + 1 + 1 + 1 + 1 + 1 + 1, o6), (U, PySem.W.listOf #[Value.str (Str.ofString "crl_sign") u1, Value.str (Str.ofString "digital_signature") u2, Value.str (Str.ofString "key_cert_sign") u3, Value.str (Str.ofString "non_repudiation") u4] 0), (h₀.objs.size + 1 + 1 + 1 + 1 + 1 + 1 + 1, o7), (h₀.objs.size + 1 + 1 + 1 + 1 + 1, o5), (WS, oW), (CX, PySem.W.instObj 326 CD), (CD, PySem.W.dictOf [{ hash := PyData.keyHash w.params (Str.ofString "_whitelisted_certs"), key := Value.str (Str.ofString "_whitelisted_certs") q1, val := Value.ref WS }, { hash := PyData.keyHash w.params (Str.ofString "certificate_registry"), key := Value.str (Str.ofString "certificate_registry") q2, val := y1 }, { hash := PyData.keyHash w.params (Str.ofString "moment"), key := Value.str (Str.ofString "moment") q3, val := y2 }, { hash := PyData.keyHash w.params (Str.ofString "_validate_map"), key := Value.str (Str.ofString "_validate_map") q4, val := y3 }, { hash := PyData.keyHash w.params (Str.ofString "weak_hash_algos"), key := Value.str (Str.ofString "weak_hash_algos") q5, val := y4 }, { hash := PyData.keyHash w.params (Str.ofString "verify"), key := Value.str (Str.ofString "verify") q6, val := y5 }] 6), (cx, PySem.W.instObj 160 cd), (cd, PySem.W.dictOf [{ hash := PyData.keyHash w.params (Str.ofString "signature"), key := Value.str (Str.ofString "signature") k1, val := z1 }, { hash := PyData.keyHash w.params (Str.ofString "sha1"), key := Value.str (Str.ofString "sha1") k2, val := Value.int 1 tS }, { hash := PyData.keyHash w.params (Str.ofString "sha256"), key := Value.str (Str.ofString "sha256") k3, val := z3 }, { hash := PyData.keyHash w.params (Str.ofString "serial_number"), key := Value.str (Str.ofString "serial_number") k4, val := z4 }, { hash := PyData.keyHash w.params (Str.ofString "subject"), key := Value.str (Str.ofString "subject") k5, val := z5 }, { hash := PyData.keyHash w.params (Str.ofString "issuer"), key := Value.str (Str.ofString "issuer") k6, val := z6 }, { hash := PyData.keyHash w.params (Str.ofString "public_key"), key := Value.str (Str.ofString "public_key") k7, val := z7 }, { hash := PyData.keyHash w.params (Str.ofString "signer"), key := Value.str (Str.ofString "signer") k8, val := z8 }, { hash := PyData.keyHash w.params (Str.ofString "signature_algo"), key := Value.str (Str.ofString "signature_algo") k9, val := z9 }, { hash := PyData.keyHash w.params (Str.ofString "hash_algo"), key := Value.str (Str.ofString "hash_algo") k10, val := z10 }, { hash := PyData.keyHash w.params (Str.ofString "not_before"), key := Value.str (Str.ofString "not_before") k11, val := z11 }, { hash := PyData.keyHash w.params (Str.ofString "not_after"), key := Value.str (Str.ofString "not_after") k12, val := z12 }, { hash := PyData.keyHash w.params (Str.ofString "ca"), key := Value.str (Str.ofString "ca") k13, val := z13 }, { hash := PyData.keyHash w.params (Str.ofString "max_path_length"), key := Value.str (Str.ofString "max_path_length") k14, val := z14 }, { hash := PyData.keyHash w.params (Str.ofString "key_identifier"), key := Value.str (Str.ofString "key_identifier") k15, val := z15 }, { hash := PyData.keyHash w.params (Str.ofString "authority_key_identifier"), key := Value.str (Str.ofString "authority_key_identifier") k16, val := z16 }, { hash := PyData.keyHash w.params (Str.ofString "authority_issuer_serial"), key := Value.str (Str.ofString "authority_issuer_serial") k17, val := z17 }, { hash := PyData.keyHash w.params (Str.ofString "key_usage_value"), key := Value.str (Str.ofString "key_usage_value") k18, val := Value.ref NX }, { hash := PyData.keyHash w.params (Str.ofString "extended_key_usage_value"), key := Value.str (Str.ofString "extended_key_usage_value") k19, val := vE }, { hash := PyData.keyHash w.params (Str.ofString "certificate_policies_value"), key := Value.str (Str.ofString "certificate_policies_value") k20, val := z20 }, { hash := PyData.keyHash w.params (Str.ofString "policy_mappings_value"), key := Value.str (Str.ofString "policy_mappings_value") k21, val := z21 }, { hash := PyData.keyHash w.params (Str.ofString "policy_constraints_value"), key := Value.str (Str.ofString "policy_constraints_value") k22, val := z22 }, { hash := PyData.keyHash w.params (Str.ofString "inhibit_any_policy_value"), key := Value.str (Str.ofString "inhibit_any_policy_value") k23, val := z23 }, { hash := PyData.keyHash w.params (Str.ofString "critical_extensions"), key := Value.str (Str.ofString "critical_extensions") k24, val := z24 }] 24), (h₀.objs.size + 1 + 1, o2), (EN, PySem.W.instObj 52 ED), (ED, PySem.W.dictOf [{ hash := PyData.keyHash w.params (Str.ofString "native"), key := Value.str (Str.ofString "native") kE, val := nE }] 1), (NX, PySem.W.instObj 52 ND), (ND, PySem.W.dictOf [{ hash := PyData.keyHash w.params (Str.ofString "native"), key := Value.str (Str.ofString "native") kN, val := Value.ref SO }] 1), (h₀.objs.size + 1 + 1 + 1 + 1 + 1 + 1 + 1 + 1 + 1 + 1, o10), (SO, oS), (OW, LCg.lst ys1), (h₀.objs.size + 1 + 1 + 1 + 1 + 1 + 1 + 1 + 1 + 1, o9), (EX, LCg.lst ys2), (h₀.objs.size + 1 + 1 + 1 + 1 + 1 + 1 + 1 + 1 + 1 + 1 + 1, o11)] F (news_cons N (by k_mem) (news_cons N (by k_mem) (news_sub N (by repeat (first | exact List.nil_sublist _ | (with_reducible exact List.Sublist.refl _) | (with_reducible refine List.Sublist.cons_cons _ ?_) | refine List.Sublist.cons _ ?_))))) hy3 hs3 hy4 hs4 _ _ ?_
  intro h' tk' A0 B0 DL oA oB F N hA hB gA gB gD
  show wpAny (model prg w) (lawA h₀.objs.size fa (.ref cdA)) (execs (stmts 11 ++ (stmts 12 ++ ((stmts 13 ++ stmts 14) ++ (stmts 15 ++ (stmts 16 ++ stmts 17))))) (lawEnv h₀.objs.size fa (.ref cdA))) Q E _
  refine seq ?_
  refine @sg11 w h₀ mean mg mb Y _ fa cdA f t6 cx CX FL GL A0 B0 DL lb d t4 o5 [(B0, oB), (A0, oA), (GL, LCg.lst ys4), (FL, LCg.lst ys3), (M, PySem.W.listOf #[Value.str (Str.ofString "client_auth") u5, Value.str (Str.ofString "code_signing") u6, Value.str (Str.ofString "server_auth") u7, Value.str (Str.ofString "1.3.6.1") u8] 0), (h₀.objs.size + 1 + 1 + 1 + 1 + 1 + 1 + 1 + 1, o8), (h₀.objs.size + 1 + 1 + 1 + 1 + 1 + 1, o6), (U, PySem.W.listOf #[Value.str (Str.ofString "crl_sign") u1, Value.str (Str.ofString "digital_signature") u2, Value.str (Str.ofString "key_cert_sign") u3, Value.str (Str.ofString "non_repudiation") u4] 0), (h₀.objs.size + 1 + 1 + 1 + 1 + 1 + 1 + 1, o7), (WS, oW), (CX, PySem.W.instObj 326 CD), (CD, PySem.W.dictOf [{ hash := PyData.keyHash w.params (Str.ofString "_whitelisted_certs"), key := Value.str (Str.ofString "_whitelisted_certs") q1, val := Value.ref WS }, { hash := PyData.keyHash w.params (Str.ofString "certificate_registry"), key := Value.str (Str.ofString "certificate_registry") q2, val := y1 }, { hash := PyData.keyHash w.params (Str.ofString "moment"), key := Value.str (Str.ofString "moment") q3, val := y2 }, { hash := PyData.keyHash w.params (Str.ofString "_validate_map"), key := Value.str (Str.ofString "_validate_map") q4, val := y3 }, { hash := PyData.keyHash w.params (Str.ofString "weak_hash_algos"), key := Value.str (Str.ofString "weak_hash_algos") q5, val := y4 }, { hash := PyData.keyHash w.params (Str.ofString "verify"), key := Value.str (Str.ofString "verify") q6, val := y5 }] 6), (cx, PySem.W.instObj 160 cd), (cd, PySem.W.dictOf [{ hash := PyData.keyHash w.params (Str.ofString "signature"), key := Value.str (Str.ofString "signature") k1, val := z1 }, { hash := PyData.keyHash w.params (Str.ofString "sha1"), key := Value.str (Str.ofString "sha1") k2, val := Value.int 1 tS }, { hash := PyData.keyHash w.params (Str.ofString "sha256"), key := Value.str (Str.ofString "sha256") k3, val := z3 }, { hash := PyData.keyHash w.params (Str.ofString "serial_number"), key := Value.str (Str.ofString "serial_number") k4, val := z4 }, { hash := PyData.keyHash w.params (Str.ofString "subject"), key := Value.str (Str.ofString "subject") k5, val := z5 }, { hash := PyData.keyHash w.params (Str.ofString "issuer"), key := Value.str (Str.ofString "issuer") k6, val := z6 }, { hash := PyData.keyHash w.params (Str.ofString "public_key"), key := Value.str (Str.ofString "public_key") k7, val := z7 }, { hash := PyData.keyHash w.params (Str.ofString "signer"), key := Value.str (Str.ofString "signer") k8, val := z8 }, { hash := PyData.keyHash w.params (Str.ofString "signature_algo"), key := Value.str (Str.ofString "signature_algo") k9, val := z9 }, { hash := PyData.keyHash w.params (Str.ofString "hash_algo"), key := Value.str (Str.ofString "hash_algo") k10, val := z10 }, { hash := PyData.keyHash w.params (Str.ofString "not_before"), key := Value.str (Str.ofString "not_before") k11, val := z11 }, { hash := PyData.keyHash w.params (Str.ofString "not_after"), key := Value.str (Str.ofString "not_after") k12, val := z12 }, { hash := PyData.keyHash w.params (Str.ofString "ca"), key := Value.str (Str.ofString "ca") k13, val := z13 }, { hash := PyData.keyHash w.params (Str.ofString "max_path_length"), key := Value.str (Str.ofString "max_path_length") k14, val := z14 }, { hash := PyData.keyHash w.params (Str.ofString "key_identifier"), key := Value.str (Str.ofString "key_identifier") k15, val := z15 }, { hash := PyData.keyHash w.params (Str.ofString "authority_key_identifier"), key := Value.str (Str.ofString "authority_key_identifier") k16, val := z16 }, { hash := PyData.keyHash w.params (Str.ofString "authority_issuer_serial"), key := Value.str (Str.ofString "authority_issuer_serial") k17, val := z17 }, { hash := PyData.keyHash w.params (Str.ofString "key_usage_value"), key := Value.str (Str.ofString "key_usage_value") k18, val := Value.ref NX }, { hash := PyData.keyHash w.params (Str.ofString "extended_key_usage_value"), key := Value.str (Str.ofString "extended_key_usage_value") k19, val := vE }, { hash := PyData.keyHash w.params (Str.ofString "certificate_policies_value"), key := Value.str (Str.ofString "certificate_policies_value") k20, val := z20 }, { hash := PyData.keyHash w.params (Str.ofString "policy_mappings_value"), key := Value.str (Str.ofString "policy_mappings_value") k21, val := z21 }, { hash := PyData.keyHash w.params (Str.ofString "policy_constraints_value"), key := Value.str (Str.ofString "policy_constraints_value") k22, val := z22 }, { hash := PyData.keyHash w.params (Str.ofString "inhibit_any_policy_value"), key := Value.str (Str.ofString "inhibit_any_policy_value") k23, val := z23 }, { hash := PyData.keyHash w.params (Str.ofString "critical_extensions"), key := Value.str (Str.ofString "critical_extensions") k24, val := z24 }] 24), (h₀.objs.size + 1 + 1, o2), (EN, PySem.W.instObj 52 ED), (ED, PySem.W.dictOf [{ hash := PyData.keyHash w.params (Str.ofString "native"), key := Value.str (Str.ofString "native") kE, val := nE }] 1), (NX, PySem.W.instObj 52 ND), (ND, PySem.W.dictOf [{ hash := PyData.keyHash w.params (Str.ofString "native"), key := Value.str (Str.ofString "native") kN, val := Value.ref SO }] 1), (h₀.objs.size + 1 + 1 + 1 + 1 + 1 + 1 + 1 + 1 + 1 + 1, o10), (SO, oS), (OW, LCg.lst ys1), (h₀.objs.size + 1 + 1 + 1 + 1 + 1 + 1 + 1 + 1 + 1, o9), (EX, LCg.lst ys2), (h₀.objs.size + 1 + 1 + 1 + 1 + 1 + 1 + 1 + 1 + 1 + 1 + 1, o11)] F (news_cons N (by k_mem) (news_cons N (by k_mem) (news_sub N (by repeat (first | exact List.nil_sublist _ | (with_reducible exact List.Sublist.refl _) | (with_reducible refine List.Sublist.cons_cons _ ?_) | refine List.Sublist.cons _ ?_))))) d5 gD.2.2.2.2.2.2.2.2.2.1 (List.forall_mem_cons.mpr ⟨(Nat.ne_of_lt gD.1), (List.forall_mem_cons.mpr ⟨(Nat.ne_of_lt gD.2.1), (List.forall_mem_cons.mpr ⟨(Nat.ne_of_lt gD.2.2.1), (List.forall_mem_cons.mpr ⟨(Nat.ne_of_lt gD.2.2.2.1), (List.forall_mem_cons.mpr ⟨(Nat.ne_of_lt gD.2.2.2.2.1), (List.forall_mem_cons.mpr ⟨(Nat.ne_of_lt gD.2.2.2.2.2.1), (List.forall_mem_cons.mpr ⟨(Nat.ne_of_lt gD.2.2.2.2.2.2.1), (List.forall_mem_cons.mpr ⟨(Nat.ne_of_lt gD.2.2.2.2.2.2.2.1), (List.forall_mem_cons.mpr ⟨(Nat.ne_of_lt gD.2.2.2.2.2.2.2.2.1), (List.forall_mem_cons.mpr ⟨(Nat.ne_of_lt gD.2.2.2.2.2.2.2.2.2.2.1), (List.forall_mem_cons.mpr ⟨(Nat.ne_of_lt gD.2.2.2.2.2.2.2.2.2.2.2.1), (List.forall_mem_cons.mpr ⟨(Nat.ne_of_lt gD.2.2.2.2.2.2.2.2.2.2.2.2.1), (List.forall_mem_cons.mpr ⟨(Nat.ne_of_lt gD.2.2.2.2.2.2.2.2.2.2.2.2.2.1), (List.forall_mem_cons.mpr ⟨(Nat.ne_of_lt gD.2.2.2.2.2.2.2.2.2.2.2.2.2.2.1), (List.forall_mem_cons.mpr ⟨(Nat.ne_of_lt gD.2.2.2.2.2.2.2.2.2.2.2.2.2.2.2.1), (List.forall_mem_cons.mpr ⟨(Nat.ne_of_lt gD.2.2.2.2.2.2.2.2.2.2.2.2.2.2.2.2.1), (List.forall_mem_cons.mpr ⟨(Nat.ne_of_lt gD.2.2.2.2.2.2.2.2.2.2.2.2.2.2.2.2.2.1), (List.forall_mem_cons.mpr ⟨(Nat.ne_of_lt gD.2.2.2.2.2.2.2.2.2.2.2.2.2.2.2.2.2.2.1), (List.forall_mem_cons.mpr ⟨(Nat.ne_of_lt gD.2.2.2.2.2.2.2.2.2.2.2.2.2.2.2.2.2.2.2.1), (List.forall_mem_cons.mpr ⟨(Nat.ne_of_lt gD.2.2.2.2.2.2.2.2.2.2.2.2.2.2.2.2.2.2.2.2.1), (List.forall_mem_cons.mpr ⟨(Nat.ne_of_lt gD.2.2.2.2.2.2.2.2.2.2.2.2.2.2.2.2.2.2.2.2.2.1), (List.forall_mem_cons.mpr ⟨(Nat.ne_of_lt gD.2.2.2.2.2.2.2.2.2.2.2.2.2.2.2.2.2.2.2.2.2.2.1), (List.forall_mem_cons.mpr ⟨(Nat.ne_of_lt gD.2.2.2.2.2.2.2.2.2.2.2.2.2.2.2.2.2.2.2.2.2.2.2.1), (List.forall_mem_cons.mpr ⟨(Nat.ne_of_lt gD.2.2.2.2.2.2.2.2.2.2.2.2.2.2.2.2.2.2.2.2.2.2.2.2.1), (List.forall_mem_cons.mpr ⟨(Nat.ne_of_lt gD.2.2.2.2.2.2.2.2.2.2.2.2.2.2.2.2.2.2.2.2.2.2.2.2.2.1), (fun _ h => nomatch h)⟩)⟩)⟩)⟩)⟩)⟩)⟩)⟩)⟩)⟩)⟩)⟩)⟩)⟩)⟩)⟩)⟩)⟩)⟩)⟩)⟩)⟩)⟩)⟩)⟩) _ _ ?_
  intro h' tk' v0 F N hv0
  show wpAny (model prg w) (lawA h₀.objs.size fa (.ref cdA)) (execs (stmts 12 ++ ((stmts 13 ++ stmts 14) ++ (stmts 15 ++ (stmts 16 ++ stmts 17)))) (lawEnv h₀.objs.size fa (.ref cdA))) Q E _
  refine seq ?_
  refine @sg12 w h₀ mean mg mb Y _ fa cdA f t6 cx CX FL GL A0 B0 DL lb e t5 o6 v0 [(h₀.objs.size + 1 + 1 + 1 + 1 + 1, o5), (B0, oB), (A0, oA), (GL, LCg.lst ys4), (FL, LCg.lst ys3), (M, PySem.W.listOf #[Value.str (Str.ofString "client_auth") u5, Value.str (Str.ofString "code_signing") u6, Value.str (Str.ofString "server_auth") u7, Value.str (Str.ofString "1.3.6.1") u8] 0), (h₀.objs.size + 1 + 1 + 1 + 1 + 1 + 1 + 1 + 1, o8), (U, PySem.W.listOf #[Value.str (Str.ofString "crl_sign") u1, Value.str (Str.ofString "digital_signature") u2, Value.str (Str.ofString "key_cert_sign") u3, Value.str (Str.ofString "non_repudiation") u4] 0), (h₀.objs.size + 1 + 1 + 1 + 1 + 1 + 1 + 1, o7), (WS, oW), (CX, PySem.W.instObj 326 CD), (CD, PySem.W.dictOf [{ hash := PyData.keyHash w.params (Str.ofString "_whitelisted_certs"), key := Value.str (Str.ofString "_whitelisted_certs") q1, val := Value.ref WS }, { hash := PyData.keyHash w.params (Str.ofString "certificate_registry"), key := Value.str (Str.ofString "certificate_registry") q2, val := y1 }, { hash := PyData.keyHash w.params (Str.ofString "moment"), key := Value.str (Str.ofString "moment") q3, val := y2 }, { hash := PyData.keyHash w.params (Str.ofString "_validate_map"), key := Value.str (Str.ofString "_validate_map") q4, val := y3 }, { hash := PyData.keyHash w.params (Str.ofString "weak_hash_algos"), key := Value.str (Str.ofString "weak_hash_algos") q5, val := y4 }, { hash := PyData.keyHash w.params (Str.ofString "verify"), key := Value.str (Str.ofString "verify") q6, val := y5 }] 6), (cx, PySem.W.instObj 160 cd), (cd, PySem.W.dictOf [{ hash := PyData.keyHash w.params (Str.ofString "signature"), key := Value.str (Str.ofString "signature") k1, val := z1 }, { hash := PyData.keyHash w.params (Str.ofString "sha1"), key := Value.str (Str.ofString "sha1") k2, val := Value.int 1 tS }, { hash := PyData.keyHash w.params (Str.ofString "sha256"), key := Value.str (Str.ofString "sha256") k3, val := z3 }, { hash := PyData.keyHash w.params (Str.ofString "serial_number"), key := Value.str (Str.ofString "serial_number") k4, val := z4 }, { hash := PyData.keyHash w.params (Str.ofString "subject"), key := Value.str (Str.ofString "subject") k5, val := z5 }, { hash := PyData.keyHash w.params (Str.ofString "issuer"), key := Value.str (Str.ofString "issuer") k6, val := z6 }, { hash := PyData.keyHash w.params (Str.ofString "public_key"), key := Value.str (Str.ofString "public_key") k7, val := z7 }, { hash := PyData.keyHash w.params (Str.ofString "signer"), key := Value.str (Str.ofString "signer") k8, val := z8 }, { hash := PyData.keyHash w.params (Str.ofString "signature_algo"), key := Value.str (Str.ofString "signature_algo") k9, val := z9 }, { hash := PyData.keyHash w.params (Str.ofString "hash_algo"), key := Value.str (Str.ofString "hash_algo") k10, val := z10 }, { hash := PyData.keyHash w.params (Str.ofString "not_before"), key := Value.str (Str.ofString "not_before") k11, val := z11 }, { hash := PyData.keyHash w.params (Str.ofString "not_after"), key := Value.str (Str.ofString "not_after") k12, val := z12 }, { hash := PyData.keyHash w.params (Str.ofString "ca"), key := Value.str (Str.ofString "ca") k13, val := z13 }, { hash := PyData.keyHash w.params (Str.ofString "max_path_length"), key := Value.str (Str.ofString "max_path_length") k14, val := z14 }, { hash := PyData.keyHash w.params (Str.ofString "key_identifier"), key := Value.str (Str.ofString "key_identifier") k15, val := z15 }, { hash := PyData.keyHash w.params (Str.ofString "authority_key_identifier"), key := Value.str (Str.ofString "authority_key_identifier") k16, val := z16 }, { hash := PyData.keyHash w.params (Str.ofString "authority_issuer_serial"), key := Value.str (Str.ofString "authority_issuer_serial") k17, val := z17 }, { hash := PyData.keyHash w.params (Str.ofString "key_usage_value"), key := Value.str (Str.ofString "key_usage_value") k18, val := Value.ref NX }, { hash := PyData.keyHash w.params (Str.ofString "extended_key_usage_value"), key := Value.str (Str.ofString "extended_key_usage_value") k19, val := vE }, { hash := PyData.keyHash w.params (Str.ofString "certificate_policies_value"), key := Value.str (Str.ofString "certificate_policies_value") k20, val := z20 }, { hash := PyData.keyHash w.params (Str.ofString "policy_mappings_value"), key := Value.str (Str.ofString "policy_mappings_value") k21, val := z21 }, { hash := PyData.keyHash w.params (Str.ofString "policy_constraints_value"), key := Value.str (Str.ofString "policy_constraints_value") k22, val := z22 }, { hash := PyData.keyHash w.params (Str.ofString "inhibit_any_policy_value"), key := Value.str (Str.ofString "inhibit_any_policy_value") k23, val := z23 }, { hash := PyData.keyHash w.params (Str.ofString "critical_extensions"), key := Value.str (Str.ofString "critical_extensions") k24, val := z24 }] 24), (h₀.objs.size + 1 + 1, o2), (EN, PySem.W.instObj 52 ED), (ED, PySem.W.dictOf [{ hash := PyData.keyHash w.params (Str.ofString "native"), key := Value.str (Str.ofString "native") kE, val := nE }] 1), (NX, PySem.W.instObj 52 ND), (ND, PySem.W.dictOf [{ hash := PyData.keyHash w.params (Str.ofString "native"), key := Value.str (Str.ofString "native") kN, val := Value.ref SO }] 1), (h₀.objs.size + 1 + 1 + 1 + 1 + 1 + 1 + 1 + 1 + 1 + 1, o10), (SO, oS), (OW, LCg.lst ys1), (h₀.objs.size + 1 + 1 + 1 + 1 + 1 + 1 + 1 + 1 + 1, o9), (EX, LCg.lst ys2), (h₀.objs.size + 1 + 1 + 1 + 1 + 1 + 1 + 1 + 1 + 1 + 1 + 1, o11)] F (news_cons N (by k_mem) (news_cons N (by k_mem) (news_sub N (by repeat (first | exact List.nil_sublist _ | (with_reducible exact List.Sublist.refl _) | (with_reducible refine List.Sublist.cons_cons _ ?_) | refine List.Sublist.cons _ ?_))))) d6 gD.2.2.2.2.2.2.1 (List.forall_mem_cons.mpr ⟨(Nat.ne_of_lt gD.2.2.2.2.2.2.2.2.2.1), (List.forall_mem_cons.mpr ⟨(Nat.ne_of_lt gD.1), (List.forall_mem_cons.mpr ⟨(Nat.ne_of_lt gD.2.1), (List.forall_mem_cons.mpr ⟨(Nat.ne_of_lt gD.2.2.1), (List.forall_mem_cons.mpr ⟨(Nat.ne_of_lt gD.2.2.2.1), (List.forall_mem_cons.mpr ⟨(Nat.ne_of_lt gD.2.2.2.2.1), (List.forall_mem_cons.mpr ⟨(Nat.ne_of_lt gD.2.2.2.2.2.1), (List.forall_mem_cons.mpr ⟨(Nat.ne_of_lt gD.2.2.2.2.2.2.2.1), (List.forall_mem_cons.mpr ⟨(Nat.ne_of_lt gD.2.2.2.2.2.2.2.2.1), (List.forall_mem_cons.mpr ⟨(Nat.ne_of_lt gD.2.2.2.2.2.2.2.2.2.2.1), (List.forall_mem_cons.mpr ⟨(Nat.ne_of_lt gD.2.2.2.2.2.2.2.2.2.2.2.1), (List.forall_mem_cons.mpr ⟨(Nat.ne_of_lt gD.2.2.2.2.2.2.2.2.2.2.2.2.1), (List.forall_mem_cons.mpr ⟨(Nat.ne_of_lt gD.2.2.2.2.2.2.2.2.2.2.2.2.2.1), (List.forall_mem_cons.mpr ⟨(Nat.ne_of_lt gD.2.2.2.2.2.2.2.2.2.2.2.2.2.2.1), (List.forall_mem_cons.mpr ⟨(Nat.ne_of_lt gD.2.2.2.2.2.2.2.2.2.2.2.2.2.2.2.1), (List.forall_mem_cons.mpr ⟨(Nat.ne_of_lt gD.2.2.2.2.2.2.2.2.2.2.2.2.2.2.2.2.1), (List.forall_mem_cons.mpr ⟨(Nat.ne_of_lt gD.2.2.2.2.2.2.2.2.2.2.2.2.2.2.2.2.2.1), (List.forall_mem_cons.mpr ⟨(Nat.ne_of_lt gD.2.2.2.2.2.2.2.2.2.2.2.2.2.2.2.2.2.2.1), (List.forall_mem_cons.mpr ⟨(Nat.ne_of_lt gD.2.2.2.2.2.2.2.2.2.2.2.2.2.2.2.2.2.2.2.1), (List.forall_mem_cons.mpr ⟨(Nat.ne_of_lt gD.2.2.2.2.2.2.2.2.2.2.2.2.2.2.2.2.2.2.2.2.1), (List.forall_mem_cons.mpr ⟨(Nat.ne_of_lt gD.2.2.2.2.2.2.2.2.2.2.2.2.2.2.2.2.2.2.2.2.2.1), (List.forall_mem_cons.mpr ⟨(Nat.ne_of_lt gD.2.2.2.2.2.2.2.2.2.2.2.2.2.2.2.2.2.2.2.2.2.2.1), (List.forall_mem_cons.mpr ⟨(Nat.ne_of_lt gD.2.2.2.2.2.2.2.2.2.2.2.2.2.2.2.2.2.2.2.2.2.2.2.1), (List.forall_mem_cons.mpr ⟨(Nat.ne_of_lt gD.2.2.2.2.2.2.2.2.2.2.2.2.2.2.2.2.2.2.2.2.2.2.2.2.1), (List.forall_mem_cons.mpr ⟨(Nat.ne_of_lt gD.2.2.2.2.2.2.2.2.2.2.2.2.2.2.2.2.2.2.2.2.2.2.2.2.2.1), (fun _ h => nomatch h)⟩)⟩)⟩)⟩)⟩)⟩)⟩)⟩)⟩)⟩)⟩)⟩)⟩)⟩)⟩)⟩)⟩)⟩)⟩)⟩)⟩)⟩)⟩)⟩)⟩) _ _ ?_
  intro h' tk' v1 F N hv1
  show wpAny (model prg w) (lawA h₀.objs.size fa (.ref cdA)) (execs ((stmts 13 ++ stmts 14) ++ (stmts 15 ++ (stmts 16 ++ stmts 17))) (lawEnv h₀.objs.size fa (.ref cdA))) Q E _
  refine seq ?_
  refine @sg13 w h₀ mean mg mb Y _ fa cdA f t6 cx CX FL GL DL lb o11 [(DL, PySem.W.listOf #[v0, v1] 0), (h₀.objs.size + 1 + 1 + 1 + 1 + 1 + 1, o6), (h₀.objs.size + 1 + 1 + 1 + 1 + 1, o5), (B0, oB), (A0, oA), (GL, LCg.lst ys4), (FL, LCg.lst ys3), (M, PySem.W.listOf #[Value.str (Str.ofString "client_auth") u5, Value.str (Str.ofString "code_signing") u6, Value.str (Str.ofString "server_auth") u7, Value.str (Str.ofString "1.3.6.1") u8] 0), (h₀.objs.size + 1 + 1 + 1 + 1 + 1 + 1 + 1 + 1, o8), (U, PySem.W.listOf #[Value.str (Str.ofString "crl_sign") u1, Value.str (Str.ofString "digital_signature") u2, Value.str (Str.ofString "key_cert_sign") u3, Value.str (Str.ofString "non_repudiation") u4] 0), (h₀.objs.size + 1 + 1 + 1 + 1 + 1 + 1 + 1, o7), (WS, oW), (CX, PySem.W.instObj 326 CD), (CD, PySem.W.dictOf [{ hash := PyData.keyHash w.params (Str.ofString "_whitelisted_certs"), key := Value.str (Str.ofString "_whitelisted_certs") q1, val := Value.ref WS }, { hash := PyData.keyHash w.params (Str.ofString "certificate_registry"), key := Value.str (Str.ofString "certificate_registry") q2, val := y1 }, { hash := PyData.keyHash w.params (Str.ofString "moment"), key := Value.str (Str.ofString "moment") q3, val := y2 }, { hash := PyData.keyHash w.params (Str.ofString "_validate_map"), key := Value.str (Str.ofString "_validate_map") q4, val := y3 }, { hash := PyData.keyHash w.params (Str.ofString "weak_hash_algos"), key := Value.str (Str.ofString "weak_hash_algos") q5, val := y4 }, { hash := PyData.keyHash w.params (Str.ofString "verify"), key := Value.str (Str.ofString "verify") q6, val := y5 }] 6), (cx, PySem.W.instObj 160 cd), (cd, PySem.W.dictOf [{ hash := PyData.keyHash w.params (Str.ofString "signature"), key := Value.str (Str.ofString "signature") k1, val := z1 }, { hash := PyData.keyHash w.params (Str.ofString "sha1"), key := Value.str (Str.ofString "sha1") k2, val := Value.int 1 tS }, { hash := PyData.keyHash w.params (Str.ofString "sha256"), key := Value.str (Str.ofString "sha256") k3, val := z3 }, { hash := PyData.keyHash w.params (Str.ofString "serial_number"), key := Value.str (Str.ofString "serial_number") k4, val := z4 }, { hash := PyData.keyHash w.params (Str.ofString "subject"), key := Value.str (Str.ofString "subject") k5, val := z5 }, { hash := PyData.keyHash w.params (Str.ofString "issuer"), key := Value.str (Str.ofString "issuer") k6, val := z6 }, { hash := PyData.keyHash w.params (Str.ofString "public_key"), key := Value.str (Str.ofString "public_key") k7, val := z7 }, { hash := PyData.keyHash w.params (Str.ofString "signer"), key := Value.str (Str.ofString "signer") k8, val := z8 }, { hash := PyData.keyHash w.params (Str.ofString "signature_algo"), key := Value.str (Str.ofString "signature_algo") k9, val := z9 }, { hash := PyData.keyHash w.params (Str.ofString "hash_algo"), key := Value.str (Str.ofString "hash_algo") k10, val := z10 }, { hash := PyData.keyHash w.params (Str.ofString "not_before"), key := Value.str (Str.ofString "not_before") k11, val := z11 }, { hash := PyData.keyHash w.params (Str.ofString "not_after"), key := Value.str (Str.ofString "not_after") k12, val := z12 }, { hash := PyData.keyHash w.params (Str.ofString "ca"), key := Value.str (Str.ofString "ca") k13, val := z13 }, { hash := PyData.keyHash w.params (Str.ofString "max_path_length"), key := Value.str (Str.ofString "max_path_length") k14, val := z14 }, { hash := PyData.keyHash w.params (Str.ofString "key_identifier"), key := Value.str (Str.ofString "key_identifier") k15, val := z15 }, { hash := PyData.keyHash w.params (Str.ofString "authority_key_identifier"), key := Value.str (Str.ofString "authority_key_identifier") k16, val := z16 }, { hash := PyData.keyHash w.params (Str.ofString "authority_issuer_serial"), key := Value.str (Str.ofString "authority_issuer_serial") k17, val := z17 }, { hash := PyData.keyHash w.params (Str.ofString "key_usage_value"), key := Value.str (Str.ofString "key_usage_value") k18, val := Value.ref NX }, { hash := PyData.keyHash w.params (Str.ofString "extended_key_usage_value"), key := Value.str (Str.ofString "extended_key_usage_value") k19, val := vE }, { hash := PyData.keyHash w.params (Str.ofString "certificate_policies_value"), key := Value.str (Str.ofString "certificate_policies_value") k20, val := z20 }, { hash := PyData.keyHash w.params (Str.ofString "policy_mappings_value"), key := Value.str (Str.ofString "policy_mappings_value") k21, val := z21 }, { hash := PyData.keyHash w.params (Str.ofString "policy_constraints_value"), key := Value.str (Str.ofString "policy_constraints_value") k22, val := z22 }, { hash := PyData.keyHash w.params (Str.ofString "inhibit_any_policy_value"), key := Value.str (Str.ofString "inhibit_any_policy_value") k23, val := z23 }, { hash := PyData.keyHash w.params (Str.ofString "critical_extensions"), key := Value.str (Str.ofString "critical_extensions") k24, val := z24 }] 24), (h₀.objs.size + 1 + 1, o2), (EN, PySem.W.instObj 52 ED), (ED, PySem.W.dictOf [{ hash := PyData.keyHash w.params (Str.ofString "native"), key := Value.str (Str.ofString "native") kE, val := nE }] 1), (NX, PySem.W.instObj 52 ND), (ND, PySem.W.dictOf [{ hash := PyData.keyHash w.params (Str.ofString "native"), key := Value.str (Str.ofString "native") kN, val := Value.ref SO }] 1), (h₀.objs.size + 1 + 1 + 1 + 1 + 1 + 1 + 1 + 1 + 1 + 1, o10), (SO, oS), (OW, LCg.lst ys1), (h₀.objs.size + 1 + 1 + 1 + 1 + 1 + 1 + 1 + 1 + 1, o9), (EX, LCg.lst ys2)] F (news_cons N (by k_mem) (news_sub N (by repeat (first | exact List.nil_sublist _ | (with_reducible exact List.Sublist.refl _) | (with_reducible refine List.Sublist.cons_cons _ ?_) | refine List.Sublist.cons _ ?_)))) d11 (List.forall_mem_cons.mpr ⟨(Nat.ne_of_gt gD.2.2.2.2.2.2.2.2.2.2.2.2.2.2.2.2.2.2.2.2.2.2.2.2.2.1), (List.forall_mem_cons.mpr ⟨(ce6_11 _), (List.forall_mem_cons.mpr ⟨(ce5_11 _), (List.forall_mem_cons.mpr ⟨(Nat.ne_of_gt gB.2.2.2.2.2.2.2.2.2.2.2.2.2.2.2.2.2.2.2.2.2.2.2.2.1), (List.forall_mem_cons.mpr ⟨(Nat.ne_of_gt gA.2.2.2.2.2.2.2.2.2.2.2.2.2.2.2.2.2.2.2.2.2.2.2.1), (List.forall_mem_cons.mpr ⟨(Ne.symm gGL.2.2.2.2.2.2.2.2.2.2.2.2.2.2.2.2.2.2.2.2.2.2.1), (List.forall_mem_cons.mpr ⟨(Ne.symm gFL.2.2.2.2.2.2.2.2.2.2.2.2.2.2.2.2.2.2.2.2.1), (List.forall_mem_cons.mpr ⟨(Nat.ne_of_gt gM.2.2.2.2.2.2.2.1), (List.forall_mem_cons.mpr ⟨(ce8_11 _), (List.forall_mem_cons.mpr ⟨(Nat.ne_of_gt gU.2.2.2.2.2.2.1), (List.forall_mem_cons.mpr ⟨(ce7_11 _), (List.forall_mem_cons.mpr ⟨(Nat.ne_of_gt (Nat.lt_trans gCD.2.2.2.2.2.2.2.2.2.2.2.2.2.2.2.2.1 (Nat.lt_trans c4.1 c4.2))), (List.forall_mem_cons.mpr ⟨(Nat.ne_of_gt (Nat.lt_trans gCD.2.2.2.2.2.2.2.2.2.2.2.2.2.2.2.2.1 c4.1)), (List.forall_mem_cons.mpr ⟨(Nat.ne_of_gt gCD.2.2.2.2.2.2.2.2.2.2.2.2.2.2.2.2.1), (List.forall_mem_cons.mpr ⟨(Nat.ne_of_gt (Nat.lt_trans gcd.2.2.2.2.2.2.2.2.1 c2.1)), (List.forall_mem_cons.mpr ⟨(Nat.ne_of_gt gcd.2.2.2.2.2.2.2.2.1), (List.forall_mem_cons.mpr ⟨(ce2_11 _), (List.forall_mem_cons.mpr ⟨(Nat.ne_of_gt lEN), (List.forall_mem_cons.mpr ⟨(Nat.ne_of_gt lED), (List.forall_mem_cons.mpr ⟨(Nat.ne_of_gt (Nat.lt_trans gcd.2.2.2.2.2.2.2.2.1 (Nat.lt_trans c2.1 (Nat.lt_trans c2.2.1 (Nat.lt_trans c2.2.2.1 c2.2.2.2))))), (List.forall_mem_cons.mpr ⟨(Nat.ne_of_gt (Nat.lt_trans gcd.2.2.2.2.2.2.2.2.1 (Nat.lt_trans c2.1 (Nat.lt_trans c2.2.1 c2.2.2.1)))), (List.forall_mem_cons.mpr ⟨(ce10_11 _), (List.forall_mem_cons.mpr ⟨(Nat.ne_of_gt (Nat.lt_trans gcd.2.2.2.2.2.2.2.2.1 (Nat.lt_trans c2.1 c2.2.1))), (List.forall_mem_cons.mpr ⟨(Ne.symm gOW.2.2.2.2.2.2.2.2.1), (List.forall_mem_cons.mpr ⟨(ce9_11 _), (List.forall_mem_cons.mpr ⟨(Ne.symm gEX.2.2.2.2.2.2.2.2.1), (fun _ h => nomatch h)⟩)⟩)⟩)⟩)⟩)⟩)⟩)⟩)⟩)⟩)⟩)⟩)⟩)⟩)⟩)⟩)⟩)⟩)⟩)⟩)⟩)⟩)⟩)⟩)⟩)⟩) _ _ ?_
  intro h' tk' vL tdu o11 F N d11 hvL
  show wpAny (model prg w) (lawA h₀.objs.size fa (.ref cdA)) (execs (stmts 15 ++ (stmts 16 ++ stmts 17)) (lawEnv h₀.objs.size fa (.ref cdA))) Q E _
  refine seq ?_
  refine @sg15 w h₀ mean mg mb Y _ fa cdA a d e f t1 t4 t5 t6 OW EX cx CX FL GL DL lb ys1 ys2 ys3 ys4 ss1 ss2 ss3 ss4 o2 o5 o6 o9 o10 o11 vL tdu [(DL, PySem.W.listOf #[v0, v1] 0), (B0, oB), (A0, oA), (M, PySem.W.listOf #[Value.str (Str.ofString "client_auth") u5, Value.str (Str.ofString "code_signing") u6, Value.str (Str.ofString "server_auth") u7, Value.str (Str.ofString "1.3.6.1") u8] 0), (h₀.objs.size + 1 + 1 + 1 + 1 + 1 + 1 + 1 + 1, o8), (U, PySem.W.listOf #[Value.str (Str.ofString "crl_sign") u1, Value.str (Str.ofString "digital_signature") u2, Value.str (Str.ofString "key_cert_sign") u3, Value.str (Str.ofString "non_repudiation") u4] 0), (h₀.objs.size + 1 + 1 + 1 + 1 + 1 + 1 + 1, o7), (WS, oW), (CX, PySem.W.instObj 326 CD), (CD, PySem.W.dictOf [{ hash := PyData.keyHash w.params (Str.ofString "_whitelisted_certs"), key := Value.str (Str.ofString "_whitelisted_certs") q1, val := Value.ref WS }, { hash := PyData.keyHash w.params (Str.ofString "certificate_registry"), key := Value.str (Str.ofString "certificate_registry") q2, val := y1 }, { hash := PyData.keyHash w.params (Str.ofString "moment"), key := Value.str (Str.ofString "moment") q3, val := y2 }, { hash := PyData.keyHash w.params (Str.ofString "_validate_map"), key := Value.str (Str.ofString "_validate_map") q4, val := y3 }, { hash := PyData.keyHash w.params (Str.ofString "weak_hash_algos"), key := Value.str (Str.ofString "weak_hash_algos") q5, val := y4 }, { hash := PyData.keyHash w.params (Str.ofString "verify"), key := Value.str (Str.ofString "verify") q6, val := y5 }] 6), (cx, PySem.W.instObj 160 cd), (cd, PySem.W.dictOf [{ hash := PyData.keyHash w.params (Str.ofString "signature"), key := Value.str (Str.ofString "signature") k1, val := z1 }, { hash := PyData.keyHash w.params (Str.ofString "sha1"), key := Value.str (Str.ofString "sha1") k2, val := Value.int 1 tS }, { hash := PyData.keyHash w.params (Str.ofString "sha256"), key := Value.str (Str.ofString "sha256") k3, val := z3 }, { hash := PyData.keyHash w.params (Str.ofString "serial_number"), key := Value.str (Str.ofString "serial_number") k4, val := z4 }, { hash := PyData.keyHash w.params (Str.ofString "subject"), key := Value.str (Str.ofString "subject") k5, val := z5 }, { hash := PyData.keyHash w.params (Str.ofString "issuer"), key := Value.str (Str.ofString "issuer") k6, val := z6 }, { hash := PyData.keyHash w.params (Str.ofString "public_key"), key := Value.str (Str.ofString "public_key") k7, val := z7 }, { hash := PyData.keyHash w.params (Str.ofString "signer"), key := Value.str (Str.ofString "signer") k8, val := z8 }, { hash := PyData.keyHash w.params (Str.ofString "signature_algo"), key := Value.str (Str.ofString "signature_algo") k9, val := z9 }, { hash := PyData.keyHash w.params (Str.ofString "hash_algo"), key := Value.str (Str.ofString "hash_algo") k10, val := z10 }, { hash := PyData.keyHash w.params (Str.ofString "not_before"), key := Value.str (Str.ofString "not_before") k11, val := z11 }, { hash := PyData.keyHash w.params (Str.ofString "not_after"), key := Value.str (Str.ofString "not_after") k12, val := z12 }, { hash := PyData.keyHash w.params (Str.ofString "ca"), key := Value.str (Str.ofString "ca") k13, val := z13 }, { hash := PyData.keyHash w.params (Str.ofString "max_path_length"), key := Value.str (Str.ofString "max_path_length") k14, val := z14 }, { hash := PyData.keyHash w.params (Str.ofString "key_identifier"), key := Value.str (Str.ofString "key_identifier") k15, val := z15 }, { hash := PyData.keyHash w.params (Str.ofString "authority_key_identifier"), key := Value.str (Str.ofString "authority_key_identifier") k16, val := z16 }, { hash := PyData.keyHash w.params (Str.ofString "authority_issuer_serial"), key := Value.str (Str.ofString "authority_issuer_serial") k17, val := z17 }, { hash := PyData.keyHash w.params (Str.ofString "key_usage_value"), key := Value.str (Str.ofString "key_usage_value") k18, val := Value.ref NX }, { hash := PyData.keyHash w.params (Str.ofString "extended_key_usage_value"), key := Value.str (Str.ofString "extended_key_usage_value") k19, val := vE }, { hash := PyData.keyHash w.params (Str.ofString "certificate_policies_value"), key := Value.str (Str.ofString "certificate_policies_value") k20, val := z20 }, { hash := PyData.keyHash w.params (Str.ofString "policy_mappings_value"), key := Value.str (Str.ofString "policy_mappings_value") k21, val := z21 }, { hash := PyData.keyHash w.params (Str.ofString "policy_constraints_value"), key := Value.str (Str.ofString "policy_constraints_value") k22, val := z22 }, { hash := PyData.keyHash w.params (Str.ofString "inhibit_any_policy_value"), key := Value.str (Str.ofString "inhibit_any_policy_value") k23, val := z23 }, { hash := PyData.keyHash w.params (Str.ofString "critical_extensions"), key := Value.str (Str.ofString "critical_extensions") k24, val := z24 }] 24), (EN, PySem.W.instObj 52 ED), (ED, PySem.W.dictOf [{ hash := PyData.keyHash w.params (Str.ofString "native"), key := Value.str (Str.ofString "native") kE, val := nE }] 1), (NX, PySem.W.instObj 52 ND), (ND, PySem.W.dictOf [{ hash := PyData.keyHash w.params (Str.ofString "native"), key := Value.str (Str.ofString "native") kN, val := Value.ref SO }] 1), (SO, oS)] F (news_cons N (by k_mem) (news_cons N (by k_mem) (news_cons N (by k_mem) (news_cons N (by k_mem) (news_cons N (by k_mem) (news_cons N (by k_mem) (news_cons N (by k_mem) (news_cons N (by k_mem) (news_cons N (by k_mem) (news_cons N (by k_mem) (news_sub N (by repeat (first | exact List.nil_sublist _ | (with_reducible exact List.Sublist.refl _) | (with_reducible refine List.Sublist.cons_cons _ ?_) | refine List.Sublist.cons _ ?_))))))))))))) d2 d5 d6 d9 d10 d11 hvL hy1 hy2 hy3 hy4 hs1 hs2 hs3 hs4 _ _ ?_
  intro h' tk' du td2 F N hdu
  show wpAny (model prg w) (lawA h₀.objs.size fa (.ref cdA)) (execs (stmts 16 ++ stmts 17) (lawEnv h₀.objs.size fa (.ref cdA))) Q E _
  have c : @LT.lt Nat _ (cd) (cx) ∧ @LT.lt Nat _ (cx) (SO) ∧ @LT.lt Nat _ (SO) (ND) ∧ @LT.lt Nat _ (ND) (NX) ∧ @LT.lt Nat _ (NX) (CD) ∧ @LT.lt Nat _ (ED) (CD) ∧ @LT.lt Nat _ (EN) (CD) ∧ @LT.lt Nat _ (CD) (CX) ∧ @LT.lt Nat _ (CX) (WS) ∧ @LT.lt Nat _ (WS) (A0) ∧ @LT.lt Nat _ (A0) (B0) ∧ @LT.lt Nat _ (B0) (DL) ∧ @LT.lt Nat _ (EX) (cd) ∧ @LT.lt Nat _ (h₀.objs.size + 1 + 1 + 1 + 1 + 1 + 1 + 1 + 1 + 1 + 1 + 1) (cd) ∧ @Ne Nat (EX) (h₀.objs.size + 1 + 1 + 1 + 1 + 1 + 1 + 1 + 1 + 1 + 1 + 1) ∧ @Ne Nat (FL) (WS) ∧ @Ne Nat (GL) (WS) ∧ @Ne Nat (GL) (FL) ∧ @LT.lt Nat _ (FL) (A0) ∧ @LT.lt Nat _ (GL) (A0) := ⟨c2.1, c2.2.1, c2.2.2.1, c2.2.2.2, gCD.2.2.2.2.2.1, gCD.2.2.2.2.1, gCD.2.2.2.1, c4.1, c4.2, gA.2.2.2.2.2.2.2.2.1, gB.1, gD.1, gcd.2.2.1, gcd.2.2.2.2.2.2.2.2.1, (Ne.symm gEX.2.2.2.2.2.2.2.2.1), (Ne.symm gFL.2.2.2.1), (Ne.symm gGL.2.2.2.2.2.2.2.1), (Ne.symm gGL.2.2.2.1), gA.2.1, gA.1⟩
  refine @tail16 w h₀ mean mg mb Y _ fa cdA a d e f t6 EX ys2 ss1 ss2 tS kN cd cx SO ND NX oS vE nE EN ED kE lb CD CX WS oW SW FL ys3 ss3 GL ys4 ss4 A0 B0 DL oA oB v0 v1 vL o11 du td2 [{ hash := PyData.keyHash w.params (Str.ofString "signature"), key := Value.str (Str.ofString "signature") k1, val := z1 }, { hash := PyData.keyHash w.params (Str.ofString "sha1"), key := Value.str (Str.ofString "sha1") k2, val := Value.int 1 tS }, { hash := PyData.keyHash w.params (Str.ofString "sha256"), key := Value.str (Str.ofString "sha256") k3, val := z3 }, { hash := PyData.keyHash w.params (Str.ofString "serial_number"), key := Value.str (Str.ofString "serial_number") k4, val := z4 }, { hash := PyData.keyHash w.params (Str.ofString "subject"), key := Value.str (Str.ofString "subject") k5, val := z5 }, { hash := PyData.keyHash w.params (Str.ofString "issuer"), key := Value.str (Str.ofString "issuer") k6, val := z6 }, { hash := PyData.keyHash w.params (Str.ofString "public_key"), key := Value.str (Str.ofString "public_key") k7, val := z7 }, { hash := PyData.keyHash w.params (Str.ofString "signer"), key := Value.str (Str.ofString "signer") k8, val := z8 }, { hash := PyData.keyHash w.params (Str.ofString "signature_algo"), key := Value.str (Str.ofString "signature_algo") k9, val := z9 }, { hash := PyData.keyHash w.params (Str.ofString "hash_algo"), key := Value.str (Str.ofString "hash_algo") k10, val := z10 }, { hash := PyData.keyHash w.params (Str.ofString "not_before"), key := Value.str (Str.ofString "not_before") k11, val := z11 }, { hash := PyData.keyHash w.params (Str.ofString "not_after"), key := Value.str (Str.ofString "not_after") k12, val := z12 }, { hash := PyData.keyHash w.params (Str.ofString "ca"), key := Value.str (Str.ofString "ca") k13, val := z13 }, { hash := PyData.keyHash w.params (Str.ofString "max_path_length"), key := Value.str (Str.ofString "max_path_length") k14, val := z14 }, { hash := PyData.keyHash w.params (Str.ofString "key_identifier"), key := Value.str (Str.ofString "key_identifier") k15, val := z15 }, { hash := PyData.keyHash w.params (Str.ofString "authority_key_identifier"), key := Value.str (Str.ofString "authority_key_identifier") k16, val := z16 }, { hash := PyData.keyHash w.params (Str.ofString "authority_issuer_serial"), key := Value.str (Str.ofString "authority_issuer_serial") k17, val := z17 }, { hash := PyData.keyHash w.params (Str.ofString "key_usage_value"), key := Value.str (Str.ofString "key_usage_value") k18, val := Value.ref NX }, { hash := PyData.keyHash w.params (Str.ofString "extended_key_usage_value"), key := Value.str (Str.ofString "extended_key_usage_value") k19, val := vE }, { hash := PyData.keyHash w.params (Str.ofString "certificate_policies_value"), key := Value.str (Str.ofString "certificate_policies_value") k20, val := z20 }, { hash := PyData.keyHash w.params (Str.ofString "policy_mappings_value"), key := Value.str (Str.ofString "policy_mappings_value") k21, val := z21 }, { hash := PyData.keyHash w.params (Str.ofString "policy_constraints_value"), key := Value.str (Str.ofString "policy_constraints_value") k22, val := z22 }, { hash := PyData.keyHash w.params (Str.ofString "inhibit_any_policy_value"), key := Value.str (Str.ofString "inhibit_any_policy_value") k23, val := z23 }, { hash := PyData.keyHash w.params (Str.ofString "critical_extensions"), key := Value.str (Str.ofString "critical_extensions") k24, val := z24 }] [{ hash := PyData.keyHash w.params (Str.ofString "_whitelisted_certs"), key := Value.str (Str.ofString "_whitelisted_certs") q1, val := Value.ref WS }, { hash := PyData.keyHash w.params (Str.ofString "certificate_registry"), key := Value.str (Str.ofString "certificate_registry") q2, val := y1 }, { hash := PyData.keyHash w.params (Str.ofString "moment"), key := Value.str (Str.ofString "moment") q3, val := y2 }, { hash := PyData.keyHash w.params (Str.ofString "_validate_map"), key := Value.str (Str.ofString "_validate_map") q4, val := y3 }, { hash := PyData.keyHash w.params (Str.ofString "weak_hash_algos"), key := Value.str (Str.ofString "weak_hash_algos") q5, val := y4 }, { hash := PyData.keyHash w.params (Str.ofString "verify"), key := Value.str (Str.ofString "verify") q6, val := y5 }] F (news_cons N (by k_mem) (news_cons N (by k_mem) (news_cons N (by k_mem) (news_cons N (by k_mem) (news_cons N (by k_mem) (news_cons N (by k_mem) (news_cons N (by k_mem) (news_cons N (by k_mem) (news_cons N (by k_mem) (news_cons N (by k_mem) (news_cons N (by k_mem) (news_cons N (by k_mem) (news_cons N (by k_mem) (news_cons N (by k_mem) (news_cons N (by k_mem) (news_cons N (by k_mem) (news_cons N (by k_mem) News.nil))))))))))))))))) rfl rfl rfl rfl rfl hy2 hs2 hS hE2 hWl hs3 hp3 hs4 hp4 hA hB hv0 hv1 d11 hvL hdu c hW _ _ ?_
  intro h'' tk'' dr m' F''
  exact h h'' tk'' dr m' F''
end Mine
end
section -- Fin
open PySem PySem.W PyProof.Rows
set_option maxRecDepth 100000
namespace Mine
theorem kc_eleven {cm : Str → Option Value} {n₁ n₂ n₃ n₄ n₅ n₆ n₇ n₈ n₉ n₁₀ n₁₁ : Str} {c₁ c₂ c₃ c₄ c₅ c₆ c₇ c₈ c₉ c₁₀ c₁₁ : Addr} {cells : List (Addr × Obj)} (x : CellsAre cm [(n₁, c₁), (n₂, c₂), (n₃, c₃), (n₄, c₄), (n₅, c₅), (n₆, c₆), (n₇, c₇), (n₈, c₈), (n₉, c₉), (n₁₀, c₁₀), (n₁₁, c₁₁)] cells) :
    ∃ o₁ o₂ o₃ o₄ o₅ o₆ o₇ o₈ o₉ o₁₀ o₁₁, cells = [(c₁, o₁), (c₂, o₂), (c₃, o₃), (c₄, o₄), (c₅, o₅), (c₆, o₆), (c₇, o₇), (c₈, o₈), (c₉, o₉), (c₁₀, o₁₀), (c₁₁, o₁₁)] ∧ o₁.data = .cell (cm n₁) ∧ o₂.data = .cell (cm n₂) ∧ o₃.data = .cell (cm n₃) ∧ o₄.data = .cell (cm n₄) ∧ o₅.data = .cell (cm n₅) ∧ o₆.data = .cell (cm n₆) ∧ o₇.data = .cell (cm n₇) ∧ o₈.data = .cell (cm n₈) ∧ o₉.data = .cell (cm n₉) ∧ o₁₀.data = .cell (cm n₁₀) ∧ o₁₁.data = .cell (cm n₁₁) := by
  cases x with | cons h₁ r => cases r with | cons h₂ r => cases r with | cons h₃ r => 
    obtain ⟨o₄, o₅, o₆, o₇, o₈, o₉, o₁₀, o₁₁, rfl, h₄, h₅, h₆, h₇, h₈, h₉, h₁₀, h₁₁⟩ := kc_eight r
    exact ⟨_, _, _, o₄, o₅, o₆, o₇, o₈, o₉, o₁₀, o₁₁, rfl, h₁, h₂, h₃, h₄, h₅, h₆, h₇, h₈, h₉, h₁₀, h₁₁⟩
end Mine
local macro_rules | `(tactic| cells_open $x:ident) => `(tactic| (obtain ⟨_, _, _, _, _, _, _, _, _, _, _, he, _, _, _, _, _, _, _, _, _, _, _⟩ := Mine.kc_eleven $x; subst he))
namespace Mine
theorem law_of {w : World} {h₀ : Heap} {mean : ExcName → Option Value} {mg mb : Str → Option Value} (X : (K w.params).In h₀) (T : Top qv (looseW qv loose) mean mg mb h₀) (B : Below callerA h₀ [] h₀)
    (G : Glob 0 mg mb (List.map itemOf (recsOf qv)) (scalarsOf [] ++ constsW qv) [] (namesW qv loose) h₀) (V : LooseAre [] mg h₀) (TE : TopE qv (looseW qv loose) mg h₀) (TW : TopW qv mg h₀) (TB : Tables qv w mg h₀) (XM : Flt.MathXP qv mg h₀)
    (M : ∃ a o, BMod h₀ mainGlobals mg a o) : Law w h₀ mean mg mb := by
  refine ⟨X, ?_, B, ?_, V, ?_, ?_, ?_, ?_, M⟩ <;> rw [q_eq] <;> assumption
theorem chain_body {w : World} {h₀ : Heap} {mean : ExcName → Option Value} {mg mb : Str → Option Value} (Y : Law w h₀ mean mg mb) {s : Shared} {fa cdA : Addr} {l : Addr} {vs : List Value} {ns : List Int} {o1 o2 o3 o4 o5 o6 o7 o8 o9 o10 o11 : Obj}
  (F : Fr h₀ h₀.objs.size s.heap (fun _ => none))
  (N : News h₀ h₀.objs.size s.heap [(h₀.objs.size + 1 + 1 + 1 + 1 + 1 + 1 + 1 + 1 + 1 + 1 + 1, o11), (h₀.objs.size + 1 + 1 + 1 + 1 + 1 + 1 + 1 + 1 + 1 + 1, o10), (h₀.objs.size + 1 + 1 + 1 + 1 + 1 + 1 + 1 + 1 + 1, o9), (h₀.objs.size + 1 + 1 + 1 + 1 + 1 + 1 + 1 + 1, o8), (h₀.objs.size + 1 + 1 + 1 + 1 + 1 + 1 + 1, o7), (h₀.objs.size + 1 + 1 + 1 + 1 + 1 + 1, o6), (h₀.objs.size + 1 + 1 + 1 + 1 + 1, o5), (h₀.objs.size + 1 + 1 + 1 + 1, o4), (h₀.objs.size + 1 + 1 + 1, o3), (h₀.objs.size + 1 + 1, o2), (h₀.objs.size + 1, o1)])
  (d1 : o1.data = .cell (some (.ref l)))
  (d2 : o2.data = .cell (none))
  (d3 : o3.data = .cell (none))
  (d4 : o4.data = .cell (none))
  (d5 : o5.data = .cell (none))
  (d6 : o6.data = .cell (none))
  (d7 : o7.data = .cell (none))
  (d8 : o8.data = .cell (none))
  (d9 : o9.data = .cell (none))
  (d10 : o10.data = .cell (none))
  (d11 : o11.data = .cell (none))
  (hl : h₀.IsList l vs.toArray)
  (hi : IntsAre vs ns)
  (hlen : ns.length ≤ 63)
  {Q : Flow → Shared → Prop} {E : Value → Shared → Prop}
  (h : ∀ (h' : Heap) (tk' : Nat) (dr : Drawn) (m' : Str → Option Value), Fr h₀ h₀.objs.size h' m' → Q (.ret (.bool true)) { s with heap := h', toks := tk', drawn := dr }) :
  wpAny (model prg w) (lawA h₀.objs.size fa (.ref cdA)) (execs lawFun.1.1 (lawEnv h₀.objs.size fa (.ref cdA))) Q E s := by
  have e : lawFun.1.1 = stmts 0 ++ ((stmts 1 ++ stmts 2) ++ ((stmts 3 ++ stmts 4) ++ (stmts 5 ++ ((stmts 6 ++ stmts 7) ++ (stmts 8 ++ (stmts 9 ++ (stmts 10 ++ (stmts 11 ++ (stmts 12 ++ ((stmts 13 ++ stmts 14) ++ (stmts 15 ++ (stmts 16 ++ stmts 17)))))))))))) := rfl
  rw [e]
  exact @chain w h₀ mean mg mb Y s fa cdA l vs ns o1 o2 o3 o4 o5 o6 o7 o8 o9 o10 o11 F N d1 d2 d3 d4 d5 d6 d7 d8 d9 d10 d11 hl hi hlen Q E h
end Mine
set_option maxHeartbeats 8000000 in
theorem PySem.Challenge.cw_je0007_01_holds : PySem.Challenge.rw_je0007_01.Holds := by
  w_on; o_law
  refine holds_open (q := Mine.qv) (loose := Mine.loose) (Xt := fun s => xlAt Mine.qv [] s && recOk (RowW.records PySem.Challenge.rw_je0007_01.row.toRowW) s) (XP := XL Mine.qv []) (Yf := Hook.obs Mine.hook) (Ya := Hook.val Mine.hook) (YP := Hook.says Mine.hook) (N := 4000) Mine.left (Hook.of Mine.hook) (Hook.keeps Mine.hook) (fun s e => xl_of s (Bool.and_eq_true_iff.mp e).1) XL.keeps (by rfl) (by rfl) (by rfl) (fun s e => recFacts_of (Bool.and_eq_true_iff.mp e).2) (by rfl) (by first | assumption | decide +kernel) (by decide +kernel) ⟨rfl, rfl, rfl, rfl, rfl, by decide +kernel⟩ ?hw ?hc
  case hw => w_witness2
  k_go0
  refine' Mine.chain_body (Mine.law_of (by assumption) (by assumption) (by assumption) (by assumption) (by assumption) (by assumption) (by assumption) (by assumption) (by assumption) ⟨_, _, by assumption⟩) ?F ?N ?d1 ?d2 ?d3 ?d4 ?d5 ?d6 ?d7 ?d8 ?d9 ?d10 ?d11 ?hl ?hi ?hlen ?h
  case N => assumption
  case F => assumption
  case hl => assumption
  case hi => assumption
  case hlen => omega
  case h =>
    intro h' tk' dr m' F'
    kc_close
  all_goals assumption
end
