import PyProof.Rows.All
import Wide.All
import OpenK.AllK
import Wide.FinOn
import PySem.Challenge.RW_yi0007_01
set_option Elab.async false
set_option linter.unusedVariables false
namespace Mine
section
open PySem PySem.W PyProof.Rows
set_option maxRecDepth 100000
set_option maxHeartbeats 8000000
noncomputable def topSt (i : Nat) : Option Stmt := PySem.Challenge.pw_yi0007_01.main.body[i]?
noncomputable def clsSt (i j : Nat) : Option Stmt := match PySem.Challenge.pw_yi0007_01.main.body[i]? with
  | some (.ClassDef _ _ _ b _ _ _ _ _ _ _) => b[j]?
  | _ => none
noncomputable def fnO (st : Option Stmt) (qual : Str) (dv pm : Value) (an : Option Addr) (cd : Value) : Option Obj := match st with
  | some (.FunctionDef name args body _ _ _ scope _ _ _) => some (Obj.mk (Value.type "function") none (Data.func (FuncData.mk name qual args (FuncBody.stmts body) scope 3 [] dv Value.none Value.none pm an cd Value.none 0)) #[])
  | _ => none
noncomputable def k2 : Params → Obj := fun _ =>
  (Obj.mk Value.none none (Data.dict #[] 0) #[])
noncomputable def k3 : Params → Obj := fun P =>
  (Obj.mk (Value.type "dict") none (Data.dict #[(DictEntry.mk (PyData.keyHash P (Str.ofString "__name__")) (Value.str (Str.ofString "__name__") 165) (Value.str (Str.ofString "law_yi0007_01") 750)), (DictEntry.mk (PyData.keyHash P (Str.ofString "__doc__")) (Value.str (Str.ofString "__doc__") 166) Value.none), (DictEntry.mk (PyData.keyHash P (Str.ofString "__package__")) (Value.str (Str.ofString "__package__") 167) Value.none), (DictEntry.mk (PyData.keyHash P (Str.ofString "__loader__")) (Value.str (Str.ofString "__loader__") 168) (Value.builtin "__main__.__loader__#opaque")), (DictEntry.mk (PyData.keyHash P (Str.ofString "__spec__")) (Value.str (Str.ofString "__spec__") 169) Value.none), (DictEntry.mk (PyData.keyHash P (Str.ofString "__annotations__")) (Value.str (Str.ofString "__annotations__") 170) (Value.ref 6)), (DictEntry.mk (PyData.keyHash P (Str.ofString "__builtins__")) (Value.str (Str.ofString "__builtins__") 171) (Value.ref 4)), (DictEntry.mk (PyData.keyHash P (Str.ofString "__file__")) (Value.str (Str.ofString "__file__") 173) (Value.str (Str.ofString "/claim/cut.py") 172)), (DictEntry.mk (PyData.keyHash P (Str.ofString "__cached__")) (Value.str (Str.ofString "__cached__") 174) Value.none), (DictEntry.mk (PyData.keyHash P (Str.ofString "_wall")) (Value.str (Str.ofString "_wall") 193) (Value.ref 21)), (DictEntry.mk (PyData.keyHash P (Str.ofString "GenericPolynomialRing")) (Value.str (Str.ofString "GenericPolynomialRing") 248) (Value.ref 59)), (DictEntry.mk (PyData.keyHash P (Str.ofString "GenericPolynomial")) (Value.str (Str.ofString "GenericPolynomial") 447) (Value.ref 222)), (DictEntry.mk (PyData.keyHash P (Str.ofString "PolynomialRing")) (Value.str (Str.ofString "PolynomialRing") 533) (Value.ref 282)), (DictEntry.mk (PyData.keyHash P (Str.ofString "Polynomial")) (Value.str (Str.ofString "Polynomial") 624) (Value.ref 350)), (DictEntry.mk (PyData.keyHash P (Str.ofString "PolynomialNTT")) (Value.str (Str.ofString "PolynomialNTT") 749) (Value.ref 426)), (DictEntry.mk (PyData.keyHash P (Str.ofString "_law_draw")) (Value.str (Str.ofString "_law_draw") 759) (Value.ref 435)), (DictEntry.mk (PyData.keyHash P (Str.ofString "_law_raised")) (Value.str (Str.ofString "_law_raised") 770) (Value.ref 442)), (DictEntry.mk (PyData.keyHash P (Str.ofString "_law_sign")) (Value.str (Str.ofString "_law_sign") 777) (Value.ref 449)), (DictEntry.mk (PyData.keyHash P (Str.ofString "law")) (Value.str (Str.ofString "law") 783) (Value.ref 454))] 19) #[])
noncomputable def k48 : Params → Obj := fun _ =>
  (Obj.mk (Value.type "code") none (Data.fields #[(Value.str (Str.ofString "gen") 224), (Value.str (Str.ofString "GenericPolynomialRing.gen") 225), (Value.str (Str.ofString "/claim/cut.py") 226), (Value.int 14 0), (Value.int 1 0), (Value.int 0 0), (Value.int 0 0), (Value.int 3 0), (Value.ref 43), (Value.bool true), (Value.int 181 0), (Value.ref 44), Value.none, (Value.ref 45), (Value.ref 46), (Value.ref 47), (Value.int 228 0), (Value.int 14 0), (Value.str (Str.ofString "/claim/cut.py") 229)]) #[])
noncomputable def f49 : {o : Obj // fnO (clsSt 2 2) (Str.ofString "GenericPolynomialRing.gen") Value.none (Value.str (Str.ofString "kyber_py.polynomials.polynomials_generic") 194) none (Value.ref 48) = some o} := ⟨_, rfl⟩
noncomputable def k49 : Params → Obj := fun _ => f49.1
noncomputable def k58 : Params → Obj := fun P =>
  (Obj.mk (Value.type "dict") none (Data.dict #[(DictEntry.mk (PyData.keyHash P (Str.ofString "__module__")) (Value.str (Str.ofString "__module__") 203) (Value.str (Str.ofString "kyber_py.polynomials.polynomials_generic") 194)), (DictEntry.mk (PyData.keyHash P (Str.ofString "__firstlineno__")) (Value.str (Str.ofString "__firstlineno__") 207) (Value.int 5 206)), (DictEntry.mk (PyData.keyHash P (Str.ofString "__init__")) (Value.str (Str.ofString "__init__") 216) (Value.ref 35)), (DictEntry.mk (PyData.keyHash P (Str.ofString "zero")) (Value.str (Str.ofString "zero") 223) (Value.ref 42)), (DictEntry.mk (PyData.keyHash P (Str.ofString "gen")) (Value.str (Str.ofString "gen") 230) (Value.ref 49)), (DictEntry.mk (PyData.keyHash P (Str.ofString "__call__")) (Value.str (Str.ofString "__call__") 238) (Value.ref 56)), (DictEntry.mk (PyData.keyHash P (Str.ofString "__static_attributes__")) (Value.str (Str.ofString "__static_attributes__") 241) (Value.ref 57)), (DictEntry.mk (PyData.keyHash P (Str.ofString "__dict__")) (Value.str (Str.ofString "__dict__") 243) (Value.ref 60)), (DictEntry.mk (PyData.keyHash P (Str.ofString "__weakref__")) (Value.str (Str.ofString "__weakref__") 245) (Value.ref 61)), (DictEntry.mk (PyData.keyHash P (Str.ofString "__doc__")) (Value.str (Str.ofString "__doc__") 246) Value.none)] 4) #[])
noncomputable def k59 : Params → Obj := fun _ =>
  (Obj.mk (Value.type "type") none (Data.cls (ClassData.mk (Str.ofString "GenericPolynomialRing") [(Value.type "object")] [(Value.ref 59), (Value.type "object")] 58 (Str.ofString "GenericPolynomialRing") true [] [(Value.ref 282)] false none false)) #[none, none, (some (Value.str (Str.ofString "GenericPolynomialRing") 196)), (some (Value.str (Str.ofString "GenericPolynomialRing") 204)), (some (Value.builtin "object.__new__")), (some (Value.bool true))])
noncomputable def k60 : Params → Obj := fun _ =>
  (Obj.mk (Value.type "getset_descriptor") none (Data.fields #[(Value.str (Str.ofString "__dict__") 242), (Value.ref 59), (Value.builtin "function.__dict__"), (Value.builtin "function.__dict__#set")]) #[])
noncomputable def k61 : Params → Obj := fun _ =>
  (Obj.mk (Value.type "getset_descriptor") none (Data.fields #[(Value.str (Str.ofString "__weakref__") 244), (Value.ref 59), (Value.builtin "ExceptionGroup.__weakref__"), Value.none]) #[])
noncomputable def k95 : Params → Obj := fun _ =>
  (Obj.mk (Value.type "code") none (Data.fields #[(Value.str (Str.ofString "_parse_coefficients") 284), (Value.str (Str.ofString "GenericPolynomial._parse_coefficients") 285), (Value.str (Str.ofString "/claim/cut.py") 286), (Value.int 35 0), (Value.int 2 0), (Value.int 0 0), (Value.int 0 0), (Value.int 3 0), (Value.ref 92), (Value.bool true), (Value.int 181 0), (Value.ref 93), Value.none, Value.none, Value.none, (Value.ref 94), (Value.int 287 0), (Value.int 35 0), (Value.str (Str.ofString "/claim/cut.py") 288)]) #[])
noncomputable def f96 : {o : Obj // fnO (clsSt 3 3) (Str.ofString "GenericPolynomial._parse_coefficients") Value.none (Value.str (Str.ofString "kyber_py.polynomials.polynomials_generic") 194) none (Value.ref 95) = some o} := ⟨_, rfl⟩
noncomputable def k96 : Params → Obj := fun _ => f96.1
noncomputable def k221 : Params → Obj := fun P =>
  (Obj.mk (Value.type "dict") none (Data.dict #[(DictEntry.mk (PyData.keyHash P (Str.ofString "__module__")) (Value.str (Str.ofString "__module__") 256) (Value.str (Str.ofString "kyber_py.polynomials.polynomials_generic") 194)), (DictEntry.mk (PyData.keyHash P (Str.ofString "__firstlineno__")) (Value.str (Str.ofString "__firstlineno__") 260) (Value.int 23 259)), (DictEntry.mk (PyData.keyHash P (Str.ofString "__init__")) (Value.str (Str.ofString "__init__") 269) (Value.ref 77)), (DictEntry.mk (PyData.keyHash P (Str.ofString "is_zero")) (Value.str (Str.ofString "is_zero") 276) (Value.ref 84)), (DictEntry.mk (PyData.keyHash P (Str.ofString "is_constant")) (Value.str (Str.ofString "is_constant") 283) (Value.ref 91)), (DictEntry.mk (PyData.keyHash P (Str.ofString "_parse_coefficients")) (Value.str (Str.ofString "_parse_coefficients") 289) (Value.ref 96)), (DictEntry.mk (PyData.keyHash P (Str.ofString "reduce_coefficients")) (Value.str (Str.ofString "reduce_coefficients") 296) (Value.ref 103)), (DictEntry.mk (PyData.keyHash P (Str.ofString "_add_mod_q")) (Value.str (Str.ofString "_add_mod_q") 305) (Value.ref 110)), (DictEntry.mk (PyData.keyHash P (Str.ofString "_sub_mod_q")) (Value.str (Str.ofString "_sub_mod_q") 314) (Value.ref 117)), (DictEntry.mk (PyData.keyHash P (Str.ofString "_schoolbook_multiplication")) (Value.str (Str.ofString "_schoolbook_multiplication") 320) (Value.ref 122)), (DictEntry.mk (PyData.keyHash P (Str.ofString "__neg__")) (Value.str (Str.ofString "__neg__") 326) (Value.ref 127)), (DictEntry.mk (PyData.keyHash P (Str.ofString "_add_")) (Value.str (Str.ofString "_add_") 332) (Value.ref 132)), (DictEntry.mk (PyData.keyHash P (Str.ofString "__add__")) (Value.str (Str.ofString "__add__") 341) (Value.ref 139)), (DictEntry.mk (PyData.keyHash P (Str.ofString "__radd__")) (Value.str (Str.ofString "__radd__") 349) (Value.ref 146)), (DictEntry.mk (PyData.keyHash P (Str.ofString "__iadd__")) (Value.str (Str.ofString "__iadd__") 357) (Value.ref 153)), (DictEntry.mk (PyData.keyHash P (Str.ofString "_sub_")) (Value.str (Str.ofString "_sub_") 363) (Value.ref 158)), (DictEntry.mk (PyData.keyHash P (Str.ofString "__sub__")) (Value.str (Str.ofString "__sub__") 372) (Value.ref 165)), (DictEntry.mk (PyData.keyHash P (Str.ofString "__rsub__")) (Value.str (Str.ofString "__rsub__") 380) (Value.ref 172)), (DictEntry.mk (PyData.keyHash P (Str.ofString "__isub__")) (Value.str (Str.ofString "__isub__") 388) (Value.ref 179)), (DictEntry.mk (PyData.keyHash P (Str.ofString "__mul__")) (Value.str (Str.ofString "__mul__") 394) (Value.ref 184)), (DictEntry.mk (PyData.keyHash P (Str.ofString "__rmul__")) (Value.str (Str.ofString "__rmul__") 402) (Value.ref 191)), (DictEntry.mk (PyData.keyHash P (Str.ofString "__imul__")) (Value.str (Str.ofString "__imul__") 410) (Value.ref 198)), (DictEntry.mk (PyData.keyHash P (Str.ofString "__pow__")) (Value.str (Str.ofString "__pow__") 420) (Value.ref 205)), (DictEntry.mk (PyData.keyHash P (Str.ofString "__eq__")) (Value.str (Str.ofString "__eq__") 428) (Value.ref 212)), (DictEntry.mk (PyData.keyHash P (Str.ofString "__getitem__")) (Value.str (Str.ofString "__getitem__") 436) (Value.ref 219)), (DictEntry.mk (PyData.keyHash P (Str.ofString "__static_attributes__")) (Value.str (Str.ofString "__static_attributes__") 439) (Value.ref 220)), (DictEntry.mk (PyData.keyHash P (Str.ofString "__dict__")) (Value.str (Str.ofString "__dict__") 441) (Value.ref 223)), (DictEntry.mk (PyData.keyHash P (Str.ofString "__weakref__")) (Value.str (Str.ofString "__weakref__") 443) (Value.ref 224)), (DictEntry.mk (PyData.keyHash P (Str.ofString "__doc__")) (Value.str (Str.ofString "__doc__") 444) Value.none), (DictEntry.mk (PyData.keyHash P (Str.ofString "__hash__")) (Value.str (Str.ofString "__hash__") 445) Value.none)] 5) #[])
noncomputable def k222 : Params → Obj := fun _ =>
  (Obj.mk (Value.type "type") none (Data.cls (ClassData.mk (Str.ofString "GenericPolynomial") [(Value.type "object")] [(Value.ref 222), (Value.type "object")] 221 (Str.ofString "GenericPolynomial") true [] [(Value.ref 350)] false none false)) #[none, none, (some (Value.str (Str.ofString "GenericPolynomial") 249)), (some (Value.str (Str.ofString "GenericPolynomial") 257)), (some (Value.builtin "object.__new__")), (some (Value.bool true))])
noncomputable def k223 : Params → Obj := fun _ =>
  (Obj.mk (Value.type "getset_descriptor") none (Data.fields #[(Value.str (Str.ofString "__dict__") 440), (Value.ref 222), (Value.builtin "function.__dict__"), (Value.builtin "function.__dict__#set")]) #[])
noncomputable def k224 : Params → Obj := fun _ =>
  (Obj.mk (Value.type "getset_descriptor") none (Data.fields #[(Value.str (Str.ofString "__weakref__") 442), (Value.ref 222), (Value.builtin "ExceptionGroup.__weakref__"), Value.none]) #[])
noncomputable def k237 : Params → Obj := fun _ =>
  (Obj.mk (Value.type "code") none (Data.fields #[(Value.str (Str.ofString "__init__") 462), (Value.str (Str.ofString "PolynomialRing.__init__") 463), (Value.str (Str.ofString "/claim/cut.py") 464), (Value.int 154 0), (Value.int 1 0), (Value.int 0 0), (Value.int 0 0), (Value.int 3 0), (Value.ref 234), (Value.bool true), (Value.int 181 0), (Value.ref 235), Value.none, Value.none, Value.none, (Value.ref 236), (Value.int 465 0), (Value.int 154 0), (Value.str (Str.ofString "/claim/cut.py") 466)]) #[])
noncomputable def f238 : {o : Obj // fnO (clsSt 5 0) (Str.ofString "PolynomialRing.__init__") Value.none (Value.str (Str.ofString "kyber_py.polynomials.polynomials") 448) none (Value.ref 237) = some o} := ⟨_, rfl⟩
noncomputable def k238 : Params → Obj := fun _ => f238.1
noncomputable def k244 : Params → Obj := fun _ =>
  (Obj.mk (Value.type "code") none (Data.fields #[(Value.str (Str.ofString "_br") 468), (Value.str (Str.ofString "PolynomialRing._br") 469), (Value.str (Str.ofString "/claim/cut.py") 470), (Value.int 161 0), (Value.int 2 0), (Value.int 0 0), (Value.int 0 0), (Value.int 3 0), (Value.ref 239), (Value.bool true), (Value.int 181 0), (Value.ref 240), Value.none, (Value.ref 241), (Value.ref 242), (Value.ref 243), (Value.int 474 0), (Value.int 161 0), (Value.str (Str.ofString "/claim/cut.py") 475)]) #[])
noncomputable def f245 : {o : Obj // fnO (clsSt 5 1) (Str.ofString "PolynomialRing._br") Value.none (Value.str (Str.ofString "kyber_py.polynomials.polynomials") 448) (some 248) (Value.ref 244) = some o} := ⟨_, rfl⟩
noncomputable def k245 : Params → Obj := fun _ => f245.1
noncomputable def k246 : Params → Obj := fun P =>
  (Obj.mk (Value.type "dict") none (Data.dict #[(DictEntry.mk (PyData.keyHash P (Str.ofString "__module__")) (Value.str (Str.ofString "__module__") 477) (Value.str (Str.ofString "kyber_py.polynomials.polynomials") 448)), (DictEntry.mk (PyData.keyHash P (Str.ofString "__name__")) (Value.str (Str.ofString "__name__") 480) (Value.str (Str.ofString "_br") 479)), (DictEntry.mk (PyData.keyHash P (Str.ofString "__qualname__")) (Value.str (Str.ofString "__qualname__") 483) (Value.str (Str.ofString "PolynomialRing._br") 482)), (DictEntry.mk (PyData.keyHash P (Str.ofString "__doc__")) (Value.str (Str.ofString "__doc__") 485) Value.none), (DictEntry.mk (PyData.keyHash P (Str.ofString "__annotations__")) (Value.str (Str.ofString "__annotations__") 487) (Value.ref 248))] 5) #[])
noncomputable def k247 : Params → Obj := fun _ =>
  (Obj.mk (Value.type "staticmethod") (some 246) (Data.fields #[(Value.ref 245), (Value.bool false)]) #[])
noncomputable def k248 : Params → Obj := fun _ =>
  (Obj.mk (Value.type "dict") none (Data.dict #[] 0) #[])
noncomputable def k272 : Params → Obj := fun _ =>
  (Obj.mk (Value.type "tuple") none (Data.seq #[(Value.bool false)] 0) #[])
noncomputable def k278 : Params → Obj := fun _ =>
  (Obj.mk (Value.type "code") none (Data.fields #[(Value.str (Str.ofString "__call__") 517), (Value.str (Str.ofString "PolynomialRing.__call__") 518), (Value.str (Str.ofString "/claim/cut.py") 519), (Value.int 175 0), (Value.int 3 0), (Value.int 0 0), (Value.int 0 0), (Value.int 3 0), (Value.ref 273), (Value.bool true), (Value.int 181 0), (Value.ref 274), Value.none, (Value.ref 275), (Value.ref 276), (Value.ref 277), (Value.int 523 0), (Value.int 175 0), (Value.str (Str.ofString "/claim/cut.py") 524)]) #[])
noncomputable def f279 : {o : Obj // fnO (clsSt 5 5) (Str.ofString "PolynomialRing.__call__") (Value.ref 272) (Value.str (Str.ofString "kyber_py.polynomials.polynomials") 448) none (Value.ref 278) = some o} := ⟨_, rfl⟩
noncomputable def k279 : Params → Obj := fun _ => f279.1
noncomputable def k281 : Params → Obj := fun P =>
  (Obj.mk (Value.type "dict") none (Data.dict #[(DictEntry.mk (PyData.keyHash P (Str.ofString "__module__")) (Value.str (Str.ofString "__module__") 457) (Value.str (Str.ofString "kyber_py.polynomials.polynomials") 448)), (DictEntry.mk (PyData.keyHash P (Str.ofString "__firstlineno__")) (Value.str (Str.ofString "__firstlineno__") 461) (Value.int 152 460)), (DictEntry.mk (PyData.keyHash P (Str.ofString "__init__")) (Value.str (Str.ofString "__init__") 467) (Value.ref 238)), (DictEntry.mk (PyData.keyHash P (Str.ofString "_br")) (Value.str (Str.ofString "_br") 488) (Value.ref 247)), (DictEntry.mk (PyData.keyHash P (Str.ofString "ntt_sample")) (Value.str (Str.ofString "ntt_sample") 496) (Value.ref 255)), (DictEntry.mk (PyData.keyHash P (Str.ofString "cbd")) (Value.str (Str.ofString "cbd") 506) (Value.ref 263)), (DictEntry.mk (PyData.keyHash P (Str.ofString "decode")) (Value.str (Str.ofString "decode") 516) (Value.ref 271)), (DictEntry.mk (PyData.keyHash P (Str.ofString "__call__")) (Value.str (Str.ofString "__call__") 525) (Value.ref 279)), (DictEntry.mk (PyData.keyHash P (Str.ofString "__static_attributes__")) (Value.str (Str.ofString "__static_attributes__") 530) (Value.ref 280)), (DictEntry.mk (PyData.keyHash P (Str.ofString "__doc__")) (Value.str (Str.ofString "__doc__") 531) Value.none)] 2) #[])
noncomputable def k282 : Params → Obj := fun _ =>
  (Obj.mk (Value.type "type") none (Data.cls (ClassData.mk (Str.ofString "PolynomialRing") [(Value.ref 59)] [(Value.ref 282), (Value.ref 59), (Value.type "object")] 281 (Str.ofString "PolynomialRing") true [] [] false none false)) #[(some (Value.ref 227)), none, (some (Value.str (Str.ofString "PolynomialRing") 450)), (some (Value.str (Str.ofString "PolynomialRing") 458)), (some (Value.builtin "object.__new__")), (some (Value.bool true))])
noncomputable def k297 : Params → Obj := fun _ =>
  (Obj.mk (Value.type "code") none (Data.fields #[(Value.str (Str.ofString "__init__") 546), (Value.str (Str.ofString "Polynomial.__init__") 547), (Value.str (Str.ofString "/claim/cut.py") 548), (Value.int 185 0), (Value.int 3 0), (Value.int 0 0), (Value.int 0 0), (Value.int 3 0), (Value.ref 292), (Value.bool true), (Value.int 181 0), (Value.ref 293), Value.none, (Value.ref 294), (Value.ref 295), (Value.ref 296), (Value.int 552 0), (Value.int 185 0), (Value.str (Str.ofString "/claim/cut.py") 553)]) #[])
noncomputable def f298 : {o : Obj // fnO (clsSt 6 0) (Str.ofString "Polynomial.__init__") Value.none (Value.str (Str.ofString "kyber_py.polynomials.polynomials") 448) none (Value.ref 297) = some o} := ⟨_, rfl⟩
noncomputable def k298 : Params → Obj := fun _ => f298.1
noncomputable def k339 : Params → Obj := fun _ =>
  (Obj.mk (Value.type "code") none (Data.fields #[(Value.str (Str.ofString "to_ntt") 597), (Value.str (Str.ofString "Polynomial.to_ntt") 598), (Value.str (Str.ofString "/claim/cut.py") 599), (Value.int 204 0), (Value.int 1 0), (Value.int 0 0), (Value.int 0 0), (Value.int 3 0), (Value.ref 334), (Value.bool true), (Value.int 181 0), (Value.ref 335), Value.none, (Value.ref 336), (Value.ref 337), (Value.ref 338), (Value.int 609 0), (Value.int 204 0), (Value.str (Str.ofString "/claim/cut.py") 610)]) #[])
noncomputable def f340 : {o : Obj // fnO (clsSt 6 6) (Str.ofString "Polynomial.to_ntt") Value.none (Value.str (Str.ofString "kyber_py.polynomials.polynomials") 448) none (Value.ref 339) = some o} := ⟨_, rfl⟩
noncomputable def k340 : Params → Obj := fun _ => f340.1
noncomputable def k349 : Params → Obj := fun P =>
  (Obj.mk (Value.type "dict") none (Data.dict #[(DictEntry.mk (PyData.keyHash P (Str.ofString "__module__")) (Value.str (Str.ofString "__module__") 541) (Value.str (Str.ofString "kyber_py.polynomials.polynomials") 448)), (DictEntry.mk (PyData.keyHash P (Str.ofString "__firstlineno__")) (Value.str (Str.ofString "__firstlineno__") 545) (Value.int 183 544)), (DictEntry.mk (PyData.keyHash P (Str.ofString "__init__")) (Value.str (Str.ofString "__init__") 554) (Value.ref 298)), (DictEntry.mk (PyData.keyHash P (Str.ofString "encode")) (Value.str (Str.ofString "encode") 562) (Value.ref 305)), (DictEntry.mk (PyData.keyHash P (Str.ofString "_compress_ele")) (Value.str (Str.ofString "_compress_ele") 571) (Value.ref 312)), (DictEntry.mk (PyData.keyHash P (Str.ofString "_decompress_ele")) (Value.str (Str.ofString "_decompress_ele") 580) (Value.ref 319)), (DictEntry.mk (PyData.keyHash P (Str.ofString "compress")) (Value.str (Str.ofString "compress") 588) (Value.ref 326)), (DictEntry.mk (PyData.keyHash P (Str.ofString "decompress")) (Value.str (Str.ofString "decompress") 596) (Value.ref 333)), (DictEntry.mk (PyData.keyHash P (Str.ofString "to_ntt")) (Value.str (Str.ofString "to_ntt") 611) (Value.ref 340)), (DictEntry.mk (PyData.keyHash P (Str.ofString "from_ntt")) (Value.str (Str.ofString "from_ntt") 618) (Value.ref 347)), (DictEntry.mk (PyData.keyHash P (Str.ofString "__static_attributes__")) (Value.str (Str.ofString "__static_attributes__") 621) (Value.ref 348)), (DictEntry.mk (PyData.keyHash P (Str.ofString "__doc__")) (Value.str (Str.ofString "__doc__") 622) Value.none)] 2) #[])
noncomputable def k350 : Params → Obj := fun _ =>
  (Obj.mk (Value.type "type") none (Data.cls (ClassData.mk (Str.ofString "Polynomial") [(Value.ref 222)] [(Value.ref 350), (Value.ref 222), (Value.type "object")] 349 (Str.ofString "Polynomial") true [] [(Value.ref 426)] false none false)) #[(some (Value.ref 285)), none, (some (Value.str (Str.ofString "Polynomial") 534)), (some (Value.str (Str.ofString "Polynomial") 542)), (some (Value.builtin "object.__new__")), (some (Value.bool true))])
noncomputable def k365 : Params → Obj := fun _ =>
  (Obj.mk (Value.type "code") none (Data.fields #[(Value.str (Str.ofString "__init__") 637), (Value.str (Str.ofString "PolynomialNTT.__init__") 638), (Value.str (Str.ofString "/claim/cut.py") 639), (Value.int 228 0), (Value.int 3 0), (Value.int 0 0), (Value.int 0 0), (Value.int 3 0), (Value.ref 360), (Value.bool true), (Value.int 181 0), (Value.ref 361), Value.none, (Value.ref 362), (Value.ref 363), (Value.ref 364), (Value.int 643 0), (Value.int 228 0), (Value.str (Str.ofString "/claim/cut.py") 644)]) #[])
noncomputable def f366 : {o : Obj // fnO (clsSt 7 0) (Str.ofString "PolynomialNTT.__init__") Value.none (Value.str (Str.ofString "kyber_py.polynomials.polynomials") 448) none (Value.ref 365) = some o} := ⟨_, rfl⟩
noncomputable def k366 : Params → Obj := fun _ => f366.1
noncomputable def k379 : Params → Obj := fun _ =>
  (Obj.mk (Value.type "code") none (Data.fields #[(Value.str (Str.ofString "from_ntt") 653), (Value.str (Str.ofString "PolynomialNTT.from_ntt") 654), (Value.str (Str.ofString "/claim/cut.py") 655), (Value.int 235 0), (Value.int 1 0), (Value.int 0 0), (Value.int 0 0), (Value.int 3 0), (Value.ref 374), (Value.bool true), (Value.int 181 0), (Value.ref 375), Value.none, (Value.ref 376), (Value.ref 377), (Value.ref 378), (Value.int 667 0), (Value.int 235 0), (Value.str (Str.ofString "/claim/cut.py") 668)]) #[])
noncomputable def f380 : {o : Obj // fnO (clsSt 7 2) (Str.ofString "PolynomialNTT.from_ntt") Value.none (Value.str (Str.ofString "kyber_py.polynomials.polynomials") 448) none (Value.ref 379) = some o} := ⟨_, rfl⟩
noncomputable def k380 : Params → Obj := fun _ => f380.1
noncomputable def k386 : Params → Obj := fun _ =>
  (Obj.mk (Value.type "code") none (Data.fields #[(Value.str (Str.ofString "_ntt_base_multiplication") 670), (Value.str (Str.ofString "PolynomialNTT._ntt_base_multiplication") 671), (Value.str (Str.ofString "/claim/cut.py") 672), (Value.int 258 0), (Value.int 5 0), (Value.int 0 0), (Value.int 0 0), (Value.int 3 0), (Value.ref 381), (Value.bool true), (Value.int 181 0), (Value.ref 382), Value.none, (Value.ref 383), (Value.ref 384), (Value.ref 385), (Value.int 680 0), (Value.int 258 0), (Value.str (Str.ofString "/claim/cut.py") 681)]) #[])
noncomputable def f387 : {o : Obj // fnO (clsSt 7 3) (Str.ofString "PolynomialNTT._ntt_base_multiplication") Value.none (Value.str (Str.ofString "kyber_py.polynomials.polynomials") 448) (some 390) (Value.ref 386) = some o} := ⟨_, rfl⟩
noncomputable def k387 : Params → Obj := fun _ => f387.1
noncomputable def k388 : Params → Obj := fun P =>
  (Obj.mk (Value.type "dict") none (Data.dict #[(DictEntry.mk (PyData.keyHash P (Str.ofString "__module__")) (Value.str (Str.ofString "__module__") 683) (Value.str (Str.ofString "kyber_py.polynomials.polynomials") 448)), (DictEntry.mk (PyData.keyHash P (Str.ofString "__name__")) (Value.str (Str.ofString "__name__") 686) (Value.str (Str.ofString "_ntt_base_multiplication") 685)), (DictEntry.mk (PyData.keyHash P (Str.ofString "__qualname__")) (Value.str (Str.ofString "__qualname__") 689) (Value.str (Str.ofString "PolynomialNTT._ntt_base_multiplication") 688)), (DictEntry.mk (PyData.keyHash P (Str.ofString "__doc__")) (Value.str (Str.ofString "__doc__") 691) Value.none), (DictEntry.mk (PyData.keyHash P (Str.ofString "__annotations__")) (Value.str (Str.ofString "__annotations__") 693) (Value.ref 390))] 5) #[])
noncomputable def k389 : Params → Obj := fun _ =>
  (Obj.mk (Value.type "staticmethod") (some 388) (Data.fields #[(Value.ref 387), (Value.bool false)]) #[])
noncomputable def k390 : Params → Obj := fun _ =>
  (Obj.mk (Value.type "dict") none (Data.dict #[] 0) #[])
noncomputable def k396 : Params → Obj := fun _ =>
  (Obj.mk (Value.type "code") none (Data.fields #[(Value.str (Str.ofString "_ntt_coefficient_multiplication") 695), (Value.str (Str.ofString "PolynomialNTT._ntt_coefficient_multiplication") 696), (Value.str (Str.ofString "/claim/cut.py") 697), (Value.int 264 0), (Value.int 3 0), (Value.int 0 0), (Value.int 0 0), (Value.int 3 0), (Value.ref 391), (Value.bool true), (Value.int 181 0), (Value.ref 392), Value.none, (Value.ref 393), (Value.ref 394), (Value.ref 395), (Value.int 708 0), (Value.int 264 0), (Value.str (Str.ofString "/claim/cut.py") 709)]) #[])
noncomputable def f397 : {o : Obj // fnO (clsSt 7 4) (Str.ofString "PolynomialNTT._ntt_coefficient_multiplication") Value.none (Value.str (Str.ofString "kyber_py.polynomials.polynomials") 448) none (Value.ref 396) = some o} := ⟨_, rfl⟩
noncomputable def k397 : Params → Obj := fun _ => f397.1
noncomputable def k403 : Params → Obj := fun _ =>
  (Obj.mk (Value.type "code") none (Data.fields #[(Value.str (Str.ofString "_ntt_multiplication") 711), (Value.str (Str.ofString "PolynomialNTT._ntt_multiplication") 712), (Value.str (Str.ofString "/claim/cut.py") 713), (Value.int 273 0), (Value.int 2 0), (Value.int 0 0), (Value.int 0 0), (Value.int 3 0), (Value.ref 398), (Value.bool true), (Value.int 181 0), (Value.ref 399), Value.none, (Value.ref 400), (Value.ref 401), (Value.ref 402), (Value.int 717 0), (Value.int 273 0), (Value.str (Str.ofString "/claim/cut.py") 718)]) #[])
noncomputable def f404 : {o : Obj // fnO (clsSt 7 5) (Str.ofString "PolynomialNTT._ntt_multiplication") Value.none (Value.str (Str.ofString "kyber_py.polynomials.polynomials") 448) none (Value.ref 403) = some o} := ⟨_, rfl⟩
noncomputable def k404 : Params → Obj := fun _ => f404.1
noncomputable def k422 : Params → Obj := fun _ =>
  (Obj.mk (Value.type "code") none (Data.fields #[(Value.str (Str.ofString "__mul__") 738), (Value.str (Str.ofString "PolynomialNTT.__mul__") 739), (Value.str (Str.ofString "/claim/cut.py") 740), (Value.int 285 0), (Value.int 2 0), (Value.int 0 0), (Value.int 0 0), (Value.int 3 0), (Value.ref 419), (Value.bool true), (Value.int 181 0), (Value.ref 420), Value.none, Value.none, Value.none, (Value.ref 421), (Value.int 741 0), (Value.int 285 0), (Value.str (Str.ofString "/claim/cut.py") 742)]) #[])
noncomputable def f423 : {o : Obj // fnO (clsSt 7 8) (Str.ofString "PolynomialNTT.__mul__") Value.none (Value.str (Str.ofString "kyber_py.polynomials.polynomials") 448) none (Value.ref 422) = some o} := ⟨_, rfl⟩
noncomputable def k423 : Params → Obj := fun _ => f423.1
noncomputable def k425 : Params → Obj := fun P =>
  (Obj.mk (Value.type "dict") none (Data.dict #[(DictEntry.mk (PyData.keyHash P (Str.ofString "__module__")) (Value.str (Str.ofString "__module__") 632) (Value.str (Str.ofString "kyber_py.polynomials.polynomials") 448)), (DictEntry.mk (PyData.keyHash P (Str.ofString "__firstlineno__")) (Value.str (Str.ofString "__firstlineno__") 636) (Value.int 226 635)), (DictEntry.mk (PyData.keyHash P (Str.ofString "__init__")) (Value.str (Str.ofString "__init__") 645) (Value.ref 366)), (DictEntry.mk (PyData.keyHash P (Str.ofString "to_ntt")) (Value.str (Str.ofString "to_ntt") 652) (Value.ref 373)), (DictEntry.mk (PyData.keyHash P (Str.ofString "from_ntt")) (Value.str (Str.ofString "from_ntt") 669) (Value.ref 380)), (DictEntry.mk (PyData.keyHash P (Str.ofString "_ntt_base_multiplication")) (Value.str (Str.ofString "_ntt_base_multiplication") 694) (Value.ref 389)), (DictEntry.mk (PyData.keyHash P (Str.ofString "_ntt_coefficient_multiplication")) (Value.str (Str.ofString "_ntt_coefficient_multiplication") 710) (Value.ref 397)), (DictEntry.mk (PyData.keyHash P (Str.ofString "_ntt_multiplication")) (Value.str (Str.ofString "_ntt_multiplication") 719) (Value.ref 404)), (DictEntry.mk (PyData.keyHash P (Str.ofString "__add__")) (Value.str (Str.ofString "__add__") 728) (Value.ref 411)), (DictEntry.mk (PyData.keyHash P (Str.ofString "__sub__")) (Value.str (Str.ofString "__sub__") 737) (Value.ref 418)), (DictEntry.mk (PyData.keyHash P (Str.ofString "__mul__")) (Value.str (Str.ofString "__mul__") 743) (Value.ref 423)), (DictEntry.mk (PyData.keyHash P (Str.ofString "__static_attributes__")) (Value.str (Str.ofString "__static_attributes__") 746) (Value.ref 424)), (DictEntry.mk (PyData.keyHash P (Str.ofString "__doc__")) (Value.str (Str.ofString "__doc__") 747) Value.none)] 2) #[])
noncomputable def k426 : Params → Obj := fun _ =>
  (Obj.mk (Value.type "type") none (Data.cls (ClassData.mk (Str.ofString "PolynomialNTT") [(Value.ref 350)] [(Value.ref 426), (Value.ref 350), (Value.ref 222), (Value.type "object")] 425 (Str.ofString "PolynomialNTT") true [] [] false none false)) #[(some (Value.ref 353)), none, (some (Value.str (Str.ofString "PolynomialNTT") 625)), (some (Value.str (Str.ofString "PolynomialNTT") 633)), (some (Value.builtin "object.__new__")), (some (Value.bool true))])
noncomputable def k434 : Params → Obj := fun _ =>
  (Obj.mk (Value.type "code") none (Data.fields #[(Value.str (Str.ofString "_law_draw") 752), (Value.str (Str.ofString "_law_draw") 753), (Value.str (Str.ofString "/claim/cut.py") 754), (Value.int 294 0), (Value.int 2 0), (Value.int 0 0), (Value.int 0 0), (Value.int 3 0), (Value.ref 429), (Value.bool true), (Value.int 181 0), (Value.ref 430), Value.none, (Value.ref 431), (Value.ref 432), (Value.ref 433), (Value.int 757 0), (Value.int 294 0), (Value.str (Str.ofString "/claim/cut.py") 758)]) #[])
noncomputable def f435 : {o : Obj // fnO (topSt 9) (Str.ofString "_law_draw") Value.none (Value.str (Str.ofString "law_yi0007_01") 750) none (Value.ref 434) = some o} := ⟨_, rfl⟩
noncomputable def k435 : Params → Obj := fun _ => f435.1
noncomputable def k441 : Params → Obj := fun _ =>
  (Obj.mk (Value.type "code") none (Data.fields #[(Value.str (Str.ofString "_law_raised") 760), (Value.str (Str.ofString "_law_raised") 761), (Value.str (Str.ofString "/claim/cut.py") 762), (Value.int 298 0), (Value.int 3 0), (Value.int 0 0), (Value.int 0 0), (Value.int 3 0), (Value.ref 436), (Value.bool true), (Value.int 181 0), (Value.ref 437), Value.none, (Value.ref 438), (Value.ref 439), (Value.ref 440), (Value.int 768 0), (Value.int 298 0), (Value.str (Str.ofString "/claim/cut.py") 769)]) #[])
noncomputable def f442 : {o : Obj // fnO (topSt 10) (Str.ofString "_law_raised") Value.none (Value.str (Str.ofString "law_yi0007_01") 750) none (Value.ref 441) = some o} := ⟨_, rfl⟩
noncomputable def k442 : Params → Obj := fun _ => f442.1
noncomputable def k448 : Params → Obj := fun _ =>
  (Obj.mk (Value.type "code") none (Data.fields #[(Value.str (Str.ofString "_law_sign") 771), (Value.str (Str.ofString "_law_sign") 772), (Value.str (Str.ofString "/claim/cut.py") 773), (Value.int 306 0), (Value.int 1 0), (Value.int 0 0), (Value.int 0 0), (Value.int 3 0), (Value.ref 443), (Value.bool true), (Value.int 181 0), (Value.ref 444), Value.none, (Value.ref 445), (Value.ref 446), (Value.ref 447), (Value.int 775 0), (Value.int 306 0), (Value.str (Str.ofString "/claim/cut.py") 776)]) #[])
noncomputable def f449 : {o : Obj // fnO (topSt 11) (Str.ofString "_law_sign") Value.none (Value.str (Str.ofString "law_yi0007_01") 750) none (Value.ref 448) = some o} := ⟨_, rfl⟩
noncomputable def k449 : Params → Obj := fun _ => f449.1
noncomputable def k453 : Params → Obj := fun _ =>
  (Obj.mk (Value.type "code") none (Data.fields #[(Value.str (Str.ofString "law") 778), (Value.str (Str.ofString "law") 779), (Value.str (Str.ofString "/claim/cut.py") 780), (Value.int 310 0), (Value.int 1 0), (Value.int 0 0), (Value.int 0 0), (Value.int 3 0), (Value.ref 450), (Value.bool true), (Value.int 181 0), (Value.ref 451), Value.none, Value.none, Value.none, (Value.ref 452), (Value.int 781 0), (Value.int 310 0), (Value.str (Str.ofString "/claim/cut.py") 782)]) #[])
noncomputable def f454 : {o : Obj // fnO (topSt 12) (Str.ofString "law") Value.none (Value.str (Str.ofString "law_yi0007_01") 750) none (Value.ref 453) = some o} := ⟨_, rfl⟩
noncomputable def k454 : Params → Obj := fun _ => f454.1
noncomputable def KT : Params → Frag := fun P => ((nat_lit 2 : Nat), k2 P) :: ((nat_lit 3 : Nat), k3 P) :: ((nat_lit 48 : Nat), k48 P) :: ((nat_lit 49 : Nat), k49 P) :: ((nat_lit 58 : Nat), k58 P) :: ((nat_lit 59 : Nat), k59 P) :: ((nat_lit 60 : Nat), k60 P) :: ((nat_lit 61 : Nat), k61 P) :: ((nat_lit 95 : Nat), k95 P) :: ((nat_lit 96 : Nat), k96 P) :: ((nat_lit 221 : Nat), k221 P) :: ((nat_lit 222 : Nat), k222 P) :: ((nat_lit 223 : Nat), k223 P) :: ((nat_lit 224 : Nat), k224 P) :: ((nat_lit 237 : Nat), k237 P) :: ((nat_lit 238 : Nat), k238 P) :: ((nat_lit 244 : Nat), k244 P) :: ((nat_lit 245 : Nat), k245 P) :: ((nat_lit 246 : Nat), k246 P) :: ((nat_lit 247 : Nat), k247 P) :: ((nat_lit 248 : Nat), k248 P) :: ((nat_lit 272 : Nat), k272 P) :: ((nat_lit 278 : Nat), k278 P) :: ((nat_lit 279 : Nat), k279 P) :: ((nat_lit 281 : Nat), k281 P) :: ((nat_lit 282 : Nat), k282 P) :: ((nat_lit 297 : Nat), k297 P) :: ((nat_lit 298 : Nat), k298 P) :: ((nat_lit 339 : Nat), k339 P) :: ((nat_lit 340 : Nat), k340 P) :: ((nat_lit 349 : Nat), k349 P) :: ((nat_lit 350 : Nat), k350 P) :: ((nat_lit 365 : Nat), k365 P) :: ((nat_lit 366 : Nat), k366 P) :: ((nat_lit 379 : Nat), k379 P) :: ((nat_lit 380 : Nat), k380 P) :: ((nat_lit 386 : Nat), k386 P) :: ((nat_lit 387 : Nat), k387 P) :: ((nat_lit 388 : Nat), k388 P) :: ((nat_lit 389 : Nat), k389 P) :: ((nat_lit 390 : Nat), k390 P) :: ((nat_lit 396 : Nat), k396 P) :: ((nat_lit 397 : Nat), k397 P) :: ((nat_lit 403 : Nat), k403 P) :: ((nat_lit 404 : Nat), k404 P) :: ((nat_lit 422 : Nat), k422 P) :: ((nat_lit 423 : Nat), k423 P) :: ((nat_lit 425 : Nat), k425 P) :: ((nat_lit 426 : Nat), k426 P) :: ((nat_lit 434 : Nat), k434 P) :: ((nat_lit 435 : Nat), k435 P) :: ((nat_lit 441 : Nat), k441 P) :: ((nat_lit 442 : Nat), k442 P) :: ((nat_lit 448 : Nat), k448 P) :: ((nat_lit 449 : Nat), k449 P) :: ((nat_lit 453 : Nat), k453 P) :: ((nat_lit 454 : Nat), k454 P) :: ([] : List (Nat × Obj))
def KA : List Addr := [2, 3, 48, 49, 58, 59, 60, 61, 95, 96, 221, 222, 223, 224, 237, 238, 244, 245, 246, 247, 248, 272, 278, 279, 281, 282, 297, 298, 339, 340, 349, 350, 365, 366, 379, 380, 386, 387, 388, 389, 390, 396, 397, 403, 404, 422, 423, 425, 426, 434, 435, 441, 442, 448, 449, 453, 454]

def runG (thr ok : Thread → Bool) (stp : SharedT → Thread → Option (SharedT × Thread)) : Nat → SharedT → Thread → Option SharedT
  | 0, _, _ => none
  | n + 1, s, t => match thr t with
    | true => some s
    | false => match ok t with
      | false => none
      | true => match stp s t with
        | some (s', t') => runG thr ok stp n s' t'
        | none => none
theorem runG_top {tb : String → Option Builtin} {p : Program} {w : World} {n₀ : Nat} {ann : Option Value} : ∀ (n : Nat) (s : SharedT) (t : Thread) (s' : SharedT),
    runG through (stepOk n₀ ann) (stepT (denote tb) p w) n s t = some s' → topRun tb p w n₀ ann n s.abs t = some s'.abs
  | 0, _, _, _, h => by cases h
  | n + 1, s, t, s', h => by
    unfold runG at h
    unfold topRun
    cases ht : through t with
    | true => rw [ht] at h; cases h; rfl
    | false =>
      rw [ht] at h
      cases hk : stepOk n₀ ann t with
      | false => rw [hk] at h; cases h
      | true =>
        rw [hk] at h
        cases hs : stepT (denote tb) p w s t with
        | none => rw [hs] at h; cases h
        | some r => obtain ⟨s₂, t₂⟩ := r; rw [hs] at h; rw [stepT_spec hs]; exact runG_top n s₂ t₂ s' h
open BT in
noncomputable def T0 (P : Params) : BT := node (boot_o_0 P)
  (node (boot_o_1 P) (node (boot_o_3 P) (node (boot_o_7 P) nil nil) nil) (node (boot_o_5 P) (node (boot_o_9 P) nil nil) nil))
  (node (boot_o_2 P) (node (boot_o_4 P) (node (boot_o_8 P) nil nil) nil) (node (boot_o_6 P) (node (boot_o_10 P) nil nil) nil))
noncomputable def S0 (P : Params) (os : OsState) : SharedT := ⟨T0 P, 11, {}, #[], boot_drawn, 181, os⟩
theorem S0_abs (P : Params) (os : OsState) : (S0 P os).abs = ⟨boot_heap P, #[], boot_drawn, boot_toks, os⟩ := by kernel_rfl
noncomputable def vw : Program := view PySem.Challenge.pw_yi0007_01 [0, 2, 3, 5, 6, 7, 9, 10, 11, 12]
noncomputable def lz : List Str := [Str.ofString "PolynomialRing", Str.ofString "PolynomialNTT"]
noncomputable def looksAt (P : Params) (s : Shared) := ((staticsOk (importedModules PySem.Challenge.pw_yi0007_01.main.body) (boot_heap P) s.heap && namesBound PySem.Challenge.pw_yi0007_01 s.heap && gensDone s && laidKept (boot_heap P) s.heap),
        openSeen vw lz (importedModules PySem.Challenge.pw_yi0007_01.main.body) (fun s => xlAt vw [] s && recOk [] s) true s)
theorem KT_addrs : ∀ P, KA = (KT P).map (·.1) := fun _ => by kernel_rfl
noncomputable abbrev hook : Hook := kHook KT KA KT_addrs
theorem run1 (w : World) (os : OsState) : (runG through (stepOk 11 (some (.ref 6))) (stepT (denote treeTable) PySem.Challenge.pw_yi0007_01 w) 4000 (S0 w.params os) (topStub PySem.Challenge.pw_yi0007_01)).map
      (fun s => ((staticsOk (importedModules PySem.Challenge.pw_yi0007_01.main.body) (boot_heap w.params) s.abs.heap && namesBound PySem.Challenge.pw_yi0007_01 s.abs.heap && gensDone s.abs && laidKept (boot_heap w.params) s.abs.heap),
        openSeen vw lz (importedModules PySem.Challenge.pw_yi0007_01.main.body) (fun s => xlAt vw [] s && recOk (RowW.records PySem.Challenge.rw_yi0007_01.row.toRowW) s) true s.abs, KA.map s.abs.heap.get?)) = some (true, openGood vw lz, (KT w.params).map fun p => some p.2) := by
  rw [PySem.W.Fast.te6613529449190102663, PySem.W.Fast.te10156331382660048174, PySem.W.Fast.te11892475500146522536, PySem.W.Fast.te14364793385576792824, PySem.W.Fast.te5923862056798008813, PySem.W.Fast.te4187177175401517315]
  kernel_rfl
end
section
open PySem PySem.W PyProof.Rows
set_option maxRecDepth 100000
set_option maxHeartbeats 8000000
theorem boot_size (P : Params) : ((boot_heap P).isNs mainGlobals && (#[] : Array GenState).size == 0, (boot_heap P).objs.size, (boot_heap P).nsMap mainGlobals "__annotations__") = (true, 11, some (.ref 6)) := by kernel_rfl
theorem left_of {p q : Program} {loose : List Str} {Xt : Shared → Bool} {α : Type} {Yf : Shared → α} {Ya : World → α} {N : Nat} (hb : opening p = plainProg p.main.scope.names) (hN : Nat.ble 600 N = true) (hf : ∀ s, fenceModules? p s = some s)
    (run : ∀ w os, (runG through (stepOk 11 (some (.ref 6))) (stepT (denote treeTable) p w) N (S0 w.params os) (topStub p)).map (fun s => ((staticsOk (importedModules p.main.body) (boot_heap w.params) s.abs.heap && namesBound p s.abs.heap && gensDone s.abs && laidKept (boot_heap w.params) s.abs.heap),
        openSeen q loose (importedModules p.main.body) Xt true s.abs, Yf s.abs)) = some (true, openGood q loose, Ya w)) : LeftO p q loose Xt Yf Ya N := fun w => by
  have b := boot_open (p := p) (N := N) hb hN hf w
  obtain ⟨⟨h, gs, d, k, os⟩, e, e'⟩ := Option.map_eq_some_iff.mp b
  obtain ⟨rfl, rfl, rfl, rfl⟩ : h = boot_heap w.params ∧ gs = #[] ∧ d = boot_drawn ∧ k = boot_toks := by simpa using e'
  obtain ⟨sT, hT, hL⟩ := Option.map_eq_some_iff.mp (run w os)
  have t := runG_top _ _ _ _ hT
  rw [S0_abs] at t
  obtain ⟨l1, l2⟩ := Prod.mk.inj hL
  have z := boot_size w.params
  have z1 := congrArg Prod.fst z
  have z2 := congrArg (fun x => x.2.1) z
  have z3 := congrArg (fun x => x.2.2) z
  dsimp only at z1 z2 z3
  have tf : topFrom treeTable p w N ⟨boot_heap w.params, #[], boot_drawn, boot_toks, os⟩ = some sT.abs := by
    unfold topFrom
    dsimp only
    rw [z1, z2, z3]
    dsimp only
    rw [t]
    dsimp only [Option.bind]
    rw [l1]
  unfold openEnds
  rw [e]
  dsimp only [Option.bind]
  rw [tf]
  exact congrArg some l2
theorem left : LeftO PySem.Challenge.pw_yi0007_01 vw lz (fun s => xlAt vw [] s && recOk (RowW.records PySem.Challenge.rw_yi0007_01.row.toRowW) s) (Hook.obs hook) (Hook.val hook) 4000 :=
  left_of (by kernel_rfl) (by kernel_rfl) (fun s => by kernel_rfl) run1
end
section
open PySem PySem.W PyProof.Rows
set_option maxRecDepth 100000
set_option maxHeartbeats 8000000
theorem said_law : OpenLaw.wellSaid PySem.Challenge.rw_yi0007_01 = true := by
  rw [PySem.W.Fast.te9446332074065402090]
  kernel_rfl
theorem hd {d : DefRec} {kwd : List (Str × Expr)} (hdef : defOf vw PySem.Challenge.rw_yi0007_01.row.toRowW.name = some (d, kwd))
    (hp : PySem.Challenge.rw_yi0007_01.row.toRowW.prog.theDef PySem.Challenge.rw_yi0007_01.row.toRowW.name = some (d.params, d.body, d.scope)) (hk : kwWritten? d.params.kwonlyargs d.params.kw_defaults = some kwd)
    (walk : WalkO vw lz (XL vw []) (Hook.says (kHook KT KA KT_addrs)) PySem.Challenge.rw_yi0007_01.row.toRowW d kwd fun f vs => PySem.call f vs) : PySem.Challenge.rw_yi0007_01.Holds := by
  w_on
  refine holds_law said_law fun said => ?_
  refine holds_open (Xt := fun s => xlAt vw [] s && recOk (RowW.records PySem.Challenge.rw_yi0007_01.row.toRowW) s) (XP := XL vw []) (Yf := Hook.obs hook) (Ya := Hook.val hook) (YP := Hook.says hook) (N := 4000) left (Hook.of hook) (Hook.keeps hook) (fun s e => xl_of s (Bool.and_eq_true_iff.mp e).1) XL.keeps
    hdef hp hk (fun s e => recFacts_of (Bool.and_eq_true_iff.mp e).2) (by rfl) (by first | assumption | decide +kernel) ?ok ⟨rfl, rfl, rfl, rfl, rfl, by decide +kernel⟩ ?hw walk
  case hw => w_witness2
  case ok => decide +kernel
end
section
open PySem PySem.W PyProof.Rows PySem.Calls PySem.Spec PyProof.V
set_option maxRecDepth 100000
set_option maxHeartbeats 8000000
noncomputable abbrev lse : List Str := looseW vw lz
noncomputable abbrev ent (w : World) (x : String) (t : Tok) (v : Value) : DictEntry := ⟨PyData.keyHash w.params (Str.ofString x), .str (Str.ofString x) t, v⟩

theorem lower {α : Type} {M : Model} {A B : Around} {t : Sem α} {Q : α → Shared → Prop} {E : Value → Shared → Prop} {s : Shared} (h : wpAny M B t Q E s)
    (e1 : A.handled = B.handled) (e2 : A.depth ≤ B.depth) (e3 : A.frames = B.frames) (e4 : A.guards = B.guards) (e5 : A.units ≤ B.units) : wpAny M A t Q E s := fun Γ p hΓ =>
  h Γ p ⟨hΓ.1.trans e1, Nat.le_trans hΓ.2.1 e2, fun l hl => hΓ.2.2.1 l (e3.trans hl), fun g hg => hΓ.2.2.2.1 g (e4.trans hg), Nat.le_trans hΓ.2.2.2.2 e5⟩

theorem lowerK {α : Type} {M : Model} {t : Sem α} {Q : α → Shared → Prop} {E : Value → Shared → Prop} {s : Shared} {dp un dp' un' : Nat} {gd : Option (List Code)} {cn : Str} {cs : Scope} {L a : Addr} {ccd : Value} {cl : List (Str × Addr)} {outer : List Env}
    (h : wpAny M (ktrTop dp' un' gd cn cs L a ccd cl outer) t Q E s) (e2 : dp ≤ dp') (e5 : un ≤ un') : wpAny M (ktrTop dp un gd cn cs L a ccd cl outer) t Q E s := lower h rfl e2 rfl rfl e5
def mpB (rest : Str → Option Value) : List (Str × Value) → Str → Option Value
  | [] => rest
  | (k, v) :: r => fun z => if z = k then some v else mpB rest r z
def At (m : Str → Option Value) : List (Str × Value) → Prop
  | [] => True
  | (k, v) :: r => m k = some v ∧ At m r
theorem At.eq {m : Str → Option Value} : ∀ {ps : List (Str × Value)}, At m ps → mpB m ps = m
  | [], _ => rfl
  | (k, v) :: r, h => by
    funext z
    show (if z = k then some v else mpB m r z) = m z
    by_cases e : z = k
    · rw [if_pos e, e]; exact h.1.symm
    · rw [if_neg e, h.2.eq]
theorem fr_at {g h : Heap} {L : Addr} {m : Str → Option Value} {ps : List (Str × Value)} (F : Fr g L h m) (h1 : At m ps) : Fr g L h (mpB m ps) := by
  rw [h1.eq]; exact F
theorem fr_at1 {g h : Heap} {L : Addr} {x : Str} {v : Value} {m : Str → Option Value} {ps : List (Str × Value)} (F : Fr g L h (fun y => if y = x then some v else m y)) (h1 : At m ps) : Fr g L h (fun y => if y = x then some v else mpB m ps y) := by
  rw [h1.eq]; exact F

section
variable {prog : Program} {w : World} {A : Around} {E : Value → Shared → Prop} {s : Shared} {env : Env} {h₀ : Heap} {x : Str} {body : List Stmt} {Q : Flow → Shared → Prop}
theorem range_inv {r : Addr} {a₀ b₀ : Int} {t₀ u₀ v₀ : Tok} {n : Nat} {m₀ : Str → Option Value} {news : List (Addr × Obj)} (J : Nat → (Str → Option Value) → List (Addr × Obj) → Prop)
    (hh : A.handled = none) (hr : IsRange s.heap r a₀ b₀ 1 t₀ u₀ v₀) (hsmall : Builtin.Range.small a₀ b₀ 1 = true) (hn : Builtin.Range.rangeSize a₀ b₀ 1 = (n : Int))
    (F : Fr h₀ env.locals s.heap m₀) (N : News h₀ env.locals s.heap news) (hj : J 0 m₀ news)
    (turn : ∀ (i : Nat) t m₁ news₁ h tk own, i < n → news₁.map (·.1) = news.map (·.1) → OwnOff own (news.map (·.1)) → J i m₁ news₁ →
      Fr h₀ env.locals h (fun y => if y = x then some (.int (a₀ + (i : Int)) t) else m₁ y) → News h₀ env.locals h (news₁ ++ own) →
      wpAny (model prog w) A (execs body env) (InvPostN h₀ env.locals (J (i + 1)) own (news.map (·.1)) { s with heap := h, toks := tk } Q) E { s with heap := h, toks := tk })
    (done : ∀ m₁ news₁ h tk, J n m₁ news₁ → Fr h₀ env.locals h m₁ → News h₀ env.locals h news₁ → Q .next { s with heap := h, toks := tk }) :
    wpAny (model prog w) A (pyIter (.ref r)) (fun it s₂ => LoopAtV prog w A h₀ env x body Q E it s₂) E s := by
  refine wpAny_pyIter_range hr hsmall ?_
  have W : Walks prog w A s.heap.objs.size [s.heap.objs.size] [s.heap.objs.size] n (fun i v => i < n ∧ ∃ t, v = .int (a₀ + i * 1) t)
      (fun i h => IsRangeIter h s.heap.objs.size (a₀ + (i : Nat) * 1) ((n : Int) - (i : Nat)) 1) := (Walks.range hh _ a₀ 1 n).bound
  refine loop_invN J W ?_ ?_ ?_ ?_ (by show IsRangeIter _ _ _ _ _; rw [hn]; simpa using Heap.get?_push_size _ rfl) (F.push _) (fun p hp => ⟨Heap.get?_push_of_some _ (N p hp).1, (N p hp).2⟩) hj ?_ ?_
  · intro hm
    exact absurd F.ns.lt ((List.mem_singleton.mp hm) ▸ Nat.lt_irrefl _)
  · intro b hb
    rw [List.mem_singleton.mp hb]
    exact next_is_new F
  · intro p hp hI
    exact absurd (Heap.lt_size (N p hp).1) ((List.mem_singleton.mp hI) ▸ Nat.lt_irrefl _)
  · intro p hp hI
    exact absurd (Heap.lt_size (N p hp).1) ((List.mem_singleton.mp hI) ▸ Nat.lt_irrefl _)
  · rintro i v m₁ nx h tk own hi ⟨_, t, rfl⟩ hadr hoff hJ F₁ N₁
    have e1 : a₀ + (i : Int) * 1 = a₀ + (i : Int) := by omega
    rw [e1] at F₁
    exact turn i t m₁ nx h tk own hi hadr hoff hJ F₁ N₁
  · intro m₁ nx h tk hJ F₁ N₁
    exact done m₁ nx h tk hJ F₁ N₁
end
/-- the end of a turn where the ledger's addresses may turn too -/
def TurnEnd (h₀ : Heap) (L : Addr) (J : (Str → Option Value) → List (Addr × Obj) → Prop) (I : Addr) (oI : Obj) (Q : Flow → Shared → Prop) (s₁ : Shared) (f : Flow) (s₂ : Shared) : Prop :=
  match f with
  | .ret v => Q (.ret v) s₂
  | .brk => Q .next s₂
  | _ => ∃ h' tk m' nx, s₂ = { s₁ with heap := h', toks := tk } ∧ Fr h₀ L h' m' ∧ News h₀ L h' ((I, oI) :: nx) ∧ (∀ p ∈ nx, p.1 ≠ I) ∧ J m' nx
theorem TurnEnd.intro {h₀ : Heap} {L : Addr} {J : (Str → Option Value) → List (Addr × Obj) → Prop} {I : Addr} {oI : Obj} {Q : Flow → Shared → Prop} {s₁ : Shared} {h' : Heap} {tk : Nat} {m' : Str → Option Value} {nx : List (Addr × Obj)}
    (F : Fr h₀ L h' m') (N : News h₀ L h' ((I, oI) :: nx)) (hn : ∀ p ∈ nx, p.1 ≠ I) (hJ : J m' nx) : TurnEnd h₀ L J I oI Q s₁ .next { s₁ with heap := h', toks := tk } := ⟨h', tk, m', nx, rfl, F, N, hn, hJ⟩
section
variable {prog : Program} {w : World} {A : Around} {E : Value → Shared → Prop} {s : Shared} {env : Env} {h₀ : Heap} {x : Str} {body : List Stmt} {Q : Flow → Shared → Prop}
theorem range_inv2 {r : Addr} {a₀ b₀ : Int} {t₀ u₀ v₀ : Tok} {n : Nat} {m₀ : Str → Option Value} {news : List (Addr × Obj)} (J : Nat → (Str → Option Value) → List (Addr × Obj) → Prop)
    (hh : A.handled = none) (hr : IsRange s.heap r a₀ b₀ 1 t₀ u₀ v₀) (hsmall : Builtin.Range.small a₀ b₀ 1 = true) (hn : Builtin.Range.rangeSize a₀ b₀ 1 = (n : Int))
    (F : Fr h₀ env.locals s.heap m₀) (N : News h₀ env.locals s.heap news) (hj : J 0 m₀ news)
    (turn : ∀ (i : Nat) t m₁ news₁ h tk I oI, i < n → (∀ p ∈ news₁, p.1 ≠ I) → J i m₁ news₁ →
      Fr h₀ env.locals h (fun y => if y = x then some (.int (a₀ + (i : Int)) t) else m₁ y) → News h₀ env.locals h ((I, oI) :: news₁) →
      wpAny (model prog w) A (execs body env) (TurnEnd h₀ env.locals (J (i + 1)) I oI Q { s with heap := h, toks := tk }) E { s with heap := h, toks := tk })
    (done : ∀ m₁ news₁ h tk, J n m₁ news₁ → Fr h₀ env.locals h m₁ → News h₀ env.locals h news₁ → Q .next { s with heap := h, toks := tk }) :
    wpAny (model prog w) A (pyIter (.ref r)) (fun it s₂ => LoopAtV prog w A h₀ env x body Q E it s₂) E s := by
  refine wpAny_pyIter_range hr hsmall ?_
  have W : Walks prog w A s.heap.objs.size [s.heap.objs.size] [s.heap.objs.size] n (fun i v => i < n ∧ ∃ t, v = .int (a₀ + i * 1) t)
      (fun i h => IsRangeIter h s.heap.objs.size (a₀ + (i : Nat) * 1) ((n : Int) - (i : Nat)) 1) := (Walks.range hh _ a₀ 1 n).bound
  have hI0 : h₀.get? s.heap.objs.size = none := next_is_new F
  refine ⟨s.heap.objs.size, [s.heap.objs.size], [s.heap.objs.size], n, _, _, m₀, news, J, rfl, W, ?_, ?_, ?_, (by show IsRangeIter _ _ _ _ _; rw [hn]; simpa using Heap.get?_push_size _ rfl), F.push _, (fun p hp => ⟨Heap.get?_push_of_some _ (N p hp).1, (N p hp).2⟩), hj, ?_, ?_⟩
  · intro hm
    exact absurd F.ns.lt ((List.mem_singleton.mp hm) ▸ Nat.lt_irrefl _)
  · intro b hb
    rw [List.mem_singleton.mp hb]
    exact hI0
  · intro p hp hI
    exact absurd (Heap.lt_size (N p hp).1) ((List.mem_singleton.mp hI) ▸ Nat.lt_irrefl _)
  · rintro i v m₁ nx s₁ own ⟨h, tk, rfl⟩ hi ⟨_, t, rfl⟩ hJ hoff hown hat hall hst F₁ N₁
    have e1 : a₀ + (i : Int) * 1 = a₀ + (i : Int) := by omega
    rw [e1] at F₁
    obtain ⟨oI, hI⟩ : ∃ o, h.get? s.heap.objs.size = some o := ⟨_, hst⟩
    have hIm := hall s.heap.objs.size (.head _) hI0 _ hI
    have N₂ : News h₀ env.locals h ((s.heap.objs.size, oI) :: nx) := fun p hp => by
      rcases List.mem_cons.mp hp with rfl | hp
      · exact N₁ _ (List.mem_append_left _ hIm)
      · exact N₁ p (List.mem_append_right _ hp)
    refine wpAny_mono (turn i t m₁ nx h tk s.heap.objs.size oI hi (fun p hp e => hoff p hp (by rw [e]; exact .head _)) hJ F₁ N₂) (fun f s₂ p => ?_) fun _ _ e => e
    have fin : (∃ h' tk' m' nx', s₂ = { s with heap := h', toks := tk' } ∧ Fr h₀ env.locals h' m' ∧ News h₀ env.locals h' ((s.heap.objs.size, oI) :: nx') ∧ (∀ p ∈ nx', p.1 ≠ s.heap.objs.size) ∧ J (i + 1) m' nx') → LoopStepU h₀ env.locals [s.heap.objs.size] own (J (i + 1)) { s with heap := h, toks := tk } .next s₂ := by
      rintro ⟨h', tk', m', nx', e, F', N', hne, hm⟩
      refine ⟨rfl, h', tk', m', nx', e, F', fun p hp => ?_, fun p hp hq => hne p hp (List.mem_singleton.mp hq), hm⟩
      rcases List.mem_append.mp hp with hp | hp
      · have a1 := List.mem_singleton.mp (hown p hp)
        have a2 := hat p hp
        obtain ⟨pa, po⟩ := p
        dsimp only at a1 a2
        subst a1
        have a3 := hI.symm.trans a2
        cases a3
        exact N' _ (.head _)
      · exact N' p (.tail _ hp)
    cases f with
    | ret v => exact .ret p
    | brk => exact .brk p
    | next => exact .next (fin p)
    | cont => exact .cont (fin p)
  · rintro h' tk m' news' F' N' _ hJ
    exact done m' news' h' tk hJ F' N'
end
section
variable {M : Model} {A : Around} {E : Value → Shared → Prop} {s : Shared} {K : Frag} {env : Env} {pos : Pos} {x C : Addr} {ox : Obj} {od : Option Obj} {first : List Value} {Q : Value → Shared → Prop}
theorem instKW {f : Addr} {e : Expr} {rest : List Expr} {kws : List Keyword} (_X : K.In s.heap) (_I : InstAt s.heap x ox C od) (hd : ox.data = .plain) (_hs : findIn K (.ref C) "__call__" = some (some (.ref f))) (hall : (backToKw pos (keywordEach kws env)).all (·.1.isSome) = true)
    (h : wpAny M A (spliced (backTo pos (starEach (e :: rest) env))) (fun vs s₁ => wpAny M A (evalAll ((backToKw pos (keywordEach kws env)).map (·.2)))
      (fun ks s₂ => kco_P K x C ox od s₂.heap ∧ wpAny M A (call (.ref x) (first ++ vs) (((backToKw pos (keywordEach kws env)).filterMap (·.1)).zip ks)) Q E s₂) E s₁) E s)
    (hplain : ((backTo pos (starEach (e :: rest) env)).any (·.1) || (backToKw pos (keywordEach kws env)).any (·.1.isNone)) = false := by rfl) (he : starEach (e :: rest) env = (false, eval e env) :: starEach rest env := by rfl) :
    wpAny M A (callWith pos (.ref x) first (backTo pos (starEach (e :: rest) env)) (backToKw pos (keywordEach kws env))) Q E s :=
  kco_callWith_of hplain hd (evalArgs_kw2 hall h he)
end
theorem iadd_fill : fillsInplaceSlot (.type "list") "add" (Operator.Add == .Add) = pure false := by
  unfold fillsInplaceSlot
  show (typeLookup (.type "list") (dunderI "add") >>= fun fi => pure (fi.isSome && !isSeqSlot fi)) = pure false
  rw [PySem.F.slot_list_iadd.lookup]
  show (pure _ : Sem Bool) = _
  congr 1
theorem iadd_seq : seqSlot? (.type "list") (dunderI "add") = pure (some (.builtin "list.__iadd__")) := PySem.seqSlot_of PySem.F.slot_list_iadd.lookup (by decide +kernel)
theorem inplace_seq {M : Model} {A : Around} {E : Value → Shared → Prop} {s : Shared} {a b : Value} {T id : String} {Q : Value → Shared → Prop} (ha : s.TypeIs a T) (hb : s.TypeIs b T)
    (hfi : fillsInplaceSlot (.type T) "add" (Operator.Add == .Add) = pure false) (hfill : fillsNumberSlot (.type T) "add" = pure false) (hsi : seqSlot? (.type T) (dunderI "add") = pure (some (.builtin id)))
    (hc : wpAny M A (call (.builtin id) [a, b]) Q E s) : wpAny M A (inplaceOp .Add a b) Q E s := by
  unfold inplaceOp
  refine wpAny_holding ?_
  refine wpAny_bind (wpAny_typeOf ha (wpAny_bind (wpAny_of_eq hfi ?_)))
  show wpAny M A (if false = true then _ else _) Q E s
  rw [if_neg Bool.false_ne_true]
  refine wpAny_bind (wpAny_binaryOp1_none (nm := "add") ha hb hfill ?_)
  refine wpAny_bind (wpAny_of_eq hsi ?_)
  exact wpAny_bind (wpAny_rule hc)
theorem iadd_list {prog : Program} {w : World} {A : Around} {E : Value → Shared → Prop} {s : Shared} {h₀ : Heap} {L D b : Addr} {m : Str → Option Value} {news news' : List (Addr × Obj)} {its its2 : List Value} {n n2 : Nat} {Q : Value → Shared → Prop}
    (F : Fr h₀ L s.heap m) (N : News h₀ L s.heap news) (hb : (b, listOf its2.toArray n2) ∈ news) (hne : its2.length ≠ 0)
    (U : Upd D (listOf its.toArray n) (listOf (its ++ its2).toArray (n + 1)) news news') (hz : its.length ≤ 1000) (hz2 : its2.length ≤ 1000)
    (h : ∀ h', Fr h₀ L h' m → News h₀ L h' news' → Q (.ref D) { s with heap := h' }) : wpAny (model prog w) A (inplaceOp .Add (.ref D) (.ref b)) Q E s := by
  obtain ⟨pre, post, rfl, rfl, a, c⟩ := U.split
  have z := N (D, listOf its.toArray n) (List.mem_append.mpr (.inr (.head _)))
  have zb := N _ hb
  refine inplace_seq (T := "list") ⟨_, z.1, rfl⟩ ⟨_, zb.1, rfl⟩ iadd_fill noFill_list_add iadd_seq ?_
  refine call_meets PySem.F.slot_list_iadd ⟨_, z.1, rfl⟩ PySem.F.entry_list_iadd (PySem.F.args_list_iadd_2 _ _) (PySem.AutoSeq1.list___iadd___list_list_0 D its.toArray n b its2.toArray n2 ?_ ?_ ?_) ⟨z.1, zb.1, h _ (F.change (Heap.SameBut.update ..) z.2.1 z.2.2) (kl_turn _ N a c ?_ ?_)⟩
  · have : Builtin.List.listTooLong (its.toArray.size + its2.toArray.size) = false := by
      unfold Builtin.List.listTooLong
      rw [List.size_toArray, List.size_toArray]
      have := PySem.sizeLine_eq
      first | (apply decide_eq_false; omega) | (simp; omega)
    rw [this]; simp
  · rw [List.size_toArray, PySem.sizeLine_eq]; omega
  · rw [List.size_toArray, List.size_toArray, PySem.sizeLine_eq]; omega
  · apply Array.toList_inj.mp
    simp
  · simp only [List.size_toArray, List.length_append]; omega
theorem ints_append : ∀ {vs ws : List Value} {xs ys : List Int}, IntsAre vs xs → IntsAre ws ys → IntsAre (vs ++ ws) (xs ++ ys)
  | _, _, _, _, .nil, h => h
  | _, _, _, _, .cons i t h, h' => .cons i t (ints_append h h')
theorem fill (P : Params) : PySem.Challenge.rw_yi0007_01.row.prog = PySem.Challenge.rw_yi0007_01.row.prog → KT P = KT P → True := by
  k_fill
  intros; trivial
end
section
open PySem PySem.W PyProof.Rows PySem.Calls PySem.Spec
/-- one forward butterfly at j -/
def bfS (zeta l : Int) (cs : List Int) (j : Int) : List Int :=
  (cs.set (j + l).toNat (cs.getD j.toNat 0 - zeta * cs.getD (j + l).toNat 0)).set j.toNat
    ((cs.set (j + l).toNat (cs.getD j.toNat 0 - zeta * cs.getD (j + l).toNat 0)).getD j.toNat 0 + zeta * cs.getD (j + l).toNat 0)
def inn (zeta l start : Int) : Nat → List Int → List Int
  | 0, cs => cs
  | i + 1, cs => bfS zeta l (inn zeta l start i cs) (start + (i : Int))
def blk (zl : List Int) (l k0 : Int) : Nat → List Int → List Int
  | 0, cs => cs
  | b + 1, cs => inn (zl.getD (k0 + (b : Int)).toNat 0) l (2 * l * (b : Int)) l.toNat (blk zl l k0 b cs)
def lys (zl : List Int) : Nat → List Int → List Int
  | 0, cs => cs
  | i + 1, cs => blk zl ((128 / 2 ^ i : Nat) : Int) ((2 ^ i : Nat) : Int) (2 ^ i) (lys zl i cs)
def redN : Nat → List Int → List Int
  | 0, cs => cs
  | i + 1, cs => (redN i cs).set (0 + (i : Int)).toNat (((redN i cs).getD (0 + (i : Int)).toNat 0).fmod 3329)
theorem fwd_ex : ∃ f : List Int → List Int → List Int, ∀ (zl cs : List Int) , f zl cs = redN 256 (lys zl 7 cs) := ⟨_, fun _ _ => rfl⟩
noncomputable def fwd : List Int → List Int → List Int := Classical.choose fwd_ex
theorem fwd_def (zl cs : List Int)  : fwd zl cs = redN 256 (lys zl 7 cs) := Classical.choose_spec fwd_ex zl cs
theorem bfS_len {z l j : Int} {cs : List Int} : (bfS z l cs j).length = cs.length := by simp [bfS]
theorem inn_len {z l st : Int} {cs : List Int} : ∀ n, (inn z l st n cs).length = cs.length
  | 0 => rfl
  | n + 1 => by rw [inn, bfS_len, inn_len n]
theorem blk_len {zl : List Int} {l k0 : Int} {cs : List Int} : ∀ n, (blk zl l k0 n cs).length = cs.length
  | 0 => rfl
  | n + 1 => by rw [blk, inn_len, blk_len n]
theorem lys_len {zl : List Int} {cs : List Int} : ∀ n, (lys zl n cs).length = cs.length
  | 0 => rfl
  | n + 1 => by rw [lys, blk_len, lys_len n]
theorem redN_len {cs : List Int} : ∀ n, (redN n cs).length = cs.length
  | 0 => rfl
  | n + 1 => by rw [redN, List.length_set, redN_len n]
theorem lay_fact {i : Nat} (h : i ≤ 7) : 1 ≤ 128 / 2 ^ i ∧ 128 / 2 ^ i ≤ 128 ∧ (128 / 2 ^ i) * 2 ^ i = 128 ∧ 1 ≤ 2 ^ i ∧ 2 ^ i ≤ 128 ∧ (i < 7 → (128 / 2 ^ i) / 2 = 128 / 2 ^ (i + 1) ∧ 2 ^ i + 2 ^ i = 2 ^ (i + 1) ∧ 2 ≤ 128 / 2 ^ i ∧ 2 ^ i ≤ 64) ∧ (2 ≤ 128 / 2 ^ i → i < 7) := by
  have : i = 0 ∨ i = 1 ∨ i = 2 ∨ i = 3 ∨ i = 4 ∨ i = 5 ∨ i = 6 ∨ i = 7 := by omega
  rcases this with rfl | rfl | rfl | rfl | rfl | rfl | rfl | rfl <;> decide
/-- the middle loop's arithmetic -/
theorem mid_fact {l : Int} {M b : Nat} {st : Int} (hl : 1 ≤ l) (hM : l * (M : Int) = 128) (hb : b ≤ M) (hst : st = 2 * l * (b : Int)) : 0 ≤ st ∧ st ≤ 256 ∧ (st < 256 → b < M ∧ st + l + l ≤ 256) ∧ (¬ st < 256 → b = M) := by
  have h0 : 0 ≤ l * (b : Int) := Int.mul_nonneg (by omega) (by omega)
  have h1 : l * (b : Int) ≤ l * (M : Int) := Int.mul_le_mul_of_nonneg_left (by omega) (by omega)
  have e : st = 2 * (l * (b : Int)) := by rw [hst, Int.mul_assoc]
  refine ⟨by omega, by omega, fun h => ?_, fun h => ?_⟩
  · have hb' : b < M := by
      rcases Nat.lt_or_ge b M with h' | h'
      · exact h'
      · have : b = M := by omega
        subst this
        omega
    refine ⟨hb', ?_⟩
    have h2 : l * ((b : Int) + 1) ≤ l * (M : Int) := Int.mul_le_mul_of_nonneg_left (by omega) (by omega)
    rw [Int.mul_add] at h2
    omega
  · rcases Nat.lt_or_ge b M with h' | h'
    · exfalso
      have h2 : l * ((b : Int) + 1) ≤ l * (M : Int) := Int.mul_le_mul_of_nonneg_left (by omega) (by omega)
      rw [Int.mul_add] at h2
      omega
    · omega
theorem mid_next {l st : Int} {b : Nat} (h : st = 2 * l * (b : Int)) : l + (st + l - 1 + 1) = 2 * l * ((b + 1 : Nat) : Int) := by
  subst h
  rw [Int.natCast_add, Int.mul_add]
  omega
theorem vint_eq {a b : Int} {t : Tok} (h : a = b) : some (Value.int a t) = some (Value.int b t) := by rw [h]
theorem fdiv2 (n : Nat) : (n : Int).fdiv (2 ^ Int.toNat 1) = ((n / 2 : Nat) : Int) := by
  show (n : Int).fdiv 2 = _
  rw [Int.fdiv_eq_ediv_of_nonneg _ (by decide)]; omega
end
section
open PySem PySem.W PyProof.Rows PySem.Calls PySem.Spec
/-- one backward butterfly at j -/
def bgS (zeta l : Int) (cs : List Int) (j : Int) : List Int :=
  let c1 := cs.set j.toNat (cs.getD j.toNat 0 + cs.getD (j + l).toNat 0)
  let c2 := c1.set (j + l).toNat (c1.getD (j + l).toNat 0 - cs.getD j.toNat 0)
  c2.set (j + l).toNat (zeta * c2.getD (j + l).toNat 0)
def ign (zeta l start : Int) : Nat → List Int → List Int
  | 0, cs => cs
  | i + 1, cs => bgS zeta l (ign zeta l start i cs) (start + (i : Int))
def ibk (zl : List Int) (l k0 : Int) : Nat → List Int → List Int
  | 0, cs => cs
  | b + 1, cs => ign (zl.getD (k0 - (b : Int)).toNat 0) l (2 * l * (b : Int)) l.toNat (ibk zl l k0 b cs)
def iys (zl : List Int) : Nat → List Int → List Int
  | 0, cs => cs
  | i + 1, cs => ibk zl ((2 * 2 ^ i : Nat) : Int) (((128 / 2 ^ i : Nat) : Int) - 1) (64 / 2 ^ i) (iys zl i cs)
def scN : Nat → List Int → List Int
  | 0, cs => cs
  | i + 1, cs => (scN i cs).set (0 + (i : Int)).toNat (((scN i cs).getD (0 + (i : Int)).toNat 0 * 3303).fmod 3329)
theorem bwd_ex : ∃ f : List Int → List Int → List Int, ∀ (zl cs : List Int) , f zl cs = scN 256 (iys zl 7 cs) := ⟨_, fun _ _ => rfl⟩
noncomputable def bwd : List Int → List Int → List Int := Classical.choose bwd_ex
theorem bwd_def (zl cs : List Int)  : bwd zl cs = scN 256 (iys zl 7 cs) := Classical.choose_spec bwd_ex zl cs
theorem bgS_len {z l j : Int} {cs : List Int} : (bgS z l cs j).length = cs.length := by simp [bgS]
theorem ign_len {z l st : Int} {cs : List Int} : ∀ n, (ign z l st n cs).length = cs.length
  | 0 => rfl
  | n + 1 => by rw [ign, bgS_len, ign_len n]
theorem ibk_len {zl : List Int} {l k0 : Int} {cs : List Int} : ∀ n, (ibk zl l k0 n cs).length = cs.length
  | 0 => rfl
  | n + 1 => by rw [ibk, ign_len, ibk_len n]
theorem iys_len {zl : List Int} {cs : List Int} : ∀ n, (iys zl n cs).length = cs.length
  | 0 => rfl
  | n + 1 => by rw [iys, ibk_len, iys_len n]
theorem scN_len {cs : List Int} : ∀ n, (scN n cs).length = cs.length
  | 0 => rfl
  | n + 1 => by rw [scN, List.length_set, scN_len n]
theorem ilay_fact {i : Nat} (h : i ≤ 7) : 1 ≤ 2 * 2 ^ i ∧ 2 * 2 ^ i ≤ 256 ∧ 1 ≤ 128 / 2 ^ i ∧ 128 / 2 ^ i ≤ 128 ∧ (i < 7 → (2 * 2 ^ i) * (64 / 2 ^ i) = 128 ∧ 64 / 2 ^ i + 128 / 2 ^ (i + 1) = 128 / 2 ^ i ∧ 2 * 2 ^ i ≤ 128 ∧ 2 * 2 ^ i + 2 * 2 ^ i = 2 * 2 ^ (i + 1) ∧ 1 ≤ 64 / 2 ^ i ∧ 64 / 2 ^ i ≤ 128 / 2 ^ i) ∧ (2 * 2 ^ i ≤ 128 → i < 7) := by
  have : i = 0 ∨ i = 1 ∨ i = 2 ∨ i = 3 ∨ i = 4 ∨ i = 5 ∨ i = 6 ∨ i = 7 := by omega
  rcases this with rfl | rfl | rfl | rfl | rfl | rfl | rfl | rfl <;> decide
theorem imid_next {l st : Int} {b : Nat} (h : st = 2 * l * (b : Int)) : st + l - 1 + l + 1 = 2 * l * ((b + 1 : Nat) : Int) := by
  subst h
  rw [Int.natCast_add, Int.mul_add]
  omega
theorem shl1 {n k : Nat} (h : n + n = k) : (n : Int) * 2 ^ Int.toNat 1 = (k : Int) := by
  show (n : Int) * 2 = _
  omega
end
section
open PySem PySem.W PyProof.Rows PySem.Calls PySem.Spec
def bm0 (a0 a1 b0 b1 z : Int) : Int := (a0 * b0 + z * a1 * b1).fmod 3329
def bm1 (a0 a1 b0 b1 : Int) : Int := (a1 * b0 + a0 * b1).fmod 3329
/-- the four ints of one turn -/
def mul4 (zl xs ys : List Int) (i : Int) : List Int :=
  [bm0 (xs.getD (4 * i + 0).toNat 0) (xs.getD (4 * i + 1).toNat 0) (ys.getD (4 * i + 0).toNat 0) (ys.getD (4 * i + 1).toNat 0) (zl.getD (64 + i).toNat 0),
   bm1 (xs.getD (4 * i + 0).toNat 0) (xs.getD (4 * i + 1).toNat 0) (ys.getD (4 * i + 0).toNat 0) (ys.getD (4 * i + 1).toNat 0),
   bm0 (xs.getD (4 * i + 2).toNat 0) (xs.getD (4 * i + 3).toNat 0) (ys.getD (4 * i + 2).toNat 0) (ys.getD (4 * i + 3).toNat 0) (-(zl.getD (64 + i).toNat 0)),
   bm1 (xs.getD (4 * i + 2).toNat 0) (xs.getD (4 * i + 3).toNat 0) (ys.getD (4 * i + 2).toNat 0) (ys.getD (4 * i + 3).toNat 0)]
def mulN (zl xs ys : List Int) : Nat → List Int
  | 0 => []
  | i + 1 => mulN zl xs ys i ++ mul4 zl xs ys (0 + (i : Int))
theorem mulL_ex : ∃ f : List Int → List Int → List Int → List Int, ∀ (zl xs ys : List Int) , f zl xs ys = mulN zl xs ys 64 := ⟨_, fun _ _ _ => rfl⟩
noncomputable def mulL : List Int → List Int → List Int → List Int := Classical.choose mulL_ex
theorem mulL_def (zl xs ys : List Int)  : mulL zl xs ys = mulN zl xs ys 64 := Classical.choose_spec mulL_ex zl xs ys
theorem mulN_len {zl xs ys : List Int} : ∀ n, (mulN zl xs ys n).length = 4 * n
  | 0 => rfl
  | n + 1 => by rw [mulN, List.length_append, mulN_len n]; rfl
theorem sub3 {α : Type} {a b c d : α} {l : List α} : ∀ p ∈ a :: b :: c :: l, p ∈ a :: b :: c :: d :: l := by
  intro p hp
  simp only [List.mem_cons] at hp ⊢
  rcases hp with h | h | h | h
  · exact .inl h
  · exact .inr (.inl h)
  · exact .inr (.inr (.inl h))
  · exact .inr (.inr (.inr (.inr h)))
end
section
open PySem PySem.W PyProof.Rows PySem.Calls PySem.Spec
/-- every entry is a small number of no sign -/
def Red (xs : List Int) : Prop := ∀ x ∈ xs, 0 ≤ x ∧ x < 3329
theorem Red.bits {xs : List Int} (h : Red xs) (k : Nat) : PySem.Builtin.Int.intBits (xs.getD k 0) ≤ 64 := by
  rw [List.getD_eq_getElem?_getD]
  by_cases hk : k < xs.length
  · rw [List.getElem?_eq_getElem hk]
    have := h _ (List.getElem_mem hk)
    exact PySem.intBits_le_64 (by simp only [Option.getD_some]; omega) (by simp only [Option.getD_some]; omega)
  · rw [List.getElem?_eq_none (Nat.le_of_not_lt hk)]
    decide
theorem fm_pos (x : Int) : 0 ≤ x.fmod 3329 ∧ x.fmod 3329 < 3329 := ⟨Int.fmod_nonneg_of_pos _ (by decide), Int.fmod_lt_of_pos _ (by decide)⟩
theorem mul4_red (zl xs ys : List Int) (i : Int) : Red (mul4 zl xs ys i) := by
  intro x hx
  simp only [mul4, List.mem_cons, List.not_mem_nil, or_false] at hx
  rcases hx with rfl | rfl | rfl | rfl <;> exact fm_pos _
theorem mulN_red (zl xs ys : List Int) : ∀ n, Red (mulN zl xs ys n)
  | 0 => fun x hx => by cases hx
  | n + 1 => fun x hx => by
    rw [mulN] at hx
    rcases List.mem_append.mp hx with h | h
    · exact mulN_red zl xs ys n x h
    · exact mul4_red _ _ _ _ x h
theorem mulL_red (zl xs ys : List Int) : Red (mulL zl xs ys) := by rw [mulL_def]; exact mulN_red _ _ _ _
theorem mulL_len (zl xs ys : List Int) : (mulL zl xs ys).length = 256 := by rw [mulL_def]; exact mulN_len 64
/-- the first n entries are small behind redN n -/
theorem redN_get (xs : List Int) : ∀ n k, k < xs.length → (redN n xs)[k]? = some (if k < n then (xs.getD k 0).fmod 3329 else xs.getD k 0)
  | 0, k, hk => by
    rw [redN, List.getD_eq_getElem?_getD, List.getElem?_eq_getElem hk]; simp
  | n + 1, k, hk => by
    have e : (0 + (n : Int)).toNat = n := by omega
    rw [redN, e, List.getElem?_set, List.getD_eq_getElem?_getD]
    by_cases h : n = k
    · subst h
      rw [if_pos rfl, redN_len, if_pos hk, redN_get xs n n hk, if_neg (Nat.lt_irrefl _), if_pos (Nat.lt_succ_self _)]
      rfl
    · rw [if_neg h, redN_get xs n k hk]
      by_cases h' : k < n
      · rw [if_pos h', if_pos (by omega)]
      · rw [if_neg h', if_neg (by omega)]
theorem redN_red {xs : List Int} {n : Nat} (h : xs.length = n) : Red (redN n xs) := by
  intro x hx
  obtain ⟨k, hk, rfl⟩ := List.mem_iff_getElem.mp hx
  have hk3 : k < xs.length := by rw [← redN_len (cs := xs) n]; exact hk
  have e := redN_get xs n k hk3
  rw [if_pos (by omega), List.getElem?_eq_getElem hk] at e
  rw [Option.some.inj e]
  exact fm_pos _
theorem fwd_len {zl xs : List Int} (h : xs.length = 256) : (fwd zl xs).length = 256 := by rw [fwd_def]; rw [redN_len, lys_len, h]
theorem fwd_red {zl xs : List Int} (h : xs.length = 256) : Red (fwd zl xs) := by rw [fwd_def]; exact redN_red (by rw [lys_len, h])
def oneL : List Int := 1 :: List.replicate 255 0
theorem oneL_len : oneL.length = 256 := by unfold oneL; rw [List.length_cons, List.length_replicate]
/-- the powering's state behind n turns -/
noncomputable def rsN (zl ys : List Int) (e : Int) : Nat → List Int × List Int × Int
  | 0 => (fwd zl oneL, ys, e)
  | n + 1 => ((if (rsN zl ys e n).2.2.fmod 2 = 1 then mulL zl (rsN zl ys e n).1 (rsN zl ys e n).2.1 else (rsN zl ys e n).1), mulL zl (rsN zl ys e n).2.1 (rsN zl ys e n).2.1, (rsN zl ys e n).2.2.fdiv 2)
theorem raisedL_ex : ∃ f : List Int → List Int → Int → List Int, ∀ (zl ys : List Int) (e : Int) , f zl ys e = (rsN zl ys e 11).1 := ⟨_, fun _ _ _ => rfl⟩
noncomputable def raisedL : List Int → List Int → Int → List Int := Classical.choose raisedL_ex
theorem raisedL_def (zl ys : List Int) (e : Int)  : raisedL zl ys e = (rsN zl ys e 11).1 := Classical.choose_spec raisedL_ex zl ys e
theorem rsN_red {zl ys : List Int} {e : Int} (hy : Red ys) (hl : ys.length = 256) (n : Nat) : Red (rsN zl ys e n).1 ∧ Red (rsN zl ys e n).2.1 ∧ (rsN zl ys e n).1.length = 256 ∧ (rsN zl ys e n).2.1.length = 256 := by
  induction n with
  | zero => exact ⟨fwd_red oneL_len, hy, fwd_len oneL_len, hl⟩
  | succ n ih =>
    obtain ⟨h1, h2, h3, h4⟩ := ih
    refine ⟨?_, mulL_red _ _ _, ?_, mulL_len _ _ _⟩
    · show Red (if _ then _ else _)
      split
      · exact mulL_red _ _ _
      · exact h1
    · show (if _ then _ else _ : List Int).length = 256
      split
      · exact mulL_len _ _ _
      · exact h3
theorem rsN_odd {zl ys : List Int} {e : Int} {n : Nat} (h : (rsN zl ys e n).2.2.fmod 2 = 1) : (rsN zl ys e (n + 1)).1 = mulL zl (rsN zl ys e n).1 (rsN zl ys e n).2.1 := by
  show (if _ then _ else _) = _
  rw [if_pos h]
theorem rsN_even {zl ys : List Int} {e : Int} {n : Nat} (h : (rsN zl ys e n).2.2.fmod 2 ≠ 1) : (rsN zl ys e (n + 1)).1 = (rsN zl ys e n).1 := by
  show (if _ then _ else _) = _
  rw [if_neg h]
theorem rsN_base {zl ys : List Int} {e : Int} {n : Nat} : (rsN zl ys e (n + 1)).2.1 = mulL zl (rsN zl ys e n).2.1 (rsN zl ys e n).2.1 := rfl
theorem rsN_pow {zl ys : List Int} {e : Int} {n : Nat} : (rsN zl ys e (n + 1)).2.2 = (rsN zl ys e n).2.2.fdiv 2 := rfl
end
section
open PySem PySem.W PyProof.Rows PySem.Calls PySem.Spec PySem.NumText
set_option maxRecDepth 100000
section
open PySem.Builtin PySem.Builtin.Int
theorem wp_text2 {M : Model} {A : Around} {E : Value → Shared → Prop} {s : Shared} {Q : Value → Shared → Prop} {v : Value} {text : List Nat} {n : Int}
    (hs : (text.takeWhile (· != 0)).length ≤ 640) (hr : (int_private% "readNumeral") 0 2 (text.takeWhile (· != 0)) = (int_private% "Numeral.value") n)
    (ha : ((text.takeWhile (· != 0)).length == text.length) = true) (h : Q (.int n s.toks) { s with toks := s.toks + 1 }) :
    wpAny M A ((int_private% "intFromText") v text (Int.toNat 2)) Q E s := by
  obtain ⟨hp, g, d, tk, os⟩ := s
  repeat (any_goals (first
    | assumption
    | (with_reducible refine wpAny_ite_true (decide_eq_true hs) ?_)
    | (with_reducible refine wpAny_ite_true (decide_eq_true ha) ?_)
    | wp_step))
  all_goals (try (change wpAny _ _ (match (int_private% "readNumeral") 0 2 _ with | _ => _) _ _ _))
  all_goals (try rw [show Int.toNat 2 = 2 from rfl])
  all_goals (try rw [hr])
  all_goals (try dsimp only)
  repeat (any_goals (first
    | assumption
    | (with_reducible refine wpAny_ite_true (decide_eq_true hs) ?_)
    | (with_reducible refine wpAny_ite_true (decide_eq_true ha) ?_)
    | wp_step))

structure Hid (p : Prop) : Prop where
  out : p

theorem gives_text2 {x : PySem.Str} {u v : Tok} {n : Int} (hs : (numSeenOf x).length ≤ 640) (hr : (int_private% "readNumeral") 0 2 (numSeenOf x) = (int_private% "Numeral.value") n)
    (hq : ((numSeenOf x).length == (numTextOf x).length) = true) : Gives (PySem.Builtin.«int.__new__» ⟨[.type "int", .str x u, .int 2 v], []⟩) (.int n) :=
  .of_wp fun M A E s Q h => by
    obtain ⟨hp, g, d, tk, os⟩ := s
    have f1 := F.conv_sub_int
    have f2 := F.madeHere_int
    have f6 : typeOf (.str x u) = pure (.type "str") := rfl
    have hk := Hid.mk (And.intro hs (And.intro hr hq))
    clear hs hr hq
    repeat (any_goals (first
      | assumption
      | ((with_reducible show wpAny _ _ ((int_private% "intFromText") _ _ _) _ _ _); refine wp_text2 hk.out.1 hk.out.2.1 hk.out.2.2 ?_)
      | wp_step))
    all_goals first | exact ⟨_, rfl, h⟩ | skip

theorem typeCall_int_2 (a b : Value) : checkTypeCall "int" ⟨[a, b], []⟩ = pure () := by
  rw [PySem.W.Fast.te11612656972197000677]
  kernel_rfl
theorem newCall_int_2 (a b : Value) : checkBuiltinCall "int.__new__" ⟨[.type "int", a, b], []⟩ = pure () := by
  rw [PySem.W.Fast.te10254737850608025244]
  kernel_rfl

theorem call_text2 {prog : Program} {w : World} {A : Around} {E : Value → Shared → Prop} {s : Shared} {Q : Value → Shared → Prop} {x : PySem.Str} {t t2 : Tok} {n : Int}
   (hs : (numSeenOf x).length ≤ 640) (hr : (int_private% "readNumeral") 0 2 (numSeenOf x) = (int_private% "Numeral.value") n)
    (hq : ((numSeenOf x).length == (numTextOf x).length) = true) (h : Q (.int n s.toks) { s with toks := s.toks + 1 }) : wpAny (model prog w) A (call (.type "int") [.str x t, .int 2 t2]) Q E s :=
  callType_new F.called_int F.newNe_int (typeCall_int_2 _ _) (newCall_int_2 _ _) (fun obj => F.args_object_init_3 obj _ _) F.entry_int_new (gives_text2 hs hr hq).meets (show (Made.int n).post _ s from ⟨rfl, h⟩)

noncomputable def numVal (x : int_private% "Numeral") : Option Int := (int_private% "Numeral.rec") (motive := fun _ => Option Int) none (fun _ => none) none (fun i => some i) x
theorem numVal_eq {x : int_private% "Numeral"} {n : Int} : numVal x = some n → x = (int_private% "Numeral.value") n :=
  (int_private% "Numeral.rec") (motive := fun x => numVal x = some n → x = (int_private% "Numeral.value") n) (fun h => nomatch h) (fun _ h => nomatch h) (fun h => nomatch h) (fun i h => by injection h with h; rw [h]) x

def bin7 (n : Nat) : PySem.Str := baseText "0b" 2 (n : Int)
def rev7 (n : Nat) (u : Tok) : PySem.Str := Txt.sliceBy (Txt.zfill (Txt.slice (bin7 n) (some 2) none) 7) none none (-1, u)
def br7 (n : Nat) : Nat := (n % 2) * 64 + (n / 2 % 2) * 32 + (n / 4 % 2) * 16 + (n / 8 % 2) * 8 + (n / 16 % 2) * 4 + (n / 32 % 2) * 2 + (n / 64 % 2)
theorem and127 : ∀ n : Fin 128, PySem.Builtin.bitAnd ((n.val : Nat) : Int) (2 ^ Int.toNat 7 - 1) = ((n.val : Nat) : Int) := by decide +kernel
theorem btd : ∀ n : Fin 128, ((bin7 n.val).length ≤ 9 ∧ (Txt.slice (bin7 n.val) (some 2) none).length ≤ 9) ∧ (Txt.zfill (Txt.slice (bin7 n.val) (some 2) none) 7).length ≤ 9 := by decide +kernel
theorem bt_len (n : Fin 128) : (bin7 n.val).length ≤ 9 := (btd n).1.1
theorem sl_len (n : Fin 128) : (Txt.slice (bin7 n.val) (some 2) none).length ≤ 9 := (btd n).1.2
theorem zf_len (n : Fin 128) : (Txt.zfill (Txt.slice (bin7 n.val) (some 2) none) 7).length ≤ 9 := (btd n).2
theorem rev_u (n : Nat) (u : Tok) : rev7 n u = rev7 n 0 := rfl
theorem rdd : ∀ n : Fin 128, ((numSeenOf (rev7 n.val 0)).length ≤ 640 ∧ ((numSeenOf (rev7 n.val 0)).length == (numTextOf (rev7 n.val 0)).length) = true) ∧
    numVal ((int_private% "readNumeral") 0 2 (numSeenOf (rev7 n.val 0))) = some ((br7 n.val : Nat) : Int) := by decide +kernel
theorem rd0 (n : Fin 128) : (numSeenOf (rev7 n.val 0)).length ≤ 640 := (rdd n).1.1
theorem rd1 (n : Fin 128) : numVal ((int_private% "readNumeral") 0 2 (numSeenOf (rev7 n.val 0))) = some ((br7 n.val : Nat) : Int) := (rdd n).2
theorem rd2 (n : Fin 128) : ((numSeenOf (rev7 n.val 0)).length == (numTextOf (rev7 n.val 0)).length) = true := (rdd n).1.2
end
end
section
open PySem PySem.W PyProof.Rows PySem.Calls PySem.Spec
set_option maxRecDepth 100000
section
open PySem.Builtin PySem.Builtin.Int
theorem gives_pow3 (a : Int) (t : Tok) (b : Int) (u : Tok) (v : Tok) (hb : ¬ (b < 0)) :
    Gives (PySem.Builtin.«int.__pow__» ⟨[.int a t, .int b u, .int 3329 v], []⟩) (.int ((PySem.Builtin.powMod (a % 3329).toNat b.natAbs 3329 : Nat) : Int)) :=
  .of_wp fun M A E s Q h => by
    obtain ⟨hp, g, d, tk, os⟩ := s
    have hc0 : ¬ ((3329 : Int) == 0) = true := by decide
    have hc1 : ¬ ((3329 : Int).natAbs == 1) = true := by decide
    wp_walk
    all_goals first | exact ⟨_, rfl, h⟩ | skip

theorem gives_powinv (t u v : Tok) :
    Gives (PySem.Builtin.«int.__pow__» ⟨[.int 128 t, .int (-1) u, .int 3329 v], []⟩) (.int 3303) :=
  .of_wp fun M A E s Q h => by
    obtain ⟨hp, g, d, tk, os⟩ := s
    have hc0 : ¬ ((3329 : Int) == 0) = true := by decide
    have hc1 : ¬ ((3329 : Int).natAbs == 1) = true := by decide
    wp_walk
    all_goals first | exact ⟨_, rfl, h⟩ | skip

theorem entry_pow : entryFor table "pow" = some PySem.Builtin.«pow» := by first | exact entryFor_of_tree (by kernel_rfl) | exact entryFor_of_fast (by kernel_rfl)
theorem kind_pow : builtinKind "pow" = none := by decide +kernel
theorem plain_pow : plainId "pow" = true := by decide +kernel
theorem args_pow3 (a b c : Value) : argsOk "pow" ⟨[a, b, c], []⟩ := by unfold argsOk; kernel_rfl

set_option maxHeartbeats 2000000 in
theorem call_pow3 {prog : Program} {w : World} {A : Around} {E : Value → Shared → Prop} {s : Shared} {Q : Value → Shared → Prop} {a b c r : Int} {t u v : Tok}
   (g : Gives (PySem.Builtin.«int.__pow__» ⟨[.int a t, .int b u, .int c v], []⟩) (.int r))
   (h : Q (.int r s.toks) { s with toks := s.toks + 1 }) : wpAny (model prog w) A (call (.builtin "pow") [.int a t, .int b u, .int c v]) Q E s := by
  refine call_function_entry kind_pow plain_pow entry_pow (args_pow3 _ _ _) ?_
  obtain ⟨hp, gg, d, tk, os⟩ := s
  have hT : (⟨hp, gg, d, tk, os⟩ : Shared).TypeIs (.int a t) "int" := rfl
  have e0 : PySem.dunder "pow" = Str.ofString "__pow__" := by decide +kernel
  have f3 := F.slot_int_pow.lookup
  rw [e0] at f3
  have f4 := F.slot_int_pow.bind (.int a t)
  repeat (any_goals (first | assumption | (with_reducible refine wpAny_callSpecial?_slot hT (e0 ▸ F.slot_int_pow) ?_) | ((with_reducible show wpAny _ _ (call (Value.builtin "int.__pow__") _ _) _ _ _); refine call_gives F.slot_int_pow hT F.entry_int_pow (F.args_int_pow_3 _ _ _) g ?_; dsimp only [Made.post]) | wp_step))
  all_goals first | exact ⟨_, rfl, h⟩ | exact h | skip
end
end
theorem top_off : True := by
  w_top off
  trivial
section
open PySem PySem.W PyProof.Rows PySem.Calls PySem.Spec
set_option maxRecDepth 100000
set_option maxHeartbeats 8000000
local macro_rules | `(tactic| ktr_unf) => `(tactic| repeat' ((fail_if_success (with_reducible show wpAny _ _ (exec (Stmt.While _ _ _ _) _) _ _ _)); (fail_if_success (with_reducible show wpAny _ _ (pyIter (Value.ref _)) (fun it s₂ => LoopAtV _ _ _ _ _ _ _ _ _ it s₂) _ _)); (fail_if_success (with_reducible show InvEndN _ _ _ _ _ _ _)); (fail_if_success (with_reducible show WhileStep _ _ _ _ _ _ _)); (fail_if_success (with_reducible show TurnEnd _ _ _ _ _ _ _ _ _)); (fail_if_success (with_reducible show wpAny _ _ (PySem.call (Value.ref 340) _) _ _ _)); (fail_if_success (with_reducible show wpAny _ _ (PySem.call (Value.ref 380) _) _ _ _)); (fail_if_success (with_reducible show wpAny _ _ (PySem.call (Value.ref 423) _) _ _ _)); (fail_if_success (with_reducible show wpAny _ _ (PySem.call (Value.ref 442) _) _ _ _)); (fail_if_success (with_reducible show wpAny _ _ (PySem.call (Value.ref 238) _) _ _ _)); first | (k_unfold; (try dsimp only)) | (k_end; wrow_close) | walk1 | (dsimp only; walk1) | (leave1; walk_say "STEP leave1"; try dsimp only) | fail "no step"))
local macro_rules | `(tactic| k_in) => `(tactic| first | k_in_fast | ((rename Frag.In _ _ => XX9); (rename Fr _ _ _ _ => FX9); exact Frag.In.keeps XX9 (Fr.keep FX9)))
local macro_rules | `(tactic| k_all) => `(tactic| first | assumption | exact List.forall_mem_append.mpr ⟨by assumption, by assumption⟩ | fail "my k_all")
local macro_rules | `(tactic| walk_at "callWith ref") => `(tactic| (k_here; k_dflt (refine' instKW ?k1 ?k2 ?k3 ?k4 ?k5 ?_; (case k1 => k_in); (case k2 => k_inst); (case k3 => rfl); (case k4 => k_is); (case k5 => exact rfl); k_whole)))
local macro_rules | `(tactic| walk_at "inplaceOp Add ref") => `(tactic| ((with_reducible show wpAny _ _ (inplaceOp Operator.Add (Value.ref _) (Value.ref _)) _ _ _); k_here; k_dflt (refine' iadd_list ?F ?N ?b ?ne ?U ?z ?y ?_; (case F => k_asm); (case N => k_asm); (case b => k_mem); (case ne => exact Nat.succ_ne_zero _); (case U => k_upd); (case z => omega); (case y => exact Nat.le_of_ble_eq_true rfl)); intro h' F' N'; (try k_sweep)))
local macro_rules | `(tactic| mul_fits) => `(tactic| exact IntMulOk.of_left (by assumption))

theorem top_C1 : True := by
  w_top off
  trivial
section
open PySem PySem.W PyProof.Rows PySem.Calls PySem.Spec
set_option maxRecDepth 100000
set_option maxHeartbeats 8000000
theorem c_to_ntt {w : World} {mean : ExcName → Option Value} {mg mb : Str → Option Value} {gd : Option (List Code)} {cn : Str} {cs : Scope} {a : Addr} {ccd : Value} {cl : List (Str × Addr)} {outer : List Env} {A₀ : Around} {base h₀ : Heap} {L : Addr} {m : Str → Option Value} {s : Shared} {Q E : Value → Shared → Prop}
  {P DP c R DR Z : Addr} {ta tb t1 t2 t3 t4 u1 u2 u4 : Tok} {vs zs : List Value} {xs zl : List Int} {nz nd np nc : Nat} {rest : List (Addr × Obj)}
  (B : Below A₀ base outer h₀) (F : Fr h₀ L s.heap m) (X : (KT w.params).In h₀)
  (N : News h₀ L s.heap ((P, instObj 350 DP) :: (DP, dictOf [ent w "parent" ta (.ref R), ent w "coeffs" tb (.ref c)] np) :: (c, listOf vs.toArray nc) :: (R, instObj 282 DR) :: (DR, dictOf [ent w "q" t1 (.int 3329 u1), ent w "n" t2 (.int 256 u2), ent w "ntt_zetas" t3 (.ref Z), ent w "ntt_f" t4 (.int 3303 u4)] nd) :: (Z, listOf zs.toArray nz) :: rest))
  (hv : IntsAre vs xs) (hz : IntsAre zs zl) (hx : xs.length = 256) (hzl : zl.length = 128) (hzb : ∀ k, PySem.Builtin.Int.intBits (zl.getD k 0) ≤ 64)
  (hPc : P ≠ c) (hDc : DP ≠ c) (hRc : R ≠ c) (hDRc : DR ≠ c) (hZc : Z ≠ c) (hrc : ∀ p ∈ rest, p.1 ≠ c)
  (T : Top vw lse mean mg mb h₀) (hk : cs.kind = .function)
  (hret : ∀ (P' D' : Addr) (ta' tb' : Tok) (vs' : List Value) (h' : Heap) (tk' : Nat), Fr h₀ L h' m →
    News h₀ L h' ((P', instObj 426 D') :: (D', dictOf [ent w "parent" ta' (.ref R), ent w "coeffs" tb' (.ref c)] 2) :: ((P, instObj 350 DP) :: (DP, dictOf [ent w "parent" ta (.ref R), ent w "coeffs" tb (.ref c)] np) :: (c, listOf vs'.toArray nc) :: (R, instObj 282 DR) :: (DR, dictOf [ent w "q" t1 (.int 3329 u1), ent w "n" t2 (.int 256 u2), ent w "ntt_zetas" t3 (.ref Z), ent w "ntt_f" t4 (.int 3303 u4)] nd) :: (Z, listOf zs.toArray nz) :: rest)) → IntsAre vs' (fwd zl xs) → AllLt D' ((P, instObj 350 DP) :: (DP, dictOf [ent w "parent" ta (.ref R), ent w "coeffs" tb (.ref c)] np) :: (c, listOf vs'.toArray nc) :: (R, instObj 282 DR) :: (DR, dictOf [ent w "q" t1 (.int 3329 u1), ent w "n" t2 (.int 256 u2), ent w "ntt_zetas" t3 (.ref Z), ent w "ntt_f" t4 (.int 3303 u4)] nd) :: (Z, listOf zs.toArray nz) :: rest) → D' < P' → Q (.ref P') { s with heap := h', toks := tk' }) :
  wpAny (model PySem.Challenge.rw_yi0007_01.row.prog w) (ktrTop 500 300 gd cn cs L a ccd cl outer) (call (.ref 340) [.ref P]) Q E s := by
  refine wpAny_call ?_
  k_dflt cell_enter
  ktr_unf
  (rename Fr _ _ _ _ => F1); (rename News _ _ _ _ => N1)
  refine While_inv (fun n m1 nx => ∃ i, i ≤ 7 ∧ n = 7 - i ∧ ∃ (tk tl : Tok) (vs1 : List Value), At m1 [(Str.ofString "self", .ref P), (Str.ofString "k", .int ((2 ^ i : Nat) : Int) tk), (Str.ofString "l", .int ((128 / 2 ^ i : Nat) : Int) tl), (Str.ofString "coeffs", .ref c), (Str.ofString "zetas", .ref Z)] ∧
     nx = ((P, instObj 350 DP) :: (DP, dictOf [ent w "parent" ta (.ref R), ent w "coeffs" tb (.ref c)] np) :: (c, listOf vs1.toArray nc) :: (R, instObj 282 DR) :: (DR, dictOf [ent w "q" t1 (.int 3329 u1), ent w "n" t2 (.int 256 u2), ent w "ntt_zetas" t3 (.ref Z), ent w "ntt_f" t4 (.int 3303 u4)] nd) :: (Z, listOf zs.toArray nz) :: rest) ∧ IntsAre vs1 (lys zl i xs)) (n₀ := 7) (news := ((P, instObj 350 DP) :: (DP, dictOf [ent w "parent" ta (.ref R), ent w "coeffs" tb (.ref c)] np) :: (c, listOf vs.toArray nc) :: (R, instObj 282 DR) :: (DR, dictOf [ent w "q" t1 (.int 3329 u1), ent w "n" t2 (.int 256 u2), ent w "ntt_zetas" t3 (.ref Z), ent w "ntt_f" t4 (.int 3303 u4)] nd) :: (Z, listOf zs.toArray nz) :: rest)) F1 (cb_drop N1 ?sub) ?j0 ?turn
  case sub => intro p hp; exact List.mem_cons_of_mem _ hp
  case j0 => exact ⟨0, by decide, rfl, _, _, vs, ⟨rfl, rfl, rfl, rfl, rfl, trivial⟩, rfl, hv⟩
  case turn =>
    clear F1 N1
    rintro n m1 _ h1 tk1 F1 N1 ⟨i, hi, rfl, tk, tl, vs1, hat, rfl, hv1⟩
    replace F1 := fr_at F1 hat
    have hl1 := lys_len (zl := zl) (cs := xs) i
    obtain ⟨f1, f2, f3, f4, f5, f6, f7⟩ := lay_fact hi
    ktr_unf
    · (rename Fr _ _ _ _ => F1); (rename News _ _ _ _ => N1)
      have hM : ((128 / 2 ^ i : Nat) : Int) * ((2 ^ i : Nat) : Int) = 128 := by rw [← Int.natCast_mul, f3]; rfl
      have hL1 : (1 : Int) ≤ ((128 / 2 ^ i : Nat) : Int) := by omega
      have hL2 : ((128 / 2 ^ i : Nat) : Int) ≤ 128 := by omega
      have hM1 : (1 : Int) ≤ ((2 ^ i : Nat) : Int) := by omega
      have hM2 : ((2 ^ i : Nat) : Int) ≤ 64 := by
        have := f7 (by omega)
        have := f6 this
        omega
      refine While_inv (fun n m1 nx => ∃ b, b ≤ 2 ^ i ∧ n = 2 ^ i - b ∧ ∃ st : Int, st = 2 * ((128 / 2 ^ i : Nat) : Int) * (b : Int) ∧ ∃ (tk tl ts : Tok) (vs2 : List Value), At m1 [(Str.ofString "self", .ref P), (Str.ofString "k", .int (((2 ^ i : Nat) : Int) + (b : Int)) tk), (Str.ofString "l", .int ((128 / 2 ^ i : Nat) : Int) tl), (Str.ofString "coeffs", .ref c), (Str.ofString "zetas", .ref Z), (Str.ofString "start", .int st ts)] ∧
        nx = ((P, instObj 350 DP) :: (DP, dictOf [ent w "parent" ta (.ref R), ent w "coeffs" tb (.ref c)] np) :: (c, listOf vs2.toArray nc) :: (R, instObj 282 DR) :: (DR, dictOf [ent w "q" t1 (.int 3329 u1), ent w "n" t2 (.int 256 u2), ent w "ntt_zetas" t3 (.ref Z), ent w "ntt_f" t4 (.int 3303 u4)] nd) :: (Z, listOf zs.toArray nz) :: rest) ∧ IntsAre vs2 (blk zl ((128 / 2 ^ i : Nat) : Int) ((2 ^ i : Nat) : Int) b (lys zl i xs))) (n₀ := 2 ^ i) (news := ((P, instObj 350 DP) :: (DP, dictOf [ent w "parent" ta (.ref R), ent w "coeffs" tb (.ref c)] np) :: (c, listOf vs1.toArray nc) :: (R, instObj 282 DR) :: (DR, dictOf [ent w "q" t1 (.int 3329 u1), ent w "n" t2 (.int 256 u2), ent w "ntt_zetas" t3 (.ref Z), ent w "ntt_f" t4 (.int 3303 u4)] nd) :: (Z, listOf zs.toArray nz) :: rest)) F1 N1 ?j0 ?turn
      case j0 => exact ⟨0, Nat.zero_le _, rfl, 0, by simp, _, _, _, vs1, ⟨rfl, by simp; rfl, rfl, rfl, rfl, rfl, trivial⟩, rfl, hv1⟩
      case turn =>
        clear F1 N1
        rintro n m1 _ h1 tk1 F1 N1 ⟨b, hb, rfl, st, hst, tk, tl, ts, vs2, hat, rfl, hv2⟩
        replace F1 := fr_at F1 hat
        have hl2 := blk_len (zl := zl) (l := ((128 / 2 ^ i : Nat) : Int)) (k0 := ((2 ^ i : Nat) : Int)) (cs := lys zl i xs) b
        obtain ⟨g1, g2, g3, g4⟩ := mid_fact hL1 hM hb hst
        by_cases hs : st < 256
        · obtain ⟨g5, g6⟩ := g3 hs
          clear g3 g4
          ktr_unf
          (rename Fr _ _ _ _ => F1); (rename News _ _ _ _ => N1); (rename IsRange _ _ _ _ _ _ _ _ => rg)
          have hz4 := hzb (((2 ^ i : Nat) : Int) + (b : Int)).toNat
          refine range_inv (n := 128 / 2 ^ i) (fun n m1 nx => ∃ (tk tl ts tz : Tok) (vs3 : List Value), At m1 [(Str.ofString "self", .ref P), (Str.ofString "k", .int (((2 ^ i : Nat) : Int) + (b : Int) + 1) tk), (Str.ofString "l", .int ((128 / 2 ^ i : Nat) : Int) tl), (Str.ofString "coeffs", .ref c), (Str.ofString "zetas", .ref Z), (Str.ofString "start", .int st ts), (Str.ofString "zeta", .int (zl.getD (((2 ^ i : Nat) : Int) + (b : Int)).toNat 0) tz)] ∧ (0 < n → ∃ tj, m1 (Str.ofString "j") = some (.int (st + (n : Int) - 1) tj)) ∧
            nx = ((P, instObj 350 DP) :: (DP, dictOf [ent w "parent" ta (.ref R), ent w "coeffs" tb (.ref c)] np) :: (c, listOf vs3.toArray nc) :: (R, instObj 282 DR) :: (DR, dictOf [ent w "q" t1 (.int 3329 u1), ent w "n" t2 (.int 256 u2), ent w "ntt_zetas" t3 (.ref Z), ent w "ntt_f" t4 (.int 3303 u4)] nd) :: (Z, listOf zs.toArray nz) :: rest) ∧ IntsAre vs3 (inn (zl.getD (((2 ^ i : Nat) : Int) + (b : Int)).toNat 0) ((128 / 2 ^ i : Nat) : Int) st n (blk zl ((128 / 2 ^ i : Nat) : Int) ((2 ^ i : Nat) : Int) b (lys zl i xs)))) (news := ((P, instObj 350 DP) :: (DP, dictOf [ent w "parent" ta (.ref R), ent w "coeffs" tb (.ref c)] np) :: (c, listOf vs2.toArray nc) :: (R, instObj 282 DR) :: (DR, dictOf [ent w "q" t1 (.int 3329 u1), ent w "n" t2 (.int 256 u2), ent w "ntt_zetas" t3 (.ref Z), ent w "ntt_f" t4 (.int 3303 u4)] nd) :: (Z, listOf zs.toArray nz) :: rest)) (by rfl) rg (small_one (by omega) (by omega) (by omega) (by omega)) ((rangeSize_nat _ _).trans (by omega)) F1 N1 ?j0 ?turn ?done
          case j0 => exact ⟨_, _, _, _, vs2, ⟨rfl, rfl, rfl, rfl, rfl, rfl, rfl, trivial⟩, fun h => absurd h (Nat.lt_irrefl _), rfl, hv2⟩
          case turn =>
            clear F1 N1
            rintro n t m1 _ h2 tk2 own hn _ hoff ⟨tk, tl, ts, tz, vs3, hat, -, rfl, hv3⟩ F1 N1
            replace F1 := fr_at1 F1 hat
            have hoc : ∀ p ∈ own, p.1 ≠ c := fun p hp => hoff p hp c (by simp)
            have hl3 := inn_len (z := zl.getD (((2 ^ i : Nat) : Int) + (b : Int)).toNat 0) (l := ((128 / 2 ^ i : Nat) : Int)) (st := st) (cs := blk zl ((128 / 2 ^ i : Nat) : Int) ((2 ^ i : Nat) : Int) b (lys zl i xs)) n
            simp only [List.cons_append] at N1
            ktr_unf
            (rename Fr _ _ _ _ => F2); (rename News _ _ _ _ => N2); (rename IntsAre _ _ => hv4)
            exact InvEndN.intro F2 N2 ⟨tk, tl, ts, tz, _, ⟨rfl, rfl, rfl, rfl, rfl, rfl, rfl, trivial⟩, fun _ => ⟨_, vint_eq (by omega)⟩, rfl, hv4⟩ rfl (fun p hp => List.mem_append_left own hp) (fun p hp => by repeat' (first | exact List.mem_append_right _ hp | refine List.mem_cons_of_mem _ ?_))
          case done =>
            clear F1 N1
            rintro m1 _ h2 tk2 ⟨tk, tl, ts, tz, vs3, hat, hj, rfl, hv3⟩ F1 N1
            obtain ⟨tj, hj⟩ := hj (by omega)
            replace F1 := fr_at (ps := (Str.ofString "j", _) :: _) F1 ⟨hj, hat⟩
            ktr_unf
            (rename Fr _ _ _ _ => F2); (rename News _ _ _ _ => N2)
            have hv4 : IntsAre vs3 (blk zl ((128 / 2 ^ i : Nat) : Int) ((2 ^ i : Nat) : Int) (b + 1) (lys zl i xs)) := by rw [blk, ← hst]; exact hv3
            exact WhileStep.intro F2 N2 (n' := 2 ^ i - (b + 1)) (by omega) ⟨b + 1, g5, rfl, _, mid_next hst, _, _, _, vs3, ⟨rfl, vint_eq (by omega), rfl, rfl, rfl, rfl, trivial⟩, rfl, hv4⟩
        · have g5 := g4 hs
          clear g3 g4
          ktr_unf
          (rename Fr _ _ _ _ => F2); (rename News _ _ _ _ => N2)
          obtain ⟨e1, e2, -, -⟩ := f6 (f7 (by omega))
          subst g5
          exact WhileStep.intro F2 N2 (n' := 7 - (i + 1)) (by omega) ⟨i + 1, f7 (by omega), rfl, _, _, vs2, ⟨rfl, vint_eq (by omega), vint_eq ((fdiv2 _).trans (by rw [e1])), rfl, rfl, trivial⟩, rfl, hv2⟩
    · (rename Fr _ _ _ _ => F1); (rename News _ _ _ _ => N1); (rename IsRange _ _ _ _ _ _ _ _ => rg)
      have hi7 : i = 7 := by
        rcases Nat.lt_or_ge i 7 with h | h
        · have := (f6 h).2.2.1
          omega
        · omega
      subst hi7
      obtain ⟨ls, hls⟩ : ∃ ls, ls = lys zl 7 xs := ⟨_, rfl⟩
      rw [← hls] at hv1 hl1
      refine range_inv (n := 256) (fun n m1 nx => ∃ (vs3 : List Value), At m1 [(Str.ofString "self", .ref P), (Str.ofString "coeffs", .ref c)] ∧ nx = ((P, instObj 350 DP) :: (DP, dictOf [ent w "parent" ta (.ref R), ent w "coeffs" tb (.ref c)] np) :: (c, listOf vs3.toArray nc) :: (R, instObj 282 DR) :: (DR, dictOf [ent w "q" t1 (.int 3329 u1), ent w "n" t2 (.int 256 u2), ent w "ntt_zetas" t3 (.ref Z), ent w "ntt_f" t4 (.int 3303 u4)] nd) :: (Z, listOf zs.toArray nz) :: rest) ∧ IntsAre vs3 (redN n ls)) (news := ((P, instObj 350 DP) :: (DP, dictOf [ent w "parent" ta (.ref R), ent w "coeffs" tb (.ref c)] np) :: (c, listOf vs1.toArray nc) :: (R, instObj 282 DR) :: (DR, dictOf [ent w "q" t1 (.int 3329 u1), ent w "n" t2 (.int 256 u2), ent w "ntt_zetas" t3 (.ref Z), ent w "ntt_f" t4 (.int 3303 u4)] nd) :: (Z, listOf zs.toArray nz) :: rest)) (by rfl) rg (small_one (by omega) (by omega) (by omega) (by omega)) (rangeSize_nat _ _) F1 N1 ?j0 ?turn ?done
      case j0 => exact ⟨vs1, ⟨rfl, rfl, trivial⟩, rfl, hv1⟩
      case turn =>
        clear F1 N1
        rintro n t m1 _ h2 tk2 own hn _ hoff ⟨vs3, hat, rfl, hv3⟩ F1 N1
        replace F1 := fr_at1 F1 hat
        have hoc : ∀ p ∈ own, p.1 ≠ c := fun p hp => hoff p hp c (by simp)
        have hl3 := redN_len (cs := ls) n
        simp only [List.cons_append] at N1
        ktr_unf
        (rename Fr _ _ _ _ => F2); (rename News _ _ _ _ => N2); (rename IntsAre _ _ => hv4)
        exact InvEndN.intro F2 N2 ⟨_, ⟨rfl, rfl, trivial⟩, rfl, hv4⟩ rfl (fun p hp => List.mem_append_left own hp) (fun p hp => by repeat' (first | exact List.mem_append_right _ hp | refine List.mem_cons_of_mem _ ?_))
      case done =>
        clear F1 N1
        rintro m1 _ h2 tk2 ⟨vs3, hat, rfl, hv3⟩ F1 N1
        have hl3 := redN_len (cs := ls) 256
        replace F1 := fr_at F1 hat
        obtain ⟨ys, hys⟩ : ∃ ys, ys = redN 256 ls := ⟨_, rfl⟩
        rw [← hys] at hv3 hl3
        clear hat f1 f2 f3 f4 f5 f6 f7 hv1
        ktr_unf
        (rename Fr _ _ _ _ => F2); (rename News _ _ _ _ => N2)
        (rename (_ ∧ _ ∧ _ ∧ _ ∧ _ ∧ _ ∧ AllLt _ rest) => l1)
        have hfin : ys = fwd zl xs := by rw [fwd_def]; rw [hys, hls]
        rw [hfin] at hv3
        exact hret _ _ _ _ vs3 _ _ F2 N2 hv3 l1 (by assumption)
end
theorem top_C2 : True := by
  w_top off
  trivial
section
open PySem PySem.W PyProof.Rows PySem.Calls PySem.Spec
set_option maxRecDepth 100000
set_option maxHeartbeats 8000000
theorem c_from_ntt {w : World} {mean : ExcName → Option Value} {mg mb : Str → Option Value} {gd : Option (List Code)} {cn : Str} {cs : Scope} {a : Addr} {ccd : Value} {cl : List (Str × Addr)} {outer : List Env} {A₀ : Around} {base h₀ : Heap} {L : Addr} {m : Str → Option Value} {s : Shared} {Q E : Value → Shared → Prop}
  {P DP c R DR Z : Addr} {ta tb t1 t2 t3 t4 u1 u2 u4 : Tok} {vs zs : List Value} {xs zl : List Int} {nz nd np nc : Nat} {rest : List (Addr × Obj)}
  (B : Below A₀ base outer h₀) (F : Fr h₀ L s.heap m) (X : (KT w.params).In h₀)
  (N : News h₀ L s.heap ((P, instObj 426 DP) :: (DP, dictOf [ent w "parent" ta (.ref R), ent w "coeffs" tb (.ref c)] np) :: (c, listOf vs.toArray nc) :: (R, instObj 282 DR) :: (DR, dictOf [ent w "q" t1 (.int 3329 u1), ent w "n" t2 (.int 256 u2), ent w "ntt_zetas" t3 (.ref Z), ent w "ntt_f" t4 (.int 3303 u4)] nd) :: (Z, listOf zs.toArray nz) :: rest))
  (hv : IntsAre vs xs) (hz : IntsAre zs zl) (hx : xs.length = 256) (hzl : zl.length = 128) (hzb : ∀ k, PySem.Builtin.Int.intBits (zl.getD k 0) ≤ 64)
  (hPc : P ≠ c) (hDc : DP ≠ c) (hRc : R ≠ c) (hDRc : DR ≠ c) (hZc : Z ≠ c) (hrc : ∀ p ∈ rest, p.1 ≠ c)
  (T : Top vw lse mean mg mb h₀) (hk : cs.kind = .function)
  (hret : ∀ (P' D' : Addr) (ta' tb' : Tok) (vs' : List Value) (h' : Heap) (tk' : Nat), Fr h₀ L h' m →
    News h₀ L h' ((P', instObj 350 D') :: (D', dictOf [ent w "parent" ta' (.ref R), ent w "coeffs" tb' (.ref c)] 2) :: ((P, instObj 426 DP) :: (DP, dictOf [ent w "parent" ta (.ref R), ent w "coeffs" tb (.ref c)] np) :: (c, listOf vs'.toArray nc) :: (R, instObj 282 DR) :: (DR, dictOf [ent w "q" t1 (.int 3329 u1), ent w "n" t2 (.int 256 u2), ent w "ntt_zetas" t3 (.ref Z), ent w "ntt_f" t4 (.int 3303 u4)] nd) :: (Z, listOf zs.toArray nz) :: rest)) → IntsAre vs' (bwd zl xs) → AllLt D' ((P, instObj 426 DP) :: (DP, dictOf [ent w "parent" ta (.ref R), ent w "coeffs" tb (.ref c)] np) :: (c, listOf vs'.toArray nc) :: (R, instObj 282 DR) :: (DR, dictOf [ent w "q" t1 (.int 3329 u1), ent w "n" t2 (.int 256 u2), ent w "ntt_zetas" t3 (.ref Z), ent w "ntt_f" t4 (.int 3303 u4)] nd) :: (Z, listOf zs.toArray nz) :: rest) → D' < P' → Q (.ref P') { s with heap := h', toks := tk' }) :
  wpAny (model PySem.Challenge.rw_yi0007_01.row.prog w) (ktrTop 500 300 gd cn cs L a ccd cl outer) (call (.ref 380) [.ref P]) Q E s := by
  refine wpAny_call ?_
  k_dflt cell_enter
  ktr_unf
  (rename Fr _ _ _ _ => F1); (rename News _ _ _ _ => N1)
  refine While_inv (fun n m1 nx => ∃ i, i ≤ 7 ∧ n = 7 - i ∧ ∃ (tk tl : Tok) (vs1 : List Value), At m1 [(Str.ofString "self", .ref P), (Str.ofString "k", .int (((128 / 2 ^ i : Nat) : Int) - 1) tk), (Str.ofString "l", .int ((2 * 2 ^ i : Nat) : Int) tl), (Str.ofString "coeffs", .ref c), (Str.ofString "zetas", .ref Z)] ∧
     nx = ((P, instObj 426 DP) :: (DP, dictOf [ent w "parent" ta (.ref R), ent w "coeffs" tb (.ref c)] np) :: (c, listOf vs1.toArray nc) :: (R, instObj 282 DR) :: (DR, dictOf [ent w "q" t1 (.int 3329 u1), ent w "n" t2 (.int 256 u2), ent w "ntt_zetas" t3 (.ref Z), ent w "ntt_f" t4 (.int 3303 u4)] nd) :: (Z, listOf zs.toArray nz) :: rest) ∧ IntsAre vs1 (iys zl i xs)) (n₀ := 7) (news := ((P, instObj 426 DP) :: (DP, dictOf [ent w "parent" ta (.ref R), ent w "coeffs" tb (.ref c)] np) :: (c, listOf vs.toArray nc) :: (R, instObj 282 DR) :: (DR, dictOf [ent w "q" t1 (.int 3329 u1), ent w "n" t2 (.int 256 u2), ent w "ntt_zetas" t3 (.ref Z), ent w "ntt_f" t4 (.int 3303 u4)] nd) :: (Z, listOf zs.toArray nz) :: rest)) F1 (cb_drop N1 ?sub) ?j0 ?turn
  case sub => intro p hp; exact List.mem_cons_of_mem _ hp
  case j0 => exact ⟨0, by decide, rfl, _, _, vs, ⟨rfl, rfl, rfl, rfl, rfl, trivial⟩, rfl, hv⟩
  case turn =>
    clear F1 N1
    rintro n m1 _ h1 tk1 F1 N1 ⟨i, hi, rfl, tk, tl, vs1, hat, rfl, hv1⟩
    replace F1 := fr_at F1 hat
    have hl1 := iys_len (zl := zl) (cs := xs) i
    obtain ⟨f1, f2, f3, f4, f5, f6⟩ := ilay_fact hi
    ktr_unf
    · (rename Fr _ _ _ _ => F1); (rename News _ _ _ _ => N1)
      have hi7 : i < 7 := f6 (by omega)
      obtain ⟨e1, e2, e3, e4, e5, e6⟩ := f5 hi7
      have hM : ((2 * 2 ^ i : Nat) : Int) * ((64 / 2 ^ i : Nat) : Int) = 128 := by rw [← Int.natCast_mul, e1]; rfl
      have hL1 : (1 : Int) ≤ ((2 * 2 ^ i : Nat) : Int) := by omega
      have hL2 : ((2 * 2 ^ i : Nat) : Int) ≤ 128 := by omega
      have hM1 : (1 : Int) ≤ ((128 / 2 ^ i : Nat) : Int) := by omega
      have hM2 : ((128 / 2 ^ i : Nat) : Int) ≤ 128 := by omega
      have hM3 : ((64 / 2 ^ i : Nat) : Int) ≤ ((128 / 2 ^ i : Nat) : Int) := Int.ofNat_le.mpr e6
      refine While_inv (fun n m1 nx => ∃ b, b ≤ 64 / 2 ^ i ∧ n = 64 / 2 ^ i - b ∧ ∃ st : Int, st = 2 * ((2 * 2 ^ i : Nat) : Int) * (b : Int) ∧ ∃ (tk tl ts : Tok) (vs2 : List Value), At m1 [(Str.ofString "self", .ref P), (Str.ofString "k", .int (((128 / 2 ^ i : Nat) : Int) - 1 - (b : Int)) tk), (Str.ofString "l", .int ((2 * 2 ^ i : Nat) : Int) tl), (Str.ofString "coeffs", .ref c), (Str.ofString "zetas", .ref Z), (Str.ofString "start", .int st ts)] ∧
        nx = ((P, instObj 426 DP) :: (DP, dictOf [ent w "parent" ta (.ref R), ent w "coeffs" tb (.ref c)] np) :: (c, listOf vs2.toArray nc) :: (R, instObj 282 DR) :: (DR, dictOf [ent w "q" t1 (.int 3329 u1), ent w "n" t2 (.int 256 u2), ent w "ntt_zetas" t3 (.ref Z), ent w "ntt_f" t4 (.int 3303 u4)] nd) :: (Z, listOf zs.toArray nz) :: rest) ∧ IntsAre vs2 (ibk zl ((2 * 2 ^ i : Nat) : Int) (((128 / 2 ^ i : Nat) : Int) - 1) b (iys zl i xs))) (n₀ := 64 / 2 ^ i) (news := ((P, instObj 426 DP) :: (DP, dictOf [ent w "parent" ta (.ref R), ent w "coeffs" tb (.ref c)] np) :: (c, listOf vs1.toArray nc) :: (R, instObj 282 DR) :: (DR, dictOf [ent w "q" t1 (.int 3329 u1), ent w "n" t2 (.int 256 u2), ent w "ntt_zetas" t3 (.ref Z), ent w "ntt_f" t4 (.int 3303 u4)] nd) :: (Z, listOf zs.toArray nz) :: rest)) F1 N1 ?j0 ?turn
      case j0 => exact ⟨0, Nat.zero_le _, rfl, 0, by simp, _, _, _, vs1, ⟨rfl, by simp; rfl, rfl, rfl, rfl, rfl, trivial⟩, rfl, hv1⟩
      case turn =>
        clear F1 N1
        rintro n m1 _ h1 tk1 F1 N1 ⟨b, hb, rfl, st, hst, tk, tl, ts, vs2, hat, rfl, hv2⟩
        replace F1 := fr_at F1 hat
        have hl2 := ibk_len (zl := zl) (l := ((2 * 2 ^ i : Nat) : Int)) (k0 := ((128 / 2 ^ i : Nat) : Int) - 1) (cs := iys zl i xs) b
        obtain ⟨g1, g2, g3, g4⟩ := mid_fact hL1 hM hb hst
        by_cases hs : st < 256
        · obtain ⟨g5, g6⟩ := g3 hs
          clear g3 g4
          have g7 : (0 : Int) ≤ ((128 / 2 ^ i : Nat) : Int) - 1 - (b : Int) := by omega
          ktr_unf
          (rename Fr _ _ _ _ => F1); (rename News _ _ _ _ => N1); (rename IsRange _ _ _ _ _ _ _ _ => rg)
          have hz4 := hzb (((128 / 2 ^ i : Nat) : Int) - 1 - (b : Int)).toNat
          refine range_inv (n := 2 * 2 ^ i) (fun n m1 nx => ∃ (tk tl ts tz : Tok) (vs3 : List Value), At m1 [(Str.ofString "self", .ref P), (Str.ofString "k", .int (((128 / 2 ^ i : Nat) : Int) - 1 - (b : Int) - 1) tk), (Str.ofString "l", .int ((2 * 2 ^ i : Nat) : Int) tl), (Str.ofString "coeffs", .ref c), (Str.ofString "zetas", .ref Z), (Str.ofString "start", .int st ts), (Str.ofString "zeta", .int (zl.getD (((128 / 2 ^ i : Nat) : Int) - 1 - (b : Int)).toNat 0) tz)] ∧ (0 < n → ∃ tj, m1 (Str.ofString "j") = some (.int (st + (n : Int) - 1) tj)) ∧
            nx = ((P, instObj 426 DP) :: (DP, dictOf [ent w "parent" ta (.ref R), ent w "coeffs" tb (.ref c)] np) :: (c, listOf vs3.toArray nc) :: (R, instObj 282 DR) :: (DR, dictOf [ent w "q" t1 (.int 3329 u1), ent w "n" t2 (.int 256 u2), ent w "ntt_zetas" t3 (.ref Z), ent w "ntt_f" t4 (.int 3303 u4)] nd) :: (Z, listOf zs.toArray nz) :: rest) ∧ IntsAre vs3 (ign (zl.getD (((128 / 2 ^ i : Nat) : Int) - 1 - (b : Int)).toNat 0) ((2 * 2 ^ i : Nat) : Int) st n (ibk zl ((2 * 2 ^ i : Nat) : Int) (((128 / 2 ^ i : Nat) : Int) - 1) b (iys zl i xs)))) (news := ((P, instObj 426 DP) :: (DP, dictOf [ent w "parent" ta (.ref R), ent w "coeffs" tb (.ref c)] np) :: (c, listOf vs2.toArray nc) :: (R, instObj 282 DR) :: (DR, dictOf [ent w "q" t1 (.int 3329 u1), ent w "n" t2 (.int 256 u2), ent w "ntt_zetas" t3 (.ref Z), ent w "ntt_f" t4 (.int 3303 u4)] nd) :: (Z, listOf zs.toArray nz) :: rest)) (by rfl) rg (small_one (by omega) (by omega) (by omega) (by omega)) ((rangeSize_nat _ _).trans (by omega)) F1 N1 ?j0 ?turn ?done
          case j0 => exact ⟨_, _, _, _, vs2, ⟨rfl, rfl, rfl, rfl, rfl, rfl, rfl, trivial⟩, fun h => absurd h (Nat.lt_irrefl _), rfl, hv2⟩
          case turn =>
            clear F1 N1
            rintro n t m1 _ h2 tk2 own hn _ hoff ⟨tk, tl, ts, tz, vs3, hat, -, rfl, hv3⟩ F1 N1
            replace F1 := fr_at1 F1 hat
            have hoc : ∀ p ∈ own, p.1 ≠ c := fun p hp => hoff p hp c (by simp)
            have hl3 := ign_len (z := zl.getD (((128 / 2 ^ i : Nat) : Int) - 1 - (b : Int)).toNat 0) (l := ((2 * 2 ^ i : Nat) : Int)) (st := st) (cs := ibk zl ((2 * 2 ^ i : Nat) : Int) (((128 / 2 ^ i : Nat) : Int) - 1) b (iys zl i xs)) n
            simp only [List.cons_append] at N1
            ktr_unf
            (rename Fr _ _ _ _ => F2); (rename News _ _ _ _ => N2); (rename IntsAre _ _ => hv4)
            exact InvEndN.intro F2 N2 ⟨tk, tl, ts, tz, _, ⟨rfl, rfl, rfl, rfl, rfl, rfl, rfl, trivial⟩, fun _ => ⟨_, vint_eq (by omega)⟩, rfl, hv4⟩ rfl (fun p hp => List.mem_append_left own hp) (fun p hp => by repeat' (first | exact List.mem_append_right _ hp | refine List.mem_cons_of_mem _ ?_))
          case done =>
            clear F1 N1
            rintro m1 _ h2 tk2 ⟨tk, tl, ts, tz, vs3, hat, hj, rfl, hv3⟩ F1 N1
            obtain ⟨tj, hj⟩ := hj (by omega)
            replace F1 := fr_at (ps := (Str.ofString "j", _) :: _) F1 ⟨hj, hat⟩
            ktr_unf
            (rename Fr _ _ _ _ => F2); (rename News _ _ _ _ => N2)
            have hv4 : IntsAre vs3 (ibk zl ((2 * 2 ^ i : Nat) : Int) (((128 / 2 ^ i : Nat) : Int) - 1) (b + 1) (iys zl i xs)) := by rw [ibk, ← hst]; exact hv3
            exact WhileStep.intro F2 N2 (n' := 64 / 2 ^ i - (b + 1)) (by omega) ⟨b + 1, g5, rfl, _, imid_next hst, _, _, _, vs3, ⟨rfl, vint_eq (by omega), rfl, rfl, rfl, rfl, trivial⟩, rfl, hv4⟩
        · have g5 := g4 hs
          clear g3 g4
          ktr_unf
          (rename Fr _ _ _ _ => F2); (rename News _ _ _ _ => N2)
          subst g5
          exact WhileStep.intro F2 N2 (n' := 7 - (i + 1)) (by omega) ⟨i + 1, hi7, rfl, _, _, vs2, ⟨rfl, vint_eq (by omega), vint_eq (shl1 e4), rfl, rfl, trivial⟩, rfl, hv2⟩
    · (rename Fr _ _ _ _ => F1); (rename News _ _ _ _ => N1); (rename IsRange _ _ _ _ _ _ _ _ => rg)
      have hi7 : i = 7 := by
        rcases Nat.lt_or_ge i 7 with h | h
        · have := (f5 h).2.2.1
          omega
        · omega
      subst hi7
      obtain ⟨ls, hls⟩ : ∃ ls, ls = iys zl 7 xs := ⟨_, rfl⟩
      rw [← hls] at hv1 hl1
      refine range_inv (n := 256) (fun n m1 nx => ∃ (tf : Tok) (vs3 : List Value), At m1 [(Str.ofString "self", .ref P), (Str.ofString "coeffs", .ref c), (Str.ofString "f", .int 3303 tf)] ∧ nx = ((P, instObj 426 DP) :: (DP, dictOf [ent w "parent" ta (.ref R), ent w "coeffs" tb (.ref c)] np) :: (c, listOf vs3.toArray nc) :: (R, instObj 282 DR) :: (DR, dictOf [ent w "q" t1 (.int 3329 u1), ent w "n" t2 (.int 256 u2), ent w "ntt_zetas" t3 (.ref Z), ent w "ntt_f" t4 (.int 3303 u4)] nd) :: (Z, listOf zs.toArray nz) :: rest) ∧ IntsAre vs3 (scN n ls)) (news := ((P, instObj 426 DP) :: (DP, dictOf [ent w "parent" ta (.ref R), ent w "coeffs" tb (.ref c)] np) :: (c, listOf vs1.toArray nc) :: (R, instObj 282 DR) :: (DR, dictOf [ent w "q" t1 (.int 3329 u1), ent w "n" t2 (.int 256 u2), ent w "ntt_zetas" t3 (.ref Z), ent w "ntt_f" t4 (.int 3303 u4)] nd) :: (Z, listOf zs.toArray nz) :: rest)) (by rfl) rg (small_one (by omega) (by omega) (by omega) (by omega)) (rangeSize_nat _ _) F1 N1 ?j0 ?turn ?done
      case j0 => exact ⟨_, vs1, ⟨rfl, rfl, rfl, trivial⟩, rfl, hv1⟩
      case turn =>
        clear F1 N1
        rintro n t m1 _ h2 tk2 own hn _ hoff ⟨tf, vs3, hat, rfl, hv3⟩ F1 N1
        replace F1 := fr_at1 F1 hat
        have hoc : ∀ p ∈ own, p.1 ≠ c := fun p hp => hoff p hp c (by simp)
        have hl3 := scN_len (cs := ls) n
        simp only [List.cons_append] at N1
        ktr_unf
        (rename Fr _ _ _ _ => F2); (rename News _ _ _ _ => N2); (rename IntsAre _ _ => hv4)
        exact InvEndN.intro F2 N2 ⟨_, _, ⟨rfl, rfl, rfl, trivial⟩, rfl, hv4⟩ rfl (fun p hp => List.mem_append_left own hp) (fun p hp => by repeat' (first | exact List.mem_append_right _ hp | refine List.mem_cons_of_mem _ ?_))
      case done =>
        clear F1 N1
        rintro m1 _ h2 tk2 ⟨tf, vs3, hat, rfl, hv3⟩ F1 N1
        have hl3 := scN_len (cs := ls) 256
        replace F1 := fr_at F1 hat
        obtain ⟨ys, hys⟩ : ∃ ys, ys = scN 256 ls := ⟨_, rfl⟩
        rw [← hys] at hv3 hl3
        clear hat f1 f2 f3 f4 f5 f6 hv1
        ktr_unf
        (rename Fr _ _ _ _ => F2); (rename News _ _ _ _ => N2)
        (rename (_ ∧ _ ∧ _ ∧ _ ∧ _ ∧ _ ∧ AllLt _ rest) => l1)
        have hfin : ys = bwd zl xs := by rw [bwd_def]; rw [hys, hls]
        rw [hfin] at hv3
        exact hret _ _ _ _ vs3 _ _ F2 N2 hv3 l1 (by assumption)
end
theorem top_C3 : True := by
  w_top off
  trivial
section
open PySem PySem.W PyProof.Rows PySem.Calls PySem.Spec
set_option maxRecDepth 100000
set_option maxHeartbeats 8000000
local macro_rules | `(tactic| mul_fits) => `(tactic| first | exact IntMulOk.of_left (by assumption) | exact IntMulOk.of_right (by assumption))

theorem c_mul {w : World} {mean : ExcName → Option Value} {mg mb : Str → Option Value} {gd : Option (List Code)} {cn : Str} {cs : Scope} {a : Addr} {ccd : Value} {cl : List (Str × Addr)} {outer : List Env} {A₀ : Around} {base h₀ : Heap} {L : Addr} {m : Str → Option Value} {s : Shared} {Q E : Value → Shared → Prop}
  {P DP c R DR Z : Addr} {ta tb t1 t2 t3 t4 u1 u2 u4 : Tok} {P2 DP2 c2 : Addr} {ta2 tb2 : Tok} {np2 nc2 : Nat} {vs ws zs : List Value} {xs ys zl : List Int} {nz nd np nc : Nat} {rest : List (Addr × Obj)}
  (B : Below A₀ base outer h₀) (F : Fr h₀ L s.heap m) (X : (KT w.params).In h₀)
  (N : News h₀ L s.heap ((P, instObj 426 DP) :: (DP, dictOf [ent w "parent" ta (.ref R), ent w "coeffs" tb (.ref c)] np) :: (c, listOf vs.toArray nc) :: (P2, instObj 426 DP2) :: (DP2, dictOf [ent w "parent" ta2 (.ref R), ent w "coeffs" tb2 (.ref c2)] np2) :: (c2, listOf ws.toArray nc2) :: (R, instObj 282 DR) :: (DR, dictOf [ent w "q" t1 (.int 3329 u1), ent w "n" t2 (.int 256 u2), ent w "ntt_zetas" t3 (.ref Z), ent w "ntt_f" t4 (.int 3303 u4)] nd) :: (Z, listOf zs.toArray nz) :: rest))
  (hv : IntsAre vs xs) (hw : IntsAre ws ys) (hz : IntsAre zs zl) (hx : xs.length = 256) (hy : ys.length = 256) (hzl : zl.length = 128) (hxb : ∀ k, PySem.Builtin.Int.intBits (xs.getD k 0) ≤ 64) (hyb : ∀ k, PySem.Builtin.Int.intBits (ys.getD k 0) ≤ 64)
  (hzb : ∀ k, PySem.Builtin.Int.intBits (zl.getD k 0) ≤ 64) (hnb : ∀ k, PySem.Builtin.Int.intBits (-(zl.getD k 0)) ≤ 64)
  (T : Top vw lse mean mg mb h₀) (hk : cs.kind = .function)
  (hret : ∀ (P' D' c' : Addr) (ta' tb' : Tok) (vs' : List Value) (nc' : Nat) (h' : Heap) (tk' : Nat), Fr h₀ L h' m →
    News h₀ L h' ((P', instObj 426 D') :: (D', dictOf [ent w "parent" ta' (.ref R), ent w "coeffs" tb' (.ref c')] 2) :: (c', listOf vs'.toArray nc') :: ((P, instObj 426 DP) :: (DP, dictOf [ent w "parent" ta (.ref R), ent w "coeffs" tb (.ref c)] np) :: (c, listOf vs.toArray nc) :: (P2, instObj 426 DP2) :: (DP2, dictOf [ent w "parent" ta2 (.ref R), ent w "coeffs" tb2 (.ref c2)] np2) :: (c2, listOf ws.toArray nc2) :: (R, instObj 282 DR) :: (DR, dictOf [ent w "q" t1 (.int 3329 u1), ent w "n" t2 (.int 256 u2), ent w "ntt_zetas" t3 (.ref Z), ent w "ntt_f" t4 (.int 3303 u4)] nd) :: (Z, listOf zs.toArray nz) :: rest)) → IntsAre vs' (mulL zl xs ys) → AllLt c' ((P, instObj 426 DP) :: (DP, dictOf [ent w "parent" ta (.ref R), ent w "coeffs" tb (.ref c)] np) :: (c, listOf vs.toArray nc) :: (P2, instObj 426 DP2) :: (DP2, dictOf [ent w "parent" ta2 (.ref R), ent w "coeffs" tb2 (.ref c2)] np2) :: (c2, listOf ws.toArray nc2) :: (R, instObj 282 DR) :: (DR, dictOf [ent w "q" t1 (.int 3329 u1), ent w "n" t2 (.int 256 u2), ent w "ntt_zetas" t3 (.ref Z), ent w "ntt_f" t4 (.int 3303 u4)] nd) :: (Z, listOf zs.toArray nz) :: rest) → c' < D' → D' < P' → Q (.ref P') { s with heap := h', toks := tk' }) :
  wpAny (model PySem.Challenge.rw_yi0007_01.row.prog w) (ktrTop 500 300 gd cn cs L a ccd cl outer) (call (.ref 423) [.ref P, .ref P2]) Q E s := by
  refine wpAny_call ?_
  k_dflt (refine' code_defC ?k1 ?k2 ?k3 ?k4 ?k5 ?kA ?kF ?kK ?k6 ?k7 ?k8 ?k9 ?kB ?kD ?_ ?c2 ?c3 ?c4; (case kA => exact rfl); (case kF => exact rfl); (case kK => assumption); (case k1 => k_asm); (case k2 => k_asm); (case k3 => k_asm); (case k4 => k_asm); (case k5 => k_asm); (case k6 => k_is); (case k7 => k_is); (case k8 => k_room); (case k9 => exact BindsTo.of_eq rfl); (case kB => exact rfl); (case kD => decide +kernel); (case c2 => exact rfl); (case c3 => exact rfl); (case c4 => exact rfl); k_whole; intro g' L' h' tk' cells' FG' F' N' Y' B' X' T' l1; (try k_lt l1); k_cells Y'; (try simp only [List.cons_append, List.nil_append] at N'); (try dsimp only); (try k_lift B'); (try k_fold))
  ktr_unf
  rename_i nl _ l9 _ _ _ _ _ _ _ _ _ _ _ _ _
  (rename Obj => co)
  have hrn : ∀ p ∈ rest, p.1 ≠ nl := by
    obtain ⟨_, _, _, _, _, _, _, _, _, _, hr⟩ := l9
    exact fun p hp => Nat.ne_of_lt (kst_ltOf hr p hp)
  (rename Fr _ _ _ _ => F1); (rename News _ _ _ _ => N1); (rename IsRange _ _ _ _ _ _ _ _ => rg)
  refine range_inv (n := 64) (fun n m1 nx => ∃ (us : List Value) (nu : Nat), At m1 [(Str.ofString "self", .ref P), (Str.ofString "f_coeffs", .ref c), (Str.ofString "g_coeffs", .ref c2), (Str.ofString "new_coeffs", .ref nl), (Str.ofString "zetas", .ref Z)] ∧
     nx = (nl, listOf us.toArray nu) :: (L' + 1, co) :: ((P, instObj 426 DP) :: (DP, dictOf [ent w "parent" ta (.ref R), ent w "coeffs" tb (.ref c)] np) :: (c, listOf vs.toArray nc) :: (P2, instObj 426 DP2) :: (DP2, dictOf [ent w "parent" ta2 (.ref R), ent w "coeffs" tb2 (.ref c2)] np2) :: (c2, listOf ws.toArray nc2) :: (R, instObj 282 DR) :: (DR, dictOf [ent w "q" t1 (.int 3329 u1), ent w "n" t2 (.int 256 u2), ent w "ntt_zetas" t3 (.ref Z), ent w "ntt_f" t4 (.int 3303 u4)] nd) :: (Z, listOf zs.toArray nz) :: rest) ∧ IntsAre us (mulN zl xs ys n)) (news := (nl, listOf ([] : List Value).toArray 0) :: (L' + 1, co) :: ((P, instObj 426 DP) :: (DP, dictOf [ent w "parent" ta (.ref R), ent w "coeffs" tb (.ref c)] np) :: (c, listOf vs.toArray nc) :: (P2, instObj 426 DP2) :: (DP2, dictOf [ent w "parent" ta2 (.ref R), ent w "coeffs" tb2 (.ref c2)] np2) :: (c2, listOf ws.toArray nc2) :: (R, instObj 282 DR) :: (DR, dictOf [ent w "q" t1 (.int 3329 u1), ent w "n" t2 (.int 256 u2), ent w "ntt_zetas" t3 (.ref Z), ent w "ntt_f" t4 (.int 3303 u4)] nd) :: (Z, listOf zs.toArray nz) :: rest)) (by rfl) rg (small_one (by omega) (by omega) (by omega) (by omega)) (rangeSize_nat _ _) F1 N1 ?j0 ?turn ?done
  case j0 => exact ⟨[], 0, ⟨rfl, rfl, rfl, rfl, rfl, trivial⟩, rfl, .nil⟩
  case turn =>
    clear F1 N1
    rintro n t m1 _ h2 tk2 own hn _ hoff ⟨us, nu, hat, rfl, hu⟩ F1 N1
    replace F1 := fr_at1 F1 hat
    have hoc : ∀ p ∈ own, p.1 ≠ nl := fun p hp => hoff p hp nl (by simp)
    have hul := mulN_len (zl := zl) (xs := xs) (ys := ys) n
    have hul2 := hu.length
    rw [hul] at hul2
    have q0 := hxb (4 * (0 + (n : Int)) + 0).toNat
    have q1 := hxb (4 * (0 + (n : Int)) + 1).toNat
    have q2 := hxb (4 * (0 + (n : Int)) + 2).toNat
    have q3 := hxb (4 * (0 + (n : Int)) + 3).toNat
    have q4 := hyb (4 * (0 + (n : Int)) + 0).toNat
    have q5 := hyb (4 * (0 + (n : Int)) + 1).toNat
    have q6 := hyb (4 * (0 + (n : Int)) + 2).toNat
    have q7 := hyb (4 * (0 + (n : Int)) + 3).toNat
    have q8 := hzb (64 + (0 + (n : Int))).toNat
    have q9 := hnb (64 + (0 + (n : Int))).toNat
    simp only [List.cons_append] at N1
    ktr_unf
    (rename Fr _ _ _ _ => F2); (rename News _ _ _ _ => N2)
    exact InvEndN.intro F2 N2 ⟨_, _, ⟨rfl, rfl, rfl, rfl, rfl, trivial⟩, rfl, ints_append hu (.cons _ _ (.cons _ _ (.cons _ _ (.cons _ _ .nil))))⟩ rfl (fun p hp => .tail _ (.tail _ (.tail _ (List.mem_append_left own hp)))) (fun p hp => by repeat' (first | exact List.mem_append_right _ hp | refine List.mem_cons_of_mem _ ?_))
  case done =>
    clear F1 N1
    rintro m1 _ h2 tk2 ⟨us, nu, hat, rfl, hu⟩ F1 N1
    replace F1 := fr_at F1 hat
    have hul := mulN_len (zl := zl) (xs := xs) (ys := ys) 64
    obtain ⟨us2, hus⟩ : ∃ z, z = mulN zl xs ys 64 := ⟨_, rfl⟩
    rw [← hus] at hu hul
    clear hat
    ktr_unf
    (rename Fr _ _ _ _ => F2); (rename News _ _ _ _ => N2); (rename (nl < _ ∧ _) => l1)
    have hfin : us2 = mulL zl xs ys := by rw [mulL_def]; exact hus
    rw [hfin] at hu
    exact hret _ _ _ _ _ us nu _ _ F2 (cb_drop N2 sub3) hu l9.2 l1.1 (by assumption)
end
theorem top_C5 : True := by
  w_top off
  trivial
section
open PySem PySem.W PyProof.Rows PySem.Calls PySem.Spec
set_option maxRecDepth 100000
set_option maxHeartbeats 8000000
local macro_rules | `(tactic| ktr_unf) => `(tactic| repeat' ((fail_if_success (with_reducible show wpAny _ _ (exec (Stmt.While _ _ _ _) _) _ _ _)); (fail_if_success (with_reducible show wpAny _ _ (pyIter (Value.ref _)) (fun it s₂ => LoopAtV _ _ _ _ _ _ _ _ _ it s₂) _ _)); (fail_if_success (with_reducible show wpAny _ _ (subscriptTail _ _ (Value.str _ _) (Value.ref _)) _ _ _)); (fail_if_success (with_reducible show wpAny _ _ (PySem.call (Value.type "int") _) _ _ _)); (fail_if_success (with_reducible show wpAny _ _ (PySem.call (Value.builtin "pow") _) _ _ _)); (fail_if_success (with_reducible show wpAny _ _ (PySem.call (Value.ref 245) _) _ _ _)); (fail_if_success (with_reducible show InvEndN _ _ _ _ _ _ _)); (fail_if_success (with_reducible show WhileStep _ _ _ _ _ _ _)); (fail_if_success (with_reducible show TurnEnd _ _ _ _ _ _ _ _ _)); (fail_if_success (with_reducible show wpAny _ _ (PySem.call (Value.ref 340) _) _ _ _)); (fail_if_success (with_reducible show wpAny _ _ (PySem.call (Value.ref 380) _) _ _ _)); (fail_if_success (with_reducible show wpAny _ _ (PySem.call (Value.ref 423) _) _ _ _)); (fail_if_success (with_reducible show wpAny _ _ (PySem.call (Value.ref 442) _) _ _ _)); (fail_if_success (with_reducible show wpAny _ _ (PySem.call (Value.ref 238) _) _ _ _)); first | (k_unfold; (try dsimp only)) | (k_end; wrow_close) | walk1 | (dsimp only; walk1) | (leave1; walk_say "STEP leave1"; try dsimp only) | fail "no step"))
theorem c_br {w : World} {mean : ExcName → Option Value} {mg mb : Str → Option Value} {gd : Option (List Code)} {cn : Str} {cs : Scope} {a : Addr} {ccd : Value} {cl : List (Str × Addr)} {outer : List Env} {A₀ : Around} {base h₀ : Heap} {L : Addr} {m : Str → Option Value} {s : Shared} {Q E : Value → Shared → Prop}
  {i : Int} {ti tk : Tok} {rest : List (Addr × Obj)}
  (B : Below A₀ base outer h₀) (F : Fr h₀ L s.heap m) (X : (KT w.params).In h₀)
  (N : News h₀ L s.heap rest) (hi0 : 0 ≤ i) (hi : i < 128)
  (T : Top vw lse mean mg mb h₀) (hk : cs.kind = .function)
  (hret : ∀ (h' : Heap) (tk' : Nat) (t' : Tok), Fr h₀ L h' m → News h₀ L h' rest → Q (.int ((br7 i.toNat : Nat) : Int) t') { s with heap := h', toks := tk' }) :
  wpAny (model PySem.Challenge.rw_yi0007_01.row.prog w) (ktrTop 500 300 gd cn cs L a ccd cl outer) (call (.ref 245) [.int i ti, .int 7 tk]) Q E s := by
  refine wpAny_call ?_
  k_dflt cell_enter
  ktr_unf
  obtain ⟨k, rfl⟩ := Int.eq_ofNat_of_zero_le hi0
  have hk128 : k < 128 := by omega
  rw [and127 ⟨k, hk128⟩]
  refine P.bin_of_int ?_ (Nat.le_trans (bt_len ⟨k, hk128⟩) (by decide))
  obtain ⟨x0, hx0⟩ : ∃ x, x = baseText "0b" 2 ((k : Nat) : Int) := ⟨_, rfl⟩
  have hl0 : x0.length ≤ 9 := by rw [hx0]; exact bt_len ⟨k, hk128⟩
  rw [← hx0]
  ktr_unf
  refine slice_strN_sn (s := ⟨_, _, _, _, _⟩) (by assumption) (by assumption) ?_ (by with_unfolding_all rfl) (by intro _; with_unfolding_all rfl) (Nat.le_trans hl0 (by decide))
  (rename Fr _ _ _ _ => F9); (rename News _ _ _ _ => N9); clear F9 N9
  intro h2 t2 k2 F1 N1
  obtain ⟨x1, hx1⟩ : ∃ x, x = Txt.slice x0 (some 2) none := ⟨_, rfl⟩
  rw [← hx1]
  have hl1 : x1.length ≤ 9 := by rw [hx1, hx0]; exact sl_len ⟨k, hk128⟩
  ktr_unf
  obtain ⟨x2, hx2⟩ : ∃ x, x = Txt.zfill x1 7 := ⟨_, rfl⟩
  have hl2 : x2.length ≤ 9 := by rw [hx2, hx1, hx0]; exact zf_len ⟨k, hk128⟩
  rw [← hx2]
  (rename Fr _ _ _ _ => F9); (rename News _ _ _ _ => N9)
  refine slice_strK_nn (s := ⟨_, _, _, _, _⟩) F9 N9 (by decide) ?_ (by with_unfolding_all rfl) (by intro _; with_unfolding_all rfl) (Nat.le_trans hl2 (by decide))
  clear F9 N9
  intro h3 t3 k3 F1 N1
  have hx3 : ∀ u, Txt.sliceBy x2 none none (-1, u) = rev7 k 0 := by intro u; rw [hx2, hx1, hx0]; rfl
  rw [hx3]
  clear hx3 hx2 hx1 hx0 hl0 hl1 hl2
  ktr_unf
  refine call_text2 (rd0 ⟨k, hk128⟩) (numVal_eq (rd1 ⟨k, hk128⟩)) (rd2 ⟨k, hk128⟩) ?_
  ktr_unf
  (rename Fr _ _ _ _ => F2); (rename News _ _ _ _ => N2)
  exact hret _ _ _ F2 N2
end
theorem top_C8 : True := by
  w_top off
  trivial
section
open PySem PySem.W PyProof.Rows PySem.Calls PySem.Spec
set_option maxRecDepth 100000
set_option maxHeartbeats 8000000
def drawV (ns : List Int) (k : Int) : Int := if k < (ns.length : Int) then ns.getD k.toNat 0 else 200 + 17 * k + 31 * k * k

theorem c_draw {w : World} {mean : ExcName → Option Value} {mg mb : Str → Option Value} {gd : Option (List Code)} {cn : Str} {cs : Scope} {a : Addr} {ccd : Value} {cl : List (Str × Addr)} {outer : List Env} {A₀ : Around} {base h₀ : Heap} {L : Addr} {m : Str → Option Value} {s : Shared} {Q E : Value → Shared → Prop}
  {l : Addr} {vs : List Value} {ns : List Int} {k : Int} {tk : Tok} {rest : List (Addr × Obj)}
  (B : Below A₀ base outer h₀) (F : Fr h₀ L s.heap m) (X : (KT w.params).In h₀)
  (N : News h₀ L s.heap rest) (hL : h₀.IsList l vs.toArray) (hI : IntsAre vs ns) (hk0 : 0 ≤ k) (hk1 : k < 1000) (hn : ns.length ≤ 63)
  (T : Top vw lse mean mg mb h₀) (hk : cs.kind = .function)
  (hret : ∀ (h' : Heap) (tk' : Nat) (t' : Tok), Fr h₀ L h' m → News h₀ L h' rest → Q (.int (drawV ns k) t') { s with heap := h', toks := tk' }) :
  wpAny (model PySem.Challenge.rw_yi0007_01.row.prog w) (ktrTop 500 300 gd cn cs L a ccd cl outer) (call (.ref 435) [.ref l, .int k tk]) Q E s := by
  have hlen : vs.length = ns.length := hI.length
  refine wpAny_call ?_
  k_dflt cell_enter
  (rename Fr h₀ L _ m => FG)
  have hL2 := Fr.lst FG hL
  ktr_unf
  all_goals (try k_data)
  · (rename Fr _ _ _ _ => F2); (rename News _ _ _ _ => N2); (rename (_ < ((_ : Nat) : Int)) => hlt)
    have e : drawV ns k = ns.getD k.toNat 0 := by unfold drawV; rw [if_pos hlt]
    rw [← e]
    exact hret _ _ _ F2 N2
  · (rename Fr _ _ _ _ => F2); (rename News _ _ _ _ => N2); (rename (¬ (_ < ((_ : Nat) : Int))) => hlt)
    have e : drawV ns k = 200 + 17 * k + 31 * k * k := by unfold drawV; rw [if_neg hlt]
    rw [← e]
    exact hret _ _ _ F2 N2

def signV (x : Int) : Int := if (x.fdiv 256).fmod 2 = 1 then -1 else 1

theorem c_sign {w : World} {mean : ExcName → Option Value} {mg mb : Str → Option Value} {gd : Option (List Code)} {cn : Str} {cs : Scope} {a : Addr} {ccd : Value} {cl : List (Str × Addr)} {outer : List Env} {A₀ : Around} {base h₀ : Heap} {L : Addr} {m : Str → Option Value} {s : Shared} {Q E : Value → Shared → Prop}
  {k : Int} {tk : Tok} {rest : List (Addr × Obj)}
  (B : Below A₀ base outer h₀) (F : Fr h₀ L s.heap m) (X : (KT w.params).In h₀)
  (N : News h₀ L s.heap rest) (hk0 : 0 ≤ k) (hk1 : k < 1000000)
  (T : Top vw lse mean mg mb h₀) (hk : cs.kind = .function)
  (hret : ∀ (h' : Heap) (tk' : Nat) (t' : Tok), Fr h₀ L h' m → News h₀ L h' rest → Q (.int (signV k) t') { s with heap := h', toks := tk' }) :
  wpAny (model PySem.Challenge.rw_yi0007_01.row.prog w) (ktrTop 500 300 gd cn cs L a ccd cl outer) (call (.ref 449) [.int k tk]) Q E s := by
  refine wpAny_call ?_
  k_dflt cell_enter
  ktr_unf
  all_goals (try k_data)
  · (rename Fr _ _ _ _ => F2); (rename News _ _ _ _ => N2); (rename (_ = (1 : Int)) => hq)
    have e : signV k = -1 := by unfold signV; rw [if_pos hq]
    rw [e] at hret
    exact hret _ _ _ F2 N2
  · (rename Fr _ _ _ _ => F2); (rename News _ _ _ _ => N2); (rename (_ ≠ (1 : Int)) => hq)
    have e : signV k = 1 := by unfold signV; rw [if_neg hq]
    rw [e] at hret
    exact hret _ _ _ F2 N2
end
section
open PySem PySem.W PyProof.Rows PySem.Calls PySem.Spec
theorem zeros_range (n : Nat) : (rangeKs 0 n).map (fun _ => (0 : Int)) = List.replicate n 0 := by
  rw [List.map_const', rangeKs_length]
theorem one_eq : ([1] ++ List.map (fun _ => (0 : Int)) (rangeKs 0 (256 - 1 - 0 : Int).toNat)) = oneL := by
  rw [zeros_range]; rfl
section
variable {α : Type} {h₀ h : Heap} {L : Addr}
theorem perm41 {a b x d l p q c r s z : Addr × Obj} {rest : List (Addr × Obj)} (N : News h₀ L h (a :: b :: x :: d :: l :: p :: q :: c :: r :: s :: z :: rest)) : News h₀ L h (x :: d :: a :: r :: s :: z :: (p :: q :: c :: rest)) :=
  cb_drop N (List.forall_mem_cons.mpr ⟨.tail _ (.tail _ (.head _)), List.forall_mem_cons.mpr ⟨.tail _ (.tail _ (.tail _ (.head _))), List.forall_mem_cons.mpr ⟨.head _, List.forall_mem_cons.mpr ⟨.tail _ (.tail _ (.tail _ (.tail _ (.tail _ (.tail _ (.tail _ (.tail _ (.head _)))))))), List.forall_mem_cons.mpr ⟨.tail _ (.tail _ (.tail _ (.tail _ (.tail _ (.tail _ (.tail _ (.tail _ (.tail _ (.head _))))))))), List.forall_mem_cons.mpr ⟨.tail _ (.tail _ (.tail _ (.tail _ (.tail _ (.tail _ (.tail _ (.tail _ (.tail _ (.tail _ (.head _)))))))))), List.forall_mem_cons.mpr ⟨.tail _ (.tail _ (.tail _ (.tail _ (.tail _ (.head _))))), List.forall_mem_cons.mpr ⟨.tail _ (.tail _ (.tail _ (.tail _ (.tail _ (.tail _ (.head _)))))), List.forall_mem_cons.mpr ⟨.tail _ (.tail _ (.tail _ (.tail _ (.tail _ (.tail _ (.tail _ (.head _))))))), fun y hy => .tail _ (.tail _ (.tail _ (.tail _ (.tail _ (.tail _ (.tail _ (.tail _ (.tail _ (.tail _ (.tail _ (hy)))))))))))⟩⟩⟩⟩⟩⟩⟩⟩⟩)
theorem perm42 {o d x y l r s z p q c : Addr × Obj} {rest : List (Addr × Obj)} (N : News h₀ L h (o :: d :: x :: y :: l :: r :: s :: z :: p :: q :: c :: rest)) : News h₀ L h (o :: d :: l :: p :: q :: c :: r :: s :: z :: p :: q :: c :: rest) :=
  cb_drop N (List.forall_mem_cons.mpr ⟨.head _, List.forall_mem_cons.mpr ⟨.tail _ (.head _), List.forall_mem_cons.mpr ⟨.tail _ (.tail _ (.tail _ (.tail _ (.head _)))), List.forall_mem_cons.mpr ⟨.tail _ (.tail _ (.tail _ (.tail _ (.tail _ (.tail _ (.tail _ (.tail _ (.head _)))))))), List.forall_mem_cons.mpr ⟨.tail _ (.tail _ (.tail _ (.tail _ (.tail _ (.tail _ (.tail _ (.tail _ (.tail _ (.head _))))))))), List.forall_mem_cons.mpr ⟨.tail _ (.tail _ (.tail _ (.tail _ (.tail _ (.tail _ (.tail _ (.tail _ (.tail _ (.tail _ (.head _)))))))))), List.forall_mem_cons.mpr ⟨.tail _ (.tail _ (.tail _ (.tail _ (.tail _ (.head _))))), List.forall_mem_cons.mpr ⟨.tail _ (.tail _ (.tail _ (.tail _ (.tail _ (.tail _ (.head _)))))), List.forall_mem_cons.mpr ⟨.tail _ (.tail _ (.tail _ (.tail _ (.tail _ (.tail _ (.tail _ (.head _))))))), List.forall_mem_cons.mpr ⟨.tail _ (.tail _ (.tail _ (.tail _ (.tail _ (.tail _ (.tail _ (.tail _ (.head _)))))))), List.forall_mem_cons.mpr ⟨.tail _ (.tail _ (.tail _ (.tail _ (.tail _ (.tail _ (.tail _ (.tail _ (.tail _ (.head _))))))))), List.forall_mem_cons.mpr ⟨.tail _ (.tail _ (.tail _ (.tail _ (.tail _ (.tail _ (.tail _ (.tail _ (.tail _ (.tail _ (.head _)))))))))), fun y hy => .tail _ (.tail _ (.tail _ (.tail _ (.tail _ (.tail _ (.tail _ (.tail _ (.tail _ (.tail _ (.tail _ (hy)))))))))))⟩⟩⟩⟩⟩⟩⟩⟩⟩⟩⟩⟩)
theorem allLt_up {d d' : Addr} (hd : @LT.lt Nat _ d d') : ∀ {l : List (Addr × Obj)}, AllLt d l → AllLt d' l
  | [], _ => trivial
  | _ :: _, h => ⟨Nat.lt_trans h.1 hd, allLt_up hd h.2⟩
theorem perm43 {i o d l p q c r s z P Q C : Addr × Obj} {rest : List (Addr × Obj)} (N : News h₀ L h (i :: o :: d :: l :: p :: q :: c :: r :: s :: z :: P :: Q :: C :: rest)) : News h₀ L h (o :: d :: l :: p :: q :: c :: r :: s :: z :: (i :: P :: Q :: C :: rest)) :=
  cb_drop N (List.forall_mem_cons.mpr ⟨.tail _ (.head _), List.forall_mem_cons.mpr ⟨.tail _ (.tail _ (.head _)), List.forall_mem_cons.mpr ⟨.tail _ (.tail _ (.tail _ (.head _))), List.forall_mem_cons.mpr ⟨.tail _ (.tail _ (.tail _ (.tail _ (.head _)))), List.forall_mem_cons.mpr ⟨.tail _ (.tail _ (.tail _ (.tail _ (.tail _ (.head _))))), List.forall_mem_cons.mpr ⟨.tail _ (.tail _ (.tail _ (.tail _ (.tail _ (.tail _ (.head _)))))), List.forall_mem_cons.mpr ⟨.tail _ (.tail _ (.tail _ (.tail _ (.tail _ (.tail _ (.tail _ (.head _))))))), List.forall_mem_cons.mpr ⟨.tail _ (.tail _ (.tail _ (.tail _ (.tail _ (.tail _ (.tail _ (.tail _ (.head _)))))))), List.forall_mem_cons.mpr ⟨.tail _ (.tail _ (.tail _ (.tail _ (.tail _ (.tail _ (.tail _ (.tail _ (.tail _ (.head _))))))))), List.forall_mem_cons.mpr ⟨.head _, List.forall_mem_cons.mpr ⟨.tail _ (.tail _ (.tail _ (.tail _ (.tail _ (.tail _ (.tail _ (.tail _ (.tail _ (.tail _ (.head _)))))))))), List.forall_mem_cons.mpr ⟨.tail _ (.tail _ (.tail _ (.tail _ (.tail _ (.tail _ (.tail _ (.tail _ (.tail _ (.tail _ (.tail _ (.head _))))))))))), List.forall_mem_cons.mpr ⟨.tail _ (.tail _ (.tail _ (.tail _ (.tail _ (.tail _ (.tail _ (.tail _ (.tail _ (.tail _ (.tail _ (.tail _ (.head _)))))))))))), fun y hy => .tail _ (.tail _ (.tail _ (.tail _ (.tail _ (.tail _ (.tail _ (.tail _ (.tail _ (.tail _ (.tail _ (.tail _ (.tail _ (hy)))))))))))))⟩⟩⟩⟩⟩⟩⟩⟩⟩⟩⟩⟩⟩)
/-- the squaring, behind a product -/
theorem perm44 {x y k o d l p q c r s z i P Q C : Addr × Obj} {rest : List (Addr × Obj)} (N : News h₀ L h (x :: y :: k :: o :: d :: l :: p :: q :: c :: r :: s :: z :: (i :: P :: Q :: C :: rest))) : News h₀ L h (p :: q :: c :: p :: q :: c :: r :: s :: z :: (x :: y :: k :: i :: P :: Q :: C :: rest)) :=
  cb_drop N (List.forall_mem_cons.mpr ⟨.tail _ (.tail _ (.tail _ (.tail _ (.tail _ (.tail _ (.head _)))))), List.forall_mem_cons.mpr ⟨.tail _ (.tail _ (.tail _ (.tail _ (.tail _ (.tail _ (.tail _ (.head _))))))), List.forall_mem_cons.mpr ⟨.tail _ (.tail _ (.tail _ (.tail _ (.tail _ (.tail _ (.tail _ (.tail _ (.head _)))))))), List.forall_mem_cons.mpr ⟨.tail _ (.tail _ (.tail _ (.tail _ (.tail _ (.tail _ (.head _)))))), List.forall_mem_cons.mpr ⟨.tail _ (.tail _ (.tail _ (.tail _ (.tail _ (.tail _ (.tail _ (.head _))))))), List.forall_mem_cons.mpr ⟨.tail _ (.tail _ (.tail _ (.tail _ (.tail _ (.tail _ (.tail _ (.tail _ (.head _)))))))), List.forall_mem_cons.mpr ⟨.tail _ (.tail _ (.tail _ (.tail _ (.tail _ (.tail _ (.tail _ (.tail _ (.tail _ (.head _))))))))), List.forall_mem_cons.mpr ⟨.tail _ (.tail _ (.tail _ (.tail _ (.tail _ (.tail _ (.tail _ (.tail _ (.tail _ (.tail _ (.head _)))))))))), List.forall_mem_cons.mpr ⟨.tail _ (.tail _ (.tail _ (.tail _ (.tail _ (.tail _ (.tail _ (.tail _ (.tail _ (.tail _ (.tail _ (.head _))))))))))), List.forall_mem_cons.mpr ⟨.head _, List.forall_mem_cons.mpr ⟨.tail _ (.head _), List.forall_mem_cons.mpr ⟨.tail _ (.tail _ (.head _)), List.forall_mem_cons.mpr ⟨.tail _ (.tail _ (.tail _ (.tail _ (.tail _ (.tail _ (.tail _ (.tail _ (.tail _ (.tail _ (.tail _ (.tail _ (.head _)))))))))))), List.forall_mem_cons.mpr ⟨.tail _ (.tail _ (.tail _ (.tail _ (.tail _ (.tail _ (.tail _ (.tail _ (.tail _ (.tail _ (.tail _ (.tail _ (.tail _ (.head _))))))))))))), List.forall_mem_cons.mpr ⟨.tail _ (.tail _ (.tail _ (.tail _ (.tail _ (.tail _ (.tail _ (.tail _ (.tail _ (.tail _ (.tail _ (.tail _ (.tail _ (.tail _ (.head _)))))))))))))), List.forall_mem_cons.mpr ⟨.tail _ (.tail _ (.tail _ (.tail _ (.tail _ (.tail _ (.tail _ (.tail _ (.tail _ (.tail _ (.tail _ (.tail _ (.tail _ (.tail _ (.tail _ (.head _))))))))))))))), fun y hy => .tail _ (.tail _ (.tail _ (.tail _ (.tail _ (.tail _ (.tail _ (.tail _ (.tail _ (.tail _ (.tail _ (.tail _ (.tail _ (.tail _ (.tail _ (.tail _ (hy))))))))))))))))⟩⟩⟩⟩⟩⟩⟩⟩⟩⟩⟩⟩⟩⟩⟩⟩)
/-- the squaring, without a product -/
theorem perm45 {i o d l p q c r s z P Q C : Addr × Obj} {rest : List (Addr × Obj)} (N : News h₀ L h (i :: o :: d :: l :: p :: q :: c :: r :: s :: z :: P :: Q :: C :: rest)) : News h₀ L h (p :: q :: c :: p :: q :: c :: r :: s :: z :: (o :: d :: l :: i :: P :: Q :: C :: rest)) :=
  cb_drop N (List.forall_mem_cons.mpr ⟨.tail _ (.tail _ (.tail _ (.tail _ (.head _)))), List.forall_mem_cons.mpr ⟨.tail _ (.tail _ (.tail _ (.tail _ (.tail _ (.head _))))), List.forall_mem_cons.mpr ⟨.tail _ (.tail _ (.tail _ (.tail _ (.tail _ (.tail _ (.head _)))))), List.forall_mem_cons.mpr ⟨.tail _ (.tail _ (.tail _ (.tail _ (.head _)))), List.forall_mem_cons.mpr ⟨.tail _ (.tail _ (.tail _ (.tail _ (.tail _ (.head _))))), List.forall_mem_cons.mpr ⟨.tail _ (.tail _ (.tail _ (.tail _ (.tail _ (.tail _ (.head _)))))), List.forall_mem_cons.mpr ⟨.tail _ (.tail _ (.tail _ (.tail _ (.tail _ (.tail _ (.tail _ (.head _))))))), List.forall_mem_cons.mpr ⟨.tail _ (.tail _ (.tail _ (.tail _ (.tail _ (.tail _ (.tail _ (.tail _ (.head _)))))))), List.forall_mem_cons.mpr ⟨.tail _ (.tail _ (.tail _ (.tail _ (.tail _ (.tail _ (.tail _ (.tail _ (.tail _ (.head _))))))))), List.forall_mem_cons.mpr ⟨.tail _ (.head _), List.forall_mem_cons.mpr ⟨.tail _ (.tail _ (.head _)), List.forall_mem_cons.mpr ⟨.tail _ (.tail _ (.tail _ (.head _))), List.forall_mem_cons.mpr ⟨.head _, List.forall_mem_cons.mpr ⟨.tail _ (.tail _ (.tail _ (.tail _ (.tail _ (.tail _ (.tail _ (.tail _ (.tail _ (.tail _ (.head _)))))))))), List.forall_mem_cons.mpr ⟨.tail _ (.tail _ (.tail _ (.tail _ (.tail _ (.tail _ (.tail _ (.tail _ (.tail _ (.tail _ (.tail _ (.head _))))))))))), List.forall_mem_cons.mpr ⟨.tail _ (.tail _ (.tail _ (.tail _ (.tail _ (.tail _ (.tail _ (.tail _ (.tail _ (.tail _ (.tail _ (.tail _ (.head _)))))))))))), fun y hy => .tail _ (.tail _ (.tail _ (.tail _ (.tail _ (.tail _ (.tail _ (.tail _ (.tail _ (.tail _ (.tail _ (.tail _ (.tail _ (hy)))))))))))))⟩⟩⟩⟩⟩⟩⟩⟩⟩⟩⟩⟩⟩⟩⟩⟩)
/-- the turn's end -/
theorem perm46 {x y k p q c r s z u v t i P Q C : Addr × Obj} {rest : List (Addr × Obj)} (N : News h₀ L h (x :: y :: k :: p :: q :: c :: p :: q :: c :: r :: s :: z :: (u :: v :: t :: i :: P :: Q :: C :: rest))) : News h₀ L h (i :: u :: v :: t :: x :: y :: k :: r :: s :: z :: P :: Q :: C :: rest) :=
  cb_drop N (List.forall_mem_cons.mpr ⟨.tail _ (.tail _ (.tail _ (.tail _ (.tail _ (.tail _ (.tail _ (.tail _ (.tail _ (.tail _ (.tail _ (.tail _ (.tail _ (.tail _ (.tail _ (.head _))))))))))))))), List.forall_mem_cons.mpr ⟨.tail _ (.tail _ (.tail _ (.tail _ (.tail _ (.tail _ (.tail _ (.tail _ (.tail _ (.tail _ (.tail _ (.tail _ (.head _)))))))))))), List.forall_mem_cons.mpr ⟨.tail _ (.tail _ (.tail _ (.tail _ (.tail _ (.tail _ (.tail _ (.tail _ (.tail _ (.tail _ (.tail _ (.tail _ (.tail _ (.head _))))))))))))), List.forall_mem_cons.mpr ⟨.tail _ (.tail _ (.tail _ (.tail _ (.tail _ (.tail _ (.tail _ (.tail _ (.tail _ (.tail _ (.tail _ (.tail _ (.tail _ (.tail _ (.head _)))))))))))))), List.forall_mem_cons.mpr ⟨.head _, List.forall_mem_cons.mpr ⟨.tail _ (.head _), List.forall_mem_cons.mpr ⟨.tail _ (.tail _ (.head _)), List.forall_mem_cons.mpr ⟨.tail _ (.tail _ (.tail _ (.tail _ (.tail _ (.tail _ (.tail _ (.tail _ (.tail _ (.head _))))))))), List.forall_mem_cons.mpr ⟨.tail _ (.tail _ (.tail _ (.tail _ (.tail _ (.tail _ (.tail _ (.tail _ (.tail _ (.tail _ (.head _)))))))))), List.forall_mem_cons.mpr ⟨.tail _ (.tail _ (.tail _ (.tail _ (.tail _ (.tail _ (.tail _ (.tail _ (.tail _ (.tail _ (.tail _ (.head _))))))))))), List.forall_mem_cons.mpr ⟨.tail _ (.tail _ (.tail _ (.tail _ (.tail _ (.tail _ (.tail _ (.tail _ (.tail _ (.tail _ (.tail _ (.tail _ (.tail _ (.tail _ (.tail _ (.tail _ (.head _)))))))))))))))), List.forall_mem_cons.mpr ⟨.tail _ (.tail _ (.tail _ (.tail _ (.tail _ (.tail _ (.tail _ (.tail _ (.tail _ (.tail _ (.tail _ (.tail _ (.tail _ (.tail _ (.tail _ (.tail _ (.tail _ (.head _))))))))))))))))), List.forall_mem_cons.mpr ⟨.tail _ (.tail _ (.tail _ (.tail _ (.tail _ (.tail _ (.tail _ (.tail _ (.tail _ (.tail _ (.tail _ (.tail _ (.tail _ (.tail _ (.tail _ (.tail _ (.tail _ (.tail _ (.head _)))))))))))))))))), fun y hy => .tail _ (.tail _ (.tail _ (.tail _ (.tail _ (.tail _ (.tail _ (.tail _ (.tail _ (.tail _ (.tail _ (.tail _ (.tail _ (.tail _ (.tail _ (.tail _ (.tail _ (.tail _ (.tail _ (hy)))))))))))))))))))⟩⟩⟩⟩⟩⟩⟩⟩⟩⟩⟩⟩⟩)
theorem perm48 {x y k p q c r s z P Q C : Addr × Obj} {rest : List (Addr × Obj)} (N : News h₀ L h (x :: y :: k :: p :: q :: c :: r :: s :: z :: P :: Q :: C :: rest)) : News h₀ L h (x :: y :: k :: P :: Q :: C :: r :: s :: z :: rest) :=
  cb_drop N (List.forall_mem_cons.mpr ⟨.head _, List.forall_mem_cons.mpr ⟨.tail _ (.head _), List.forall_mem_cons.mpr ⟨.tail _ (.tail _ (.head _)), List.forall_mem_cons.mpr ⟨.tail _ (.tail _ (.tail _ (.tail _ (.tail _ (.tail _ (.tail _ (.tail _ (.tail _ (.head _))))))))), List.forall_mem_cons.mpr ⟨.tail _ (.tail _ (.tail _ (.tail _ (.tail _ (.tail _ (.tail _ (.tail _ (.tail _ (.tail _ (.head _)))))))))), List.forall_mem_cons.mpr ⟨.tail _ (.tail _ (.tail _ (.tail _ (.tail _ (.tail _ (.tail _ (.tail _ (.tail _ (.tail _ (.tail _ (.head _))))))))))), List.forall_mem_cons.mpr ⟨.tail _ (.tail _ (.tail _ (.tail _ (.tail _ (.tail _ (.head _)))))), List.forall_mem_cons.mpr ⟨.tail _ (.tail _ (.tail _ (.tail _ (.tail _ (.tail _ (.tail _ (.head _))))))), List.forall_mem_cons.mpr ⟨.tail _ (.tail _ (.tail _ (.tail _ (.tail _ (.tail _ (.tail _ (.tail _ (.head _)))))))), fun y hy => .tail _ (.tail _ (.tail _ (.tail _ (.tail _ (.tail _ (.tail _ (.tail _ (.tail _ (.tail _ (.tail _ (.tail _ (hy))))))))))))⟩⟩⟩⟩⟩⟩⟩⟩⟩)
theorem off_of {I : Addr} {a b l p q c : Addr} {o1 o2 o3 o4 o5 o6 : Obj} {rest : List (Addr × Obj)} (h1 : a ≠ I) (h2 : b ≠ I) (h3 : l ≠ I) (h4 : p ≠ I) (h5 : q ≠ I) (h6 : c ≠ I) (h : ∀ x ∈ rest, x.1 ≠ I) :
    ∀ x ∈ (a, o1) :: (b, o2) :: (l, o3) :: (p, o4) :: (q, o5) :: (c, o6) :: rest, x.1 ≠ I := by
  intro x hx
  simp only [List.mem_cons] at hx
  rcases hx with rfl | rfl | rfl | rfl | rfl | rfl | hx
  · exact h1
  · exact h2
  · exact h3
  · exact h4
  · exact h5
  · exact h6
  · exact h x hx
theorem off3 {d a1 a2 a3 : Addr} {o1 o2 o3 : Obj} {rest : List (Addr × Obj)} (h1 : @LT.lt Nat _ a1 d) (h2 : @LT.lt Nat _ a2 d) (h3 : @LT.lt Nat _ a3 d) (hr : AllLt d rest) : ∀ p ∈ (a1, o1) :: (a2, o2) :: (a3, o3) :: rest, p.1 ≠ d :=
  fun p hp => Nat.ne_of_lt (kst_ltOf (d := d) (l := (a1, o1) :: (a2, o2) :: (a3, o3) :: rest) ⟨h1, h2, h3, hr⟩ p hp)
end
end
theorem top_C4 : True := by
  w_top off
  trivial
section
open PySem PySem.W PyProof.Rows PySem.Calls PySem.Spec
set_option maxRecDepth 100000
set_option maxHeartbeats 8000000
theorem c_raised {w : World} {mean : ExcName → Option Value} {mg mb : Str → Option Value} {gd : Option (List Code)} {cn : Str} {cs : Scope} {a : Addr} {ccd : Value} {cl : List (Str × Addr)} {outer : List Env} {A₀ : Around} {base h₀ : Heap} {L : Addr} {m : Str → Option Value} {s : Shared} {Q E : Value → Shared → Prop}
  {P DP c R DR Z : Addr} {ta tb t1 t2 t3 t4 u1 u2 u4 : Tok} {vs zs : List Value} {bs zl : List Int} {e : Int} {te : Tok} {nz nd np nc : Nat} {rest : List (Addr × Obj)}
  (B : Below A₀ base outer h₀) (F : Fr h₀ L s.heap m) (X : (KT w.params).In h₀)
  (N : News h₀ L s.heap ((P, instObj 426 DP) :: (DP, dictOf [ent w "parent" ta (.ref R), ent w "coeffs" tb (.ref c)] np) :: (c, listOf vs.toArray nc) :: (R, instObj 282 DR) :: (DR, dictOf [ent w "q" t1 (.int 3329 u1), ent w "n" t2 (.int 256 u2), ent w "ntt_zetas" t3 (.ref Z), ent w "ntt_f" t4 (.int 3303 u4)] nd) :: (Z, listOf zs.toArray nz) :: rest))
  (hv : IntsAre vs bs) (hz : IntsAre zs zl) (hy : bs.length = 256) (hzl : zl.length = 128) (hyr : Red bs)
  (hzb : ∀ k, PySem.Builtin.Int.intBits (zl.getD k 0) ≤ 64) (hnb : ∀ k, PySem.Builtin.Int.intBits (-(zl.getD k 0)) ≤ 64)
  (T : Top vw lse mean mg mb h₀) (hk : cs.kind = .function)
  (hret : ∀ (P' D' c' : Addr) (ta' tb' : Tok) (vs' : List Value) (np' nc' : Nat) (h' : Heap) (tk' : Nat), Fr h₀ L h' m →
    News h₀ L h' ((P', instObj 426 D') :: (D', dictOf [ent w "parent" ta' (.ref R), ent w "coeffs" tb' (.ref c')] np') :: (c', listOf vs'.toArray nc') :: ((P, instObj 426 DP) :: (DP, dictOf [ent w "parent" ta (.ref R), ent w "coeffs" tb (.ref c)] np) :: (c, listOf vs.toArray nc) :: (R, instObj 282 DR) :: (DR, dictOf [ent w "q" t1 (.int 3329 u1), ent w "n" t2 (.int 256 u2), ent w "ntt_zetas" t3 (.ref Z), ent w "ntt_f" t4 (.int 3303 u4)] nd) :: (Z, listOf zs.toArray nz) :: rest)) → IntsAre vs' (raisedL zl bs e) → AllLt c' ((P, instObj 426 DP) :: (DP, dictOf [ent w "parent" ta (.ref R), ent w "coeffs" tb (.ref c)] np) :: (c, listOf vs.toArray nc) :: (R, instObj 282 DR) :: (DR, dictOf [ent w "q" t1 (.int 3329 u1), ent w "n" t2 (.int 256 u2), ent w "ntt_zetas" t3 (.ref Z), ent w "ntt_f" t4 (.int 3303 u4)] nd) :: (Z, listOf zs.toArray nz) :: rest) → AllLt D' ((P, instObj 426 DP) :: (DP, dictOf [ent w "parent" ta (.ref R), ent w "coeffs" tb (.ref c)] np) :: (c, listOf vs.toArray nc) :: (R, instObj 282 DR) :: (DR, dictOf [ent w "q" t1 (.int 3329 u1), ent w "n" t2 (.int 256 u2), ent w "ntt_zetas" t3 (.ref Z), ent w "ntt_f" t4 (.int 3303 u4)] nd) :: (Z, listOf zs.toArray nz) :: rest) → AllLt P' ((P, instObj 426 DP) :: (DP, dictOf [ent w "parent" ta (.ref R), ent w "coeffs" tb (.ref c)] np) :: (c, listOf vs.toArray nc) :: (R, instObj 282 DR) :: (DR, dictOf [ent w "q" t1 (.int 3329 u1), ent w "n" t2 (.int 256 u2), ent w "ntt_zetas" t3 (.ref Z), ent w "ntt_f" t4 (.int 3303 u4)] nd) :: (Z, listOf zs.toArray nz) :: rest) → P' ≠ D' → P' ≠ c' → D' ≠ c' → Q (.ref P') { s with heap := h', toks := tk' }) :
  wpAny (model PySem.Challenge.rw_yi0007_01.row.prog w) (ktrTop 400 200 gd cn cs L a ccd cl outer) (call (.ref 442) [.ref R, .ref P, .int e te]) Q E s := by
  refine wpAny_call ?_
  k_dflt cell_enter
  ktr_unf
  all_goals (try k_data)
  (rename Fr _ _ _ _ => F1); (rename News _ _ _ _ => N1); (rename IntsAre _ _ => hz1); (rename Frag.In _ _ => X1); (rename Top _ _ _ _ _ _ => T1)
  (rename (_ < _ ∧ _ < _ ∧ _ < _ ∧ _ < _ ∧ _ < _ ∧ _ < _ ∧ _ < _ ∧ _ < _ ∧ _ < _ ∧ _ < _ ∧ AllLt _ _) => l9)
  obtain ⟨_, m2, m3, _, m5, m6, m7, m8, m9, m10, m11⟩ := l9
  rw [one_eq] at hz1
  refine lowerK (dp' := 500) (un' := 300) (c_to_ntt (by assumption) F1 X1 (perm41 N1) hz1 hz oneL_len hzl hzb (neN (by omega)) (neN (by omega)) (neN (by omega)) (neN (by omega)) (neN (by omega)) (off3 m5 m6 m7 m11) T1 rfl ?_) (Nat.le_of_ble_eq_true rfl) (Nat.le_of_ble_eq_true rfl)
  clear F1 N1
  intro O1 D1 ta1 tb1 vs1 h1 tk1 F1 N1 hv1 l1 l2
  ktr_unf
  (rename Fr _ _ _ _ => F1); (rename News _ _ _ _ => N1); (rename IsRange _ _ _ _ _ _ _ _ => rg)
  dsimp only [AllLt] at l1
  refine range_inv2 (n := 11) (fun n m1 nx => ∃ (O DO co S DS cS : Addr) (ta1 tb1 ta2 tb2 tp : Tok) (nO nco nS ncS : Nat) (vo vb : List Value), At m1 [(Str.ofString "out", .ref O), (Str.ofString "base", .ref S), (Str.ofString "power", .int (rsN zl bs e n).2.2 tp)] ∧
     nx = ((O, instObj 426 DO) :: (DO, dictOf [ent w "parent" ta1 (.ref R), ent w "coeffs" tb1 (.ref co)] nO) :: (co, listOf vo.toArray nco) :: (S, instObj 426 DS) :: (DS, dictOf [ent w "parent" ta2 (.ref R), ent w "coeffs" tb2 (.ref cS)] nS) :: (cS, listOf vb.toArray ncS) :: (R, instObj 282 DR) :: (DR, dictOf [ent w "q" t1 (.int 3329 u1), ent w "n" t2 (.int 256 u2), ent w "ntt_zetas" t3 (.ref Z), ent w "ntt_f" t4 (.int 3303 u4)] nd) :: (Z, listOf zs.toArray nz) :: (P, instObj 426 DP) :: (DP, dictOf [ent w "parent" ta (.ref R), ent w "coeffs" tb (.ref c)] np) :: (c, listOf vs.toArray nc) :: rest) ∧ IntsAre vo (rsN zl bs e n).1 ∧ IntsAre vb (rsN zl bs e n).2.1 ∧ AllLt co ((P, instObj 426 DP) :: (DP, dictOf [ent w "parent" ta (.ref R), ent w "coeffs" tb (.ref c)] np) :: (c, listOf vs.toArray nc) :: (R, instObj 282 DR) :: (DR, dictOf [ent w "q" t1 (.int 3329 u1), ent w "n" t2 (.int 256 u2), ent w "ntt_zetas" t3 (.ref Z), ent w "ntt_f" t4 (.int 3303 u4)] nd) :: (Z, listOf zs.toArray nz) :: rest) ∧ AllLt DO ((P, instObj 426 DP) :: (DP, dictOf [ent w "parent" ta (.ref R), ent w "coeffs" tb (.ref c)] np) :: (c, listOf vs.toArray nc) :: (R, instObj 282 DR) :: (DR, dictOf [ent w "q" t1 (.int 3329 u1), ent w "n" t2 (.int 256 u2), ent w "ntt_zetas" t3 (.ref Z), ent w "ntt_f" t4 (.int 3303 u4)] nd) :: (Z, listOf zs.toArray nz) :: rest) ∧ AllLt O ((P, instObj 426 DP) :: (DP, dictOf [ent w "parent" ta (.ref R), ent w "coeffs" tb (.ref c)] np) :: (c, listOf vs.toArray nc) :: (R, instObj 282 DR) :: (DR, dictOf [ent w "q" t1 (.int 3329 u1), ent w "n" t2 (.int 256 u2), ent w "ntt_zetas" t3 (.ref Z), ent w "ntt_f" t4 (.int 3303 u4)] nd) :: (Z, listOf zs.toArray nz) :: rest) ∧ O ≠ DO ∧ O ≠ co ∧ DO ≠ co) (by rfl) rg (small_one (by omega) (by omega) (by omega) (by omega)) (rangeSize_nat _ _) F1 (perm42 N1) ?j0 ?turn ?done
  case j0 =>
    obtain ⟨_, _, k3, k4, k5, k6, k7, k8, k9, k10⟩ := l1
    refine ⟨_, _, _, _, _, _, _, _, _, _, _, _, _, _, _, _, _, ⟨rfl, rfl, rfl, trivial⟩, rfl, hv1, hv, ⟨m5, m6, m7, m8, m9, m10, m11⟩, ⟨k7, k8, k9, k4, k5, k6, k10⟩, allLt_up l2 ⟨k7, k8, k9, k4, k5, k6, k10⟩, ?_, ?_, ?_⟩
    · exact Nat.ne_of_gt l2
    · exact Nat.ne_of_gt (Nat.lt_trans k3 l2)
    · exact Nat.ne_of_gt k3
  case turn =>
    clear F1 N1
    rintro n t m1 _ h2 tk2 I oI hn hI ⟨O, DO, co, S, DS, cS, ta1, tb1, ta2, tb2, tp, nO, nco, nS, ncS, vo, vb, hat, rfl, hvo, hvb, q1, q2, q3, q4, q5, q6⟩ F1 N1
    replace F1 := fr_at1 F1 hat
    obtain ⟨r1, r2, r3, r4⟩ := rsN_red (zl := zl) (e := e) hyr hy n
    obtain ⟨z1, hz1⟩ : ∃ z, z = (rsN zl bs e n).1 := ⟨_, rfl⟩
    obtain ⟨z2, hz2⟩ : ∃ z, z = (rsN zl bs e n).2.1 := ⟨_, rfl⟩
    obtain ⟨z3, hz3⟩ : ∃ z, z = (rsN zl bs e n).2.2 := ⟨_, rfl⟩
    rw [← hz1] at hvo r1 r3
    rw [← hz2] at hvb r2 r4
    rw [← hz3] at F1
    clear hat
    ktr_unf
    · (rename Fr _ _ _ _ => F1); (rename News _ _ _ _ => N1); (rename z3.fmod 2 = 1 => hodd)
      refine lowerK (dp' := 500) (un' := 300) (c_mul (by assumption) F1 X1 (perm43 N1) hvo hvb hz r3 r4 hzl r1.bits r2.bits hzb hnb T1 rfl ?_) (Nat.le_of_ble_eq_true rfl) (Nat.le_of_ble_eq_true rfl)
      clear F1 N1
      intro O' DO' co' ta3 tb3 vo' no' h3 tk3 F1 N1 hvo' l1 l2 l3
      dsimp only [AllLt] at l1
      delta PySem.W.CmpBack; dsimp only
      obtain ⟨_, _, _, _, _, _, a7, a8, a9, a10, a11, a12, a13, a14⟩ := l1
      ktr_unf
      (rename Fr _ _ _ _ => F1); (rename News _ _ _ _ => N1)
      refine lowerK (dp' := 500) (un' := 300) (c_mul (by assumption) F1 X1 (perm44 N1) hvb hvb hz r4 r4 hzl r2.bits r2.bits hzb hnb T1 rfl ?_) (Nat.le_of_ble_eq_true rfl) (Nat.le_of_ble_eq_true rfl)
      clear F1 N1
      intro S' DS' cS' ta4 tb4 vb' nb' h4 tk4 F1 N1 hvb' g1 g2 g3
      dsimp only [AllLt] at g1
      delta PySem.W.CmpBack; dsimp only
      obtain ⟨_, _, _, _, _, _, _, _, _, b10, b11, b12, b13, b14, b15, b16, b17⟩ := g1
      ktr_unf
      (rename Fr _ _ _ _ => F2); (rename News _ _ _ _ => N2)
      have e1 : (rsN zl bs e (n + 1)).1 = mulL zl z1 z2 := by rw [rsN_odd (by rw [← hz3]; exact hodd), ← hz1, ← hz2]
      have e2 : (rsN zl bs e (n + 1)).2.1 = mulL zl z2 z2 := by rw [rsN_base, ← hz2]
      have e3 : z3.fdiv 2 = (rsN zl bs e (n + 1)).2.2 := by rw [rsN_pow, ← hz3]
      rw [← e1] at hvo'
      rw [← e2] at hvb'
      exact TurnEnd.intro F2 (perm46 N2) (off_of (Nat.ne_of_gt (Nat.lt_trans a10 (Nat.lt_trans l2 l3))) (Nat.ne_of_gt (Nat.lt_trans a10 l2)) (Nat.ne_of_gt a10) (Nat.ne_of_gt (Nat.lt_trans b13 (Nat.lt_trans g2 g3))) (Nat.ne_of_gt (Nat.lt_trans b13 g2)) (Nat.ne_of_gt b13) (fun p hp => hI p (.tail _ (.tail _ (.tail _ (.tail _ (.tail _ (.tail _ hp))))))))
        ⟨O', DO', co', S', DS', cS', _, _, _, _, _, _, _, _, _, vo', vb', ⟨rfl, rfl, vint_eq e3, trivial⟩, rfl, hvo', hvb', ⟨a11, a12, a13, a7, a8, a9, a14⟩, allLt_up l2 ⟨a11, a12, a13, a7, a8, a9, a14⟩, allLt_up (Nat.lt_trans l2 l3) ⟨a11, a12, a13, a7, a8, a9, a14⟩, Nat.ne_of_gt l3, Nat.ne_of_gt (Nat.lt_trans l2 l3), Nat.ne_of_gt l2⟩
    · (rename Fr _ _ _ _ => F1); (rename News _ _ _ _ => N1); (rename z3.fmod 2 ≠ 1 => hodd)
      refine lowerK (dp' := 500) (un' := 300) (c_mul (by assumption) F1 X1 (perm45 N1) hvb hvb hz r4 r4 hzl r2.bits r2.bits hzb hnb T1 rfl ?_) (Nat.le_of_ble_eq_true rfl) (Nat.le_of_ble_eq_true rfl)
      clear F1 N1
      intro S' DS' cS' ta4 tb4 vb' nb' h4 tk4 F1 N1 hvb' g1 g2 g3
      delta PySem.W.CmpBack; dsimp only
      dsimp only [AllLt] at g1
      obtain ⟨_, _, _, _, _, _, _, _, _, b10, b11, b12, b13, b14, b15, b16, b17⟩ := g1
      ktr_unf
      (rename Fr _ _ _ _ => F2); (rename News _ _ _ _ => N2)
      have e1 : (rsN zl bs e (n + 1)).1 = z1 := by rw [rsN_even (by rw [← hz3]; exact hodd), ← hz1]
      have e2 : (rsN zl bs e (n + 1)).2.1 = mulL zl z2 z2 := by rw [rsN_base, ← hz2]
      have e3 : z3.fdiv 2 = (rsN zl bs e (n + 1)).2.2 := by rw [rsN_pow, ← hz3]
      rw [← e1] at hvo
      rw [← e2] at hvb'
      exact TurnEnd.intro F2 (perm46 N2) (off_of (hI _ (.head _)) (hI _ (.tail _ (.head _))) (hI _ (.tail _ (.tail _ (.head _)))) (Nat.ne_of_gt (Nat.lt_trans b13 (Nat.lt_trans g2 g3))) (Nat.ne_of_gt (Nat.lt_trans b13 g2)) (Nat.ne_of_gt b13) (fun p hp => hI p (.tail _ (.tail _ (.tail _ (.tail _ (.tail _ (.tail _ hp))))))))
        ⟨O, DO, co, S', DS', cS', _, _, _, _, _, _, _, _, _, vo, vb', ⟨rfl, rfl, vint_eq e3, trivial⟩, rfl, hvo, hvb', q1, q2, q3, q4, q5, q6⟩
  case done =>
    clear F1 N1
    rintro m1 _ h2 tk2 ⟨O, DO, co, S, DS, cS, ta1, tb1, ta2, tb2, tp, nO, nco, nS, ncS, vo, vb, hat, rfl, hvo, hvb, q1, q2, q3, q4, q5, q6⟩ F1 N1
    replace F1 := fr_at F1 hat
    have hfin : (rsN zl bs e 11).1 = raisedL zl bs e := by rw [raisedL_def]
    rw [hfin] at hvo
    obtain ⟨z3, hz3⟩ : ∃ z, z = (rsN zl bs e 11).2.2 := ⟨_, rfl⟩
    rw [← hz3] at F1
    clear hat hvb hz3 hfin
    ktr_unf
    (rename Fr _ _ _ _ => F2); (rename News _ _ _ _ => N2)
    exact hret O DO co ta1 tb1 vo nO nco _ _ F2 (perm48 N2) hvo q1 q2 q3 q4 q5 q6
end
theorem top_C6 : True := by
  w_top off
  trivial
section
open PySem PySem.W PyProof.Rows PySem.Calls PySem.Spec
set_option maxRecDepth 100000
set_option maxHeartbeats 8000000
local macro_rules | `(tactic| ktr_unf) => `(tactic| repeat' ((fail_if_success (with_reducible show wpAny _ _ (exec (Stmt.While _ _ _ _) _) _ _ _)); (fail_if_success (with_reducible show wpAny _ _ (pyIter (Value.ref _)) (fun it s₂ => LoopAtV _ _ _ _ _ _ _ _ _ it s₂) _ _)); (fail_if_success (with_reducible show wpAny _ _ (PySem.call (Value.builtin "pow") _) _ _ _)); (fail_if_success (with_reducible show wpAny _ _ (PySem.call (Value.ref 245) _) _ _ _)); (fail_if_success (with_reducible show KCfEl _ _ _ _)); (fail_if_success (with_reducible show LCg.CompSrc _ _ _ _ _ _ _ _ _ _ _ _ _ _)); (fail_if_success (with_reducible show InvEndN _ _ _ _ _ _ _)); (fail_if_success (with_reducible show WhileStep _ _ _ _ _ _ _)); (fail_if_success (with_reducible show TurnEnd _ _ _ _ _ _ _ _ _)); (fail_if_success (with_reducible show wpAny _ _ (PySem.call (Value.ref 340) _) _ _ _)); (fail_if_success (with_reducible show wpAny _ _ (PySem.call (Value.ref 380) _) _ _ _)); (fail_if_success (with_reducible show wpAny _ _ (PySem.call (Value.ref 423) _) _ _ _)); (fail_if_success (with_reducible show wpAny _ _ (PySem.call (Value.ref 442) _) _ _ _)); first | (k_unfold; (try dsimp only)) | (k_end; wrow_close) | walk1 | (dsimp only; walk1) | (leave1; walk_say "STEP leave1"; try dsimp only) | fail "no step"))

def zeta (i : Nat) : Int := ((PySem.Builtin.powMod 17 (br7 i) 3329 : Nat) : Int)
def ZL : List Int := (List.range 128).map zeta
theorem zl_eq : List.map (fun k => zeta k.toNat) (rangeKs 0 (128 - 0 : Int).toNat) = ZL := by
  unfold ZL rangeKs
  rw [List.map_map]
  apply List.map_congr_left
  intro i _
  show zeta ((0 : Int) + (i : Int)).toNat = zeta i
  rw [Int.zero_add]; rfl
theorem perm61 {h₀ h : Heap} {L : Addr} {z a b r d : Addr × Obj} {rest : List (Addr × Obj)} (N : News h₀ L h (z :: a :: b :: r :: d :: rest)) : News h₀ L h (r :: d :: z :: rest) :=
  cb_drop N (List.forall_mem_cons.mpr ⟨.tail _ (.tail _ (.tail _ (.head _))), List.forall_mem_cons.mpr ⟨.tail _ (.tail _ (.tail _ (.tail _ (.head _)))), List.forall_mem_cons.mpr ⟨.head _, fun y hy => .tail _ (.tail _ (.tail _ (.tail _ (.tail _ (hy)))))⟩⟩⟩)

theorem c_ring {w : World} {mean : ExcName → Option Value} {mg mb : Str → Option Value} {gd : Option (List Code)} {cn : Str} {cs : Scope} {a : Addr} {ccd : Value} {cl : List (Str × Addr)} {outer : List Env} {A₀ : Around} {base h₀ : Heap} {L : Addr} {m : Str → Option Value} {s : Shared} {Q E : Value → Shared → Prop}
  {rest : List (Addr × Obj)}
  (B : Below A₀ base outer h₀) (F : Fr h₀ L s.heap m) (X : (KT w.params).In h₀)
  (N : News h₀ L s.heap rest)
  (T : Top vw lse mean mg mb h₀) (hk : cs.kind = .function)
  (hret : ∀ (R DR Z : Addr) (t1 t2 t3 t4 u1 u2 u4 : Tok) (zs : List Value) (nz nd : Nat) (h' : Heap) (tk' : Nat), Fr h₀ L h' m →
    News h₀ L h' ((R, instObj 282 DR) :: (DR, dictOf [ent w "q" t1 (.int 3329 u1), ent w "n" t2 (.int 256 u2), ent w "ntt_zetas" t3 (.ref Z), ent w "ntt_f" t4 (.int 3303 u4)] nd) :: (Z, listOf zs.toArray nz) :: rest) → IntsAre zs ZL → Q (.ref R) { s with heap := h', toks := tk' }) :
  wpAny (model PySem.Challenge.rw_yi0007_01.row.prog w) (ktrTop 400 200 gd cn cs L a ccd cl outer) (call (.ref 282) []) Q E s := by
  obtain ⟨hp0, gens0, drawn0, toks0, os0⟩ := s
  k_dflt (refine' call_cls ?k1 ?k2 ?k3 ?k4 ?k5 ?k6 ?_; (case k1 => k_asm); (case k2 => k_asm); (case k3 => k_asm); (case k4 => k_is); (case k5 => k_is); (case k6 => k_is); k_whole; intro x' d' h' F' N' l1 l2; (try k_lt l1); (try k_lt2 l2); (try k_sweep))
  have hlt1 := l1
  have hlt2 := l2
  k_dflt (refine' code_defC ?k1 ?k2 ?k3 ?k4 ?k5 ?kA ?kF ?kK ?k6 ?k7 ?k8 ?k9 ?kB ?kD ?_ ?c2 ?c3 ?c4; (case kA => exact rfl); (case kF => exact rfl); (case kK => assumption); (case k1 => k_asm); (case k2 => k_asm); (case k3 => k_asm); (case k4 => k_asm); (case k5 => k_asm); (case k6 => k_is); (case k7 => k_is); (case k8 => k_room); (case k9 => exact BindsTo.of_eq rfl); (case kB => exact rfl); (case kD => decide +kernel); (case c2 => exact rfl); (case c3 => exact rfl); (case c4 => exact rfl); k_whole; intro g' L' h' tk' cells' FG' F' N' Y' B' X' T' l1; (try k_lt l1); k_cells Y'; (try simp only [List.cons_append, List.nil_append] at N'); (try dsimp only); (try k_lift B'); (try k_fold))
  have q0 : ∀ p ∈ rest, p.1 < L' := by
    obtain ⟨_, _, hr⟩ := l1
    exact fun p hp => kst_ltOf hr p hp
  have q1 : ∀ p ∈ rest, p.1 ≠ L' + 1 := fun p hp => Nat.ne_of_lt (Nat.lt_of_lt_of_le (q0 p hp) (Nat.le_succ _))
  have q2 : ∀ p ∈ rest, p.1 ≠ L' + 1 + 1 := fun p hp => Nat.ne_of_lt (Nat.lt_of_lt_of_le (q0 p hp) (Nat.le_trans (Nat.le_succ _) (Nat.le_succ _)))
  have q3 : ∀ p ∈ rest, p.1 ≠ d' := fun p hp => Nat.ne_of_lt (hlt1 p hp)
  have q4 : ∀ p ∈ rest, p.1 ≠ x' := fun p hp => Nat.ne_of_lt (Nat.lt_trans (hlt1 p hp) hlt2)
  ktr_unf
  k_dflt (refine LCg.CompSrc.range (by rfl) (by k_asm) (by k_asm) (by assumption) (by first | exact small_one (by kcf_bnd) (by kcf_bnd) (by kcf_bnd) (by kcf_bnd) | decide) (by first | exact rangeSize_nat _ _ | rfl) (by first | exact Nat.le_of_ble_eq_true rfl | (rw [PySem.sizeLine_eq]; first | omega | ((simp only [List.size_toArray]); omega) | ((have hb9 := len_ints_list (by lay_of)); omega)) | size_fits) ?_; intro g'; (refine' kcf_range (fun k => zeta k.toNat) (fun k' t' I' oI' C' oC' D' m' ys' h' tk' E' hlo' hhi' hC' hx' F' N' off' ne' hMark' => ?_) ?_); (all_goals (try (simp only [LCg.Off3, and_true] at off'))); kcf_last)
  · ktr_unf
    (rename Fr _ _ _ _ => F1); (rename News _ _ _ _ => N1)
    rename_i kz tz _ _ _ _ _ _ _ _ _ _ _ _
    refine lowerK (dp' := 500) (un' := 300) (c_br (by assumption) F1 (by k_in) N1 (by omega) (by omega) (by k_asm) rfl ?_) (Nat.le_of_ble_eq_true rfl) (Nat.le_of_ble_eq_true rfl)
    clear F1 N1
    intro h2 tk2 t2 F1 N1
    ktr_unf
    refine call_pow3 (gives_pow3 _ _ _ _ _ (by omega)) ?_
    ktr_unf
    exact ⟨rfl, _, rfl⟩
  ktr_unf
  refine call_pow3 (gives_powinv _ _ _) ?_
  ktr_unf
  (rename Fr _ _ _ _ => F2); (rename News _ _ _ _ => N2); (rename IntsAre _ _ => hI8)
  rw [zl_eq] at hI8
  exact hret _ _ _ _ _ _ _ _ _ _ _ _ _ _ _ F2 (perm61 N2) hI8
end
theorem top_C9 : True := by
  w_top off
  trivial
section
open PySem PySem.W PyProof.Rows PySem.Calls PySem.Spec
set_option maxRecDepth 100000
set_option maxHeartbeats 8000000
def genL : List Int := [0, 1] ++ List.map (fun _ => (0 : Int)) (rangeKs 0 (256 - 2 - 0 : Int).toNat)

theorem perm91 {h₀ h : Heap} {L : Addr} {c z p d l r s t : Addr × Obj} {rest : List (Addr × Obj)} (N : News h₀ L h (c :: z :: p :: d :: l :: r :: s :: t :: rest)) : News h₀ L h (p :: d :: c :: r :: s :: t :: rest) :=
  cb_drop N (List.forall_mem_cons.mpr ⟨.tail _ (.tail _ (.head _)), List.forall_mem_cons.mpr ⟨.tail _ (.tail _ (.tail _ (.head _))), List.forall_mem_cons.mpr ⟨.head _, List.forall_mem_cons.mpr ⟨.tail _ (.tail _ (.tail _ (.tail _ (.tail _ (.head _))))), List.forall_mem_cons.mpr ⟨.tail _ (.tail _ (.tail _ (.tail _ (.tail _ (.tail _ (.head _)))))), List.forall_mem_cons.mpr ⟨.tail _ (.tail _ (.tail _ (.tail _ (.tail _ (.tail _ (.tail _ (.head _))))))), fun y hy => .tail _ (.tail _ (.tail _ (.tail _ (.tail _ (.tail _ (.tail _ (.tail _ (hy))))))))⟩⟩⟩⟩⟩⟩)

theorem c_gen {w : World} {mean : ExcName → Option Value} {mg mb : Str → Option Value} {gd : Option (List Code)} {cn : Str} {cs : Scope} {a : Addr} {ccd : Value} {cl : List (Str × Addr)} {outer : List Env} {A₀ : Around} {base h₀ : Heap} {L : Addr} {m : Str → Option Value} {s : Shared} {Q E : Value → Shared → Prop}
  {R DR Z : Addr} {t1 t2 t3 t4 u1 u2 u4 : Tok} {zs : List Value} {nz nd : Nat} {rest : List (Addr × Obj)}
  (B : Below A₀ base outer h₀) (F : Fr h₀ L s.heap m) (X : (KT w.params).In h₀)
  (N : News h₀ L s.heap ((R, instObj 282 DR) :: (DR, dictOf [ent w "q" t1 (.int 3329 u1), ent w "n" t2 (.int 256 u2), ent w "ntt_zetas" t3 (.ref Z), ent w "ntt_f" t4 (.int 3303 u4)] nd) :: (Z, listOf zs.toArray nz) :: rest))
  (T : Top vw lse mean mg mb h₀) (hk : cs.kind = .function)
  (hret : ∀ (P' D' c' : Addr) (ta' tb' : Tok) (vs' : List Value) (np' nc' : Nat) (h' : Heap) (tk' : Nat), Fr h₀ L h' m →
    News h₀ L h' ((P', instObj 350 D') :: (D', dictOf [ent w "parent" ta' (.ref R), ent w "coeffs" tb' (.ref c')] np') :: (c', listOf vs'.toArray nc') :: (R, instObj 282 DR) :: (DR, dictOf [ent w "q" t1 (.int 3329 u1), ent w "n" t2 (.int 256 u2), ent w "ntt_zetas" t3 (.ref Z), ent w "ntt_f" t4 (.int 3303 u4)] nd) :: (Z, listOf zs.toArray nz) :: rest) → IntsAre vs' genL → @LT.lt Nat _ P' c' → @LT.lt Nat _ D' P' → AllLt D' ((R, instObj 282 DR) :: (DR, dictOf [ent w "q" t1 (.int 3329 u1), ent w "n" t2 (.int 256 u2), ent w "ntt_zetas" t3 (.ref Z), ent w "ntt_f" t4 (.int 3303 u4)] nd) :: (Z, listOf zs.toArray nz) :: rest) → Q (.ref P') { s with heap := h', toks := tk' }) :
  wpAny (model PySem.Challenge.rw_yi0007_01.row.prog w) (ktrTop 400 200 gd cn cs L a ccd cl outer) (call (.ref 49) [.ref R]) Q E s := by
  refine wpAny_call ?_
  k_dflt cell_enter
  ktr_unf
  all_goals (try k_data)
  (rename Fr _ _ _ _ => F2); (rename News _ _ _ _ => N2)
  (rename IntsAre _ ([0, 1] ++ _) => hv2)
  (rename (_ < _ ∧ _ < _ ∧ _ < _ ∧ _ < _ ∧ _ < _ ∧ _ < _ ∧ _ < _ ∧ AllLt _ _) => l9)
  (rename (_ < _ ∧ _ < _ ∧ _ < _ ∧ _ < _ ∧ AllLt _ _) => l8)
  (rename (_ < _) => l7)
  exact hret _ _ _ _ _ _ _ _ _ _ F2 (perm91 N2) hv2 l9.2.1 l7 l8.2
end
theorem top_C10 : True := by
  w_top off
  trivial
section
open PySem PySem.W PyProof.Rows PySem.Calls PySem.Spec
set_option maxRecDepth 100000
set_option maxHeartbeats 8000000
theorem c_poly {w : World} {mean : ExcName → Option Value} {mg mb : Str → Option Value} {gd : Option (List Code)} {cn : Str} {cs : Scope} {a : Addr} {ccd : Value} {cl : List (Str × Addr)} {outer : List Env} {A₀ : Around} {base h₀ : Heap} {L : Addr} {m : Str → Option Value} {s : Shared} {Q E : Value → Shared → Prop}
  {l R DR Z : Addr} {t1 t2 t3 t4 u1 u2 u4 : Tok} {vs zs : List Value} {xs : List Int} {nl nz nd : Nat} {rest : List (Addr × Obj)}
  (B : Below A₀ base outer h₀) (F : Fr h₀ L s.heap m) (X : (KT w.params).In h₀)
  (N : News h₀ L s.heap ((l, listOf vs.toArray nl) :: (R, instObj 282 DR) :: (DR, dictOf [ent w "q" t1 (.int 3329 u1), ent w "n" t2 (.int 256 u2), ent w "ntt_zetas" t3 (.ref Z), ent w "ntt_f" t4 (.int 3303 u4)] nd) :: (Z, listOf zs.toArray nz) :: rest)) (hv : IntsAre vs xs) (hl : xs.length = 256)
  (T : Top vw lse mean mg mb h₀) (hk : cs.kind = .function)
  (hret : ∀ (P' D' : Addr) (ta' tb' : Tok) (np' : Nat) (h' : Heap) (tk' : Nat), Fr h₀ L h' m →
    News h₀ L h' ((P', instObj 350 D') :: (D', dictOf [ent w "parent" ta' (.ref R), ent w "coeffs" tb' (.ref l)] np') :: (l, listOf vs.toArray nl) :: (R, instObj 282 DR) :: (DR, dictOf [ent w "q" t1 (.int 3329 u1), ent w "n" t2 (.int 256 u2), ent w "ntt_zetas" t3 (.ref Z), ent w "ntt_f" t4 (.int 3303 u4)] nd) :: (Z, listOf zs.toArray nz) :: rest) → @LT.lt Nat _ D' P' → AllLt D' ((l, listOf vs.toArray nl) :: (R, instObj 282 DR) :: (DR, dictOf [ent w "q" t1 (.int 3329 u1), ent w "n" t2 (.int 256 u2), ent w "ntt_zetas" t3 (.ref Z), ent w "ntt_f" t4 (.int 3303 u4)] nd) :: (Z, listOf zs.toArray nz) :: rest) → Q (.ref P') { s with heap := h', toks := tk' }) :
  wpAny (model PySem.Challenge.rw_yi0007_01.row.prog w) (ktrTop 400 200 gd cn cs L a ccd cl outer) (call (.ref R) [.ref l]) Q E s := by
  have hvl : vs.length = 256 := by rw [hv.length, hl]
  refine wpAny_call ?_
  k_dflt (refine' kco_code ?k1 ?k2 ?k3 ?k4 ?k5 ?k6 ?_; (case k1 => k_in); (case k2 => k_inst); (case k3 => rfl); (case k4 => k_is); (case k5 => k_is); (case k6 => k_is); (try dsimp only))
  k_dflt (refine' code_def ?k1 ?k2 ?k3 ?k4 ?k5 ?kA ?kF ?kK ?k6 ?k7 ?k8 ?k9 ?kB ?_ ?c2 ?c3 ?c4 ?c5; (case kA => exact rfl); (case kF => exact rfl); (case kK => assumption); (case k1 => k_asm); (case k2 => k_asm); (case k3 => k_asm); (case k4 => k_asm); (case k5 => k_asm); (case k6 => k_is); (case k7 => k_is); (case k8 => k_room); (case k9 => first | exact BindsTo.of_eq rfl | exact binds_K (by k_in) rfl (by k_is) rfl rfl rfl | fail "k_enter: no rule for these arguments"); (case c5 => decide); (case kB => exact locs rfl); (case c2 => exact rfl); (case c3 => exact rfl); (case c4 => exact rfl); k_whole; intro g' L' h' FG' F' N' B' X' T'; (try dsimp only); (try k_lift B'); (try k_fold))
  ktr_unf
  all_goals (try k_data)
  (rename Fr _ _ _ _ => F2); (rename News _ _ _ _ => N2)
  (rename (_ < _ ∧ _ < _ ∧ _ < _ ∧ _ < _ ∧ AllLt _ _) => l8)
  (rename (_ < _) => l7)
  exact hret _ _ _ _ _ _ _ F2 N2 l7 l8
end
section
open PySem PySem.W
theorem getD_set (xs : List Int) (i k : Nat) (v : Int) (h : i < xs.length) : (xs.set i v).getD k 0 = if i = k then v else xs.getD k 0 := by
  simp only [List.getD_eq_getElem?_getD, List.getElem?_set]
  by_cases e : i = k
  · simp [e, e ▸ h]
  · simp [e]
theorem bfS_get (z : Int) (l j : Nat) (cs : List Int) (k : Nat) (hl : 1 ≤ l) (h : j + l < cs.length) :
    (bfS z (l : Int) cs (j : Int)).getD k 0 = if k = j then cs.getD j 0 + z * cs.getD (j + l) 0 else if k = j + l then cs.getD j 0 - z * cs.getD (j + l) 0 else cs.getD k 0 := by
  unfold bfS
  have e1 : ((j : Int) + (l : Int)).toNat = j + l := by omega
  have e2 : ((j : Int)).toNat = j := by omega
  rw [e1, e2, getD_set _ _ _ _ (by rw [List.length_set]; omega), getD_set _ _ _ _ h, getD_set _ _ _ _ h]
  rw [if_neg (show ¬ (j + l = j) by omega)]
  by_cases a : k = j
  · subst a; rw [if_pos rfl, if_pos rfl]
  · rw [if_neg (Ne.symm a), if_neg a]
    by_cases b : k = j + l
    · rw [if_pos b.symm, if_pos b]
    · rw [if_neg (Ne.symm b), if_neg b]
theorem inn_get (z : Int) (l st : Nat) (cs : List Int) (hl : 1 ≤ l) : ∀ n k, n ≤ l → st + l + n ≤ cs.length →
    (inn z (l : Int) (st : Int) n cs).getD k 0 = if st ≤ k ∧ k < st + n then cs.getD k 0 + z * cs.getD (k + l) 0 else if st + l ≤ k ∧ k < st + l + n then cs.getD (k - l) 0 - z * cs.getD k 0 else cs.getD k 0
  | 0, k, _, _ => by rw [inn, if_neg (by omega), if_neg (by omega)]
  | n + 1, k, h1, h2 => by
    have e : (st : Int) + (n : Int) = ((st + n : Nat) : Int) := by omega
    rw [inn, e, bfS_get z l (st + n) _ k hl (by rw [inn_len]; omega), inn_get z l st cs hl n _ (by omega) (by omega), inn_get z l st cs hl n _ (by omega) (by omega), inn_get z l st cs hl n k (by omega) (by omega)]
    rw [if_neg (show ¬ (st ≤ st + n ∧ st + n < st + n) by omega), if_neg (show ¬ (st + l ≤ st + n ∧ st + n < st + l + n) by omega), if_neg (show ¬ (st ≤ st + n + l ∧ st + n + l < st + n) by omega), if_neg (show ¬ (st + l ≤ st + n + l ∧ st + n + l < st + l + n) by omega)]
    by_cases a : k = st + n
    · subst a
      rw [if_pos rfl, if_pos (by omega)]
    · rw [if_neg a]
      by_cases b : k = st + n + l
      · subst b
        rw [if_pos rfl, if_neg (by omega), if_pos (by omega), show st + n + l - l = st + n by omega]
      · rw [if_neg b]
        by_cases c : st ≤ k ∧ k < st + n
        · rw [if_pos c, if_pos (show st ≤ k ∧ k < st + (n + 1) by omega)]
        · rw [if_neg c, if_neg (show ¬ (st ≤ k ∧ k < st + (n + 1)) by omega)]
          by_cases d : st + l ≤ k ∧ k < st + l + n
          · rw [if_pos d, if_pos (show st + l ≤ k ∧ k < st + l + (n + 1) by omega)]
          · rw [if_neg d, if_neg (show ¬ (st + l ≤ k ∧ k < st + l + (n + 1)) by omega)]
/-- one forward layer, entry by entry -/
def layF (z : Nat → Int) (l : Nat) (c : Nat → Int) (k : Nat) : Int :=
  if k % (2 * l) < l then c k + z (k / (2 * l)) * c (k + l) else c (k - l) - z (k / (2 * l)) * c k
theorem blk_get (zl : List Int) (l k0 : Nat) (cs : List Int) (hl : 1 ≤ l) : ∀ n k, 2 * l * n ≤ cs.length →
    (blk zl (l : Int) (k0 : Int) n cs).getD k 0 = if k < 2 * l * n then layF (fun b => zl.getD (k0 + b) 0) l (fun k => cs.getD k 0) k else cs.getD k 0
  | 0, k, _ => by rw [blk, if_neg (by omega)]
  | n + 1, k, h => by
    have hm : 2 * l * (n + 1) = 2 * l * n + 2 * l := by rw [Nat.mul_add, Nat.mul_one]
    have hd0 : k < 2 * l * n + 2 * l → 2 * l * n ≤ k → k / (2 * l) = n := fun a b => Nat.div_eq_of_lt_le (by rw [Nat.mul_comm]; exact b) (by rw [Nat.mul_comm, hm]; exact a)
    have hda := Nat.div_add_mod k (2 * l)
    have e : 2 * (l : Int) * (n : Int) = ((2 * l * n : Nat) : Int) := by push_cast; rfl
    have e2 : ((k0 : Int) + (n : Int)).toNat = k0 + n := by omega
    have e3 : ((l : Int)).toNat = l := by omega
    have q : ∀ k, (blk zl (l : Int) (k0 : Int) n cs).getD k 0 = if k < 2 * l * n then layF (fun b => zl.getD (k0 + b) 0) l (fun k => cs.getD k 0) k else cs.getD k 0 := fun k => blk_get zl l k0 cs hl n k (by rw [hm] at h; omega)
    rw [blk, e, e2, e3, inn_get _ l (2 * l * n) _ hl l k (Nat.le_refl _) (by rw [blk_len]; rw [hm] at h; omega), q, q, q, hm]
    generalize hs : 2 * l * n = S at *
    by_cases a : k < S
    · rw [if_neg (by omega), if_neg (by omega), if_pos a, if_pos (by omega)]
    · rw [if_neg a]
      by_cases b : k < S + 2 * l
      · rw [if_pos b]
        have hd := hd0 b (by omega)
        have hr : k % (2 * l) = k - S := by
          rw [hd, hs] at hda
          omega
        unfold layF
        rw [hd, hr]
        by_cases c : k - S < l
        · rw [if_pos (show S ≤ k ∧ k < S + l by omega), if_pos c, if_neg (by omega)]
        · rw [if_neg (show ¬ (S ≤ k ∧ k < S + l) by omega), if_pos (show S + l ≤ k ∧ k < S + l + l by omega), if_neg c, if_neg (by omega)]
      · rw [if_neg (by omega), if_neg (by omega), if_neg b]
theorem lys_get (zl : List Int) (cs : List Int) (h : cs.length = 256) (i k : Nat) (hi : i < 7) (hk : k < 256) :
    (lys zl (i + 1) cs).getD k 0 = layF (fun b => zl.getD (2 ^ i + b) 0) (128 / 2 ^ i) (fun k => (lys zl i cs).getD k 0) k := by
  obtain ⟨f1, f2, f3, f4, _⟩ := lay_fact (i := i) (by omega)
  have e : 2 * (128 / 2 ^ i) * 2 ^ i = 256 := by rw [Nat.mul_assoc, f3]
  rw [lys, blk_get zl (128 / 2 ^ i) (2 ^ i) _ f1 (2 ^ i) k (by rw [lys_len, h, e]; exact Nat.le_refl _), if_pos (by rw [e]; exact hk)]
end
section
open PySem PySem.W PyProof.Rows
theorem ZL_len : ZL.length = 128 := by decide +kernel
theorem ZL_red : ∀ x ∈ ZL, 0 ≤ x ∧ x < 3329 := by decide +kernel
theorem ZL_in (k : Nat) : 0 ≤ ZL.getD k 0 ∧ ZL.getD k 0 < 3329 := by
  rw [List.getD_eq_getElem?_getD]
  by_cases hk : k < ZL.length
  · rw [List.getElem?_eq_getElem hk]; exact ZL_red _ (List.getElem_mem hk)
  · rw [List.getElem?_eq_none (Nat.le_of_not_lt hk)]; decide
theorem ZL_bits (k : Nat) : PySem.Builtin.Int.intBits (ZL.getD k 0) ≤ 64 := PySem.intBits_le_64 (by have := ZL_in k; omega) (by have := ZL_in k; omega)
theorem ZL_nbits (k : Nat) : PySem.Builtin.Int.intBits (-(ZL.getD k 0)) ≤ 64 := PySem.intBits_le_64 (by have := ZL_in k; omega) (by have := ZL_in k; omega)
theorem genne {GP GD gc R DR Z : Addr} {o1 o2 o3 : Obj} {rest : List (Addr × Obj)} (g1 : @LT.lt Nat _ GP gc) (g2 : @LT.lt Nat _ GD GP) (g3 : AllLt GD ((R, o1) :: (DR, o2) :: (Z, o3) :: rest)) :
    GP ≠ gc ∧ GD ≠ gc ∧ R ≠ gc ∧ DR ≠ gc ∧ Z ≠ gc ∧ ∀ p ∈ rest, p.1 ≠ gc := by
  have h := Nat.lt_trans g2 g1
  obtain ⟨a, b, c, d⟩ := g3
  exact ⟨Nat.ne_of_lt g1, Nat.ne_of_lt h, Nat.ne_of_lt (Nat.lt_trans a h), Nat.ne_of_lt (Nat.lt_trans b h), Nat.ne_of_lt (Nat.lt_trans c h), fun p hp => Nat.ne_of_lt (Nat.lt_trans (kst_ltOf d p hp) h)⟩
end
section
open PySem PySem.W
section
variable {α : Type} [Lean.Grind.CommRing α]
def sm (n : Nat) (f : Nat → α) : α := match n with
  | 0 => 0
  | n + 1 => sm n f + f n
def pw (g : α) : Nat → α
  | 0 => 1
  | n + 1 => pw g n * g
theorem sm_congr {n : Nat} {f g : Nat → α} (h : ∀ k, k < n → f k = g k) : sm n f = sm n g := by
  induction n with
  | zero => rfl
  | succ n ih => rw [sm, sm, ih (fun k hk => h k (by omega)), h n (by omega)]
theorem sm_zero {n : Nat} {f : Nat → α} (h : ∀ k, k < n → f k = 0) : sm n f = 0 := by
  induction n with
  | zero => rfl
  | succ n ih => rw [sm, ih (fun k hk => h k (by omega)), h n (by omega)]; grind
theorem sm_add {n : Nat} {f g : Nat → α} : sm n (fun k => f k + g k) = sm n f + sm n g := by
  induction n with
  | zero => simp only [sm]; grind
  | succ n ih => simp only [sm, ih]; grind
theorem sm_mul {n : Nat} {a : α} {f : Nat → α} : sm n (fun k => a * f k) = a * sm n f := by
  induction n with
  | zero => simp only [sm]; grind
  | succ n ih => simp only [sm, ih]; grind
theorem sm_two {n : Nat} {f : Nat → α} : sm (2 * n) f = sm n (fun k => f (2 * k) + f (2 * k + 1)) := by
  induction n with
  | zero => rfl
  | succ n ih =>
    rw [show 2 * (n + 1) = 2 * n + 1 + 1 by omega]
    simp only [sm, ih]; grind
theorem sm_upd {n k : Nat} {f g : Nat → α} (hk : k < n) (h : ∀ i, i < n → i ≠ k → g i = f i) : sm n g = sm n f + (g k - f k) := by
  induction n with
  | zero => omega
  | succ n ih =>
    by_cases e : k = n
    · subst e
      rw [sm, sm, sm_congr (f := g) (g := f) (fun i hi => h i (by omega) (by omega))]; grind
    · rw [sm, sm, ih (by omega) (fun i hi => h i (by omega)), h n (by omega) (fun x => e x.symm)]; grind
theorem pw_two {g : α} (t : Nat) : pw g (2 * t) = pw (g * g) t := by
  induction t with
  | zero => rfl
  | succ t ih => rw [show 2 * (t + 1) = 2 * t + 1 + 1 by omega, pw, pw, pw, ih]; grind
/-- one forward layer over a ring -/
def layR (z : Nat → α) (l : Nat) (c : Nat → α) (k : Nat) : α :=
  if k % (2 * l) < l then c k + z (k / (2 * l)) * c (k + l) else c (k - l) - z (k / (2 * l)) * c k
/-- one backward layer over a ring -/
def ilayR (z : Nat → α) (l : Nat) (c : Nat → α) (k : Nat) : α :=
  if k % (2 * l) < l then c k + c (k + l) else z (k / (2 * l)) * (c k - c (k - l))
theorem dm {l b r : Nat} (hr : r < l) : (l * b + r) / l = b ∧ (l * b + r) % l = r := by
  refine ⟨?_, ?_⟩
  · rw [Nat.mul_add_div (by omega), Nat.div_eq_of_lt hr]; rfl
  · rw [Nat.mul_add_mod, Nat.mod_eq_of_lt hr]
theorem layR_lo (z : Nat → α) {l : Nat} (c : Nat → α) {b r : Nat} (hr : r < l) : layR z l c (2 * l * b + r) = c (2 * l * b + r) + z b * c (2 * l * b + r + l) := by
  obtain ⟨h1, h2⟩ := dm (l := 2 * l) (b := b) (r := r) (by omega)
  unfold layR
  rw [h1, h2, if_pos hr]
theorem layR_hi (z : Nat → α) {l : Nat} (c : Nat → α) {b r : Nat} (hr : r < l) : layR z l c (2 * l * b + r + l) = c (2 * l * b + r) - z b * c (2 * l * b + r + l) := by
  obtain ⟨h1, h2⟩ := dm (l := 2 * l) (b := b) (r := r + l) (by omega)
  unfold layR
  rw [Nat.add_assoc, h1, h2, if_neg (by omega), show 2 * l * b + (r + l) - l = 2 * l * b + r by omega]
theorem ilayR_lo (z : Nat → α) {l : Nat} (c : Nat → α) {b r : Nat} (hr : r < l) : ilayR z l c (2 * l * b + r) = c (2 * l * b + r) + c (2 * l * b + r + l) := by
  obtain ⟨h1, h2⟩ := dm (l := 2 * l) (b := b) (r := r) (by omega)
  unfold ilayR
  rw [h2, if_pos hr]
theorem ilayR_hi (z : Nat → α) {l : Nat} (c : Nat → α) {b r : Nat} (hr : r < l) : ilayR z l c (2 * l * b + r + l) = z b * (c (2 * l * b + r + l) - c (2 * l * b + r)) := by
  obtain ⟨h1, h2⟩ := dm (l := 2 * l) (b := b) (r := r + l) (by omega)
  unfold ilayR
  rw [Nat.add_assoc, h1, h2, if_neg (by omega), show 2 * l * b + (r + l) - l = 2 * l * b + r by omega]
/-- every place is in a block's lower or upper half -/
theorem place {l B k : Nat} (h : k < 2 * l * B) : ∃ b r, b < B ∧ r < l ∧ (k = 2 * l * b + r ∨ k = 2 * l * b + r + l) := by
  have h0 : 0 < 2 * l := by
    rcases Nat.eq_zero_or_pos (2 * l) with e | e
    · rw [e] at h; omega
    · exact e
  have h1 := Nat.div_add_mod k (2 * l)
  have h2 := Nat.mod_lt k h0
  have h3 : k / (2 * l) < B := Nat.div_lt_of_lt_mul h
  by_cases e : k % (2 * l) < l
  · exact ⟨k / (2 * l), k % (2 * l), h3, e, .inl (by omega)⟩
  · exact ⟨k / (2 * l), k % (2 * l) - l, h3, by omega, .inr (by omega)⟩
theorem fwd_step {l B n : Nat} {c x w z : Nat → α} (hc : ∀ b, b < B → ∀ r, r < 2 * l → c (2 * l * b + r) = sm n (fun t => x (2 * l * t + r) * pw (w b) t))
    (hz : ∀ b, b < B → z b * z b = w b) {b : Nat} (hb : b < 2 * B) {r : Nat} (hr : r < l) :
    layR z l c (l * b + r) = sm (2 * n) (fun t => x (l * t + r) * pw (if b % 2 = 0 then z (b / 2) else - z (b / 2)) t) := by
  have hb2 : b / 2 < B := by omega
  have hw := hz (b / 2) hb2
  rw [sm_two]
  by_cases e : b % 2 = 0
  · rw [show l * b + r = 2 * l * (b / 2) + r by rw [Nat.mul_comm 2 l, Nat.mul_assoc, show 2 * (b / 2) = b by omega], layR_lo _ _ hr, if_pos e, Nat.add_assoc, hc _ hb2 r (by omega), hc _ hb2 (r + l) (by omega), ← sm_mul, ← sm_add]
    refine sm_congr fun t _ => ?_
    rw [pw_two, hw, pw, pw_two, hw, show l * (2 * t) + r = 2 * l * t + r by rw [Nat.mul_comm 2 l, Nat.mul_assoc], show l * (2 * t + 1) + r = 2 * l * t + (r + l) by rw [Nat.mul_comm 2 l, Nat.mul_assoc, Nat.mul_add]; omega]
    grind
  · rw [show l * b + r = 2 * l * (b / 2) + r + l by
      have : b = 2 * (b / 2) + 1 := by omega
      rw [Nat.mul_comm 2 l, Nat.mul_assoc]
      conv => lhs; rw [this, Nat.mul_add]
      omega, layR_hi _ _ hr, if_neg e, Nat.add_assoc, hc _ hb2 r (by omega), hc _ hb2 (r + l) (by omega)]
    have hw2 : (-z (b / 2)) * (-z (b / 2)) = w (b / 2) := by rw [← hw]; grind
    rw [show sm n (fun t => x (2 * l * t + r) * pw (w (b / 2)) t) - z (b / 2) * sm n (fun t => x (2 * l * t + (r + l)) * pw (w (b / 2)) t) = sm n (fun t => x (2 * l * t + r) * pw (w (b / 2)) t) + (-z (b / 2)) * sm n (fun t => x (2 * l * t + (r + l)) * pw (w (b / 2)) t) by grind, ← sm_mul, ← sm_add]
    refine sm_congr fun t _ => ?_
    rw [pw_two, hw2, pw, pw_two, hw2, show l * (2 * t) + r = 2 * l * t + r by rw [Nat.mul_comm 2 l, Nat.mul_assoc], show l * (2 * t + 1) + r = 2 * l * t + (r + l) by rw [Nat.mul_comm 2 l, Nat.mul_assoc, Nat.mul_add]; omega]
    grind
theorem inv_step {l B : Nat} {C D E z z' : Nat → α} {a : α} (hD : ∀ k, k < 2 * l * B → D k = layR z l C k) (hE : ∀ k, k < 2 * l * B → E k = a * D k)
    (hz : ∀ b, b < B → z' b * z b = -1) {k : Nat} (hk : k < 2 * l * B) : ilayR z' l E k = (a * 2) * C k := by
  obtain ⟨b, r, hb, hr, h⟩ := place hk
  have hz' := hz b hb
  have hm : 2 * l * b + 2 * l ≤ 2 * l * B := by
    rw [← Nat.mul_succ]; exact Nat.mul_le_mul_left _ hb
  have e1 := hD (2 * l * b + r) (by omega)
  have e2 := hD (2 * l * b + r + l) (by omega)
  have e3 := hE (2 * l * b + r) (by omega)
  have e4 := hE (2 * l * b + r + l) (by omega)
  rw [layR_lo _ _ hr] at e1
  rw [layR_hi _ _ hr] at e2
  rcases h with h | h
  · rw [h, ilayR_lo _ _ hr, e3, e4, e1, e2]; grind
  · rw [h, ilayR_hi _ _ hr, e3, e4, e1, e2]
    have : z' b * (a * (C (2 * l * b + r) - z b * C (2 * l * b + r + l)) - a * (C (2 * l * b + r) + z b * C (2 * l * b + r + l))) = -(z' b * z b) * (a * 2 * C (2 * l * b + r + l)) := by grind
    rw [this, hz']; grind
end
end
section
open PySem PySem.W
set_option maxRecDepth 100000
/-! backward layers, entry by entry -/
theorem bgS_get (z : Int) (l j : Nat) (cs : List Int) (k : Nat) (hl : 1 ≤ l) (h : j + l < cs.length) :
    (bgS z (l : Int) cs (j : Int)).getD k 0 = if k = j then cs.getD j 0 + cs.getD (j + l) 0 else if k = j + l then z * (cs.getD (j + l) 0 - cs.getD j 0) else cs.getD k 0 := by
  unfold bgS
  have e1 : ((j : Int) + (l : Int)).toNat = j + l := by omega
  have e2 : ((j : Int)).toNat = j := by omega
  have n1 : ¬ (j = j + l) := by omega
  have n2 : ¬ (j + l = j) := by omega
  dsimp only
  rw [e1, e2]
  repeat rw [getD_set _ _ _ _ (by (try simp only [List.length_set]); omega)]
  rw [if_pos rfl, if_neg n1]
  by_cases a : k = j
  · subst a; rw [if_neg n2, if_neg n2, if_pos rfl, if_pos rfl]
  · rw [if_neg a]
    by_cases b : k = j + l
    · subst b; rw [if_pos rfl, if_pos rfl]
    · rw [if_neg (Ne.symm b), if_neg (Ne.symm b), if_neg (Ne.symm a), if_neg b]
theorem ign_get (z : Int) (l st : Nat) (cs : List Int) (hl : 1 ≤ l) : ∀ n k, n ≤ l → st + l + n ≤ cs.length →
    (ign z (l : Int) (st : Int) n cs).getD k 0 = if st ≤ k ∧ k < st + n then cs.getD k 0 + cs.getD (k + l) 0 else if st + l ≤ k ∧ k < st + l + n then z * (cs.getD k 0 - cs.getD (k - l) 0) else cs.getD k 0
  | 0, k, _, _ => by rw [ign, if_neg (by omega), if_neg (by omega)]
  | n + 1, k, h1, h2 => by
    have e : (st : Int) + (n : Int) = ((st + n : Nat) : Int) := by omega
    rw [ign, e, bgS_get z l (st + n) _ k hl (by rw [ign_len]; omega), ign_get z l st cs hl n _ (by omega) (by omega), ign_get z l st cs hl n _ (by omega) (by omega), ign_get z l st cs hl n k (by omega) (by omega)]
    rw [if_neg (show ¬ (st ≤ st + n ∧ st + n < st + n) by omega), if_neg (show ¬ (st + l ≤ st + n ∧ st + n < st + l + n) by omega), if_neg (show ¬ (st ≤ st + n + l ∧ st + n + l < st + n) by omega), if_neg (show ¬ (st + l ≤ st + n + l ∧ st + n + l < st + l + n) by omega)]
    by_cases a : k = st + n
    · subst a
      rw [if_pos rfl, if_pos (by omega)]
    · rw [if_neg a]
      by_cases b : k = st + n + l
      · subst b
        rw [if_pos rfl, if_neg (by omega), if_pos (by omega), show st + n + l - l = st + n by omega]
      · rw [if_neg b]
        by_cases c : st ≤ k ∧ k < st + n
        · rw [if_pos c, if_pos (show st ≤ k ∧ k < st + (n + 1) by omega)]
        · rw [if_neg c, if_neg (show ¬ (st ≤ k ∧ k < st + (n + 1)) by omega)]
          by_cases d : st + l ≤ k ∧ k < st + l + n
          · rw [if_pos d, if_pos (show st + l ≤ k ∧ k < st + l + (n + 1) by omega)]
          · rw [if_neg d, if_neg (show ¬ (st + l ≤ k ∧ k < st + l + (n + 1)) by omega)]
/-- one backward layer, entry by entry -/
def ilayF (z : Nat → Int) (l : Nat) (c : Nat → Int) (k : Nat) : Int :=
  if k % (2 * l) < l then c k + c (k + l) else z (k / (2 * l)) * (c k - c (k - l))
theorem ibk_get (zl : List Int) (l : Nat) (k0 : Int) (cs : List Int) (hl : 1 ≤ l) : ∀ n k, 2 * l * n ≤ cs.length →
    (ibk zl (l : Int) k0 n cs).getD k 0 = if k < 2 * l * n then ilayF (fun b => zl.getD (k0 - (b : Int)).toNat 0) l (fun k => cs.getD k 0) k else cs.getD k 0
  | 0, k, _ => by rw [ibk, if_neg (by omega)]
  | n + 1, k, h => by
    have hm : 2 * l * (n + 1) = 2 * l * n + 2 * l := by rw [Nat.mul_add, Nat.mul_one]
    have hd0 : k < 2 * l * n + 2 * l → 2 * l * n ≤ k → k / (2 * l) = n := fun a b => Nat.div_eq_of_lt_le (by rw [Nat.mul_comm]; exact b) (by rw [Nat.mul_comm, hm]; exact a)
    have hda := Nat.div_add_mod k (2 * l)
    have e : 2 * (l : Int) * (n : Int) = ((2 * l * n : Nat) : Int) := by push_cast; rfl
    have e3 : ((l : Int)).toNat = l := by omega
    have q : ∀ k, (ibk zl (l : Int) k0 n cs).getD k 0 = if k < 2 * l * n then ilayF (fun b => zl.getD (k0 - (b : Int)).toNat 0) l (fun k => cs.getD k 0) k else cs.getD k 0 := fun k => ibk_get zl l k0 cs hl n k (by rw [hm] at h; omega)
    rw [ibk, e, e3, ign_get _ l (2 * l * n) _ hl l k (Nat.le_refl _) (by rw [ibk_len]; rw [hm] at h; omega), q, q, q, hm]
    generalize hs : 2 * l * n = S at *
    by_cases a : k < S
    · rw [if_neg (by omega), if_neg (by omega), if_pos a, if_pos (by omega)]
    · rw [if_neg a]
      by_cases b : k < S + 2 * l
      · rw [if_pos b]
        have hd := hd0 b (by omega)
        have hr : k % (2 * l) = k - S := by
          rw [hd, hs] at hda
          omega
        unfold ilayF
        rw [hd, hr]
        by_cases c : k - S < l
        · rw [if_pos (show S ≤ k ∧ k < S + l by omega), if_pos c, if_neg (by omega)]
        · rw [if_neg (show ¬ (S ≤ k ∧ k < S + l) by omega), if_pos (show S + l ≤ k ∧ k < S + l + l by omega), if_neg c, if_neg (by omega)]
      · rw [if_neg (by omega), if_neg (by omega), if_neg b]
theorem iys_get (zl : List Int) (cs : List Int) (h : cs.length = 256) (i k : Nat) (hi : i < 7) (hk : k < 256) :
    (iys zl (i + 1) cs).getD k 0 = ilayF (fun b => zl.getD (((128 / 2 ^ i : Nat) : Int) - 1 - (b : Int)).toNat 0) (2 * 2 ^ i) (fun k => (iys zl i cs).getD k 0) k := by
  have f1 : 1 ≤ 2 * 2 ^ i ∧ 2 * (2 * 2 ^ i) * (64 / 2 ^ i) = 256 := by
    have : i = 0 ∨ i = 1 ∨ i = 2 ∨ i = 3 ∨ i = 4 ∨ i = 5 ∨ i = 6 := by omega
    rcases this with rfl | rfl | rfl | rfl | rfl | rfl | rfl <;> decide
  rw [iys, ibk_get zl (2 * 2 ^ i) _ _ f1.1 (64 / 2 ^ i) k (by rw [iys_len, h, f1.2]; exact Nat.le_refl _), if_pos (by rw [f1.2]; exact hk)]
theorem scN_get (xs : List Int) : ∀ n k, k < xs.length → (scN n xs)[k]? = some (if k < n then (xs.getD k 0 * 3303).fmod 3329 else xs.getD k 0)
  | 0, k, hk => by
    rw [scN, List.getD_eq_getElem?_getD, List.getElem?_eq_getElem hk]; simp
  | n + 1, k, hk => by
    have e : (0 + (n : Int)).toNat = n := by omega
    rw [scN, e, List.getElem?_set, List.getD_eq_getElem?_getD]
    by_cases h : n = k
    · subst h
      rw [if_pos rfl, scN_len, if_pos hk, scN_get xs n n hk, if_neg (Nat.lt_irrefl _), if_pos (Nat.lt_succ_self _)]
      rfl
    · rw [if_neg h, scN_get xs n k hk]
      by_cases h' : k < n
      · rw [if_pos h', if_pos (by omega)]
      · rw [if_neg h', if_neg (by omega)]
theorem scN_red {xs : List Int} {n : Nat} (h : xs.length = n) : Red (scN n xs) := by
  intro x hx
  obtain ⟨k, hk, rfl⟩ := List.mem_iff_getElem.mp hx
  have hk3 : k < xs.length := by rw [← scN_len (cs := xs) n]; exact hk
  have e := scN_get xs n k hk3
  rw [if_pos (by omega), List.getElem?_eq_getElem hk] at e
  rw [Option.some.inj e]
  exact fm_pos _
theorem fwd_get {zl xs : List Int} (h : xs.length = 256) {k : Nat} (hk : k < 256) : (fwd zl xs).getD k 0 = ((lys zl 7 xs).getD k 0).fmod 3329 := by
  rw [fwd_def]
  rw [List.getD_eq_getElem?_getD, redN_get _ _ _ (by rw [lys_len, h]; exact hk), if_pos hk, Option.getD_some]
theorem bwd_get {zl xs : List Int} (h : xs.length = 256) {k : Nat} (hk : k < 256) : (bwd zl xs).getD k 0 = ((iys zl 7 xs).getD k 0 * 3303).fmod 3329 := by
  rw [bwd_def]
  rw [List.getD_eq_getElem?_getD, scN_get _ _ _ (by rw [iys_len, h]; exact hk), if_pos hk, Option.getD_some]
theorem bwd_len {zl xs : List Int} (h : xs.length = 256) : (bwd zl xs).length = 256 := by rw [bwd_def]; rw [scN_len, iys_len, h]
theorem bwd_red {zl xs : List Int} (h : xs.length = 256) : Red (bwd zl xs) := by rw [bwd_def]; exact scN_red (by rw [iys_len, h])
end
section
open PySem PySem.W
set_option maxRecDepth 100000
/-! the zetas as written numbers -/
def ZW : List Int := [1,1729,2580,3289,2642,630,1897,848,1062,1919,193,797,2786,3260,569,1746,296,2447,1339,1476,3046,56,2240,1333,1426,2094,535,2882,2393,2879,1974,821,289,331,3253,1756,1197,2304,2277,2055,650,1977,2513,632,2865,33,1320,1915,2319,1435,807,452,1438,2868,1534,2402,2647,2617,1481,648,2474,3110,1227,910,17,2761,583,2649,1637,723,2288,1100,1409,2662,3281,233,756,2156,3015,3050,1703,1651,2789,1789,1847,952,1461,2687,939,2308,2437,2388,733,2337,268,641,1584,2298,2037,3220,375,2549,2090,1645,1063,319,2773,757,2099,561,2466,2594,2804,1092,403,1026,1143,2150,2775,886,1722,1212,1874,1029,2110,2935,885,2154]
theorem ZL_eq : ZL = ZW := by decide +kernel
/-- the number whose 2^i-th part block b of layer i stands for -/
def wwI (i b : Nat) : Int := match i with
  | 0 => -1
  | i + 1 => if b % 2 = 0 then ZW.getD (2 ^ i + b / 2) 0 else - ZW.getD (2 ^ i + b / 2) 0
theorem zz_all : ∀ i : Fin 7, ∀ b : Fin 64, b.val < 2 ^ i.val → (ZW.getD (2 ^ i.val + b.val) 0 * ZW.getD (2 ^ i.val + b.val) 0 - wwI i.val b.val) % 3329 = 0 := by decide +kernel
theorem zi_all : ∀ i : Fin 7, ∀ b : Fin 64, b.val < 2 ^ i.val → (ZW.getD (2 ^ (i.val + 1) - 1 - b.val) 0 * ZW.getD (2 ^ i.val + b.val) 0 + 1) % 3329 = 0 := by decide +kernel
theorem pow_le {i b : Nat} (hi : i < 7) (hb : b < 2 ^ i) : b < 64 := by
  have : i = 0 ∨ i = 1 ∨ i = 2 ∨ i = 3 ∨ i = 4 ∨ i = 5 ∨ i = 6 := by omega
  rcases this with rfl | rfl | rfl | rfl | rfl | rfl | rfl <;> omega
theorem zz {i b : Nat} (hi : i < 7) (hb : b < 2 ^ i) : (ZW.getD (2 ^ i + b) 0 * ZW.getD (2 ^ i + b) 0 - wwI i b) % 3329 = 0 := zz_all ⟨i, hi⟩ ⟨b, pow_le hi hb⟩ hb
theorem zi {i b : Nat} (hi : i < 7) (hb : b < 2 ^ i) : (ZW.getD (2 ^ (i + 1) - 1 - b) 0 * ZW.getD (2 ^ i + b) 0 + 1) % 3329 = 0 := zi_all ⟨i, hi⟩ ⟨b, pow_le hi hb⟩ hb
section
variable {α : Type} [Lean.Grind.CommRing α]
/-- an int in the ring -/
def ph (α : Type) [Lean.Grind.CommRing α] (x : Int) : α := Lean.Grind.Ring.intCast.intCast x
theorem ph_add (x y : Int) : ph α (x + y) = ph α x + ph α y := Lean.Grind.Ring.intCast_add x y
theorem ph_sub (x y : Int) : ph α (x - y) = ph α x - ph α y := Lean.Grind.Ring.intCast_sub x y
theorem ph_mul (x y : Int) : ph α (x * y) = ph α x * ph α y := Lean.Grind.Ring.intCast_mul x y
theorem ph_neg (x : Int) : ph α (-x) = - ph α x := Lean.Grind.Ring.intCast_neg x
theorem ph_zero : ph α 0 = 0 := Lean.Grind.Ring.intCast_zero
theorem ph_one : ph α 1 = 1 := Lean.Grind.Ring.intCast_one
theorem ph_mod {x : Int} (hq : ph α 3329 = 0) (h : x % 3329 = 0) : ph α x = 0 := by
  have e : x = 3329 * (x / 3329) := by omega
  rw [e, ph_mul, hq]; grind
theorem ph_fmod {x : Int} (hq : ph α 3329 = 0) : ph α (x.fmod 3329) = ph α x := by
  rw [Int.fmod_def, ph_sub, ph_mul, hq]; grind
theorem layF_ph (z : Nat → Int) (l : Nat) (c : Nat → Int) (k : Nat) : ph α (layF z l c k) = layR (fun b => ph α (z b)) l (fun k => ph α (c k)) k := by
  unfold layF layR
  split
  · rw [ph_add, ph_mul]
  · rw [ph_sub, ph_mul]
theorem ilayF_ph (z : Nat → Int) (l : Nat) (c : Nat → Int) (k : Nat) : ph α (ilayF z l c k) = ilayR (fun b => ph α (z b)) l (fun k => ph α (c k)) k := by
  unfold ilayF ilayR
  split
  · rw [ph_add]
  · rw [ph_mul, ph_sub]
theorem layR_eq {z z' : Nat → α} {l : Nat} {c c' : Nat → α} {k B : Nat} (hk : k < 2 * l * B) (hz : ∀ b, b < B → z b = z' b) (hc : ∀ j, j < 2 * l * B → c j = c' j) : layR z l c k = layR z' l c' k := by
  obtain ⟨b, r, hb, hr, h⟩ := place hk
  have hm : 2 * l * b + 2 * l ≤ 2 * l * B := by rw [← Nat.mul_succ]; exact Nat.mul_le_mul_left _ hb
  rcases h with h | h
  · rw [h, layR_lo _ _ hr, layR_lo _ _ hr, hz b hb, hc _ (by omega), hc _ (by omega)]
  · rw [h, layR_hi _ _ hr, layR_hi _ _ hr, hz b hb, hc _ (by omega), hc _ (by omega)]
theorem ilayR_eq {z z' : Nat → α} {l : Nat} {c c' : Nat → α} {k B : Nat} (hk : k < 2 * l * B) (hz : ∀ b, b < B → z b = z' b) (hc : ∀ j, j < 2 * l * B → c j = c' j) : ilayR z l c k = ilayR z' l c' k := by
  obtain ⟨b, r, hb, hr, h⟩ := place hk
  have hm : 2 * l * b + 2 * l ≤ 2 * l * B := by rw [← Nat.mul_succ]; exact Nat.mul_le_mul_left _ hb
  rcases h with h | h
  · rw [h, ilayR_lo _ _ hr, ilayR_lo _ _ hr, hc _ (by omega), hc _ (by omega)]
  · rw [h, ilayR_hi _ _ hr, ilayR_hi _ _ hr, hz b hb, hc _ (by omega), hc _ (by omega)]
/-- the size of a block -/
theorem blocks {i : Nat} (hi : i < 7) : 256 / 2 ^ i = 2 * (128 / 2 ^ i) ∧ 256 / 2 ^ (i + 1) = 128 / 2 ^ i ∧ 2 ^ (i + 1) = 2 * 2 ^ i ∧ 2 * (128 / 2 ^ i) * 2 ^ i = 256 ∧ 2 ^ i ≤ 64 := by
  have : i = 0 ∨ i = 1 ∨ i = 2 ∨ i = 3 ∨ i = 4 ∨ i = 5 ∨ i = 6 := by omega
  rcases this with rfl | rfl | rfl | rfl | rfl | rfl | rfl <;> decide
/-- what the forward layers compute -/
theorem lys_law (hq : ph α 3329 = 0) {xs : List Int} (hx : xs.length = 256) : ∀ i, i ≤ 7 → ∀ b, b < 2 ^ i → ∀ r, r < 256 / 2 ^ i →
    ph α ((lys ZW i xs).getD (256 / 2 ^ i * b + r) 0) = sm (2 ^ i) (fun t => ph α (xs.getD (256 / 2 ^ i * t + r) 0) * pw (ph α (wwI i b)) t)
  | 0, _, b, hb, r, hr => by
    have e : b = 0 := by omega
    subst e
    show ph α (xs.getD (256 / 1 * 0 + r) 0) = 0 + ph α (xs.getD (256 / 1 * 0 + r) 0) * 1
    grind
  | i + 1, hi, b, hb, r, hr => by
    obtain ⟨f1, f2, f3, f4, f5⟩ := blocks (i := i) (by omega)
    have ih := lys_law hq hx i (by omega)
    rw [f2] at hr ⊢
    rw [f3] at hb ⊢
    have hk : 128 / 2 ^ i * b + r < 256 := by
      have h1 : 128 / 2 ^ i * b + 128 / 2 ^ i ≤ 128 / 2 ^ i * (2 * 2 ^ i) := by rw [← Nat.mul_succ]; exact Nat.mul_le_mul_left _ hb
      have h2 : 128 / 2 ^ i * (2 * 2 ^ i) = 256 := by rw [← f4, Nat.mul_comm 2, ← Nat.mul_assoc, Nat.mul_comm 2, Nat.mul_assoc (128 / 2 ^ i), Nat.mul_assoc (128 / 2 ^ i), Nat.mul_comm 2]
      omega
    rw [lys_get ZW xs hx i _ (by omega) hk, layF_ph]
    rw [fwd_step (l := 128 / 2 ^ i) (B := 2 ^ i) (n := 2 ^ i) (c := fun k => ph α ((lys ZW i xs).getD k 0)) (x := fun k => ph α (xs.getD k 0)) (w := fun b => ph α (wwI i b)) (z := fun b => ph α (ZW.getD (2 ^ i + b) 0)) (fun b hb r hr => by
      have := ih b hb r (by rw [f1]; exact hr)
      rw [f1] at this
      exact this) (fun b hb => by
      have := ph_mod (α := α) hq (zz (i := i) (b := b) (by omega) hb)
      rw [ph_sub, ph_mul] at this
      grind) hb hr]
    refine sm_congr fun t _ => ?_
    rw [wwI]
    by_cases e : b % 2 = 0
    · rw [if_pos e, if_pos e]
    · rw [if_neg e, if_neg e, ph_neg]
/-- the number of factor b -/
def gam (b : Nat) : Int := wwI 7 b
theorem fwd_law (hq : ph α 3329 = 0) {xs : List Int} (hx : xs.length = 256) {b r : Nat} (hb : b < 128) (hr : r < 2) :
    ph α ((fwd ZL xs).getD (2 * b + r) 0) = sm 128 (fun t => ph α (xs.getD (2 * t + r) 0) * pw (ph α (gam b)) t) := by
  rw [ZL_eq, fwd_get hx (by omega), ph_fmod hq]
  exact lys_law hq hx 7 (by omega) b hb r hr
/-- the backward layers undo the forward layers, but for a factor -/
theorem iys_law (hq : ph α 3329 = 0) {xs ys : List Int} (hx : xs.length = 256) (hy : ys.length = 256) (h : ∀ k, k < 256 → ph α (ys.getD k 0) = ph α ((lys ZW 7 xs).getD k 0)) : ∀ i, i ≤ 7 → ∀ k, k < 256 →
    ph α ((iys ZW i ys).getD k 0) = pw (ph α 2) i * ph α ((lys ZW (7 - i) xs).getD k 0)
  | 0, _, k, hk => by
    show ph α (ys.getD k 0) = 1 * _
    rw [h k hk]; grind
  | i + 1, hi, k, hk => by
    have ih := iys_law hq hx hy h i (by omega)
    obtain ⟨j, hj, ej, e1, e2, e3, e4⟩ : ∃ j, j < 7 ∧ 7 - i = j + 1 ∧ 7 - (i + 1) = j ∧ 2 * 2 ^ i = 128 / 2 ^ j ∧ 2 * (128 / 2 ^ j) * 2 ^ j = 256 ∧ 128 / 2 ^ i = 2 ^ (j + 1) := by
      have : i = 0 ∨ i = 1 ∨ i = 2 ∨ i = 3 ∨ i = 4 ∨ i = 5 ∨ i = 6 := by omega
      rcases this with rfl | rfl | rfl | rfl | rfl | rfl | rfl <;> exact ⟨_, by decide, rfl, rfl, rfl, rfl, rfl⟩
    rw [iys_get ZW ys hy i k (by omega) hk, ilayF_ph, e1, e2, e4]
    rw [ej] at ih
    rw [pw]
    have h2 : ph α 2 = 2 := Lean.Grind.Ring.intCast_ofNat 2
    rw [h2] at ih ⊢
    have hk' : k < 2 * (128 / 2 ^ j) * 2 ^ j := by rw [e3]; exact hk
    refine inv_step (l := 128 / 2 ^ j) (B := 2 ^ j) (a := pw 2 i) (C := fun k => ph α ((lys ZW j xs).getD k 0)) (D := fun k => ph α ((lys ZW (j + 1) xs).getD k 0)) (z := fun b => ph α (ZW.getD (2 ^ j + b) 0)) (fun k hk => ?_) (fun k hk => ?_) (fun b hb => ?_) hk'
    · rw [e3] at hk
      rw [lys_get ZW xs hx j k hj hk, layF_ph]
    · rw [e3] at hk
      exact ih k hk
    · have e5 : (((2 ^ (j + 1) : Nat) : Int) - 1 - (b : Int)).toNat = 2 ^ (j + 1) - 1 - b := by omega
      rw [e5]
      have := ph_mod (α := α) hq (zi (i := j) (b := b) hj hb)
      rw [ph_add, ph_mul, ph_one] at this
      grind
theorem bwd_fwd (hq : ph α 3329 = 0) {xs : List Int} (hx : xs.length = 256) {k : Nat} (hk : k < 256) : ph α ((bwd ZL (fwd ZL xs)).getD k 0) = ph α (xs.getD k 0) := by
  rw [ZL_eq, bwd_get (fwd_len hx) hk, ph_fmod hq, ph_mul, iys_law hq hx (fwd_len hx) (fun k hk => by rw [fwd_get hx hk, ph_fmod hq]) 7 (by omega) k hk]
  have e : ph α (2 * 2 * 2 * 2 * 2 * 2 * 2 * 3303 - 1) = 0 := ph_mod hq (by decide)
  rw [ph_sub, ph_mul, ph_mul, ph_mul, ph_mul, ph_mul, ph_mul, ph_mul, ph_one] at e
  show 1 * ph α 2 * ph α 2 * ph α 2 * ph α 2 * ph α 2 * ph α 2 * ph α 2 * ph α (xs.getD k 0) * ph α 3303 = _
  generalize ph α 2 = a at *
  generalize ph α 3303 = c at *
  generalize ph α (xs.getD k 0) = x at *
  grind
end
end
section
open PySem PySem.W
set_option maxRecDepth 100000
set_option autoImplicit false
section
variable {α : Type} [Lean.Grind.CommRing α]
/-! pairs a + bX with X^2 = g -/
def qm (g : α) (u v : α × α) : α × α := (u.1 * v.1 + g * u.2 * v.2, u.2 * v.1 + u.1 * v.2)
def xp (g : α) : Nat → α × α
  | 0 => (1, 0)
  | n + 1 => (g * (xp g n).2, (xp g n).1)
def qp (g : α) (u : α × α) : Nat → α × α
  | 0 => (1, 0)
  | n + 1 => qm g (qp g u n) u
theorem qm_comm (g : α) (u v : α × α) : qm g u v = qm g v u := by
  simp only [qm, Prod.mk.injEq]
  constructor <;> grind
theorem qm_assoc (g : α) (u v w : α × α) : qm g (qm g u v) w = qm g u (qm g v w) := by
  simp only [qm, Prod.mk.injEq]
  constructor <;> grind
theorem qm_one (g : α) (u : α × α) : qm g u (1, 0) = u := by
  obtain ⟨a, b⟩ := u
  simp only [qm, Prod.mk.injEq]
  constructor <;> grind
theorem xp_add (g : α) (a : Nat) : ∀ b, xp g (a + b) = qm g (xp g a) (xp g b)
  | 0 => by rw [xp, qm_one]; rfl
  | b + 1 => by
    rw [← Nat.add_assoc, xp, xp_add g a b, xp]
    simp only [qm, Prod.mk.injEq]
    constructor <;> grind
theorem xp_even (g : α) : ∀ t, xp g (2 * t) = (pw g t, 0)
  | 0 => rfl
  | t + 1 => by
    rw [show 2 * (t + 1) = 2 * t + 1 + 1 by omega, xp, xp, xp_even g t, pw]
    simp only [Prod.mk.injEq]
    constructor <;> grind
theorem xp_odd (g : α) (t : Nat) : xp g (2 * t + 1) = (0, pw g t) := by
  rw [xp, xp_even g t]
  simp only [Prod.mk.injEq]
  constructor <;> grind
theorem qp_x (g : α) : ∀ n, qp g (0, 1) n = xp g n
  | 0 => rfl
  | n + 1 => by
    rw [qp, qp_x g n, xp]
    simp only [qm, Prod.mk.injEq]
    constructor <;> grind
theorem qp_xp (g : α) (a : Nat) : ∀ t, qp g (xp g a) t = xp g (a * t)
  | 0 => rfl
  | t + 1 => by rw [qp, qp_xp g a t, ← xp_add, Nat.mul_succ]
theorem qp_sq (g : α) (u : α × α) : ∀ k, qp g (qm g u u) k = qp g u (2 * k)
  | 0 => rfl
  | k + 1 => by rw [show 2 * (k + 1) = 2 * k + 1 + 1 by omega, qp, qp, qp, qp_sq g u k, qm_assoc]
theorem xp_wrap {g : α} (hg : pw g 128 = -1) (k : Nat) : xp g (k + 256) = (-(xp g k).1, -(xp g k).2) := by
  rw [xp_add, show 256 = 2 * 128 from rfl, xp_even, hg]
  simp only [qm, Prod.mk.injEq]
  constructor <;> grind
/-- a turning law for characters -/
theorem wrap_many {m : Nat → α} (hm : ∀ k, m (k + 256) = - m k) (p : Nat) : ∀ Q, m (256 * Q + p) = (if Q % 2 = 1 then -1 else 1) * m p
  | 0 => by rw [show 256 * 0 + p = p by omega]; grind
  | Q + 1 => by
    rw [show 256 * (Q + 1) + p = 256 * Q + p + 256 by omega, hm, wrap_many hm p Q]
    by_cases e : Q % 2 = 1
    · rw [if_pos e, if_neg (by omega)]; grind
    · rw [if_neg e, if_pos (by omega)]; grind
/-- a list of 256 ints upon a character -/
def ev (m : Nat → α) (xs : List Int) : α := sm 256 (fun k => ph α (xs.getD k 0) * m k)
theorem ev_two (m : Nat → α) (xs : List Int) : ev m xs = sm 128 (fun t => ph α (xs.getD (2 * t) 0) * m (2 * t) + ph α (xs.getD (2 * t + 1) 0) * m (2 * t + 1)) := by
  unfold ev
  rw [show 256 = 2 * 128 from rfl, sm_two]
theorem ev_set {m : Nat → α} {xs : List Int} (hx : xs.length = 256) {p : Nat} (hp : p < 256) (v : Int) : ev m (xs.set p v) = ev m xs + (ph α v - ph α (xs.getD p 0)) * m p := by
  unfold ev
  rw [sm_upd (f := fun k => ph α (xs.getD k 0) * m k) hp (fun i hi ne => by rw [getD_set _ _ _ _ (by omega), if_neg (fun e => ne e.symm)])]
  rw [getD_set _ _ _ _ (by omega), if_pos rfl]
  grind
theorem ev_zero (m : Nat → α) : ev m (List.replicate 256 0) = 0 := by
  unfold ev
  refine sm_zero fun k hk => ?_
  rw [List.getD_eq_getElem?_getD, List.getElem?_replicate, if_pos hk, Option.getD_some, ph_zero]; grind
/-- the pair of block b -/
def pr (α : Type) [Lean.Grind.CommRing α] (b : Nat) (xs : List Int) : α × α := (ph α (xs.getD (2 * b) 0), ph α (xs.getD (2 * b + 1) 0))
theorem fwd_pr (hq : ph α 3329 = 0) {xs : List Int} (hx : xs.length = 256) {b : Nat} (hb : b < 128) :
    pr α b (fwd ZL xs) = (ev (fun k => (xp (ph α (gam b)) k).1) xs, ev (fun k => (xp (ph α (gam b)) k).2) xs) := by
  unfold pr
  have h0 := fwd_law (α := α) hq hx hb (r := 0) (by omega)
  have h1 := fwd_law (α := α) hq hx hb (r := 1) (by omega)
  simp only [Nat.add_zero] at h0
  rw [h0, h1, ev_two, ev_two]
  refine Prod.ext ?_ ?_
  · refine sm_congr fun t _ => ?_
    rw [xp_even, xp_odd]; grind
  · refine sm_congr fun t _ => ?_
    rw [xp_even, xp_odd]; grind
theorem mulN_get (zl xs ys : List Int) : ∀ n i j, i < n → j < 4 → (mulN zl xs ys n).getD (4 * i + j) 0 = (mul4 zl xs ys (0 + (i : Int))).getD j 0
  | 0, i, j, h, _ => by omega
  | n + 1, i, j, h, hj => by
    rw [mulN, List.getD_eq_getElem?_getD]
    by_cases e : i < n
    · rw [List.getElem?_append_left (by rw [mulN_len]; omega), ← List.getD_eq_getElem?_getD, mulN_get zl xs ys n i j e hj]
    · have : i = n := by omega
      subst this
      rw [List.getElem?_append_right (by rw [mulN_len]; omega), mulN_len, show 4 * i + j - 4 * i = j by omega, ← List.getD_eq_getElem?_getD]
theorem mul_pr (hq : ph α 3329 = 0) (xs ys : List Int) {b : Nat} (hb : b < 128) : pr α b (mulL ZL xs ys) = qm (ph α (gam b)) (pr α b xs) (pr α b ys) := by
  have hl : ∀ j, j < 4 → (mulL ZL xs ys).getD (4 * (b / 2) + j) 0 = (mul4 ZL xs ys (0 + ((b / 2 : Nat) : Int))).getD j 0 := fun j hj => by
    rw [mulL_def]; exact mulN_get _ _ _ 64 _ j (by omega) hj
  have e0 : (4 * (0 + ((b / 2 : Nat) : Int)) + 0).toNat = 4 * (b / 2) := by omega
  have e1 : (4 * (0 + ((b / 2 : Nat) : Int)) + 1).toNat = 4 * (b / 2) + 1 := by omega
  have e2 : (4 * (0 + ((b / 2 : Nat) : Int)) + 2).toNat = 4 * (b / 2) + 2 := by omega
  have e3 : (4 * (0 + ((b / 2 : Nat) : Int)) + 3).toNat = 4 * (b / 2) + 3 := by omega
  have e4 : (64 + (0 + ((b / 2 : Nat) : Int))).toNat = 2 ^ 6 + b / 2 := by omega
  have g : gam b = if b % 2 = 0 then ZW.getD (2 ^ 6 + b / 2) 0 else - ZW.getD (2 ^ 6 + b / 2) 0 := rfl
  unfold pr
  by_cases e : b % 2 = 0
  · have h0 := hl 0 (by omega)
    have h1 := hl 1 (by omega)
    rw [Nat.add_zero, mul4, e0, e1, e4] at h0
    rw [mul4, e0, e1, e4] at h1
    have f0 : 4 * (b / 2) = 2 * b := by omega
    rw [f0] at h0 h1
    rw [h0, h1, g, if_pos e, ← ZL_eq]
    show (ph α (bm0 _ _ _ _ _), ph α (bm1 _ _ _ _)) = _
    rw [bm0, bm1, ph_fmod hq, ph_fmod hq, ph_add, ph_add, ph_mul, ph_mul, ph_mul, ph_mul, ph_mul]
    simp only [qm]
  · have h0 := hl 2 (by omega)
    have h1 := hl 3 (by omega)
    rw [mul4, e2, e3, e4] at h0
    rw [mul4, e2, e3, e4] at h1
    have f0 : 4 * (b / 2) + 2 = 2 * b := by omega
    have f1 : 4 * (b / 2) + 3 = 2 * b + 1 := by omega
    rw [f0, f1] at h0 h1
    rw [h0, h1, g, if_neg e, ← ZL_eq]
    show (ph α (bm0 _ _ _ _ _), ph α (bm1 _ _ _ _)) = _
    rw [bm0, bm1, ph_fmod hq, ph_fmod hq, ph_add, ph_add, ph_mul, ph_mul, ph_mul, ph_mul, ph_mul]
    simp only [qm]
theorem one_pr (hq : ph α 3329 = 0) {b : Nat} (hb : b < 128) : pr α b (fwd ZL oneL) = (1, 0) := by
  rw [fwd_pr hq oneL_len hb]
  have e : oneL = (List.replicate 256 0).set 0 1 := by decide +kernel
  rw [e, ev_set (by decide +kernel) (by omega), ev_set (by decide +kernel) (by omega), ev_zero, ev_zero, ph_one, show (List.replicate 256 (0 : Int)).getD 0 0 = 0 from rfl, ph_zero]
  show (0 + (1 - 0) * (1 : α), 0 + (1 - 0) * (0 : α)) = _
  simp only [Prod.mk.injEq]
  constructor <;> grind
theorem gen_pr (hq : ph α 3329 = 0) {b : Nat} (hb : b < 128) : pr α b (fwd ZL genL) = (0, 1) := by
  rw [fwd_pr hq (by decide +kernel) hb]
  have e : genL = (List.replicate 256 0).set 1 1 := by decide +kernel
  rw [e, ev_set (by decide +kernel) (by omega), ev_set (by decide +kernel) (by omega), ev_zero, ev_zero, ph_one, show (List.replicate 256 (0 : Int)).getD 1 0 = 0 from rfl, ph_zero]
  show (0 + (1 - 0) * (ph α (gam b) * 0), 0 + (1 - 0) * (1 : α)) = _
  simp only [Prod.mk.injEq]
  constructor <;> grind
/-- powering by squaring -/
theorem rsN_law (hq : ph α 3329 = 0) {bs : List Int} {E : Nat} {b : Nat} (hb : b < 128) : ∀ n, (rsN ZL bs (E : Int) n).2.2 = ((E / 2 ^ n : Nat) : Int) ∧
    qm (ph α (gam b)) (pr α b (rsN ZL bs (E : Int) n).1) (qp (ph α (gam b)) (pr α b (rsN ZL bs (E : Int) n).2.1) (E / 2 ^ n)) = qp (ph α (gam b)) (pr α b bs) E
  | 0 => by
    refine ⟨by simp [rsN], ?_⟩
    show qm _ (pr α b (fwd ZL oneL)) (qp _ (pr α b bs) (E / 2 ^ 0)) = _
    rw [one_pr hq hb, qm_comm, qm_one, Nat.pow_zero, Nat.div_one]
  | n + 1 => by
    obtain ⟨h1, h2⟩ := rsN_law hq (bs := bs) (E := E) hb n
    have hd : E / 2 ^ (n + 1) = E / 2 ^ n / 2 := by rw [Nat.pow_succ, Nat.div_div_eq_div_mul]
    have hf : ((E / 2 ^ n : Nat) : Int).fdiv 2 = ((E / 2 ^ n / 2 : Nat) : Int) := by
      rw [Int.fdiv_eq_ediv_of_nonneg _ (by decide)]; omega
    have hm : ((E / 2 ^ n : Nat) : Int).fmod 2 = ((E / 2 ^ n % 2 : Nat) : Int) := by
      rw [Int.fmod_eq_emod_of_nonneg _ (by decide)]; omega
    refine ⟨by rw [rsN_pow, h1, hd, hf], ?_⟩
    rw [hd, ← h2]
    generalize hp : E / 2 ^ n = p at *
    rw [rsN_base, mul_pr hq _ _ hb, qp_sq]
    by_cases e : p % 2 = 1
    · rw [rsN_odd (by rw [h1, hm, e]; rfl), mul_pr hq _ _ hb]
      have : p = 2 * (p / 2) + 1 := by omega
      conv => rhs; rw [this]
      rw [qp, qm_assoc, qm_comm _ (pr α b (rsN ZL bs (E : Int) n).2.1)]
    · rw [rsN_even (by rw [h1, hm]; omega)]
      have : 2 * (p / 2) = p := by omega
      rw [this]
theorem raised_pr (hq : ph α 3329 = 0) {bs : List Int} {E : Nat} (hE : E < 2048) {b : Nat} (hb : b < 128) : pr α b (raisedL ZL bs (E : Int)) = qp (ph α (gam b)) (pr α b bs) E := by
  have h := (rsN_law (α := α) hq (bs := bs) (E := E) hb 11).2
  rw [show E / 2 ^ 11 = 0 by omega, qp, qm_one] at h
  rw [raisedL_def]
  exact h
theorem gam_all : ∀ b : Fin 128, ((gam b.val) ^ 128 + 1) % 3329 = 0 := by decide +kernel
theorem ph_pow (x : Int) : ∀ n, ph α (x ^ n) = pw (ph α x) n
  | 0 => by rw [Int.pow_zero, ph_one]; rfl
  | n + 1 => by rw [Int.pow_succ, ph_mul, ph_pow x n, pw]
theorem gam_wrap (hq : ph α 3329 = 0) {b : Nat} (hb : b < 128) : pw (ph α (gam b)) 128 = -1 := by
  have h := ph_mod (α := α) hq (gam_all ⟨b, hb⟩)
  rw [ph_add, ph_pow, ph_one] at h
  grind
end
end
section
open PySem PySem.W
set_option maxRecDepth 100000
set_option autoImplicit false
/-- what the program's own loop makes: the moved polynomial's ints behind n turns -/
def wantN (row : List Int) (e : Int) : Nat → List Int
  | 0 => List.replicate 256 0
  | n + 1 => (wantN row e n).set ((0 + (n : Int) + e).fmod 256).toNat ((signV (0 + (n : Int) + e) * row.getD (0 + (n : Int)).toNat 0).fmod 3329)
theorem wantN_len (row : List Int) (e : Int) (n : Nat) : (wantN row e n).length = 256 := by
  induction n with
  | zero => rw [wantN, List.length_replicate]
  | succ n ih => rw [wantN, List.length_set, ih]
theorem red_set {xs : List Int} (h : Red xs) (k : Nat) (v : Int) : Red (xs.set k (v.fmod 3329)) := by
  intro x hx
  rcases List.mem_or_eq_of_mem_set hx with h' | h'
  · exact h x h'
  · rw [h']; exact fm_pos _
theorem red_zero : Red (List.replicate 256 0) := by
  intro x hx
  rw [(List.mem_replicate.mp hx).2]; decide
theorem wantN_red (row : List Int) (e : Int) (n : Nat) : Red (wantN row e n) := by
  induction n with
  | zero => rw [wantN]; exact red_zero
  | succ n ih => rw [wantN]; exact red_set ih _ _
theorem fm256 (x : Nat) : ((x : Int).fmod 256).toNat = x % 256 := by
  rw [Int.fmod_eq_emod_of_nonneg _ (by decide)]; omega
theorem sg (x : Nat) : signV (x : Int) = if x / 256 % 2 = 1 then -1 else 1 := by
  unfold signV
  have e : ((x : Int).fdiv 256).fmod 2 = ((x / 256 % 2 : Nat) : Int) := by
    rw [Int.fdiv_eq_ediv_of_nonneg _ (by decide), Int.fmod_eq_emod_of_nonneg _ (by decide)]; omega
  rw [e]
  by_cases h : x / 256 % 2 = 1
  · rw [if_pos h, if_pos (by rw [h]; rfl)]
  · rw [if_neg h, if_neg (by omega)]
theorem wantN_succ (row : List Int) (E n : Nat) : wantN row (E : Int) (n + 1) = (wantN row (E : Int) n).set ((n + E) % 256) ((signV ((n + E : Nat) : Int) * row.getD n 0).fmod 3329) := by
  have e : 0 + (n : Int) + (E : Int) = ((n + E : Nat) : Int) := by omega
  have e2 : (0 + (n : Int)).toNat = n := by omega
  rw [wantN, e, fm256, e2]
theorem wantN_zero (row : List Int) (E : Nat) : ∀ n, n ≤ 256 → ∀ j, j < 256 → (∀ k, k < n → (k + E) % 256 ≠ j) → (wantN row (E : Int) n).getD j 0 = 0
  | 0, _, j, hj, _ => by rw [wantN, List.getD_eq_getElem?_getD, List.getElem?_replicate, if_pos hj, Option.getD_some]
  | n + 1, hn, j, hj, h => by
    rw [wantN_succ, getD_set _ _ _ _ (by rw [wantN_len]; omega), if_neg (h n (by omega)), wantN_zero row E n (by omega) j hj (fun k hk => h k (by omega))]
section
variable {α : Type} [Lean.Grind.CommRing α]
theorem sg_ph (x : Nat) : ph α (signV (x : Int)) = if x / 256 % 2 = 1 then -1 else 1 := by
  rw [sg]
  split
  · rw [ph_neg, ph_one]
  · rw [ph_one]
theorem turn_m {m : Nat → α} (hm : ∀ k, m (k + 256) = - m k) (x : Nat) : m x = (if x / 256 % 2 = 1 then -1 else 1) * m (x % 256) := by
  have h := wrap_many hm (x % 256) (x / 256)
  rw [Nat.div_add_mod] at h
  exact h
theorem want_ev (hq : ph α 3329 = 0) {m : Nat → α} (hm : ∀ k, m (k + 256) = - m k) (row : List Int) (E : Nat) : ∀ n, n ≤ 256 → ev m (wantN row (E : Int) n) = sm n (fun k => ph α (row.getD k 0) * m (E + k))
  | 0, _ => by rw [wantN, ev_zero]; rfl
  | n + 1, hn => by
    rw [wantN_succ, ev_set (wantN_len _ _ _) (by omega), want_ev hq hm row E n (by omega), wantN_zero row E n (by omega) _ (by omega) (fun k hk => by omega), ph_fmod hq, ph_mul, sg_ph, sm, ph_zero, Nat.add_comm E n, turn_m hm (n + E)]
    grind
theorem moved_pr (hq : ph α 3329 = 0) {row : List Int} (hr : row.length = 256) {E : Nat} (hE : E < 2048) {b : Nat} (hb : b < 128) :
    pr α b (mulL ZL (raisedL ZL (fwd ZL genL) (E : Int)) (fwd ZL row)) = pr α b (fwd ZL (wantN row (E : Int) 256)) := by
  have hg := gam_wrap (α := α) hq hb
  rw [mul_pr hq _ _ hb, raised_pr hq hE hb, gen_pr hq hb, qp_x, fwd_pr hq hr hb, fwd_pr hq (wantN_len _ _ _) hb]
  rw [want_ev hq (fun k => by rw [xp_wrap hg]) row E 256 (Nat.le_refl _), want_ev hq (fun k => by rw [xp_wrap hg]) row E 256 (Nat.le_refl _)]
  simp only [qm, ev, Prod.mk.injEq]
  constructor
  · rw [← sm_mul, ← sm_mul, ← sm_add]
    refine sm_congr fun k _ => ?_
    rw [xp_add]
    simp only [qm]; grind
  · rw [← sm_mul, ← sm_mul, ← sm_add]
    refine sm_congr fun k _ => ?_
    rw [xp_add]
    simp only [qm]; grind
end
/-! back to the ints -/
abbrev Fq := Fin 3329
theorem fq0 : ph Fq 3329 = 0 := by decide +kernel
theorem fq_inj {x y : Int} (h : ph Fq x = ph Fq y) (hx : 0 ≤ x ∧ x < 3329) (hy : 0 ≤ y ∧ y < 3329) : x = y := by
  have := (Lean.Grind.IsCharP.intCast_ext_iff (α := Fq) 3329 (x := x) (y := y)).mp h
  omega
theorem list_eq {xs ys : List Int} (hx : Red xs) (hy : Red ys) (lx : xs.length = 256) (ly : ys.length = 256) (h : ∀ k, k < 256 → ph Fq (xs.getD k 0) = ph Fq (ys.getD k 0)) : xs = ys := by
  refine List.ext_getElem (by omega) fun k h1 h2 => ?_
  have := h k (by omega)
  rw [List.getD_eq_getElem?_getD, List.getD_eq_getElem?_getD, List.getElem?_eq_getElem h1, List.getElem?_eq_getElem h2, Option.getD_some, Option.getD_some] at this
  exact fq_inj this (hx _ (List.getElem_mem h1)) (hy _ (List.getElem_mem h2))
theorem list_pr {xs ys : List Int} (hx : Red xs) (hy : Red ys) (lx : xs.length = 256) (ly : ys.length = 256) (h : ∀ b, b < 128 → pr Fq b xs = pr Fq b ys) : xs = ys := by
  refine list_eq hx hy lx ly fun k hk => ?_
  have hb := h (k / 2) (by omega)
  unfold pr at hb
  rw [Prod.mk.injEq] at hb
  by_cases e : k % 2 = 0
  · have : 2 * (k / 2) = k := by omega
    rw [this] at hb; exact hb.1
  · have : 2 * (k / 2) + 1 = k := by omega
    rw [this] at hb; exact hb.2
theorem back {xs : List Int} (hx : Red xs) (lx : xs.length = 256) : bwd ZL (fwd ZL xs) = xs :=
  list_eq (bwd_red (fwd_len lx)) hx (bwd_len (fwd_len lx)) lx fun k hk => bwd_fwd fq0 lx hk
theorem genL_len : genL.length = 256 := by decide +kernel
theorem law1 {row : List Int} (d : Int) (hr : row.length = 256) : bwd ZL (mulL ZL (raisedL ZL (fwd ZL genL) (d.fmod 2048)) (fwd ZL row)) = wantN row (d.fmod 2048) 256 := by
  have h1 := Int.fmod_nonneg_of_pos d (show (0 : Int) < 2048 by decide)
  have h2 := Int.fmod_lt_of_pos d (show (0 : Int) < 2048 by decide)
  obtain ⟨E, hE⟩ : ∃ E : Nat, d.fmod 2048 = (E : Int) := ⟨(d.fmod 2048).toNat, by omega⟩
  rw [hE]
  have e : mulL ZL (raisedL ZL (fwd ZL genL) (E : Int)) (fwd ZL row) = fwd ZL (wantN row (E : Int) 256) :=
    list_pr (mulL_red _ _ _) (fwd_red (wantN_len _ _ _)) (mulL_len _ _ _) (fwd_len (wantN_len _ _ _)) fun b hb => moved_pr fq0 hr (by omega) hb
  rw [e, back (wantN_red _ _ _) (wantN_len _ _ _)]
theorem law3 : bwd ZL (fwd ZL genL) = genL := back (by unfold Red; decide +kernel) genL_len
end
section
open PySem PySem.W
set_option maxRecDepth 100000
set_option autoImplicit false
theorem pairL_ex : ∃ f : Int → Int → List Int, ∀ (c a : Int) , f c a = ((List.replicate (Int.toNat 256) [(0 : Int)]).flatten.set (Int.toNat 0) ((List.replicate (Int.toNat 256) [0]).flatten.getD (Int.toNat 0) 0 + c)).set a.toNat (((List.replicate (Int.toNat 256) [0]).flatten.set (Int.toNat 0) ((List.replicate (Int.toNat 256) [0]).flatten.getD (Int.toNat 0) 0 + c)).getD a.toNat 0 + 1) := ⟨_, fun _ _ => rfl⟩
noncomputable def pairL : Int → Int → List Int := Classical.choose pairL_ex
theorem pairL_def (c a : Int)  : pairL c a = ((List.replicate (Int.toNat 256) [(0 : Int)]).flatten.set (Int.toNat 0) ((List.replicate (Int.toNat 256) [0]).flatten.getD (Int.toNat 0) 0 + c)).set a.toNat (((List.replicate (Int.toNat 256) [0]).flatten.set (Int.toNat 0) ((List.replicate (Int.toNat 256) [0]).flatten.getD (Int.toNat 0) 0 + c)).getD a.toNat 0 + 1) := Classical.choose_spec pairL_ex c a
theorem pairL_len {c a : Int} : (pairL c a).length = 256 := by rw [pairL_def]; rw [List.length_set, List.length_set]; decide +kernel
def PA : Nat → List Int
  | 0 => [1]
  | n + 1 => List.zipWith (fun a b => a + b) (PA n ++ [0]) (0 :: PA n)
def sumsN (a c p : Int) (pa : List Int) : Nat → List Int
  | 0 => List.replicate 256 0
  | n + 1 => (sumsN a c p pa n).set ((a * (0 + (n : Int))).fmod 256).toNat ((sumsN a c p pa n).getD ((a * (0 + (n : Int))).fmod 256).toNat 0 + signV (a * (0 + (n : Int))) * pa.getD (0 + (n : Int)).toNat 0 * c ^ (p - (0 + (n : Int))).toNat)
theorem sumsN_len (a c p : Int) (pa : List Int) (n : Nat) : (sumsN a c p pa n).length = 256 := by
  induction n with
  | zero => rw [sumsN, List.length_replicate]
  | succ n ih => rw [sumsN, List.length_set, ih]
theorem zeros256 : (List.replicate (Int.toNat 256) [(0 : Int)]).flatten = List.replicate 256 0 := by decide +kernel
section
variable {α : Type} [Lean.Grind.CommRing α]
theorem pair_ev (m : Nat → α) (c : Int) {A : Nat} (hA : A < 256) : ev m (pairL c (A : Int)) = ph α c * m 0 + m A := by
  have e1 : ((A : Int)).toNat = A := by omega
  have e2 : (Int.toNat 0) = 0 := rfl
  rw [pairL_def]
  rw [zeros256, e1, e2, ev_set (by rw [List.length_set, List.length_replicate]) hA, ev_set (by rw [List.length_replicate]) (by omega), ev_zero, ph_add, ph_add, ph_one]
  grind
theorem sums_ev {m : Nat → α} (hm : ∀ k, m (k + 256) = - m k) (A p : Nat) (c : Int) (pa : List Int) : ∀ n, ev m (sumsN (A : Int) c (p : Int) pa n) = sm n (fun t => ph α (pa.getD t 0) * pw (ph α c) (p - t) * m (A * t))
  | 0 => by rw [sumsN, ev_zero]; rfl
  | n + 1 => by
    have e1 : (A : Int) * (0 + (n : Int)) = ((A * n : Nat) : Int) := by rw [Int.natCast_mul]; grind
    have e2 : (0 + (n : Int)).toNat = n := by omega
    have e3 : ((p : Int) - (0 + (n : Int))).toNat = p - n := by omega
    rw [sumsN, e1, e2, e3, fm256, ev_set (sumsN_len _ _ _ _ _) (by omega), sums_ev hm A p c pa n, ph_add, ph_mul, ph_mul, sg_ph, ph_pow, sm, turn_m hm (A * n)]
    grind
theorem bin_law (g C : α) (y : α × α) (p : Nat) (hp : p ≤ 6) : qp g (C + y.1, y.2) p = (sm (p + 1) (fun t => ph α ((PA p).getD t 0) * pw C (p - t) * (qp g y t).1), sm (p + 1) (fun t => ph α ((PA p).getD t 0) * pw C (p - t) * (qp g y t).2)) := by
  have h1 : ph α 1 = 1 := ph_one
  have h2 : ph α 2 = 2 := Lean.Grind.Ring.intCast_ofNat 2
  have h3 : ph α 3 = 3 := Lean.Grind.Ring.intCast_ofNat 3
  have h4 : ph α 4 = 4 := Lean.Grind.Ring.intCast_ofNat 4
  have h5 : ph α 5 = 5 := Lean.Grind.Ring.intCast_ofNat 5
  have h6 : ph α 6 = 6 := Lean.Grind.Ring.intCast_ofNat 6
  have h10 : ph α 10 = 10 := Lean.Grind.Ring.intCast_ofNat 10
  have h15 : ph α 15 = 15 := Lean.Grind.Ring.intCast_ofNat 15
  have h20 : ph α 20 = 20 := Lean.Grind.Ring.intCast_ofNat 20
  have p0 : PA 0 = [1] := rfl
  have p1 : PA 1 = [1, 1] := rfl
  have p2 : PA 2 = [1, 2, 1] := rfl
  have p3 : PA 3 = [1, 3, 3, 1] := rfl
  have p4 : PA 4 = [1, 4, 6, 4, 1] := rfl
  have p5 : PA 5 = [1, 5, 10, 10, 5, 1] := rfl
  have p6 : PA 6 = [1, 6, 15, 20, 15, 6, 1] := rfl
  obtain ⟨a, b⟩ := y
  have : p = 0 ∨ p = 1 ∨ p = 2 ∨ p = 3 ∨ p = 4 ∨ p = 5 ∨ p = 6 := by omega
  rcases this with rfl | rfl | rfl | rfl | rfl | rfl | rfl
  · simp only [p0, sm, pw, qp, qm, List.getD_cons_zero, List.getD_cons_succ, h1, Nat.sub_self, Nat.sub_zero, Prod.mk.injEq]
    constructor <;> grind
  · simp only [p1, sm, pw, qp, qm, List.getD_cons_zero, List.getD_cons_succ, h1, Nat.sub_self, Nat.sub_zero, Prod.mk.injEq]
    constructor <;> grind
  · simp only [p2, sm, pw, qp, qm, List.getD_cons_zero, List.getD_cons_succ, h1, h2, Nat.sub_self, Nat.sub_zero, Nat.reduceSub, Prod.mk.injEq]
    constructor <;> grind
  · simp only [p3, sm, pw, qp, qm, List.getD_cons_zero, List.getD_cons_succ, h1, h3, Nat.sub_self, Nat.sub_zero, Nat.reduceSub, Prod.mk.injEq]
    constructor <;> grind
  · simp only [p4, sm, pw, qp, qm, List.getD_cons_zero, List.getD_cons_succ, h1, h4, h6, Nat.sub_self, Nat.sub_zero, Nat.reduceSub, Prod.mk.injEq]
    constructor <;> grind
  · simp only [p5, sm, pw, qp, qm, List.getD_cons_zero, List.getD_cons_succ, h1, h5, h10, Nat.sub_self, Nat.sub_zero, Nat.reduceSub, Prod.mk.injEq]
    constructor <;> grind
  · simp only [p6, sm, pw, qp, qm, List.getD_cons_zero, List.getD_cons_succ, h1, h6, h15, h20, Nat.sub_self, Nat.sub_zero, Nat.reduceSub, Prod.mk.injEq]
    constructor <;> grind
theorem map_ev (hq : ph α 3329 = 0) (m : Nat → α) {xs : List Int} (hx : xs.length = 256) : ev m (xs.map (fun k => k.fmod 3329)) = ev m xs := by
  unfold ev
  refine sm_congr fun k hk => ?_
  have e : (xs.map (fun k => k.fmod 3329)).getD k 0 = (xs.getD k 0).fmod 3329 := by
    rw [List.getD_eq_getElem?_getD, List.getD_eq_getElem?_getD, List.getElem?_map, List.getElem?_eq_getElem (show k < xs.length by omega)]
    simp
  rw [e, ph_fmod hq]
theorem power_pr (hq : ph α 3329 = 0) {A p : Nat} (hA : A < 256) (hp : p ≤ 6) (c : Int) {b : Nat} (hb : b < 128) :
    pr α b (raisedL ZL (fwd ZL (pairL c (A : Int))) (p : Int)) = pr α b (fwd ZL ((sumsN (A : Int) c (p : Int) (PA p) (p + 1)).map (fun k => k.fmod 3329))) := by
  have hg := gam_wrap (α := α) hq hb
  rw [raised_pr hq (by omega) hb, fwd_pr hq pairL_len hb, fwd_pr hq (by rw [List.length_map, sumsN_len]) hb, pair_ev _ _ hA, pair_ev _ _ hA]
  rw [map_ev hq _ (sumsN_len _ _ _ _ _), map_ev hq _ (sumsN_len _ _ _ _ _), sums_ev (fun k => by rw [xp_wrap hg]), sums_ev (fun k => by rw [xp_wrap hg])]
  have e : (ph α c * (xp (ph α (gam b)) 0).1 + (xp (ph α (gam b)) A).1, ph α c * (xp (ph α (gam b)) 0).2 + (xp (ph α (gam b)) A).2) = (ph α c + (xp (ph α (gam b)) A).1, (xp (ph α (gam b)) A).2) := by
    simp only [xp, Prod.mk.injEq]
    constructor <;> grind
  rw [e, bin_law _ _ _ p hp]
  simp only [Prod.mk.injEq]
  constructor
  · refine sm_congr fun t _ => ?_
    rw [qp_xp]
  · refine sm_congr fun t _ => ?_
    rw [qp_xp]
end
theorem raisedL_facts {zl ys : List Int} {e : Int} (hy : Red ys) (hl : ys.length = 256) : Red (raisedL zl ys e) ∧ (raisedL zl ys e).length = 256 := by rw [raisedL_def]; exact ⟨(rsN_red hy hl 11).1, (rsN_red hy hl 11).2.2.1⟩
theorem map_red (xs : List Int) : Red (xs.map (fun k => k.fmod 3329)) := by
  intro x hx
  obtain ⟨y, _, rfl⟩ := List.mem_map.mp hx
  exact fm_pos _
theorem law2 (c a d : Int) : bwd ZL (raisedL ZL (fwd ZL (pairL c (a.fmod 256))) (d.fmod 7)) = (sumsN (a.fmod 256) c (d.fmod 7) (PA (d.fmod 7 - 0).toNat) (d.fmod 7 + 1 - 0).toNat).map (fun k => k.fmod 3329) := by
  have h1 := Int.fmod_nonneg_of_pos d (show (0 : Int) < 7 by decide)
  have h2 := Int.fmod_lt_of_pos d (show (0 : Int) < 7 by decide)
  have h3 := Int.fmod_nonneg_of_pos a (show (0 : Int) < 256 by decide)
  have h4 := Int.fmod_lt_of_pos a (show (0 : Int) < 256 by decide)
  obtain ⟨p, hp⟩ : ∃ p : Nat, d.fmod 7 = (p : Int) := ⟨(d.fmod 7).toNat, by omega⟩
  obtain ⟨A, hA⟩ : ∃ A : Nat, a.fmod 256 = (A : Int) := ⟨(a.fmod 256).toNat, by omega⟩
  rw [hp, hA]
  have e1 : ((p : Int) - 0).toNat = p := by omega
  have e2 : ((p : Int) + 1 - 0).toNat = p + 1 := by omega
  rw [e1, e2]
  have l : ((sumsN (A : Int) c (p : Int) (PA p) (p + 1)).map (fun k => k.fmod 3329)).length = 256 := by rw [List.length_map, sumsN_len]
  have e : raisedL ZL (fwd ZL (pairL c (A : Int))) (p : Int) = fwd ZL ((sumsN (A : Int) c (p : Int) (PA p) (p + 1)).map (fun k => k.fmod 3329)) :=
    list_pr (raisedL_facts (fwd_red pairL_len) (fwd_len pairL_len)).1 (fwd_red l) (raisedL_facts (fwd_red pairL_len) (fwd_len pairL_len)).2 (fwd_len l) fun b hb => power_pr fq0 (by omega) (by omega) c hb
  rw [e, back (map_red _) l]
end
section
set_option maxRecDepth 100000
open PySem PySem.W PyProof.Rows PySem.Calls PySem.Spec PyProof.V PyProof.Rows.LCg
section
variable {prog : Program} {w : World} {A : Around} {E : Value → Shared → Prop} {s : Shared} {h₀ : Heap} {L : Addr} {m : Str → Option Value} {env : Env}
/-- the sum of two names of a block -/
theorem zc_elt {elt : PySem.Expr} {a b : Str} {pa pb bp : Pos} {C : Addr} {scope : Scope} {cl : List (Str × Addr)} {m₂ : Str → Option Value} {x y : Int} {t u : Tok} {Q' : Value → Shared → Prop} {E' : Value → Shared → Prop} {s' : Shared}
    (he : elt = .BinOp (.Name a pa) .Add (.Name b pb) bp) (hkind : scope.kind = .function) (hxa : scope.names.lookup a = some .local) (hxb : scope.names.lookup b = some .local) (da : (a == ("__debug__" : Str)) = false) (db : (b == ("__debug__" : Str)) = false)
    (hn : s'.heap.Ns C m₂) (ha : m₂ a = some (.int x t)) (hb : m₂ b = some (.int y u)) (h : ∀ t' tk, Q' (.int (x + y) t') { s' with toks := tk }) :
    wpAny (model prog w) A (eval elt (compEnvC scope cl C env)) Q' E' s' := by
  rw [he, eval_BinOp]
  refine wpAny_bind (wpAny_Name (wpAny_loadName_local (by simp [compEnvC, relabel, hkind]) (lookup_relabel_local hxa) hn ha ?_) da)
  refine wpAny_bind (wpAny_holding (wpAny_Name (wpAny_loadName_local (by simp [compEnvC, relabel, hkind]) (lookup_relabel_local hxb) hn hb ?_) db))
  refine wpAny_bind (wpAny_standAt ?_)
  exact wpAny_operateT (add_int (h _ _))
/-- a zip upon two lists, at its start -/
structure ZAt (h₀ h : Heap) (L : Addr) (m : Str → Option Value) (B l1 l2 : Nat) (vs ws : List Value) (news : List (Addr × Obj)) : Prop where
  z : IsZip h (B + 4) (B + 2) (B + 3) .none
  ti : IsPair h (B + 2) (.ref B) (.ref (B + 1))
  to : IsPair h (B + 3) .none .none
  i1 : h.IsListIter B l1 0
  i2 : h.IsListIter (B + 1) l2 0
  a1 : h.IsList l1 vs.toArray
  a2 : h.IsList l2 ws.toArray
  size : h.objs.size = B + 5
  b1 : l1 < B
  b2 : l2 < B
  bL : @LT.lt Nat _ L B
  fresh : ∀ b : Nat, B ≤ b → h₀.get? b = none
  below : ∀ p ∈ news, @LT.lt Nat _ p.1 B
  F : Fr h₀ L h m
  N : News h₀ L h news
theorem zc_call {l1 l2 : Addr} {lo1 lo2 : Obj} {n1 n2 : Nat} {vs ws : List Value} {news : List (Addr × Obj)} {Q : Value → Shared → Prop} (F : Fr h₀ L s.heap m) (N : News h₀ L s.heap news)
    (hm1 : (l1, lo1) ∈ news) (hc1 : lo1.cls = .type "list") (hd1 : lo1.data = .seq vs.toArray n1) (hm2 : (l2, lo2) ∈ news) (hc2 : lo2.cls = .type "list") (hd2 : lo2.data = .seq ws.toArray n2)
    (h : ∀ h' B, ZAt h₀ h' L m B l1 l2 vs ws news → Q (.ref (B + 4)) { s with heap := h' }) : wpAny (model prog w) A (call (.type "zip") [.ref l1, .ref l2]) Q E s := by
  have hax1 := N _ hm1
  have hax2 := N _ hm2
  have hl1 : s.heap.IsList l1 vs.toArray := ⟨lo1, hax1.1, hc1, n1, hd1⟩
  have hl2 : s.heap.IsList l2 ws.toArray := ⟨lo2, hax2.1, hc2, n2, hd2⟩
  refine call_zip_2 hl1 hl2 fun h' hz hTI hTO hi1 hi2 hsz hk => ?_
  exact h h' _ ⟨hz, hTI, hTO, hi1, hi2, hl1.at fun o e => hk _ o e, hl2.at fun o e => hk _ o e, hsz, Heap.lt_size hax1.1, Heap.lt_size hax2.1, F.ns.lt, fun b hb => ktu_new F hb, fun p hp => Heap.lt_size (N p hp).1, F.keeps hk, N.grown hk⟩
theorem fr_wr {h h' : Heap} {wr : List Addr} (F : Fr h₀ L h m) (hk : ∀ b o, b ∉ wr → h.get? b = some o → h'.get? b = some o) (hL : L ∉ wr) (h0 : ∀ b ∈ wr, h₀.get? b = none) : Fr h₀ L h' m :=
  ⟨F.ns.at' fun o e => hk L o hL e, fun b o e => hk b o (fun hm => by rw [h0 b hm] at e; cases e) (F.keep b o e), F.above⟩
theorem news_wr {h h' : Heap} {wr : List Addr} {news : List (Addr × Obj)} (N : News h₀ L h news) (hk : ∀ b o, b ∉ wr → h.get? b = some o → h'.get? b = some o) (off : ∀ p ∈ news, p.1 ∉ wr) : News h₀ L h' news :=
  fun p hp => ⟨hk _ _ (off p hp) (N p hp).1, (N p hp).2⟩
theorem ints_at {vs : List Value} {xs : List Int} (h : IntsAre vs xs) {i : Nat} {v : Value} (e : vs[i]? = some v) : ∃ x t, xs[i]? = some x ∧ v = .int x t := by
  obtain ⟨k, t, e2, hk⟩ := IntsAre.at h i v e
  exact ⟨k, t, by first | exact hk | exact e2, by first | exact e2 | exact hk⟩
theorem zc_block {elt iter : PySem.Expr} {a b : Str} {pa pb tp : Pos} {kk : Nat} {scope : Scope} {cl : List (Str × Addr)} {pos : Pos} {s₂ : Shared} {B l1 l2 : Nat} {vs ws : List Value} {xs ys : List Int} {news : List (Addr × Obj)} {RR : Value → Addr → Result → Shared → Prop} (f : Int → Int → Int) (hh : A.handled = none)
    (hcell : ∀ y ∈ scope.names, y.2 ≠ .cell) (hkind : scope.kind = .function)
    (hxa : scope.names.lookup a = some .local) (hxb : scope.names.lookup b = some .local) (hab : ¬ a = b)
    (helt : ∀ (C : Addr) (m₂ : Str → Option Value) (s' : Shared) (x y : Int) (t u : Tok) (Q' E' : Value → Shared → Prop), s'.heap.Ns C m₂ → m₂ a = some (.int x t) → m₂ b = some (.int y u) → (∀ t' tk, Q' (.int (f x y) t') { s' with toks := tk }) → wpAny (model prog w) A (eval elt (compEnvC scope cl C env)) Q' E' s')
    (Z : ZAt h₀ s₂.heap L m B l1 l2 vs ws news) (hv : IntsAre vs xs) (hw : IntsAre ws ys) (hsz : vs.length ≤ sizeLine)
    (hRR : ∀ D C h tk m' zs, Fr h₀ L h m → News h₀ L h ((D, lst zs) :: news) → (∀ p ∈ news, @LT.lt Nat _ p.1 D) → h.Ns C m' → h₀.get? C = none → C ≠ L → D ≠ C → (∀ p ∈ news, p.1 ≠ C) → IntsAre zs (List.zipWith f xs ys) → RR (.ref D) C (.ok .next) { s₂ with heap := h, toks := tk }) :
    wpAny (model prog w) A (newList []) (fun acc s₃ => wpAny (model prog w) A (newFunctionEnv scope env.globals cl [] env.qual none .none (some env)) (fun cenv s₄ =>
      codeAny (model prog w) A (.compStart (.ListComp elt [⟨.Tuple [.Name a pa, .Name b pb] kk tp, iter, [], 0⟩] scope pos) 0 (.ref (B + 4)) acc { cenv with scope := relabel scope env }) (RR acc cenv.locals) s₄) E s₃) E s₂ := by
  have hlv : vs.length = xs.length := hv.length
  have hlw : ws.length = ys.length := hw.length
  refine wpAny_newObj_type (wpAny_newFunctionEnv hcell (by intro y hy; simp at hy) (fun h₁ hns₁ hsb₁ => ?_) hkind)
  dsimp only at hns₁ hsb₁ ⊢
  generalize hH2 : s₂.heap.push { cls := .type "list", dict := none, data := .seq ([] : List Value).toArray } = H2 at hns₁ hsb₁ ⊢
  have hC : H2.objs.size = s₂.heap.objs.size + 1 := by rw [← hH2, Heap.size_push]
  have hD5 : s₂.heap.objs.size = B + 5 := Z.size
  have hC6 : H2.objs.size = B + 6 := by omega
  have hDC : s₂.heap.objs.size ≠ H2.objs.size := by rw [hC]; exact Nat.ne_of_lt (Nat.lt_succ_self _)
  have belowD : ∀ b, b < s₂.heap.objs.size → b ≠ H2.objs.size ∧ b ≠ s₂.heap.objs.size := fun b hb => ⟨by rw [hC]; exact Nat.ne_of_lt (Nat.lt_succ_of_lt hb), Nat.ne_of_lt hb⟩
  have old : ∀ b o, s₂.heap.get? b = some o → h₁.get? b = some o := fun b o e => hsb₁.extBut b o (belowD b (Heap.lt_size e)).1 (Heap.get?_push_of_some _ (hH2 ▸ Heap.get?_push_of_some _ e))
  have hacc : h₁.get? s₂.heap.objs.size = some (lst []) := hsb₁.extBut _ _ hDC (Heap.get?_push_of_some _ (hH2 ▸ Heap.get?_push_size _ rfl))
  have hD₀ : h₀.get? s₂.heap.objs.size = none := Z.fresh _ (by omega)
  have hC₀ : h₀.get? H2.objs.size = none := Z.fresh _ (by omega)
  have hDL : s₂.heap.objs.size ≠ L := neN (by have := Z.bL; omega)
  have hCL : H2.objs.size ≠ L := neN (by have := Z.bL; omega)
  have wrm : ∀ c : Nat, c ∈ [B + 4, B + 3, B, B + 1] → B ≤ c ∧ c ≤ B + 4 := fun c hc => by
    simp only [List.mem_cons, List.not_mem_nil, or_false] at hc
    omega
  have wr0 : ∀ c ∈ ([B + 4, B + 3, B, B + 1] : List Addr), h₀.get? c = none := fun c hc => Z.fresh c (wrm c hc).1
  have wrL : L ∉ ([B + 4, B + 3, B, B + 1] : List Addr) := fun hc => by have := (wrm L hc).1; have := Z.bL; omega
  have wrN : ∀ p ∈ news, p.1 ∉ ([B + 4, B + 3, B, B + 1] : List Addr) := fun p hp hc => by have := (wrm p.1 hc).1; have := Z.below p hp; omega
  have wrD : s₂.heap.objs.size ∉ ([B + 4, B + 3, B, B + 1] : List Addr) := fun hc => by have := (wrm _ hc).2; omega
  have wrC : H2.objs.size ∉ ([B + 4, B + 3, B, B + 1] : List Addr) := fun hc => by have := (wrm _ hc).2; omega
  have fpm : ∀ c : Nat, c ∈ [B + 4, B + 2, B + 3, B, B + 1, l1, l2] → c < B + 5 := fun c hc => by
    have := Z.b1; have := Z.b2
    simp only [List.mem_cons, List.not_mem_nil, or_false] at hc
    omega
  have D : ZipApart (B + 4) (B + 2) (B + 3) B (B + 1) l1 l2 := ktu_apart _ _ _ Z.b1 Z.b2
  have W := KTurns.ofWalksU (elts := [.Name a pa, .Name b pb]) (k := kk) (pos := tp) (WalksT.zip2 (prog := prog) (w := w) hh (B + 4) (B + 2) (B + 3) B (B + 1) l1 l2 D vs.toArray ws.toArray).toU
  obtain ⟨n, hn⟩ : ∃ n, n = min vs.toArray.size ws.toArray.size := ⟨_, rfl⟩
  rw [← hn] at W
  have hnx : n ≤ xs.length ∧ n ≤ ys.length ∧ n = min xs.length ys.length := by
    rw [List.size_toArray, List.size_toArray, hlv, hlw] at hn; omega
  obtain ⟨St, hSt⟩ : ∃ St : Nat → Heap → Prop, St = (fun i h => IsZip h (B + 4) (B + 2) (B + 3) .none ∧ IsPair h (B + 2) (.ref B) (.ref (B + 1)) ∧ (∃ a b, IsPair h (B + 3) a b) ∧ h.IsListIter B l1 i ∧ h.IsListIter (B + 1) l2 i ∧ h.IsList l1 vs.toArray ∧ h.IsList l2 ws.toArray) := ⟨_, rfl⟩
  rw [← hSt] at W
  have st0 : St 0 h₁ := by
    refine W.frame 0 s₂.heap h₁ ?_ (fun b _ o e => old b o e)
    rw [hSt]
    exact ⟨Z.z, Z.ti, ⟨_, _, Z.to⟩, Z.i1, Z.i2, Z.a1, Z.a2⟩
  have loop : ∀ s₃ : Shared, s₃ = { s₂ with heap := h₁, toks := s₂.toks + ([] : List (Str × Value)).length } →
      codeAny (model prog w) A (.compLoop (.ListComp elt [⟨.Tuple [.Name a pa, .Name b pb] kk tp, iter, [], 0⟩] scope pos) 0 (.ref (B + 4)) (.ref s₂.heap.objs.size) (compEnvC scope cl H2.objs.size env))
        (RR (.ref s₂.heap.objs.size) H2.objs.size) s₃ := by
    rintro s₃ rfl
    refine kcp_loop
      (fun k s' => ∃ h' tk i zs m', s' = { s₂ with heap := h', toks := tk } ∧ i ≤ n ∧ k = n + 1 - i ∧ zs.length = i ∧ IntsAre zs ((List.zipWith f xs ys).take i) ∧ St i h' ∧ Fr h₀ L h' m ∧ h'.Ns H2.objs.size m' ∧
        News h₀ L h' ((s₂.heap.objs.size, lst zs) :: news)) ?_ (n + 1)
      ⟨h₁, _, 0, [], _, rfl, Nat.zero_le _, rfl, rfl, by rw [List.take_zero]; exact .nil, st0, Z.F.keeps old, hns₁, fun p hp => ?_⟩
    · rintro k s' ⟨h', tk, i, zs, m', rfl, hi, rfl, hzl, hz, hst, F', hn', N'⟩
      by_cases hlt : i < n
      · refine W.item i _ _ _ hlt hst fun v h₂ tk₂ hMd hk₂ => ?_
        refine W.go i v _ _ _ hMd fun h₃ hP hst₃ hk₃ => ?_
        obtain ⟨T, vals, rfl, ⟨x, y, hx, hy, rfl⟩, hT⟩ := hP
        obtain ⟨x, t, hx2, rfl⟩ := ints_at hv (i := i) (v := x) (by simpa using hx)
        obtain ⟨y, u, hy2, rfl⟩ := ints_at hw (i := i) (v := y) (by simpa using hy)
        have up₃ : ∀ c o, c ∉ ([B + 4, B + 3, B, B + 1] : List Addr) → h'.get? c = some o → h₃.get? c = some o := fun c o hc e => hk₃ c o hc (hk₂ c o hc e)
        refine kcp_assign (env := compEnvC scope cl H2.objs.size env) hh hT (lookup_relabel_local hxa) (lookup_relabel_local hxb) (by simp [compEnvC, relabel, hkind]) (hn'.at' fun o e => up₃ _ o wrC e) fun h₄ tk₄ hn₄ hs₄ => ?_
        replace hs₄ : ∀ c o, c ≠ H2.objs.size → h₃.get? c = some o → h₄.get? c = some o := hs₄
        have st₄ : St (i + 1) h₄ := W.frame (i + 1) h₃ h₄ hst₃ (fun b hb o e => hs₄ b o (neN (by have := fpm b hb; omega)) e)
        have F₃ := fr_wr F' up₃ wrL wr0
        have N₃ := news_wr N' up₃ (fun p hp => by
          rcases List.mem_cons.mp hp with rfl | hp
          · exact wrD
          · exact wrN p hp)
        have F₄ : Fr h₀ L h₄ m := ⟨F₃.ns.at' fun o e => hs₄ _ o (Ne.symm hCL) e, fun c o e => hs₄ c o (fun q => by rw [q, hC₀] at e; cases e) (F₃.keep c o e), F₃.above⟩
        have N₄ : News h₀ L h₄ ((s₂.heap.objs.size, lst zs) :: news) := fun q hq => by
          have z := N₃ q hq
          refine ⟨hs₄ _ _ ?_ z.1, z.2⟩
          rcases List.mem_cons.mp hq with rfl | hq
          · exact hDC
          · exact neN (by have := Z.below q hq; omega)
        refine helt _ _ _ x y t u _ _ hn₄ (by simp [hab]) (by simp) fun t' tk₅ => ?_
        have zD := (N₄ (s₂.heap.objs.size, lst zs) List.mem_cons_self).1
        refine append_at (hsz := by show zs.toArray.size ≤ sizeLine; rw [List.size_toArray, hzl]; omega) zD fun h₆ hs₆ hD₆ => ?_
        refine ⟨n + 1 - (i + 1), by omega, h₆, tk₅, i + 1, zs ++ [.int (f x y) t'], _, rfl, hlt, rfl, by rw [List.length_append, List.length_singleton, hzl], ?_, ?_, F₄.change hs₆ hDL hD₀, hn₄.sameBut hs₆ (Ne.symm hDC), fun q hq => ?_⟩
        · have e : (List.zipWith f xs ys).take (i + 1) = (List.zipWith f xs ys).take i ++ [f x y] := by
            rw [List.take_add_one, List.getElem?_zipWith, hx2, hy2]; rfl
          rw [e]
          exact IntsAre.append hz (.cons _ _ .nil)
        · exact W.frame (i + 1) h₄ h₆ st₄ (fun b hb o e => hs₆.extBut b o (neN (by have := fpm b hb; omega)) e)
        · rcases List.mem_cons.mp hq with rfl | hq
          · exact ⟨hD₆.trans (congrArg some (lst_snoc zs _)), hDL, hD₀⟩
          · have z := N₄ q (List.mem_cons_of_mem _ hq)
            exact ⟨hs₆.extBut _ _ (neN (by have := Z.below q hq; omega)) z.1, z.2⟩
      · have hin : i = n := Nat.le_antisymm hi (Nat.not_lt.mp hlt)
        subst hin
        refine W.done _ _ _ hst fun h₂ tk₂ hk₂ => ?_
        have F₂ := fr_wr F' hk₂ wrL wr0
        have N₂ := news_wr N' hk₂ (fun p hp => by
          rcases List.mem_cons.mp hp with rfl | hp
          · exact wrD
          · exact wrN p hp)
        rw [List.take_of_length_le (by rw [List.length_zipWith]; omega)] at hz
        exact hRR _ _ h₂ tk₂ m' zs F₂ N₂ (fun p hp => by have := Z.below p hp; omega) (hn'.at' fun o e => hk₂ _ o wrC e) hC₀ hCL hDC (fun p hp => neN (by have := Z.below p hp; omega)) hz
    · rcases List.mem_cons.mp hp with rfl | hp
      · exact ⟨hacc, hDL, hD₀⟩
      · exact ⟨old _ _ (Z.N p hp).1, (Z.N p hp).2⟩
  have hz₁ : IsZip h₁ (B + 4) (B + 2) (B + 3) .none := by
    have := st0; rw [hSt] at this; exact this.1
  exact codeAny_compStart_list (loop _ rfl) (wpAny_pyIter_zip hz₁ (loop _ rfl))
theorem zc_Assign {elt iter : PySem.Expr} {a b y : Str} {pa pb tp py : Pos} {kk : Nat} {scope : Scope} {cl : List (Str × Addr)} {pos spos : Pos} {Q : Flow → Shared → Prop} (f : Int → Int → Int) (F₀ : Fr h₀ L s.heap m) (hh : A.handled = none) (hLe : env.locals = L)
    (hsw : swapsWith (.ListComp elt [⟨.Tuple [.Name a pa, .Name b pb] kk tp, iter, [], 0⟩] scope pos) (some (.Name y py)) spos.line env = pure true)
    (hclos : closureFor scope env = pure cl) (hcell : ∀ z ∈ scope.names, z.2 ≠ .cell) (hkind : scope.kind = .function)
    (hnames : ∀ z ∈ scope.names, z.2 = .local → scope.names.lookup z.1 = some .local) (hxa : scope.names.lookup a = some .local) (hxb : scope.names.lookup b = some .local) (hab : ¬ a = b)
    (hy : env.kindOf y = some .local) (hp : (env.scope.kind == .class || (env.scope.kind == .module && env.locals != env.globals)) = false)
    (helt : ∀ (C : Addr) (m₂ : Str → Option Value) (s' : Shared) (x y : Int) (t u : Tok) (Q' E' : Value → Shared → Prop), s'.heap.Ns C m₂ → m₂ a = some (.int x t) → m₂ b = some (.int y u) → (∀ t' tk, Q' (.int (f x y) t') { s' with toks := tk }) → wpAny (model prog w) A (eval elt (compEnvC scope cl C env)) Q' E' s')
    (h : wpAny (model prog w) A (eval iter env) (fun xv s₁ => ∃ (B l1 l2 : Nat) (vs ws : List Value) (xs ys : List Int) (news : List (Addr × Obj)), xv = .ref (B + 4) ∧ ZAt h₀ s₁.heap L m B l1 l2 vs ws news ∧ IntsAre vs xs ∧ IntsAre ws ys ∧ vs.length ≤ sizeLine ∧
      ∀ (D : Addr) h' tk zs, Fr h₀ L h' (fun z => if z = y then some (.ref D) else m z) → News h₀ L h' ((D, lst zs) :: news) → (∀ p ∈ news, @LT.lt Nat _ p.1 D) → IntsAre zs (List.zipWith f xs ys) → Q .next { s₁ with heap := h', toks := tk }) E s)
    (hs : ∀ x, foldedSetIterable iter env x = pure x := by intro _; rfl) :
    wpAny (model prog w) A (exec (.Assign [.Name y py] (.ListComp elt [⟨.Tuple [.Name a pa, .Name b pb] kk tp, iter, [], 0⟩] scope pos) spos) env) Q E s := by
  subst hLe
  rw [exec_Assign_Name_used _ _ _ _ hsw]
  refine wpAny_bind (wpAny_standAt (wpAny_bind ?_))
  show wpAny _ A (do let _ ← comprehension (.ListComp elt [⟨.Tuple [.Name a pa, .Name b pb] kk tp, iter, [], 0⟩] scope pos) scope env _ (newList []) false (eval iter env) (some (assign (.Name y py) env))) _ _ s
  refine wpAny_bind (wpAny_mono (wpAny_comprehension_free (use := some (assign (.Name y py) env)) (Q := fun _ s' => Q .next s') rfl hs hclos hkind hnames
    (wpAny_mono h (fun xv s₁ h₁ => ?_) fun _ _ e => e)) (fun _ s' hq => wpAny_pure (wpAny_pure hq)) fun _ _ e => e)
  obtain ⟨B, l1, l2, vs, ws, xs, ys, news, rfl, Z, hv, hw, hsz, fin⟩ := h₁
  refine wpAny_pyIter_zip Z.z ?_
  refine zc_block f hh hcell hkind hxa hxb hab helt Z hv hw hsz ?_
  intro D C h' tk m' zs F' N' lt hn hC₀ hCL hDC offC hz
  show wpAny _ A (assign (.Name y py) env (.ref D)) _ _ _
  refine wpAny_assign_Name (wpAny_storeName_local hy F'.ns (fun h₂ hn₂ hs₂ => ?_) hp)
  have hL₀ : h₀.get? env.locals = none := Heap.get?_none_of_le F'.above
  have F₂ : Fr h₀ env.locals h₂ (fun z => if z = y then some (.ref D) else m z) := ⟨hn₂, fun b o e => hs₂.extBut b o (fun q => by rw [q, hL₀] at e; cases e) (F'.keep b o e), F'.above⟩
  refine ⟨m', hn.sameBut hs₂ hCL, fun h'' hs'' => fin D h'' _ zs (F₂.change hs'' hCL hC₀) (fun p hp => ?_) lt hz⟩
  have z : h₂.get? p.1 = some p.2 := hs₂.extBut _ _ (N' p hp).2.1 (N' p hp).1
  refine ⟨hs''.extBut _ _ ?_ z, (N' p hp).2⟩
  rcases List.mem_cons.mp hp with rfl | hp
  · exact hDC
  · exact offC p hp
end
end
theorem top_C7 : True := by
  w_top off
  trivial
section
open PySem PySem.W PyProof.Rows PySem.Calls PySem.Spec
set_option maxRecDepth 100000
set_option maxHeartbeats 8000000
local macro_rules | `(tactic| ktr_unf) => `(tactic| repeat' ((fail_if_success (with_reducible show wpAny _ _ (exec (Stmt.While _ _ _ _) _) _ _ _)); (fail_if_success (with_reducible show wpAny _ _ (pyIter (Value.ref _)) (fun it s₂ => LoopAtV _ _ _ _ _ _ _ _ _ it s₂) _ _)); (fail_if_success (with_reducible show wpAny _ _ (PySem.call (Value.ref 282) _) _ _ _)); (fail_if_success (with_reducible show wpAny _ _ (PySem.call (Value.ref 435) _) _ _ _)); (fail_if_success (with_reducible show wpAny _ _ (PySem.call (Value.ref 49) _) _ _ _)); (fail_if_success (with_reducible show wpAny _ _ (PySem.call (Value.ref 279) _) _ _ _)); (fail_if_success (with_reducible show KCfEl _ _ _ _)); (fail_if_success (with_reducible show LCg.CompSrc _ _ _ _ _ _ _ _ _ _ _ _ _ _)); (fail_if_success (with_reducible show wpAny _ _ (PySem.call (Value.ref _) [Value.ref _]) _ _ _)); (fail_if_success (with_reducible show wpAny _ _ (exec (Stmt.Assign [Expr.Name _ _] (Expr.ListComp _ _ _ _) _) _) _ _ _)); (fail_if_success (with_reducible show wpAny _ _ (PySem.call (Value.type "zip") _) _ _ _)); (fail_if_success (with_reducible show InvEndN _ _ _ _ _ _ _)); (fail_if_success (with_reducible show WhileStep _ _ _ _ _ _ _)); (fail_if_success (with_reducible show TurnEnd _ _ _ _ _ _ _ _ _)); (fail_if_success (with_reducible show wpAny _ _ (PySem.call (Value.ref 340) _) _ _ _)); (fail_if_success (with_reducible show wpAny _ _ (PySem.call (Value.ref 380) _) _ _ _)); (fail_if_success (with_reducible show wpAny _ _ (PySem.call (Value.ref 423) _) _ _ _)); (fail_if_success (with_reducible show wpAny _ _ (PySem.call (Value.ref 442) _) _ _ _)); first | (k_unfold; (try dsimp only)) | (k_end; wrow_close) | walk1 | (dsimp only; walk1) | (leave1; walk_say "STEP leave1"; try dsimp only) | fail "no step"))
local macro_rules | `(tactic| k_qdec) => `(tactic| decide +kernel)
local macro_rules | `(tactic| walk_at "binaryOp Pow int int") => `(tactic| (refine pow_int ?kb1 ?kb2 ?_; (case kb1 => assumption); (case kb2 => assumption)))

theorem permg {h₀ h : Heap} {L : Addr} {a b c d r s t u : Addr × Obj} (N : News h₀ L h [a, b, c, d, r, s, t, u]) : News h₀ L h (r :: s :: t :: [a, u]) :=
  cb_drop N (List.forall_mem_cons.mpr ⟨.tail _ (.tail _ (.tail _ (.tail _ (.head _)))), List.forall_mem_cons.mpr ⟨.tail _ (.tail _ (.tail _ (.tail _ (.tail _ (.head _))))), List.forall_mem_cons.mpr ⟨.tail _ (.tail _ (.tail _ (.tail _ (.tail _ (.tail _ (.head _)))))), List.forall_mem_cons.mpr ⟨.head _, List.forall_mem_cons.mpr ⟨.tail _ (.tail _ (.tail _ (.tail _ (.tail _ (.tail _ (.tail _ (.head _))))))), List.forall_mem_nil _⟩⟩⟩⟩⟩)
theorem permx {h₀ h : Heap} {L : Addr} {x d p q c r s t a u : Addr × Obj} (N : News h₀ L h (x :: d :: p :: q :: c :: r :: s :: t :: [a, u])) : News h₀ L h (x :: d :: c :: r :: s :: t :: [p, q, a, u]) :=
  cb_drop N (List.forall_mem_cons.mpr ⟨.head _, List.forall_mem_cons.mpr ⟨.tail _ (.head _), List.forall_mem_cons.mpr ⟨.tail _ (.tail _ (.tail _ (.tail _ (.head _)))), List.forall_mem_cons.mpr ⟨.tail _ (.tail _ (.tail _ (.tail _ (.tail _ (.head _))))), List.forall_mem_cons.mpr ⟨.tail _ (.tail _ (.tail _ (.tail _ (.tail _ (.tail _ (.head _)))))), List.forall_mem_cons.mpr ⟨.tail _ (.tail _ (.tail _ (.tail _ (.tail _ (.tail _ (.tail _ (.head _))))))), List.forall_mem_cons.mpr ⟨.tail _ (.tail _ (.head _)), List.forall_mem_cons.mpr ⟨.tail _ (.tail _ (.tail _ (.head _))), List.forall_mem_cons.mpr ⟨.tail _ (.tail _ (.tail _ (.tail _ (.tail _ (.tail _ (.tail _ (.tail _ (.head _)))))))), List.forall_mem_cons.mpr ⟨.tail _ (.tail _ (.tail _ (.tail _ (.tail _ (.tail _ (.tail _ (.tail _ (.tail _ (.head _))))))))), List.forall_mem_nil _⟩⟩⟩⟩⟩⟩⟩⟩⟩⟩)
theorem elt1000 {k mm : Int} (h : 0 ≤ k) (h1 : k < 0 + ((mm - 0).toNat : Int)) (h2 : mm ≤ 256) : 5 + k < 1000 := by omega
theorem permp {h₀ h : Heap} {L : Addr} {l m1 m2 m3 x d c r s t p q a u : Addr × Obj} (N : News h₀ L h [l, m1, m2, m3, x, d, c, r, s, t, p, q, a, u]) : News h₀ L h [l, r, s, t, m1, m2, m3, x, d, c, a, u] :=
  cb_drop N (List.forall_mem_cons.mpr ⟨.head _, List.forall_mem_cons.mpr ⟨.tail _ (.tail _ (.tail _ (.tail _ (.tail _ (.tail _ (.tail _ (.head _))))))), List.forall_mem_cons.mpr ⟨.tail _ (.tail _ (.tail _ (.tail _ (.tail _ (.tail _ (.tail _ (.tail _ (.head _)))))))), List.forall_mem_cons.mpr ⟨.tail _ (.tail _ (.tail _ (.tail _ (.tail _ (.tail _ (.tail _ (.tail _ (.tail _ (.head _))))))))), List.forall_mem_cons.mpr ⟨.tail _ (.head _), List.forall_mem_cons.mpr ⟨.tail _ (.tail _ (.head _)), List.forall_mem_cons.mpr ⟨.tail _ (.tail _ (.tail _ (.head _))), List.forall_mem_cons.mpr ⟨.tail _ (.tail _ (.tail _ (.tail _ (.head _)))), List.forall_mem_cons.mpr ⟨.tail _ (.tail _ (.tail _ (.tail _ (.tail _ (.head _))))), List.forall_mem_cons.mpr ⟨.tail _ (.tail _ (.tail _ (.tail _ (.tail _ (.tail _ (.head _)))))), List.forall_mem_cons.mpr ⟨.tail _ (.tail _ (.tail _ (.tail _ (.tail _ (.tail _ (.tail _ (.tail _ (.tail _ (.tail _ (.tail _ (.tail _ (.head _)))))))))))), List.forall_mem_cons.mpr ⟨.tail _ (.tail _ (.tail _ (.tail _ (.tail _ (.tail _ (.tail _ (.tail _ (.tail _ (.tail _ (.tail _ (.tail _ (.tail _ (.head _))))))))))))), List.forall_mem_nil _⟩⟩⟩⟩⟩⟩⟩⟩⟩⟩⟩⟩)
theorem permq {h₀ h : Heap} {L : Addr} {qp qd pp pd l r s t m1 m2 m3 x d c a u : Addr × Obj} (N : News h₀ L h [qp, qd, pp, pd, l, r, s, t, m1, m2, m3, x, d, c, a, u]) : News h₀ L h [m1, m2, m3, qp, qd, l, r, s, t, x, d, c, a, u] :=
  cb_drop N (List.forall_mem_cons.mpr ⟨.tail _ (.tail _ (.tail _ (.tail _ (.tail _ (.tail _ (.tail _ (.tail _ (.head _)))))))), List.forall_mem_cons.mpr ⟨.tail _ (.tail _ (.tail _ (.tail _ (.tail _ (.tail _ (.tail _ (.tail _ (.tail _ (.head _))))))))), List.forall_mem_cons.mpr ⟨.tail _ (.tail _ (.tail _ (.tail _ (.tail _ (.tail _ (.tail _ (.tail _ (.tail _ (.tail _ (.head _)))))))))), List.forall_mem_cons.mpr ⟨.head _, List.forall_mem_cons.mpr ⟨.tail _ (.head _), List.forall_mem_cons.mpr ⟨.tail _ (.tail _ (.tail _ (.tail _ (.head _)))), List.forall_mem_cons.mpr ⟨.tail _ (.tail _ (.tail _ (.tail _ (.tail _ (.head _))))), List.forall_mem_cons.mpr ⟨.tail _ (.tail _ (.tail _ (.tail _ (.tail _ (.tail _ (.head _)))))), List.forall_mem_cons.mpr ⟨.tail _ (.tail _ (.tail _ (.tail _ (.tail _ (.tail _ (.tail _ (.head _))))))), List.forall_mem_cons.mpr ⟨.tail _ (.tail _ (.tail _ (.tail _ (.tail _ (.tail _ (.tail _ (.tail _ (.tail _ (.tail _ (.tail _ (.head _))))))))))), List.forall_mem_cons.mpr ⟨.tail _ (.tail _ (.tail _ (.tail _ (.tail _ (.tail _ (.tail _ (.tail _ (.tail _ (.tail _ (.tail _ (.tail _ (.head _)))))))))))), List.forall_mem_cons.mpr ⟨.tail _ (.tail _ (.tail _ (.tail _ (.tail _ (.tail _ (.tail _ (.tail _ (.tail _ (.tail _ (.tail _ (.tail _ (.tail _ (.head _))))))))))))), List.forall_mem_cons.mpr ⟨.tail _ (.tail _ (.tail _ (.tail _ (.tail _ (.tail _ (.tail _ (.tail _ (.tail _ (.tail _ (.tail _ (.tail _ (.tail _ (.tail _ (.head _)))))))))))))), List.forall_mem_cons.mpr ⟨.tail _ (.tail _ (.tail _ (.tail _ (.tail _ (.tail _ (.tail _ (.tail _ (.tail _ (.tail _ (.tail _ (.tail _ (.tail _ (.tail _ (.tail _ (.head _))))))))))))))), List.forall_mem_nil _⟩⟩⟩⟩⟩⟩⟩⟩⟩⟩⟩⟩⟩⟩)
theorem rowL_ex : ∃ f : List Int → Int → List Int, ∀ (ns : List Int) (mm : Int) , f ns mm = List.map (fun k => drawV ns (5 + k)) (rangeKs 0 (mm - 0).toNat) ++ (List.replicate (256 - mm).toNat [0]).flatten := ⟨_, fun _ _ => rfl⟩
noncomputable def rowL : List Int → Int → List Int := Classical.choose rowL_ex
theorem rowL_def (ns : List Int) (mm : Int)  : rowL ns mm = List.map (fun k => drawV ns (5 + k)) (rangeKs 0 (mm - 0).toNat) ++ (List.replicate (256 - mm).toNat [0]).flatten := Classical.choose_spec rowL_ex ns mm
theorem rowL_eq (ns : List Int) (mm : Int) : List.map (fun k => drawV ns (5 + k)) (rangeKs 0 (mm - 0).toNat) ++ (List.replicate (256 - mm).toNat [0]).flatten = rowL ns mm := by rw [rowL_def]
theorem rowL_len {ns : List Int} {mm : Int} (h : 0 ≤ mm ∧ mm ≤ 256) : (rowL ns mm).length = 256 := by
  rw [rowL_def]
  rw [List.length_append, List.length_map, List.length_flatten, List.map_replicate, List.sum_replicate_nat, rangeKs_length]
  simp only [List.length_singleton]
  omega
theorem polyne {PP PD l R DR Z MP MD mc XP XD gc GP GD row cell : Addr} {o o1 o2 o3 o4 o5 o6 o7 o8 : Obj} {more : List (Addr × Obj)} (p1 : @LT.lt Nat _ PD PP) (p2 : AllLt PD ((l, o) :: more))
  (l1 : @LT.lt Nat _ MP l ∧ @LT.lt Nat _ MD l ∧ @LT.lt Nat _ mc l ∧ @LT.lt Nat _ XP l ∧ @LT.lt Nat _ XD l ∧ @LT.lt Nat _ gc l ∧ @LT.lt Nat _ R l ∧ @LT.lt Nat _ DR l ∧ @LT.lt Nat _ Z l ∧ @LT.lt Nat _ GP l ∧ @LT.lt Nat _ GD l ∧ @LT.lt Nat _ row l ∧ @LT.lt Nat _ cell l) :
    PP ≠ l ∧ PD ≠ l ∧ R ≠ l ∧ DR ≠ l ∧ Z ≠ l ∧ ∀ p ∈ [(MP, o1), (MD, o2), (mc, o3), (XP, o4), (XD, o5), (gc, o6), (row, o7), (cell, o8)], p.1 ≠ l := by
  obtain ⟨a1, a2, a3, a4, a5, a6, a7, a8, a9, a10, a11, a12, a13⟩ := l1
  have h : @LT.lt Nat _ l PD := p2.1
  refine ⟨Nat.ne_of_gt (Nat.lt_trans h p1), Nat.ne_of_gt h, Nat.ne_of_lt a7, Nat.ne_of_lt a8, Nat.ne_of_lt a9, ?_⟩
  intro p hp
  simp only [List.mem_cons, List.not_mem_nil, or_false] at hp
  rcases hp with h | h | h | h | h | h | h | h <;> rw [h]
  · exact Nat.ne_of_lt a1
  · exact Nat.ne_of_lt a2
  · exact Nat.ne_of_lt a3
  · exact Nat.ne_of_lt a4
  · exact Nat.ne_of_lt a5
  · exact Nat.ne_of_lt a6
  · exact Nat.ne_of_lt a12
  · exact Nat.ne_of_lt a13
theorem permv {h₀ h : Heap} {L : Addr} {v1 v2 v3 m1 m2 m3 qp qd l r s t x d c a u : Addr × Obj} (N : News h₀ L h [v1, v2, v3, m1, m2, m3, qp, qd, l, r, s, t, x, d, c, a, u]) : News h₀ L h [v1, v2, v3, r, s, t, x, d, c, a, u] :=
  cb_drop N (List.forall_mem_cons.mpr ⟨.head _, List.forall_mem_cons.mpr ⟨.tail _ (.head _), List.forall_mem_cons.mpr ⟨.tail _ (.tail _ (.head _)), List.forall_mem_cons.mpr ⟨.tail _ (.tail _ (.tail _ (.tail _ (.tail _ (.tail _ (.tail _ (.tail _ (.tail _ (.head _))))))))), List.forall_mem_cons.mpr ⟨.tail _ (.tail _ (.tail _ (.tail _ (.tail _ (.tail _ (.tail _ (.tail _ (.tail _ (.tail _ (.head _)))))))))), List.forall_mem_cons.mpr ⟨.tail _ (.tail _ (.tail _ (.tail _ (.tail _ (.tail _ (.tail _ (.tail _ (.tail _ (.tail _ (.tail _ (.head _))))))))))), List.forall_mem_cons.mpr ⟨.tail _ (.tail _ (.tail _ (.tail _ (.tail _ (.tail _ (.tail _ (.tail _ (.tail _ (.tail _ (.tail _ (.tail _ (.head _)))))))))))), List.forall_mem_cons.mpr ⟨.tail _ (.tail _ (.tail _ (.tail _ (.tail _ (.tail _ (.tail _ (.tail _ (.tail _ (.tail _ (.tail _ (.tail _ (.tail _ (.head _))))))))))))), List.forall_mem_cons.mpr ⟨.tail _ (.tail _ (.tail _ (.tail _ (.tail _ (.tail _ (.tail _ (.tail _ (.tail _ (.tail _ (.tail _ (.tail _ (.tail _ (.tail _ (.head _)))))))))))))), List.forall_mem_cons.mpr ⟨.tail _ (.tail _ (.tail _ (.tail _ (.tail _ (.tail _ (.tail _ (.tail _ (.tail _ (.tail _ (.tail _ (.tail _ (.tail _ (.tail _ (.tail _ (.head _))))))))))))))), List.forall_mem_cons.mpr ⟨.tail _ (.tail _ (.tail _ (.tail _ (.tail _ (.tail _ (.tail _ (.tail _ (.tail _ (.tail _ (.tail _ (.tail _ (.tail _ (.tail _ (.tail _ (.tail _ (.head _)))))))))))))))), List.forall_mem_nil _⟩⟩⟩⟩⟩⟩⟩⟩⟩⟩⟩)
theorem xne {XP XD gc R DR Z GP GD : Addr} {o1 o2 o3 : Obj} {more : List (Addr × Obj)} (x1 : AllLt XD ((GP, o1) :: (GD, o2) :: (gc, o3) :: more)) (x2 : @LT.lt Nat _ XD XP) (n3 : R ≠ gc) (n4 : DR ≠ gc) (n5 : Z ≠ gc) :
    XP ≠ gc ∧ XD ≠ gc ∧ R ≠ gc ∧ DR ≠ gc ∧ Z ≠ gc := by
  obtain ⟨_, _, h, _⟩ := x1
  exact ⟨Nat.ne_of_gt (Nat.lt_trans h x2), Nat.ne_of_gt h, n3, n4, n5⟩
theorem vne {VP VD vc MP MD mc QP QD l R DR Z XP XD gc row cell : Addr} {o1 o2 o3 o4 o5 o6 o7 o8 o9 p1 p2 p3 p4 p5 : Obj} (v1 : AllLt vc [(MP, o1), (MD, o2), (mc, o3), (QP, o4), (QD, o5), (l, o6), (R, o7), (DR, o8), (Z, o9), (XP, p1), (XD, p2), (gc, p3), (row, p4), (cell, p5)]) (v2 : @LT.lt Nat _ vc VD) (v3 : @LT.lt Nat _ VD VP) :
    VP ≠ vc ∧ VD ≠ vc ∧ R ≠ vc ∧ DR ≠ vc ∧ Z ≠ vc ∧ XP ≠ vc ∧ XD ≠ vc ∧ gc ≠ vc ∧ row ≠ vc ∧ cell ≠ vc := by
  obtain ⟨_, _, _, _, _, _, a1, a2, a3, a4, a5, a6, a7, a8, _⟩ := v1
  exact ⟨Nat.ne_of_gt (Nat.lt_trans v2 v3), Nat.ne_of_gt v2, Nat.ne_of_lt a1, Nat.ne_of_lt a2, Nat.ne_of_lt a3, Nat.ne_of_lt a4, Nat.ne_of_lt a5, Nat.ne_of_lt a6, Nat.ne_of_lt a7, Nat.ne_of_lt a8⟩
theorem startl {h₀ h : Heap} {L A : Addr} {o : Obj} {b : Addr × Obj} {l : List (Addr × Obj)} (N : News h₀ L h ((A, o) :: b :: l)) : ∃ W tl, W = A ∧ tl = l ∧ News h₀ L h ((W, o) :: tl) :=
  ⟨A, l, rfl, rfl, cb_drop N (by intro y hy; rcases List.mem_cons.mp hy with h | h <;> simp [h])⟩
theorem startr {h₀ h : Heap} {L A : Addr} {o : Obj} {l : List (Addr × Obj)} (N : News h₀ L h ((A, o) :: l)) : ∃ W, W = A ∧ News h₀ L h ((W, o) :: l) := ⟨A, rfl, N⟩
theorem want0 {ws : List Value} {row : List Int} {e : Int} (h : IntsAre ws (List.replicate (Int.toNat 256) [(0 : Int)]).flatten) : IntsAre ws (wantN row e 0) := by
  have : (List.replicate (Int.toNat 256) [(0 : Int)]).flatten = wantN row e 0 := by rw [wantN]; decide +kernel
  rw [← this]; exact h
theorem ix_bd (d : Int) : 0 ≤ d.fmod 256 ∧ d.fmod 256 < 256 := ⟨Int.fmod_nonneg_of_pos _ (by decide), Int.fmod_lt_of_pos _ (by decide)⟩
theorem ix_len {k : Int} {l : List Int} (h : l.length = 256) (h1 : k < 256) : k < (l.length : Int) := by rw [h]; exact h1
theorem ix_63 {k : Int} (h1 : k < 256) : k < 2 ^ 63 := by omega
theorem ie_bd {n : Nat} (d : Int) (h : n < 256) : 0 ≤ 0 + (n : Int) + d.fmod 2048 ∧ 0 + (n : Int) + d.fmod 2048 < 1000000 := by
  have h1 := Int.fmod_nonneg_of_pos d (show (0 : Int) < 2048 by decide)
  have h2 := Int.fmod_lt_of_pos d (show (0 : Int) < 2048 by decide)
  omega
theorem off_head {W I : Addr} {o o' : Obj} {l : List (Addr × Obj)} (h : ∀ p ∈ (W, o) :: l, p.1 ≠ I) : ∀ p ∈ (W, o') :: l, p.1 ≠ I := by
  intro p hp
  rcases List.mem_cons.mp hp with e | e
  · rw [e]; exact h (W, o) (.head _)
  · exact h _ (.tail _ e)
theorem wantS {ws : List Value} {row : List Int} {e : Int} {n : Nat} (h : IntsAre ws ((wantN row e n).set ((0 + (n : Int) + e).fmod 256).toNat (((if ((0 + (n : Int) + e).fdiv 256).fmod 2 = 1 then -1 else 1) * row.getD (0 + (n : Int)).toNat 0).fmod 3329))) : IntsAre ws (wantN row e (n + 1)) := by
  rw [wantN]; unfold signV; exact h
theorem fromne {l W VP VD vc R DR Z XP XD gc row cell : Addr} {o1 o2 o3 o4 o5 o6 : Obj} (vn : VP ≠ vc ∧ VD ≠ vc ∧ R ≠ vc ∧ DR ≠ vc ∧ Z ≠ vc ∧ XP ≠ vc ∧ XD ≠ vc ∧ gc ≠ vc ∧ row ≠ vc ∧ cell ≠ vc)
  (l1 : @LT.lt Nat _ l W ∧ @LT.lt Nat _ VP W ∧ @LT.lt Nat _ VD W ∧ @LT.lt Nat _ vc W ∧ @LT.lt Nat _ R W ∧ @LT.lt Nat _ DR W ∧ @LT.lt Nat _ Z W ∧ @LT.lt Nat _ XP W ∧ @LT.lt Nat _ XD W ∧ @LT.lt Nat _ gc W ∧ @LT.lt Nat _ row W ∧ @LT.lt Nat _ cell W) :
    ∀ p ∈ [(W, o1), (XP, o2), (XD, o3), (gc, o4), (row, o5), (cell, o6)], p.1 ≠ vc := by
  obtain ⟨_, _, _, _, _, a1, a2, a3, a4, a5⟩ := vn
  intro p hp
  simp only [List.mem_cons, List.not_mem_nil, or_false] at hp
  rcases hp with h | h | h | h | h | h <;> rw [h] <;> first | assumption | exact Nat.ne_of_gt l1.2.2.2.1
theorem permf {h₀ h : Heap} {L : Addr} {w v1 v2 v3 r s t x d c a u : Addr × Obj} (N : News h₀ L h [w, v1, v2, v3, r, s, t, x, d, c, a, u]) : News h₀ L h [v1, v2, v3, r, s, t, w, x, d, c, a, u] :=
  cb_drop N (List.forall_mem_cons.mpr ⟨.tail _ (.head _), List.forall_mem_cons.mpr ⟨.tail _ (.tail _ (.head _)), List.forall_mem_cons.mpr ⟨.tail _ (.tail _ (.tail _ (.head _))), List.forall_mem_cons.mpr ⟨.tail _ (.tail _ (.tail _ (.tail _ (.head _)))), List.forall_mem_cons.mpr ⟨.tail _ (.tail _ (.tail _ (.tail _ (.tail _ (.head _))))), List.forall_mem_cons.mpr ⟨.tail _ (.tail _ (.tail _ (.tail _ (.tail _ (.tail _ (.head _)))))), List.forall_mem_cons.mpr ⟨.head _, List.forall_mem_cons.mpr ⟨.tail _ (.tail _ (.tail _ (.tail _ (.tail _ (.tail _ (.tail _ (.head _))))))), List.forall_mem_cons.mpr ⟨.tail _ (.tail _ (.tail _ (.tail _ (.tail _ (.tail _ (.tail _ (.tail _ (.head _)))))))), List.forall_mem_cons.mpr ⟨.tail _ (.tail _ (.tail _ (.tail _ (.tail _ (.tail _ (.tail _ (.tail _ (.tail _ (.head _))))))))), List.forall_mem_cons.mpr ⟨.tail _ (.tail _ (.tail _ (.tail _ (.tail _ (.tail _ (.tail _ (.tail _ (.tail _ (.tail _ (.head _)))))))))), List.forall_mem_cons.mpr ⟨.tail _ (.tail _ (.tail _ (.tail _ (.tail _ (.tail _ (.tail _ (.tail _ (.tail _ (.tail _ (.tail _ (.head _))))))))))), List.forall_mem_nil _⟩⟩⟩⟩⟩⟩⟩⟩⟩⟩⟩⟩)
theorem permr {h₀ h : Heap} {L : Addr} {pl l fp fd v1 v2 v3 r s t w x d c a u : Addr × Obj} (N : News h₀ L h [pl, l, fp, fd, v1, v2, v3, r, s, t, w, x, d, c, a, u]) : News h₀ L h [pl, r, s, t, x, d, c, u] :=
  cb_drop N (List.forall_mem_cons.mpr ⟨.head _, List.forall_mem_cons.mpr ⟨.tail _ (.tail _ (.tail _ (.tail _ (.tail _ (.tail _ (.tail _ (.head _))))))), List.forall_mem_cons.mpr ⟨.tail _ (.tail _ (.tail _ (.tail _ (.tail _ (.tail _ (.tail _ (.tail _ (.head _)))))))), List.forall_mem_cons.mpr ⟨.tail _ (.tail _ (.tail _ (.tail _ (.tail _ (.tail _ (.tail _ (.tail _ (.tail _ (.head _))))))))), List.forall_mem_cons.mpr ⟨.tail _ (.tail _ (.tail _ (.tail _ (.tail _ (.tail _ (.tail _ (.tail _ (.tail _ (.tail _ (.tail _ (.head _))))))))))), List.forall_mem_cons.mpr ⟨.tail _ (.tail _ (.tail _ (.tail _ (.tail _ (.tail _ (.tail _ (.tail _ (.tail _ (.tail _ (.tail _ (.tail _ (.head _)))))))))))), List.forall_mem_cons.mpr ⟨.tail _ (.tail _ (.tail _ (.tail _ (.tail _ (.tail _ (.tail _ (.tail _ (.tail _ (.tail _ (.tail _ (.tail _ (.tail _ (.head _))))))))))))), List.forall_mem_cons.mpr ⟨.tail _ (.tail _ (.tail _ (.tail _ (.tail _ (.tail _ (.tail _ (.tail _ (.tail _ (.tail _ (.tail _ (.tail _ (.tail _ (.tail _ (.tail _ (.head _))))))))))))))), List.forall_mem_nil _⟩⟩⟩⟩⟩⟩⟩⟩)
theorem perms {h₀ h : Heap} {L : Addr} {qp qd pp pd l r s t x d c u : Addr × Obj} (N : News h₀ L h [qp, qd, pp, pd, l, r, s, t, x, d, c, u]) : News h₀ L h [qp, qd, l, r, s, t, x, d, c, u] :=
  cb_drop N (List.forall_mem_cons.mpr ⟨.head _, List.forall_mem_cons.mpr ⟨.tail _ (.head _), List.forall_mem_cons.mpr ⟨.tail _ (.tail _ (.tail _ (.tail _ (.head _)))), List.forall_mem_cons.mpr ⟨.tail _ (.tail _ (.tail _ (.tail _ (.tail _ (.head _))))), List.forall_mem_cons.mpr ⟨.tail _ (.tail _ (.tail _ (.tail _ (.tail _ (.tail _ (.head _)))))), List.forall_mem_cons.mpr ⟨.tail _ (.tail _ (.tail _ (.tail _ (.tail _ (.tail _ (.tail _ (.head _))))))), List.forall_mem_cons.mpr ⟨.tail _ (.tail _ (.tail _ (.tail _ (.tail _ (.tail _ (.tail _ (.tail _ (.head _)))))))), List.forall_mem_cons.mpr ⟨.tail _ (.tail _ (.tail _ (.tail _ (.tail _ (.tail _ (.tail _ (.tail _ (.tail _ (.head _))))))))), List.forall_mem_cons.mpr ⟨.tail _ (.tail _ (.tail _ (.tail _ (.tail _ (.tail _ (.tail _ (.tail _ (.tail _ (.tail _ (.head _)))))))))), List.forall_mem_cons.mpr ⟨.tail _ (.tail _ (.tail _ (.tail _ (.tail _ (.tail _ (.tail _ (.tail _ (.tail _ (.tail _ (.tail _ (.head _))))))))))), List.forall_mem_nil _⟩⟩⟩⟩⟩⟩⟩⟩⟩⟩)
theorem permt {h₀ h : Heap} {L : Addr} {m1 m2 m3 qp qd l r s t x d c u : Addr × Obj} (N : News h₀ L h [m1, m2, m3, qp, qd, l, r, s, t, x, d, c, u]) : News h₀ L h [m1, m2, m3, r, s, t, x, d, c, u] :=
  cb_drop N (List.forall_mem_cons.mpr ⟨.head _, List.forall_mem_cons.mpr ⟨.tail _ (.head _), List.forall_mem_cons.mpr ⟨.tail _ (.tail _ (.head _)), List.forall_mem_cons.mpr ⟨.tail _ (.tail _ (.tail _ (.tail _ (.tail _ (.tail _ (.head _)))))), List.forall_mem_cons.mpr ⟨.tail _ (.tail _ (.tail _ (.tail _ (.tail _ (.tail _ (.tail _ (.head _))))))), List.forall_mem_cons.mpr ⟨.tail _ (.tail _ (.tail _ (.tail _ (.tail _ (.tail _ (.tail _ (.tail _ (.head _)))))))), List.forall_mem_cons.mpr ⟨.tail _ (.tail _ (.tail _ (.tail _ (.tail _ (.tail _ (.tail _ (.tail _ (.tail _ (.head _))))))))), List.forall_mem_cons.mpr ⟨.tail _ (.tail _ (.tail _ (.tail _ (.tail _ (.tail _ (.tail _ (.tail _ (.tail _ (.tail _ (.head _)))))))))), List.forall_mem_cons.mpr ⟨.tail _ (.tail _ (.tail _ (.tail _ (.tail _ (.tail _ (.tail _ (.tail _ (.tail _ (.tail _ (.tail _ (.head _))))))))))), List.forall_mem_cons.mpr ⟨.tail _ (.tail _ (.tail _ (.tail _ (.tail _ (.tail _ (.tail _ (.tail _ (.tail _ (.tail _ (.tail _ (.tail _ (.head _)))))))))))), List.forall_mem_nil _⟩⟩⟩⟩⟩⟩⟩⟩⟩⟩)
theorem startp {h₀ h : Heap} {L A : Addr} {vs : List Value} {xs : List Int} {n : Nat} {l : List (Addr × Obj)} (N : News h₀ L h ((A, listOf vs.toArray n) :: l)) (hv : IntsAre vs xs) : ∃ W ws, W = A ∧ News h₀ L h ((W, listOf ws.toArray n) :: l) ∧ IntsAre ws xs := ⟨A, vs, rfl, N, hv⟩
theorem pairL_eq (c a : Int) : ((List.replicate (Int.toNat 256) [(0 : Int)]).flatten.set (Int.toNat 0) ((List.replicate (Int.toNat 256) [0]).flatten.getD (Int.toNat 0) 0 + c)).set a.toNat (((List.replicate (Int.toNat 256) [0]).flatten.set (Int.toNat 0) ((List.replicate (Int.toNat 256) [0]).flatten.getD (Int.toNat 0) 0 + c)).getD a.toNat 0 + 1) = pairL c a := by rw [pairL_def]
theorem polyne2 {PP PD l R DR Z t1 FP FD VP VD vc W RW XP XD gc cell : Addr} {o o4 o5 o6 o8 : Obj} {more : List (Addr × Obj)} (p1 : @LT.lt Nat _ PD PP) (p2 : AllLt PD ((l, o) :: more))
  (l1 : @LT.lt Nat _ t1 l ∧ @LT.lt Nat _ FP l ∧ @LT.lt Nat _ FD l ∧ @LT.lt Nat _ VP l ∧ @LT.lt Nat _ VD l ∧ @LT.lt Nat _ vc l ∧ @LT.lt Nat _ R l ∧ @LT.lt Nat _ DR l ∧ @LT.lt Nat _ Z l ∧ @LT.lt Nat _ W l ∧ @LT.lt Nat _ XP l ∧ @LT.lt Nat _ XD l ∧ @LT.lt Nat _ gc l ∧ @LT.lt Nat _ RW l ∧ @LT.lt Nat _ cell l) :
    PP ≠ l ∧ PD ≠ l ∧ R ≠ l ∧ DR ≠ l ∧ Z ≠ l ∧ ∀ p ∈ [(XP, o4), (XD, o5), (gc, o6), (cell, o8)], p.1 ≠ l := by
  obtain ⟨b1, b2, b3, b4, b5, b6, a7, a8, a9, b10, a4, a5, a6, b14, a13⟩ := l1
  have h : @LT.lt Nat _ l PD := p2.1
  refine ⟨Nat.ne_of_gt (Nat.lt_trans h p1), Nat.ne_of_gt h, Nat.ne_of_lt a7, Nat.ne_of_lt a8, Nat.ne_of_lt a9, ?_⟩
  intro p hp
  simp only [List.mem_cons, List.not_mem_nil, or_false] at hp
  rcases hp with h | h | h | h <;> rw [h]
  · exact Nat.ne_of_lt a4
  · exact Nat.ne_of_lt a5
  · exact Nat.ne_of_lt a6
  · exact Nat.ne_of_lt a13
theorem raisne {MP MD mc QP QD l R DR Z XP XD gc cell : Addr} {o1 o2 o3 o4 o5 o6 p1 p2 p3 p5 : Obj} (y1 : AllLt mc [(QP, o1), (QD, o2), (l, o3), (R, o4), (DR, o5), (Z, o6), (XP, p1), (XD, p2), (gc, p3), (cell, p5)]) (y4 : MP ≠ MD) (y5 : MP ≠ mc) (y6 : MD ≠ mc) :
    MP ≠ mc ∧ MD ≠ mc ∧ R ≠ mc ∧ DR ≠ mc ∧ Z ≠ mc ∧ XP ≠ mc ∧ XD ≠ mc ∧ gc ≠ mc ∧ cell ≠ mc := by
  obtain ⟨_, _, _, a1, a2, a3, a4, a5, a6, a8, _⟩ := y1
  exact ⟨y5, y6, Nat.ne_of_lt a1, Nat.ne_of_lt a2, Nat.ne_of_lt a3, Nat.ne_of_lt a4, Nat.ne_of_lt a5, Nat.ne_of_lt a6, Nat.ne_of_lt a8⟩
theorem ints_one {pv : List Value} {x : Int} {xs : List Int} (h : IntsAre pv (x :: xs)) : ∃ t ws, pv = .int x t :: ws ∧ IntsAre ws xs := by
  cases h with
  | cons i t h => exact ⟨t, _, rfl, h⟩
theorem ints_no {pv : List Value} (h : IntsAre pv []) : pv = [] := by cases h; rfl
theorem pa0 {pv : List Value} (h : IntsAre pv (PA 0)) : ∃ t0, pv = [.int 1 t0] := by
  have g0 : IntsAre pv [1] := h
  obtain ⟨t0, w0, e0, g1⟩ := ints_one g0
  have e1 := ints_no g1
  subst e0 e1
  exact ⟨t0, rfl⟩
theorem pa1 {pv : List Value} (h : IntsAre pv (PA 1)) : ∃ t0 t1, pv = [.int 1 t0, .int 1 t1] := by
  have g0 : IntsAre pv [1, 1] := h
  obtain ⟨t0, w0, e0, g1⟩ := ints_one g0
  obtain ⟨t1, w1, e1, g2⟩ := ints_one g1
  have e2 := ints_no g2
  subst e0 e1 e2
  exact ⟨t0, t1, rfl⟩
theorem pa2 {pv : List Value} (h : IntsAre pv (PA 2)) : ∃ t0 t1 t2, pv = [.int 1 t0, .int 2 t1, .int 1 t2] := by
  have g0 : IntsAre pv [1, 2, 1] := h
  obtain ⟨t0, w0, e0, g1⟩ := ints_one g0
  obtain ⟨t1, w1, e1, g2⟩ := ints_one g1
  obtain ⟨t2, w2, e2, g3⟩ := ints_one g2
  have e3 := ints_no g3
  subst e0 e1 e2 e3
  exact ⟨t0, t1, t2, rfl⟩
theorem pa3 {pv : List Value} (h : IntsAre pv (PA 3)) : ∃ t0 t1 t2 t3, pv = [.int 1 t0, .int 3 t1, .int 3 t2, .int 1 t3] := by
  have g0 : IntsAre pv [1, 3, 3, 1] := h
  obtain ⟨t0, w0, e0, g1⟩ := ints_one g0
  obtain ⟨t1, w1, e1, g2⟩ := ints_one g1
  obtain ⟨t2, w2, e2, g3⟩ := ints_one g2
  obtain ⟨t3, w3, e3, g4⟩ := ints_one g3
  have e4 := ints_no g4
  subst e0 e1 e2 e3 e4
  exact ⟨t0, t1, t2, t3, rfl⟩
theorem pa4 {pv : List Value} (h : IntsAre pv (PA 4)) : ∃ t0 t1 t2 t3 t4, pv = [.int 1 t0, .int 4 t1, .int 6 t2, .int 4 t3, .int 1 t4] := by
  have g0 : IntsAre pv [1, 4, 6, 4, 1] := h
  obtain ⟨t0, w0, e0, g1⟩ := ints_one g0
  obtain ⟨t1, w1, e1, g2⟩ := ints_one g1
  obtain ⟨t2, w2, e2, g3⟩ := ints_one g2
  obtain ⟨t3, w3, e3, g4⟩ := ints_one g3
  obtain ⟨t4, w4, e4, g5⟩ := ints_one g4
  have e5 := ints_no g5
  subst e0 e1 e2 e3 e4 e5
  exact ⟨t0, t1, t2, t3, t4, rfl⟩
theorem pa5 {pv : List Value} (h : IntsAre pv (PA 5)) : ∃ t0 t1 t2 t3 t4 t5, pv = [.int 1 t0, .int 5 t1, .int 10 t2, .int 10 t3, .int 5 t4, .int 1 t5] := by
  have g0 : IntsAre pv [1, 5, 10, 10, 5, 1] := h
  obtain ⟨t0, w0, e0, g1⟩ := ints_one g0
  obtain ⟨t1, w1, e1, g2⟩ := ints_one g1
  obtain ⟨t2, w2, e2, g3⟩ := ints_one g2
  obtain ⟨t3, w3, e3, g4⟩ := ints_one g3
  obtain ⟨t4, w4, e4, g5⟩ := ints_one g4
  obtain ⟨t5, w5, e5, g6⟩ := ints_one g5
  have e6 := ints_no g6
  subst e0 e1 e2 e3 e4 e5 e6
  exact ⟨t0, t1, t2, t3, t4, t5, rfl⟩
theorem pa6 {pv : List Value} (h : IntsAre pv (PA 6)) : ∃ t0 t1 t2 t3 t4 t5 t6, pv = [.int 1 t0, .int 6 t1, .int 15 t2, .int 20 t3, .int 15 t4, .int 6 t5, .int 1 t6] := by
  have g0 : IntsAre pv [1, 6, 15, 20, 15, 6, 1] := h
  obtain ⟨t0, w0, e0, g1⟩ := ints_one g0
  obtain ⟨t1, w1, e1, g2⟩ := ints_one g1
  obtain ⟨t2, w2, e2, g3⟩ := ints_one g2
  obtain ⟨t3, w3, e3, g4⟩ := ints_one g3
  obtain ⟨t4, w4, e4, g5⟩ := ints_one g4
  obtain ⟨t5, w5, e5, g6⟩ := ints_one g5
  obtain ⟨t6, w6, e6, g7⟩ := ints_one g6
  have e7 := ints_no g7
  subst e0 e1 e2 e3 e4 e5 e6 e7
  exact ⟨t0, t1, t2, t3, t4, t5, t6, rfl⟩
theorem pa_lt {n : Nat} {d : Int} (h : n < (d.fmod 7 - 0).toNat) : n = 0 ∨ n = 1 ∨ n = 2 ∨ n = 3 ∨ n = 4 ∨ n = 5 := by
  have h1 := Int.fmod_nonneg_of_pos d (show (0 : Int) < 7 by decide)
  have h2 := Int.fmod_lt_of_pos d (show (0 : Int) < 7 by decide)
  omega
theorem small7 (d : Int) : Builtin.Range.small 0 (d.fmod 7) 1 = true := by
  have h1 := Int.fmod_nonneg_of_pos d (show (0 : Int) < 7 by decide)
  have h2 := Int.fmod_lt_of_pos d (show (0 : Int) < 7 by decide)
  exact small_one (by omega) (by omega) (by omega) (by omega)
theorem startt {h₀ h : Heap} {L : Addr} {a : Addr × Obj} {l : List (Addr × Obj)} (N : News h₀ L h (a :: l)) : ∃ tl, tl = l ∧ News h₀ L h (a :: tl) := ⟨l, rfl, N⟩
theorem PA_len : ∀ n, (PA n).length = n + 1
  | 0 => rfl
  | n + 1 => by
    have h := PA_len n
    rw [PA, List.length_zipWith]
    simp only [List.length_append, List.length_cons, List.length_nil, h]
    omega
theorem pa_fit {n : Nat} {d : Int} (h : n < (d.fmod 7 - 0).toNat) (x : Int) : (PA n).length + [x].length ≤ sizeLine := by
  rw [PA_len, sizeLine_eq]
  have := pa_lt h
  simp only [List.length_singleton]; omega
theorem pa_fit2 {n : Nat} {d : Int} (h : n < (d.fmod 7 - 0).toNat) (x : Int) : [x].length + (PA n).length ≤ sizeLine := by
  rw [Nat.add_comm]; exact pa_fit h x
theorem pa_sz {n : Nat} {d : Int} (h : n < (d.fmod 7 - 0).toNat) {us : List Value} {x : Int} (hI : IntsAre us (PA n ++ [x])) : us.length ≤ sizeLine := by
  rw [hI.length, List.length_append]; exact pa_fit h x
theorem paS {zs : List Value} {n : Nat} (h : IntsAre zs (List.zipWith (fun a b => a + b) (PA n ++ [0]) ([0] ++ PA n))) : IntsAre zs (PA (n + 1)) := h
theorem permz {h₀ h : Heap} {L : Addr} {d d2 l2 d1 l1 i p : Addr × Obj} {tl : List (Addr × Obj)} (N : News h₀ L h (d :: d2 :: l2 :: d1 :: l1 :: i :: p :: tl)) : News h₀ L h (i :: d :: tl) :=
  cb_drop N (List.forall_mem_cons.mpr ⟨.tail _ (.tail _ (.tail _ (.tail _ (.tail _ (.head _))))), List.forall_mem_cons.mpr ⟨.head _, fun y hy => .tail _ (.tail _ (.tail _ (.tail _ (.tail _ (.tail _ (.tail _ (hy)))))))⟩⟩)
theorem offz {D I d2 l2 d1 l1 PC : Addr} {o o2 o3 o4 o5 oI oP : Obj} {tl : List (Addr × Obj)} (hI : ∀ p ∈ (PC, oP) :: tl, p.1 ≠ I) (lt : ∀ p ∈ (d2, o2) :: (l2, o3) :: (d1, o4) :: (l1, o5) :: (I, oI) :: (PC, oP) :: tl, @LT.lt Nat _ p.1 D) : ∀ p ∈ (D, o) :: tl, p.1 ≠ I := by
  intro p hp
  rcases List.mem_cons.mp hp with e | e
  · rw [e]; exact Nat.ne_of_gt (lt (I, oI) (by simp))
  · exact hI _ (.tail _ e)
theorem sums0 {ws : List Value} {a c p : Int} {pa : List Int} (h : IntsAre ws (List.replicate (Int.toNat 256) [(0 : Int)]).flatten) : IntsAre ws (sumsN a c p pa 0) := by
  have : (List.replicate (Int.toNat 256) [(0 : Int)]).flatten = sumsN a c p pa 0 := by rw [sumsN]; decide +kernel
  rw [← this]; exact h
theorem small8 (d : Int) : Builtin.Range.small 0 (d.fmod 7 + 1) 1 = true := by
  have h1 := Int.fmod_nonneg_of_pos d (show (0 : Int) < 7 by decide)
  have h2 := Int.fmod_lt_of_pos d (show (0 : Int) < 7 by decide)
  exact small_one (by omega) (by omega) (by omega) (by omega)
theorem draw_bits {ns : List Int} (h : PyData.layable0 (PyData.list (ns.map PyData.int)) = true) : Builtin.Int.intBits (drawV ns 2) ≤ 2 ^ 20 := by
  unfold drawV
  split
  · rename_i hlt
    have h2 : Int.toNat 2 < ns.length := by omega
    rw [List.getD_eq_getElem?_getD, List.getElem?_eq_getElem h2, Option.getD_some]
    exact PyData.bits_item_of_ints h (List.getElem_mem h2)
  · decide +kernel
theorem pow_fit {ns : List Int} (h : PyData.layable0 (PyData.list (ns.map PyData.int)) = true) {p n : Int} (hn : 0 ≤ n) (hp : p ≤ 6) : (Builtin.Int.intBits (drawV ns 2) : Int) * (p - n) ≤ 2 ^ 27 := by
  have h1 := draw_bits h
  have h2 : (Builtin.Int.intBits (drawV ns 2) : Int) * (p - n) ≤ (Builtin.Int.intBits (drawV ns 2) : Int) * 6 := Int.mul_le_mul_of_nonneg_left (by omega) (by omega)
  omega
theorem turn_bd {n : Nat} {d : Int} (h : n < (d.fmod 7 + 1 - 0).toNat) : (0 : Int) ≤ 0 + (n : Int) ∧ 0 ≤ d.fmod 7 - (0 + (n : Int)) ∧ d.fmod 7 ≤ 6 ∧ 0 ≤ d.fmod 7 ∧ 0 + (n : Int) < ((PA (d.fmod 7 - 0).toNat).length : Int) := by
  have h1 := Int.fmod_nonneg_of_pos d (show (0 : Int) < 7 by decide)
  have h2 := Int.fmod_lt_of_pos d (show (0 : Int) < 7 by decide)
  rw [PA_len]
  omega
theorem bits_fm (d : Int) : Builtin.Int.intBits (d.fmod 256) ≤ 64 := PySem.intBits_le_64 (by have := (ix_bd d).1; omega) (by have := (ix_bd d).2; omega)
theorem bits_sg (x : Int) : Builtin.Int.intBits (if (x.fdiv 256).fmod 2 = 1 then -1 else 1) ≤ 64 := by split <;> decide +kernel
theorem PA_small : ∀ n : Fin 7, ∀ k : Fin 7, 0 ≤ (PA n.val).getD k.val 0 ∧ (PA n.val).getD k.val 0 ≤ 20 := by decide +kernel
theorem PA_in {d : Int} (k : Int) : 0 ≤ (PA (d.fmod 7 - 0).toNat).getD k.toNat 0 ∧ (PA (d.fmod 7 - 0).toNat).getD k.toNat 0 ≤ 20 := by
  have h1 := Int.fmod_nonneg_of_pos d (show (0 : Int) < 7 by decide)
  have h2 := Int.fmod_lt_of_pos d (show (0 : Int) < 7 by decide)
  have h3 : (d.fmod 7 - 0).toNat < 7 := by omega
  by_cases hk : k.toNat < 7
  · exact PA_small ⟨_, h3⟩ ⟨_, hk⟩
  · rw [List.getD_eq_getElem?_getD, List.getElem?_eq_none (by rw [PA_len]; omega), Option.getD_none]; omega
theorem bits_sp {d : Int} (x k : Int) : Builtin.Int.intBits ((if (x.fdiv 256).fmod 2 = 1 then -1 else 1) * (PA (d.fmod 7 - 0).toNat).getD k.toNat 0) ≤ 64 := by
  have := PA_in (d := d) k
  split
  · exact PySem.intBits_le_64 (by omega) (by omega)
  · exact PySem.intBits_le_64 (by omega) (by omega)
theorem sumsS {ws : List Value} {a c p : Int} {pa : List Int} {n : Nat} (h : IntsAre ws ((sumsN a c p pa n).set ((a * (0 + (n : Int))).fmod 256).toNat ((sumsN a c p pa n).getD ((a * (0 + (n : Int))).fmod 256).toNat 0 + (if ((a * (0 + (n : Int))).fdiv 256).fmod 2 = 1 then -1 else 1) * pa.getD (0 + (n : Int)).toNat 0 * c ^ (p - (0 + (n : Int))).toNat))) : IntsAre ws (sumsN a c p pa (n + 1)) := by
  rw [sumsN]; unfold signV; exact h
theorem permu {h₀ h : Heap} {L : Addr} {so pc m1 m2 m3 r s t x d c u : Addr × Obj} (N : News h₀ L h [so, pc, m1, m2, m3, r, s, t, x, d, c, u]) : News h₀ L h [m1, m2, m3, r, s, t, so, x, d, c, u] :=
  cb_drop N (List.forall_mem_cons.mpr ⟨.tail _ (.tail _ (.head _)), List.forall_mem_cons.mpr ⟨.tail _ (.tail _ (.tail _ (.head _))), List.forall_mem_cons.mpr ⟨.tail _ (.tail _ (.tail _ (.tail _ (.head _)))), List.forall_mem_cons.mpr ⟨.tail _ (.tail _ (.tail _ (.tail _ (.tail _ (.head _))))), List.forall_mem_cons.mpr ⟨.tail _ (.tail _ (.tail _ (.tail _ (.tail _ (.tail _ (.head _)))))), List.forall_mem_cons.mpr ⟨.tail _ (.tail _ (.tail _ (.tail _ (.tail _ (.tail _ (.tail _ (.head _))))))), List.forall_mem_cons.mpr ⟨.head _, List.forall_mem_cons.mpr ⟨.tail _ (.tail _ (.tail _ (.tail _ (.tail _ (.tail _ (.tail _ (.tail _ (.head _)))))))), List.forall_mem_cons.mpr ⟨.tail _ (.tail _ (.tail _ (.tail _ (.tail _ (.tail _ (.tail _ (.tail _ (.tail _ (.head _))))))))), List.forall_mem_cons.mpr ⟨.tail _ (.tail _ (.tail _ (.tail _ (.tail _ (.tail _ (.tail _ (.tail _ (.tail _ (.tail _ (.head _)))))))))), List.forall_mem_cons.mpr ⟨.tail _ (.tail _ (.tail _ (.tail _ (.tail _ (.tail _ (.tail _ (.tail _ (.tail _ (.tail _ (.tail _ (.head _))))))))))), List.forall_mem_nil _⟩⟩⟩⟩⟩⟩⟩⟩⟩⟩⟩)
theorem law3b : bwd ZL (fwd ZL genL) = [0, 1] ++ (List.replicate (Int.toNat 254) [(0 : Int)]).flatten := by rw [law3]; decide +kernel
theorem fromne2 {l S PC MP MD mc R DR Z XP XD gc cell : Addr} {o1 o2 o3 o4 o6 : Obj} (mne : MP ≠ mc ∧ MD ≠ mc ∧ R ≠ mc ∧ DR ≠ mc ∧ Z ≠ mc ∧ XP ≠ mc ∧ XD ≠ mc ∧ gc ≠ mc ∧ cell ≠ mc)
  (l4 : @LT.lt Nat _ l S ∧ @LT.lt Nat _ PC S ∧ @LT.lt Nat _ MP S ∧ @LT.lt Nat _ MD S ∧ @LT.lt Nat _ mc S ∧ @LT.lt Nat _ R S ∧ @LT.lt Nat _ DR S ∧ @LT.lt Nat _ Z S ∧ @LT.lt Nat _ XP S ∧ @LT.lt Nat _ XD S ∧ @LT.lt Nat _ gc S ∧ @LT.lt Nat _ cell S) :
    ∀ p ∈ [(S, o1), (XP, o2), (XD, o3), (gc, o4), (cell, o6)], p.1 ≠ mc := by
  obtain ⟨_, _, _, _, _, a1, a2, a3, a5⟩ := mne
  intro p hp
  simp only [List.mem_cons, List.not_mem_nil, or_false] at hp
  rcases hp with h | h | h | h | h <;> rw [h] <;> first | assumption | exact Nat.ne_of_gt l4.2.2.2.2.1
theorem sums_sz {ss : List Value} {sums : List Int} (h : IntsAre ss sums) (hl : sums.length = 256) : ss.toArray.size ≤ sizeLine := by
  rw [List.size_toArray, h.length, hl, sizeLine_eq]; decide
theorem permw {h₀ h : Heap} {L : Addr} {ys fp fd m1 m2 m3 r s t so x d c u : Addr × Obj} (N : News h₀ L h [ys, fp, fd, m1, m2, m3, r, s, t, so, x, d, c, u]) : News h₀ L h [x, d, c, r, s, t] :=
  cb_drop N (List.forall_mem_cons.mpr ⟨.tail _ (.tail _ (.tail _ (.tail _ (.tail _ (.tail _ (.tail _ (.tail _ (.tail _ (.tail _ (.head _)))))))))), List.forall_mem_cons.mpr ⟨.tail _ (.tail _ (.tail _ (.tail _ (.tail _ (.tail _ (.tail _ (.tail _ (.tail _ (.tail _ (.tail _ (.head _))))))))))), List.forall_mem_cons.mpr ⟨.tail _ (.tail _ (.tail _ (.tail _ (.tail _ (.tail _ (.tail _ (.tail _ (.tail _ (.tail _ (.tail _ (.tail _ (.head _)))))))))))), List.forall_mem_cons.mpr ⟨.tail _ (.tail _ (.tail _ (.tail _ (.tail _ (.tail _ (.head _)))))), List.forall_mem_cons.mpr ⟨.tail _ (.tail _ (.tail _ (.tail _ (.tail _ (.tail _ (.tail _ (.head _))))))), List.forall_mem_cons.mpr ⟨.tail _ (.tail _ (.tail _ (.tail _ (.tail _ (.tail _ (.tail _ (.tail _ (.head _)))))))), List.forall_mem_nil _⟩⟩⟩⟩⟩⟩)
theorem dec_gen {l : List Int} [Decidable (([0, 1] ++ (List.replicate (Int.toNat 254) [(0 : Int)]).flatten : List Int) = l)] (h : ([0, 1] ++ (List.replicate (Int.toNat 254) [(0 : Int)]).flatten : List Int) = l) : decide (([0, 1] ++ (List.replicate (Int.toNat 254) [(0 : Int)]).flatten : List Int) = l) = true := decide_eq_true h
set_option maxHeartbeats 4000000 in
theorem done_all : PySem.Challenge.rw_yi0007_01.Holds := hd (by rfl) (by rfl) (by rfl) (by
  w_strict (k_go0; (all_goals try k_fold); ktr_unf
            (dsimp only [List.append_nil, List.nil_append])
            ((rename IntsAre _ _ => hI0); (rename Heap.IsList _ _ _ => hL0))
            (rename List Int => ns)
            (have hn0 : ns.length ≤ 63 := by omega)
            ((try ((rename Ground _ _ _ _ _ _ _ _ _ => q9); clear q9)); (try ((rename Hook.says _ _ _ => q9); clear q9)); (try ((rename Flt.MathXP _ _ _ => q9); clear q9)); (try ((rename LooseAre _ _ _ => q9); clear q9)); (try ((rename Tables _ _ _ _ => q9); clear q9)); (try ((rename TopE _ _ _ _ => q9); clear q9)); (try ((rename TopW _ _ _ => q9); clear q9)); (try ((rename BMod _ _ _ _ _ => q9); clear q9)); (try ((rename Heap.CodeRec _ _ _ => q9); clear q9)); (try ((rename ReadsAll _ _ _ _ => q9); clear q9)); (try ((rename Well _ _ _ _ => q9); clear q9)); (try ((rename Reads _ _ _ => q9); clear q9)); (try ((rename ReadsAllW _ _ _ _ _ => q9); clear q9)); (try ((rename Dflts _ _ _ => q9); clear q9)); (try ((rename CellsAre _ _ _ => q9); clear q9)); skip)

            ((rename Fr _ _ _ _ => F1); (rename News _ _ _ _ => N1); (rename Top _ _ _ _ _ _ => T1); (rename Frag.In _ _ => X1))
            (refine lowerK (dp' := 400) (un' := 200) (c_ring (below_caller _) F1 X1 N1 T1 rfl ?_) (Nat.le_of_ble_eq_true rfl) (Nat.le_of_ble_eq_true rfl))
            clear F1 N1
            intro R DR Z t1 t2 t3 t4 u1 u2 u4 zs nz nd h1 tk1 F1 N1 hz
            ktr_unf
            (all_goals (repeat ((rename (∀ (b : Addr) (o : Obj), Heap.get? _ b = some o → Heap.get? _ b = some o) => q9); clear q9)))
            ((rename Fr _ _ _ _ => F1); (rename News _ _ _ _ => N1); (rename Top _ _ _ _ _ _ => T1); (rename Frag.In _ _ => X1); (try dsimp only [List.append_nil, List.nil_append, List.cons_append]); (refine lowerK (dp' := 500) (un' := 300) (c_draw (below_caller _) F1 X1 N1 hL0 hI0 (by omega) (by omega) hn0 T1 rfl ?_) (Nat.le_of_ble_eq_true rfl) (Nat.le_of_ble_eq_true rfl)); clear F1 N1; (intro h1 tk1 t1 F1 N1); ktr_unf)
            ((rename Fr _ _ _ _ => F1); (rename News _ _ _ _ => N1); (rename Top _ _ _ _ _ _ => T1); (rename Frag.In _ _ => X1); (try dsimp only [List.append_nil, List.nil_append, List.cons_append]); (refine lowerK (dp' := 500) (un' := 300) (c_draw (below_caller _) F1 X1 N1 hL0 hI0 (by omega) (by omega) hn0 T1 rfl ?_) (Nat.le_of_ble_eq_true rfl) (Nat.le_of_ble_eq_true rfl)); clear F1 N1; (intro h1 tk1 t1 F1 N1); ktr_unf)
            ((rename Fr _ _ _ _ => F1); (rename News _ _ _ _ => N1); (rename Top _ _ _ _ _ _ => T1); (rename Frag.In _ _ => X1); (try dsimp only [List.append_nil, List.nil_append, List.cons_append]); (refine lowerK (dp' := 500) (un' := 300) (c_draw (below_caller _) F1 X1 N1 hL0 hI0 (by omega) (by omega) hn0 T1 rfl ?_) (Nat.le_of_ble_eq_true rfl) (Nat.le_of_ble_eq_true rfl)); clear F1 N1; (intro h1 tk1 t1 F1 N1); ktr_unf)
            ((rename Fr _ _ _ _ => F1); (rename News _ _ _ _ => N1); (rename Top _ _ _ _ _ _ => T1); (rename Frag.In _ _ => X1); (try dsimp only [List.append_nil, List.nil_append, List.cons_append]); (refine lowerK (dp' := 500) (un' := 300) (c_draw (below_caller _) F1 X1 N1 hL0 hI0 (by omega) (by omega) hn0 T1 rfl ?_) (Nat.le_of_ble_eq_true rfl) (Nat.le_of_ble_eq_true rfl)); clear F1 N1; (intro h1 tk1 t1 F1 N1); ktr_unf)
            ((rename Fr _ _ _ _ => F1); (rename News _ _ _ _ => N1); (rename Top _ _ _ _ _ _ => T1); (rename Frag.In _ _ => X1); (try dsimp only [List.append_nil, List.nil_append, List.cons_append]); (refine lowerK (dp' := 500) (un' := 300) (c_draw (below_caller _) F1 X1 N1 hL0 hI0 (by omega) (by omega) hn0 T1 rfl ?_) (Nat.le_of_ble_eq_true rfl) (Nat.le_of_ble_eq_true rfl)); clear F1 N1; (intro h1 tk1 t1 F1 N1); ktr_unf)
            (have hm7 : 0 ≤ (drawV ns 4).fmod 300 ∧ (drawV ns 4).fmod 300 < 300 := ⟨Int.fmod_nonneg_of_pos _ (by decide), Int.fmod_lt_of_pos _ (by decide)⟩)
            (have hm8 : 0 ≤ (if 256 < (drawV ns 4).fmod 300 then 256 else (drawV ns 4).fmod 300) ∧ (if 256 < (drawV ns 4).fmod 300 then 256 else (drawV ns 4).fmod 300) ≤ 256 := by split <;> omega)
            (generalize hmm : (if 256 < (drawV ns 4).fmod 300 then 256 else (drawV ns 4).fmod 300) = mm at *)
            k_dflt (refine LCg.CompSrc.range (by rfl) (by k_asm) (by k_asm) (by assumption) (by first | exact small_one (by kcf_bnd) (by kcf_bnd) (by kcf_bnd) (by kcf_bnd) | decide) (by first | exact rangeSize_nat _ _ | rfl) (by first | exact Nat.le_of_ble_eq_true rfl | (rw [PySem.sizeLine_eq]; first | omega | ((simp only [List.size_toArray]); omega) | ((have hb9 := len_ints_list (by lay_of)); omega)) | size_fits) ?_; intro g'; (refine' kcf_range (fun k => drawV ns (5 + k)) (fun k' t' I' oI' C' oC' D' m' ys' h' tk' E' hlo' hhi' hC' hx' F' N' off' ne' hMark' => ?_) ?_); (all_goals (try (simp only [LCg.Off3, and_true] at off'))); kcf_last)
            · ktr_unf
              ((rename Fr _ _ _ _ => F1); (rename News _ _ _ _ => N1); (rename Top _ _ _ _ _ _ => T1); (rename Frag.In _ _ => X1); (refine lowerK (dp' := 500) (un' := 300) (c_draw (below_caller _) F1 X1 N1 hL0 hI0 (Int.add_nonneg (by decide) hlo') (elt1000 hlo' hhi' hm8.2) hn0 T1 rfl ?_) (Nat.le_of_ble_eq_true rfl) (Nat.le_of_ble_eq_true rfl)); clear F1 N1; (intro h1 tk1 t1 F1 N1); ktr_unf)
              exact ⟨rfl, _, rfl⟩
            ktr_unf
            (all_goals (repeat ((rename (∀ (b : Addr) (o : Obj), Heap.get? _ b = some o → Heap.get? _ b = some o) => q9); clear q9)))
            (try dsimp only [List.append_nil, List.nil_append, List.cons_append])
            ((rename Fr _ _ _ _ => F1); (rename News _ _ _ _ => N1); (rename IntsAre _ (_ ++ _) => hrow))
            (obtain ⟨RW, hRW, N2⟩ := startr N1)
            clear N1
            subst hRW
            (rename News _ _ _ _ => N1)
            (refine lowerK (dp' := 400) (un' := 200) (c_gen (below_caller _) F1 X1 (permg N1) T1 rfl ?_) (Nat.le_of_ble_eq_true rfl) (Nat.le_of_ble_eq_true rfl))
            clear F1 N1
            intro GP GD gc ga gb gvs gnp gnc h2 tk2 F1 N1 hg1 g1 g2 g3
            ktr_unf
            (all_goals (repeat ((rename (∀ (b : Addr) (o : Obj), Heap.get? _ b = some o → Heap.get? _ b = some o) => q9); clear q9)))
            (try dsimp only [List.append_nil, List.nil_append, List.cons_append])
            ((rename Fr _ _ _ _ => F1); (rename News _ _ _ _ => N1))
            (obtain ⟨n1, n2, n3, n4, n5, n6⟩ := genne g1 g2 g3)
            (refine lowerK (dp' := 500) (un' := 300) (c_to_ntt (below_caller _) F1 X1 N1 hg1 hz (by decide +kernel) ZL_len ZL_bits n1 n2 n3 n4 n5 n6 T1 rfl ?_) (Nat.le_of_ble_eq_true rfl) (Nat.le_of_ble_eq_true rfl))
            clear F1 N1
            intro XP XD xa xb xvs h3 tk3 F1 N1 hx1 x1 x2
            (have xn := xne x1 x2 n3 n4 n5)
            clear x1 x2 n1 n2 n3 n4 n5 n6 hg1 g1 g2 g3
            ktr_unf
            (all_goals (repeat ((rename (∀ (b : Addr) (o : Obj), Heap.get? _ b = some o → Heap.get? _ b = some o) => q9); clear q9)))
            (try dsimp only [List.append_nil, List.nil_append, List.cons_append])
            ((rename Fr _ _ _ _ => F1); (rename News _ _ _ _ => N1))
            (refine lowerK (dp' := 400) (un' := 200) (c_raised (below_caller _) F1 X1 (permx N1) hx1 hz (fwd_len (by decide +kernel)) ZL_len (fwd_red (by decide +kernel)) ZL_bits ZL_nbits T1 rfl ?_) (Nat.le_of_ble_eq_true rfl) (Nat.le_of_ble_eq_true rfl))
            clear F1 N1
            intro MP MD mc ma mb1 mvs mnp mnc h4 tk4 F1 N1 hm1 y1 y2 y3 y4 y5 y6
            ktr_unf
            (all_goals (repeat ((rename (∀ (b : Addr) (o : Obj), Heap.get? _ b = some o → Heap.get? _ b = some o) => q9); clear q9)))
            ((rename Fr _ _ _ _ => F1); (rename News _ _ _ _ => N1))
            (rename (_ < _ ∧ _ < _ ∧ _ < _ ∧ _ < _ ∧ _ < _ ∧ _ < _ ∧ _ < _ ∧ _ < _ ∧ _ < _ ∧ _ < _ ∧ _ < _ ∧ _ < _ ∧ _ < _) => l1)
            (rw [rowL_eq] at hrow)
            (refine lowerK (dp' := 400) (un' := 200) (c_poly (below_caller _) F1 X1 (permp N1) hrow (rowL_len hm8) T1 rfl ?_) (Nat.le_of_ble_eq_true rfl) (Nat.le_of_ble_eq_true rfl))
            clear F1 N1
            intro PP PD pa pb np5 h5 tk5 F1 N1 p1 p2
            ktr_unf
            (all_goals (repeat ((rename (∀ (b : Addr) (o : Obj), Heap.get? _ b = some o → Heap.get? _ b = some o) => q9); clear q9)))
            ((rename Fr _ _ _ _ => F1); (rename News _ _ _ _ => N1))
            (obtain ⟨n1, n2, n3, n4, n5, n6⟩ := polyne p1 p2 l1)
            (refine lowerK (dp' := 500) (un' := 300) (c_to_ntt (below_caller _) F1 X1 N1 hrow hz (rowL_len hm8) ZL_len ZL_bits n1 n2 n3 n4 n5 n6 T1 rfl ?_) (Nat.le_of_ble_eq_true rfl) (Nat.le_of_ble_eq_true rfl))
            clear F1 N1 n1 n2 n3 n4 n5 n6
            intro QP QD qa qb qvs h6 tk6 F1 N1 hq1 q1 q2
            ktr_unf
            (all_goals (repeat ((rename (∀ (b : Addr) (o : Obj), Heap.get? _ b = some o → Heap.get? _ b = some o) => q9); clear q9)))
            ((rename Fr _ _ _ _ => F1); (rename News _ _ _ _ => N1))
            (have mf := raisedL_facts (zl := ZL) (e := (drawV ns 0).fmod 2048) (fwd_red (zl := ZL) genL_len) (fwd_len genL_len))
            (refine lowerK (dp' := 500) (un' := 300) (c_mul (below_caller _) F1 X1 (permq N1) hm1 hq1 hz mf.2 (fwd_len (rowL_len hm8)) ZL_len mf.1.bits (fwd_red (rowL_len hm8)).bits ZL_bits ZL_nbits T1 rfl ?_) (Nat.le_of_ble_eq_true rfl) (Nat.le_of_ble_eq_true rfl))
            clear F1 N1 mf hm1 hq1
            intro VP VD vc va vb vvs vnc h7 tk7 F1 N1 hv1 v1 v2 v3
            (replace N1 := permv N1)
            (have vn := vne v1 v2 v3)
            clear v1 v2 v3 y1 y2 y3 y4 y5 y6 p1 p2 q1 q2 l1
            (repeat ((rename (_ < _ ∧ _) => q9); clear q9))
            (repeat ((rename IsRange _ _ _ _ _ _ _ _ => q9); clear q9))
            delta PySem.W.CmpBack; dsimp only
            ktr_unf
            (all_goals (repeat ((rename (∀ (b : Addr) (o : Obj), Heap.get? _ b = some o → Heap.get? _ b = some o) => q9); clear q9)))
            ((rename Fr _ _ _ _ => F1); (rename News _ _ _ _ => N1); (rename IsRange _ _ _ _ _ _ _ _ => rg); (rename IntsAre (List.flatten _) _ => i1))
            (rename (_ < _ ∧ _ < _ ∧ _ < _ ∧ _ < _ ∧ _ < _ ∧ _ < _ ∧ _ < _ ∧ _ < _ ∧ _ < _ ∧ _ < _ ∧ _ < _ ∧ _ < _) => l1)
            (obtain ⟨W, tl, hW, htl, N2⟩ := startl N1)
            clear N1
            subst hW
            (rename News _ _ _ (_ :: tl) => N1)
            (refine range_inv2 (n := 256) (fun n m1 nx => ∃ (ws : List Value) (te ta tc tp : Tok), At m1 [(Str.ofString "ring", .ref R), (Str.ofString "e", .int ((drawV ns 0).fmod 2048) te), (Str.ofString "a", .int ((drawV ns 1).fmod 256) ta), (Str.ofString "c", .int (drawV ns 2) tc), (Str.ofString "power", .int ((drawV ns 3).fmod 7) tp), (Str.ofString "row", .ref RW), (Str.ofString "x", .ref XP), (Str.ofString "moved", .ref VP), (Str.ofString "want", .ref W)] ∧ nx = (W, listOf ws.toArray 0) :: tl ∧ IntsAre ws (wantN (rowL ns mm) ((drawV ns 0).fmod 2048) n)) (by rfl) rg (by decide) (rangeSize_nat _ _) F1 N1 ?j0 ?turn ?done)
            case j0 => exact ⟨_, _, _, _, _, ⟨rfl, rfl, rfl, rfl, rfl, rfl, rfl, rfl, rfl, trivial⟩, rfl, want0 i1⟩
            case turn =>
              clear F1 N1
              rintro n t m1 _ h8 tk8 I oI hn hI ⟨ws, te, ta, tc, tp, hat, rfl, hws⟩ F1 N1
              replace F1 := fr_at1 F1 hat
              subst htl
              clear hat
              (have hIW : @Ne Nat W I := hI _ (.head _))
              (have hwl := wantN_len (rowL ns mm) ((drawV ns 0).fmod 2048) n)
              (have hrl := rowL_len (ns := ns) hm8)
              (have hbd := ie_bd (drawV ns 0) hn)
              (have hix := ix_bd (0 + (n : Int) + (drawV ns 0).fmod 2048))
              ktr_unf
              (all_goals (repeat ((rename (∀ (b : Addr) (o : Obj), Heap.get? _ b = some o → Heap.get? _ b = some o) => q9); clear q9)))
              ((rename Fr _ _ _ _ => F2); (rename News _ _ _ _ => N2); (rename IntsAre (List.set _ _ _) _ => hi9))
              exact TurnEnd.intro F2 N2 (off_head hI) ⟨_, _, _, _, _, ⟨rfl, rfl, rfl, rfl, rfl, rfl, rfl, rfl, rfl, trivial⟩, rfl, wantS hi9⟩
            case done =>
              clear F1 N1 i1
              rintro m1 _ h8 tk8 ⟨ws, te, ta, tc, tp, hat, rfl, hws⟩ F1 N1
              replace F1 := fr_at F1 hat
              subst htl
              clear hat
              (have hrl := rowL_len (ns := ns) hm8)
              (have hlaw := law1 (drawV ns 0) hrl)
              (obtain ⟨want, hwant⟩ : ∃ z, z = wantN (rowL ns mm) ((drawV ns 0).fmod 2048) 256 := ⟨_, rfl⟩)
              (have hwl := wantN_len (rowL ns mm) ((drawV ns 0).fmod 2048) 256)
              (rw [← hwant] at hws hlaw hwl)
              ktr_unf
              (all_goals (repeat ((rename (∀ (b : Addr) (o : Obj), Heap.get? _ b = some o → Heap.get? _ b = some o) => q9); clear q9)))
              ((rename Fr _ _ _ _ => F1); (rename News _ _ _ _ => N1))
              (refine lowerK (dp' := 500) (un' := 300) (c_from_ntt (below_caller _) F1 X1 (permf N1) hv1 hz (mulL_len _ _ _) ZL_len ZL_bits vn.1 vn.2.1 vn.2.2.1 vn.2.2.2.1 vn.2.2.2.2.1 (fromne vn l1) T1 rfl ?_) (Nat.le_of_ble_eq_true rfl) (Nat.le_of_ble_eq_true rfl))
              clear F1 N1
              intro FP FD fa fb fvs h9 tk9 F1 N1 hf1 f1 f2
              (rw [hlaw] at hf1)
              ktr_unf
              (all_goals (repeat ((rename (∀ (b : Addr) (o : Obj), Heap.get? _ b = some o → Heap.get? _ b = some o) => q9); clear q9)))
              ((rename Fr _ _ _ _ => F1); (rename News _ _ _ _ => N1); (rename IntsAre (List.set (List.set _ _ _) _ _) _ => hi9))
              (rename (_ < _ ∧ _ < _ ∧ _ < _ ∧ _ < _ ∧ _ < _ ∧ _ < _ ∧ _ < _ ∧ _ < _ ∧ _ < _ ∧ _ < _ ∧ _ < _ ∧ _ < _ ∧ _ < _ ∧ _ < _ ∧ _ < _) => l2)
              (obtain ⟨PL, pvs, hPL, N2, hpl⟩ := startp N1 hi9)
              clear N1 hi9
              subst hPL
              (rename News _ _ _ ((_, listOf (List.toArray pvs) _) :: _) => N1)
              (rw [pairL_eq] at hpl)
              (repeat ((rename (List.length _ = List.length _) => q9); clear q9))
              (repeat ((rename (List.sum _ = _) => q9); clear q9))
              (repeat ((rename IntsAre (List.set _ _ _) _ => q9); clear q9))
              clear hwant hwl hws hf1 hlaw f1 f2 l1
              (refine lowerK (dp' := 400) (un' := 200) (c_poly (below_caller _) F1 X1 (permr N1) hpl pairL_len T1 rfl ?_) (Nat.le_of_ble_eq_true rfl) (Nat.le_of_ble_eq_true rfl))
              clear F1 N1
              intro PP PD pa pb np5 h5 tk5 F1 N1 p1 p2
              ktr_unf
              (all_goals (repeat ((rename (∀ (b : Addr) (o : Obj), Heap.get? _ b = some o → Heap.get? _ b = some o) => q9); clear q9)))
              ((rename Fr _ _ _ _ => F1); (rename News _ _ _ _ => N1))
              (obtain ⟨n1, n2, n3, n4, n5, n6⟩ := polyne2 p1 p2 l2)
              (refine lowerK (dp' := 500) (un' := 300) (c_to_ntt (below_caller _) F1 X1 N1 hpl hz pairL_len ZL_len ZL_bits n1 n2 n3 n4 n5 n6 T1 rfl ?_) (Nat.le_of_ble_eq_true rfl) (Nat.le_of_ble_eq_true rfl))
              clear F1 N1 n1 n2 n3 n4 n5 n6
              intro QP QD qa qb qvs h6 tk6 F1 N1 hq1 q1 q2
              clear p1 p2 l2 q1 q2
              ktr_unf
              (all_goals (repeat ((rename (∀ (b : Addr) (o : Obj), Heap.get? _ b = some o → Heap.get? _ b = some o) => q9); clear q9)))
              ((rename Fr _ _ _ _ => F1); (rename News _ _ _ _ => N1))
              (refine lowerK (dp' := 400) (un' := 200) (c_raised (below_caller _) F1 X1 (perms N1) hq1 hz (fwd_len pairL_len) ZL_len (fwd_red pairL_len) ZL_bits ZL_nbits T1 rfl ?_) (Nat.le_of_ble_eq_true rfl) (Nat.le_of_ble_eq_true rfl))
              clear F1 N1 hq1 hpl
              intro MP MD mc ma mb1 mvs mnp mnc h7 tk7 F1 N1 hm1 y1 y2 y3 y4 y5 y6
              (replace N1 := permt N1)
              (have mne := raisne y1 y4 y5 y6)
              clear y1 y2 y3 y4 y5 y6
              ktr_unf
              (all_goals (repeat ((rename (∀ (b : Addr) (o : Obj), Heap.get? _ b = some o → Heap.get? _ b = some o) => q9); clear q9)))
              ((rename Fr _ _ _ _ => F1); (rename News _ _ _ _ => N1); (rename IsRange _ _ _ _ _ _ _ _ => rg))
              clear hv1 vn hrow hrl
              (repeat ((rename (IntsAre (List.flatten _) _) => q9); clear q9))
              (repeat ((rename (List.length _ = _) => q9); clear q9))
              (repeat ((rename (Array.size _ = _) => q9); clear q9))
              (repeat ((rename (256 - _ < 0 → _) => q9); clear q9))
              (repeat ((rename (0 ≤ 256 - _ → _) => q9); clear q9))
              (repeat ((rename (256 < 0 → _) => q9); clear q9))
              (repeat ((rename (0 ≤ 256 → _) => q9); clear q9))
              (rename (_ < _ ∧ _ < _ ∧ _ < _ ∧ _ < _ ∧ _ < _ ∧ _ < _ ∧ _ < _ ∧ _ < _ ∧ _ < _ ∧ _ < _) => l3)
              (obtain ⟨tl, htl, N2⟩ := startt N1)
              clear N1
              (refine range_inv2 (n := ((drawV ns 3).fmod 7 - 0).toNat) (fun n m1 nx => ∃ (PC : Addr) (pv : List Value) (k : Nat) (ta tc tp : Tok), At m1 [(Str.ofString "a", .int ((drawV ns 1).fmod 256) ta), (Str.ofString "c", .int (drawV ns 2) tc), (Str.ofString "power", .int ((drawV ns 3).fmod 7) tp), (Str.ofString "x", .ref XP), (Str.ofString "raised", .ref MP), (Str.ofString "pascal", .ref PC)] ∧ nx = (PC, listOf pv.toArray k) :: tl ∧ IntsAre pv (PA n)) (by rfl) rg (small7 _) (rangeSize_nat _ _) F1 N2 ?pj0 ?pturn ?pdone)
              case pj0 => exact ⟨_, [_], _, _, _, _, ⟨rfl, rfl, rfl, rfl, rfl, rfl, trivial⟩, rfl, .cons _ _ .nil⟩
              case pturn =>
                clear F1 N2
                rintro n t m1 _ h8 tk8 I oI hn hI ⟨PC, pv, k, ta, tc, tp, hat, rfl, hpv⟩ F1 N1
                replace F1 := fr_at1 F1 hat
                clear hat htl
                ktr_unf
                (all_goals (repeat ((rename (∀ (b : Addr) (o : Obj), Heap.get? _ b = some o → Heap.get? _ b = some o) => q9); clear q9)))
                (rename Fr _ _ _ _ => F1)
                (k_dflt (refine zc_Assign (fun a b => a + b) F1 (by rfl) (by rfl) (by with_unfolding_all rfl) (by with_unfolding_all rfl) (by decide) (by rfl) (by decide) (by rfl) (by rfl) (by decide) (by rfl) (by rfl) (fun C m₂ s' x y t u Q' E' h1 h2 h3 h4 => zc_elt rfl rfl rfl rfl rfl rfl h1 h2 h3 h4) ?_))
                ktr_unf
                (all_goals (repeat ((rename (∀ (b : Addr) (o : Obj), Heap.get? _ b = some o → Heap.get? _ b = some o) => q9); clear q9)))
                ((rename Fr _ _ _ _ => F2); (rename News _ _ _ _ => N2))
                (k_dflt (refine' kmk_add_ints F2 N2 ?a1 ?b1 hpv (IntsAre.cons _ _ IntsAre.nil) ?c1 (pa_fit hn _); (case a1 => kmk_list); (case b1 => kmk_list)))
                intro D1 us1 h9 F3 N3 l9 hI9
                (k_lt l9)
                clear F2 N2
                ktr_unf
                (all_goals (repeat ((rename (∀ (b : Addr) (o : Obj), Heap.get? _ b = some o → Heap.get? _ b = some o) => q9); clear q9)))
                ((rename Fr _ _ _ _ => F2); (rename News _ _ _ _ => N2))
                (k_dflt (refine' kmk_add_ints F2 N2 ?a2 ?b2 (IntsAre.cons _ _ IntsAre.nil) hpv ?c2 (pa_fit2 hn _); (case a2 => kmk_list); (case b2 => kmk_list)))
                intro D2 us2 h10 F5 N5 l10 hI10
                (k_lt l10)
                clear F2 N2
                ktr_unf
                (all_goals (repeat ((rename (∀ (b : Addr) (o : Obj), Heap.get? _ b = some o → Heap.get? _ b = some o) => q9); clear q9)))
                ((rename Fr _ _ _ _ => F2); (rename News _ _ _ _ => N2))
                (k_dflt (refine zc_call F2 N2 (by k_mem) rfl rfl (by k_mem) rfl rfl (fun h' B Z => ⟨B, _, _, _, _, _, _, _, rfl, Z, hI9, hI10, pa_sz hn hI9, fun D h'' tk zs F7 N7 lt hz => ?_⟩)))
                ktr_unf
                (all_goals (repeat ((rename (∀ (b : Addr) (o : Obj), Heap.get? _ b = some o → Heap.get? _ b = some o) => q9); clear q9)))
                ((rename Fr _ _ _ _ => F8); (rename News _ _ _ _ => N8))
                exact TurnEnd.intro F8 (permz N8) (offz hI lt) ⟨_, _, _, _, _, _, ⟨rfl, rfl, rfl, rfl, rfl, rfl, trivial⟩, rfl, paS hz⟩
              case pdone =>
                clear F1 N2
                rintro m1 _ h8 tk8 ⟨PC, pv, k, ta, tc, tp, hat, rfl, hpv⟩ F1 N1
                replace F1 := fr_at F1 hat
                subst htl
                clear hat
                ktr_unf
                (all_goals (repeat ((rename (∀ (b : Addr) (o : Obj), Heap.get? _ b = some o → Heap.get? _ b = some o) => q9); clear q9)))
                ((rename Fr _ _ _ _ => F1); (rename News _ _ _ _ => N1); (rename IsRange _ _ _ _ _ _ _ _ => rg); (rename IntsAre (List.flatten _) _ => i1))
                (rename (_ < _ ∧ _ < _ ∧ _ < _ ∧ _ < _ ∧ _ < _ ∧ _ < _ ∧ _ < _ ∧ _ < _ ∧ _ < _ ∧ _ < _ ∧ _ < _ ∧ _ < _) => l4)
                (repeat ((rename (Array.size _ = _) => q9); clear q9))
                (repeat ((rename (256 < 0 → _) => q9); clear q9))
                (repeat ((rename (0 ≤ 256 → _) => q9); clear q9))
                (obtain ⟨S, tl2, hS, htl2, N2⟩ := startl N1)
                clear N1
                subst hS
                (rename News _ _ _ (_ :: tl2) => N1)
                (refine range_inv2 (n := ((drawV ns 3).fmod 7 + 1 - 0).toNat) (fun n m1 nx => ∃ (ss : List Value) (ta tc tp : Tok), At m1 [(Str.ofString "a", .int ((drawV ns 1).fmod 256) ta), (Str.ofString "c", .int (drawV ns 2) tc), (Str.ofString "power", .int ((drawV ns 3).fmod 7) tp), (Str.ofString "x", .ref XP), (Str.ofString "raised", .ref MP), (Str.ofString "pascal", .ref PC), (Str.ofString "sums", .ref S)] ∧ nx = (S, listOf ss.toArray 0) :: tl2 ∧ IntsAre ss (sumsN ((drawV ns 1).fmod 256) (drawV ns 2) ((drawV ns 3).fmod 7) (PA ((drawV ns 3).fmod 7 - 0).toNat) n)) (by rfl) rg (small8 _) (rangeSize_nat _ _) F1 N1 ?sj0 ?sturn ?sdone)
                case sj0 => exact ⟨_, _, _, _, ⟨rfl, rfl, rfl, rfl, rfl, rfl, rfl, trivial⟩, rfl, sums0 i1⟩
                case sturn =>
                  clear F1 N1 i1
                  (rename (PyData.layable0 (PyData.list _) = true) => hlay)
                  rintro n t m1 _ h10 tk10 I oI hn hI ⟨ss, ta, tc, tp, hat, rfl, hss⟩ F1 N1
                  replace F1 := fr_at1 F1 hat
                  subst htl2
                  clear hat
                  (have hIS : @Ne Nat S I := hI _ (.head _))
                  (have hsl := sumsN_len ((drawV ns 1).fmod 256) (drawV ns 2) ((drawV ns 3).fmod 7) (PA ((drawV ns 3).fmod 7 - 0).toNat) n)
                  (have htb := turn_bd hn)
                  (have hpw := pow_fit hlay htb.1 htb.2.2.1)
                  (have hix := ix_bd (((drawV ns 1).fmod 256) * (0 + (n : Int))))
                  (have hb1 := bits_fm (drawV ns 1))
                  (have hb2 := bits_sg (((drawV ns 1).fmod 256) * (0 + (n : Int))))
                  (have hb3 := bits_sp (d := drawV ns 3) (((drawV ns 1).fmod 256) * (0 + (n : Int))) (0 + (n : Int)))
                  (have hpl : 0 ≤ (drawV ns 3).fmod 7 - (0 + (n : Int)) := htb.2.1)
                  ktr_unf
                  (all_goals (repeat ((rename (∀ (b : Addr) (o : Obj), Heap.get? _ b = some o → Heap.get? _ b = some o) => q9); clear q9)))
                  ((rename Fr _ _ _ _ => F2); (rename News _ _ _ _ => N2); (rename IntsAre (List.set _ _ _) _ => hi9))
                  exact TurnEnd.intro F2 N2 (off_head hI) ⟨_, _, _, _, ⟨rfl, rfl, rfl, rfl, rfl, rfl, rfl, trivial⟩, rfl, sumsS hi9⟩
                case sdone =>
                  clear F1 N1 i1
                  rintro m1 _ h10 tk10 ⟨ss, ta, tc, tp, hat, rfl, hss⟩ F1 N1
                  replace F1 := fr_at F1 hat
                  subst htl2
                  clear hat
                  (have hlaw := law2 (drawV ns 2) (drawV ns 1) (drawV ns 3))
                  (have hsl := sumsN_len ((drawV ns 1).fmod 256) (drawV ns 2) ((drawV ns 3).fmod 7) (PA ((drawV ns 3).fmod 7 - 0).toNat) ((drawV ns 3).fmod 7 + 1 - 0).toNat)
                  (obtain ⟨sums, hsums⟩ : ∃ z, z = sumsN ((drawV ns 1).fmod 256) (drawV ns 2) ((drawV ns 3).fmod 7) (PA ((drawV ns 3).fmod 7 - 0).toNat) ((drawV ns 3).fmod 7 + 1 - 0).toNat := ⟨_, rfl⟩)
                  (rw [← hsums] at hss hlaw hsl)
                  clear hsums hpv
                  (have hlen2 : (bwd ZL (raisedL ZL (fwd ZL (pairL (drawV ns 2) ((drawV ns 1).fmod 256))) ((drawV ns 3).fmod 7))).length = 256 := bwd_len (raisedL_facts (fwd_red pairL_len) (fwd_len pairL_len)).2)
                  ktr_unf
                  (all_goals (repeat ((rename (∀ (b : Addr) (o : Obj), Heap.get? _ b = some o → Heap.get? _ b = some o) => q9); clear q9)))
                  ((rename Fr _ _ _ _ => F1); (rename News _ _ _ _ => N1))
                  (refine lowerK (dp' := 500) (un' := 300) (c_from_ntt (below_caller _) F1 X1 (permu N1) hm1 hz (raisedL_facts (fwd_red pairL_len) (fwd_len pairL_len)).2 ZL_len ZL_bits mne.1 mne.2.1 mne.2.2.1 mne.2.2.2.1 mne.2.2.2.2.1 (fromne2 mne l4) T1 rfl ?_) (Nat.le_of_ble_eq_true rfl) (Nat.le_of_ble_eq_true rfl))
                  clear F1 N1
                  intro FP FD fa fb fvs h11 tk11 F1 N1 hf1 f1 f2
                  (rw [hlaw] at hf1)
                  (repeat' ((fail_if_success (with_reducible show wpAny _ _ (exec (Stmt.While _ _ _ _) _) _ _ _)); (fail_if_success (with_reducible show wpAny _ _ (pyIter (Value.ref _)) (fun it s₂ => LoopAtV _ _ _ _ _ _ _ _ _ it s₂) _ _)); (fail_if_success (with_reducible show wpAny _ _ (PySem.call (Value.ref 282) _) _ _ _)); (fail_if_success (with_reducible show wpAny _ _ (PySem.call (Value.ref 435) _) _ _ _)); (fail_if_success (with_reducible show wpAny _ _ (PySem.call (Value.ref 49) _) _ _ _)); (fail_if_success (with_reducible show wpAny _ _ (PySem.call (Value.ref 279) _) _ _ _)); (fail_if_success (with_reducible show KCfEl _ _ _ _)); (fail_if_success (with_reducible show LCg.CompSrc _ _ _ _ _ _ _ _ _ _ _ _ _ _)); (fail_if_success (with_reducible show wpAny _ _ (PySem.call (Value.ref _) [Value.ref _]) _ _ _)); (fail_if_success (with_reducible show wpAny _ _ (exec (Stmt.Assign [Expr.Name _ _] (Expr.ListComp _ _ _ _) _) _) _ _ _)); (fail_if_success (with_reducible show wpAny _ _ (PySem.call (Value.type "zip") _) _ _ _)); (fail_if_success (with_reducible show wpAny _ _ (eval (Expr.ListComp _ _ _ _) _) _ _ _)); (fail_if_success (with_reducible show InvEndN _ _ _ _ _ _ _)); (fail_if_success (with_reducible show WhileStep _ _ _ _ _ _ _)); (fail_if_success (with_reducible show TurnEnd _ _ _ _ _ _ _ _ _)); (fail_if_success (with_reducible show wpAny _ _ (PySem.call (Value.ref 340) _) _ _ _)); (fail_if_success (with_reducible show wpAny _ _ (PySem.call (Value.ref 380) _) _ _ _)); (fail_if_success (with_reducible show wpAny _ _ (PySem.call (Value.ref 423) _) _ _ _)); (fail_if_success (with_reducible show wpAny _ _ (PySem.call (Value.ref 442) _) _ _ _)); first | (k_unfold; (try dsimp only)) | (k_end; wrow_close) | walk1 | (dsimp only; walk1) | (leave1; walk_say "STEP leave1"; try dsimp only) | fail "no step"))
                  (rename Fr _ _ _ _ => F1)
                  (k_dflt (refine LCg.ListComp_U F1 (by rfl) (by decide) (by rfl) (by decide) (by rfl) ?_))
                  (repeat' ((fail_if_success (with_reducible show wpAny _ _ (exec (Stmt.While _ _ _ _) _) _ _ _)); (fail_if_success (with_reducible show wpAny _ _ (pyIter (Value.ref _)) (fun it s₂ => LoopAtV _ _ _ _ _ _ _ _ _ it s₂) _ _)); (fail_if_success (with_reducible show wpAny _ _ (PySem.call (Value.ref 282) _) _ _ _)); (fail_if_success (with_reducible show wpAny _ _ (PySem.call (Value.ref 435) _) _ _ _)); (fail_if_success (with_reducible show wpAny _ _ (PySem.call (Value.ref 49) _) _ _ _)); (fail_if_success (with_reducible show wpAny _ _ (PySem.call (Value.ref 279) _) _ _ _)); (fail_if_success (with_reducible show KCfEl _ _ _ _)); (fail_if_success (with_reducible show LCg.CompSrc _ _ _ _ _ _ _ _ _ _ _ _ _ _)); (fail_if_success (with_reducible show wpAny _ _ (PySem.call (Value.ref _) [Value.ref _]) _ _ _)); (fail_if_success (with_reducible show wpAny _ _ (exec (Stmt.Assign [Expr.Name _ _] (Expr.ListComp _ _ _ _) _) _) _ _ _)); (fail_if_success (with_reducible show wpAny _ _ (PySem.call (Value.type "zip") _) _ _ _)); (fail_if_success (with_reducible show wpAny _ _ (eval (Expr.ListComp _ _ _ _) _) _ _ _)); (fail_if_success (with_reducible show InvEndN _ _ _ _ _ _ _)); (fail_if_success (with_reducible show WhileStep _ _ _ _ _ _ _)); (fail_if_success (with_reducible show TurnEnd _ _ _ _ _ _ _ _ _)); (fail_if_success (with_reducible show wpAny _ _ (PySem.call (Value.ref 340) _) _ _ _)); (fail_if_success (with_reducible show wpAny _ _ (PySem.call (Value.ref 380) _) _ _ _)); (fail_if_success (with_reducible show wpAny _ _ (PySem.call (Value.ref 423) _) _ _ _)); (fail_if_success (with_reducible show wpAny _ _ (PySem.call (Value.ref 442) _) _ _ _)); first | (k_unfold; (try dsimp only)) | (k_end; wrow_close) | walk1 | (dsimp only; walk1) | (leave1; walk_say "STEP leave1"; try dsimp only) | fail "no step"))
                  ((rename Fr _ _ _ _ => F1); (rename News _ _ _ _ => N1))
                  (k_dflt (refine LCg.CompSrc.ledger (by rfl) F1 N1 (by k_mem) (sums_sz hss hsl) ?_))
                  intro g'
                  (refine' kcf_list (fun k => k.fmod 3329) hss (fun k' t' I' oI' C' oC' D' m' ys' h' tk' E' hk' hC' hx' F' N' off' ne' hMark' => ?_) ?_)
                  · (simp only [LCg.Off3, and_true] at off')
                    ktr_unf
                    (all_goals (repeat ((rename (∀ (b : Addr) (o : Obj), Heap.get? _ b = some o → Heap.get? _ b = some o) => q9); clear q9)))
                    exact ⟨rfl, _, rfl⟩
                  kcf_last
                  (repeat' ((fail_if_success (with_reducible show wpAny _ _ (exec (Stmt.While _ _ _ _) _) _ _ _)); (fail_if_success (with_reducible show wpAny _ _ (pyIter (Value.ref _)) (fun it s₂ => LoopAtV _ _ _ _ _ _ _ _ _ it s₂) _ _)); (fail_if_success (with_reducible show wpAny _ _ (PySem.call (Value.ref 282) _) _ _ _)); (fail_if_success (with_reducible show wpAny _ _ (PySem.call (Value.ref 435) _) _ _ _)); (fail_if_success (with_reducible show wpAny _ _ (PySem.call (Value.ref 49) _) _ _ _)); (fail_if_success (with_reducible show wpAny _ _ (PySem.call (Value.ref 279) _) _ _ _)); (fail_if_success (with_reducible show KCfEl _ _ _ _)); (fail_if_success (with_reducible show LCg.CompSrc _ _ _ _ _ _ _ _ _ _ _ _ _ _)); (fail_if_success (with_reducible show wpAny _ _ (PySem.call (Value.ref _) [Value.ref _]) _ _ _)); (fail_if_success (with_reducible show wpAny _ _ (exec (Stmt.Assign [Expr.Name _ _] (Expr.ListComp _ _ _ _) _) _) _ _ _)); (fail_if_success (with_reducible show wpAny _ _ (PySem.call (Value.type "zip") _) _ _ _)); (fail_if_success (with_reducible show wpAny _ _ (eval (Expr.ListComp _ _ _ _) _) _ _ _)); (fail_if_success (with_reducible show InvEndN _ _ _ _ _ _ _)); (fail_if_success (with_reducible show WhileStep _ _ _ _ _ _ _)); (fail_if_success (with_reducible show TurnEnd _ _ _ _ _ _ _ _ _)); (fail_if_success (with_reducible show wpAny _ _ (PySem.call (Value.ref 340) _) _ _ _)); (fail_if_success (with_reducible show wpAny _ _ (PySem.call (Value.ref 380) _) _ _ _)); (fail_if_success (with_reducible show wpAny _ _ (PySem.call (Value.ref 423) _) _ _ _)); (fail_if_success (with_reducible show wpAny _ _ (PySem.call (Value.ref 442) _) _ _ _)); first | (k_unfold; (try dsimp only)) | (k_end; wrow_close) | walk1 | (dsimp only; walk1) | (leave1; walk_say "STEP leave1"; try dsimp only) | fail "no step"))
                  ((rename Fr _ _ _ _ => F1); (rename News _ _ _ _ => N1))
                  (refine lowerK (dp' := 500) (un' := 300) (c_from_ntt (below_caller _) F1 X1 (permw N1) hx1 hz (fwd_len genL_len) ZL_len ZL_bits xn.1 xn.2.1 xn.2.2.1 xn.2.2.2.1 xn.2.2.2.2 (fun p hp => by cases hp) T1 rfl ?_) (Nat.le_of_ble_eq_true rfl) (Nat.le_of_ble_eq_true rfl))
                  clear F1 N1 hf1 f1 f2 hss hm1
                  intro YP YD ya yb yvs h12 tk12 F1 N1 hy1 f3 f4
                  (rw [law3b] at hy1)
                  (repeat' ((fail_if_success (with_reducible show wpAny _ _ (exec (Stmt.While _ _ _ _) _) _ _ _)); (fail_if_success (with_reducible show wpAny _ _ (pyIter (Value.ref _)) (fun it s₂ => LoopAtV _ _ _ _ _ _ _ _ _ it s₂) _ _)); (fail_if_success (with_reducible show wpAny _ _ (PySem.call (Value.ref 282) _) _ _ _)); (fail_if_success (with_reducible show wpAny _ _ (PySem.call (Value.ref 435) _) _ _ _)); (fail_if_success (with_reducible show wpAny _ _ (PySem.call (Value.ref 49) _) _ _ _)); (fail_if_success (with_reducible show wpAny _ _ (PySem.call (Value.ref 279) _) _ _ _)); (fail_if_success (with_reducible show KCfEl _ _ _ _)); (fail_if_success (with_reducible show LCg.CompSrc _ _ _ _ _ _ _ _ _ _ _ _ _ _)); (fail_if_success (with_reducible show wpAny _ _ (PySem.call (Value.ref _) [Value.ref _]) _ _ _)); (fail_if_success (with_reducible show wpAny _ _ (exec (Stmt.Assign [Expr.Name _ _] (Expr.ListComp _ _ _ _) _) _) _ _ _)); (fail_if_success (with_reducible show wpAny _ _ (PySem.call (Value.type "zip") _) _ _ _)); (fail_if_success (with_reducible show wpAny _ _ (eval (Expr.ListComp _ _ _ _) _) _ _ _)); (fail_if_success (with_reducible show InvEndN _ _ _ _ _ _ _)); (fail_if_success (with_reducible show WhileStep _ _ _ _ _ _ _)); (fail_if_success (with_reducible show TurnEnd _ _ _ _ _ _ _ _ _)); (fail_if_success (with_reducible show wpAny _ _ (PySem.call (Value.ref 340) _) _ _ _)); (fail_if_success (with_reducible show wpAny _ _ (PySem.call (Value.ref 380) _) _ _ _)); (fail_if_success (with_reducible show wpAny _ _ (PySem.call (Value.ref 423) _) _ _ _)); (fail_if_success (with_reducible show wpAny _ _ (PySem.call (Value.ref 442) _) _ _ _)); first | (k_unfold; (try dsimp only)) | walk1 | (dsimp only; walk1) | (leave1; walk_say "STEP leave1"; try dsimp only) | fail "no step"))
                  (rw [dec_gen])
                  · (rename Fr _ _ _ _ => F1)
                    (kc_bool)
                    (refine goodW_bool F1 (by with_reducible assumption) (raisesW_false ?_) ?_)
                    · (wrow_none_raised)
                    · (kc_post)
                  · decide +kernel))
end
end
end Mine
theorem PySem.Challenge.cw_yi0007_01_holds : PySem.Challenge.rw_yi0007_01.Holds :=
  Mine.done_all
