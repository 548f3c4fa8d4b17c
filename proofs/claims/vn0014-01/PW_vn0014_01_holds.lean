import PyProof.Rows.All
import Wide.All
import OpenK.AllK
import Wide.FinOn
import Open.Tops
import PyProof.ExcBaseAll.Exception
import Lean
import PySem.Challenge.RW_vn0014_01
set_option Elab.async false

section
open PySem PySem.W PyProof.Rows PySem.Calls
namespace Mine
/-- a name's kind in a function's scope, by a closed look -/
def kindIs (cs : Scope) (x : PySem.Str) (k : NameKind) : Bool := cs.kind == .function && cs.names.lookup x == some k && !(x == PySem.Str.ofString "__debug__")
theorem kind_is {cs : Scope} {x : PySem.Str} {k : NameKind} (h : kindIs cs x k = true) : cs.kind = .function ∧ cs.names.lookup x = some k ∧ (x == PySem.Str.ofString "__debug__") = false := by
  unfold kindIs at h
  rw [Bool.and_eq_true, Bool.and_eq_true, Bool.not_eq_true'] at h
  exact ⟨eq_of_beq h.1.1, eq_of_beq h.1.2, h.2⟩
section
variable {M : Model} {A : Around} {E : Value → Shared → Prop} {s : Shared} {K : Frag} {h₀ : Heap} {L a : Addr} {m mg mb : PySem.Str → Option Value} {cn : PySem.Str} {cs : Scope} {ccd : Value} {cl : List (PySem.Str × Addr)} {p : Program} {loose : List PySem.Str} {mean : ExcName → Option Value}
  {x : PySem.Str} {v : Value} {pos : Pos} {Q : Value → Shared → Prop} {news : List (Addr × Obj)} {c : Addr} {o : Obj}
theorem nmL (F : Fr h₀ L s.heap m) (hv : m x = some v) (h : Q v s) (q : kindIs cs x .local = true) :
    wpAny M A (eval (.Name x pos) (envX cn cs L a ccd cl)) Q E s := nameX_L F hv h (kind_is q).1 (kind_is q).2.1 (kind_is q).2.2
theorem nmC (N : News h₀ L s.heap news) (hc : cl.lookup x = some c) (hm : (c, o) ∈ news) (hd : o.data = .cell (some v)) (h : Q v s) (q : kindIs cs x .cell = true) :
    wpAny M A (eval (.Name x pos) (envX cn cs L a ccd cl)) Q E s := nameX_C N hc hm hd h (kind_is q).1 (kind_is q).2.1 (kind_is q).2.2
theorem nmK (F : Fr h₀ L s.heap m) (X : K.In h₀) (T : TopRead p loose mg mb h₀) (e : nsIn K mainGlobals x = some (some v)) (h : Q v s) (q : kindIs cs x .globalImplicit = true) :
    wpAny M A (eval (.Name x pos) (envX cn cs L a ccd cl)) Q E s := nameX_K F X T e h (kind_is q).1 (kind_is q).2.1 (kind_is q).2.2
theorem nmB (F : Fr h₀ L s.heap m) (X : K.In h₀) (T : TopRead p loose mg mb h₀) (e : nsIn K mainGlobals x = some none) (hv : bootBuiltins x = some v) (hn : x ≠ "__name__") (h : Q v s) (q : kindIs cs x .globalImplicit = true) :
    wpAny M A (eval (.Name x pos) (envX cn cs L a ccd cl)) Q E s := nameX_B F X T e hv hn h (kind_is q).1 (kind_is q).2.1 (kind_is q).2.2
end
end Mine
end

section
open PySem PySem.W PyProof.Rows
set_option maxRecDepth 100000
set_option maxHeartbeats 8000000
namespace Mine
open_shared Pre for PySem.Challenge.pw_vn0014_01 leaving 50
end Mine
end

section
open PySem PySem.W PyProof.Rows PySem.Calls
set_option maxRecDepth 100000
set_option maxHeartbeats 8000000
namespace Mine
abbrev PP : Program := PySem.Challenge.pw_vn0014_01
noncomputable def hqSt (i : Nat) : Stmt := (behindTheImports PP).getD i (.Pass default)
def hqCls : Stmt → List Stmt
  | .ClassDef _ _ _ b _ _ _ _ _ _ _ => b
  | _ => []
noncomputable def hqAt (i j : Nat) : Stmt := (hqCls (hqSt i)).getD j (.Pass default)
noncomputable def hqIn (i : Nat) : Stmt := hqAt i 0
def hqP : Stmt → Arguments
  | .FunctionDef _ a _ _ _ _ _ _ _ _ => a
  | _ => default
def hqB : Stmt → List Stmt
  | .FunctionDef _ _ b _ _ _ _ _ _ _ => b
  | _ => []
def hqS : Stmt → Scope
  | .FunctionDef _ _ _ _ _ _ s _ _ _ => s
  | _ => default
/-- two marks more among the statics -/
noncomputable def hqAdd (P : Params) (o : Obj) : Obj := ⟨o.cls, o.dict, match o.data with
  | .dict es _ => .dict ((es.push (DictEntry.mk (PyData.keyHash P (PySem.Str.ofString "type.__subclasses__.Exception.0")) (Value.str (PySem.Str.ofString "type.__subclasses__.Exception.0") 1032) (Value.int 630 0))).push (DictEntry.mk (PyData.keyHash P (PySem.Str.ofString "type.__subclasses__.Exception.n")) (Value.str (PySem.Str.ofString "type.__subclasses__.Exception.n") 1033) (Value.int 1 0))) 15
  | d => d, o.slots⟩
noncomputable def q115 (_ : Params) : Obj := Obj.mk (Value.type "type") Option.none (Data.cls (ClassData.mk (PySem.Str.ofString "BufferedIOBase") [Value.ref 100] [Value.ref 115, Value.ref 100, Value.type "object"] 114 (PySem.Str.ofString "BufferedIOBase") Bool.true [] [Value.ref 357] Bool.false Option.none Bool.false)) #[Option.some (Value.ref 106), Option.none, Option.some (Value.str (PySem.Str.ofString "BufferedIOBase") 408), Option.some (Value.str (PySem.Str.ofString "BufferedIOBase") 416), Option.some Value.none, Option.some (Value.bool Bool.true)]
noncomputable def q127 (_ : Params) : Obj := Obj.mk (Value.type "type") Option.none (Data.cls (ClassData.mk (PySem.Str.ofString "TextIOBase") [Value.ref 100] [Value.ref 127, Value.ref 100, Value.type "object"] 126 (PySem.Str.ofString "TextIOBase") Bool.true [] [Value.ref 604] Bool.false Option.none Bool.false)) #[Option.some (Value.ref 118), Option.none, Option.some (Value.str (PySem.Str.ofString "TextIOBase") 426), Option.some (Value.str (PySem.Str.ofString "TextIOBase") 434), Option.some Value.none, Option.some (Value.bool Bool.true)]
noncomputable def q130 (_ : Params) : Obj := Obj.mk (Value.type "tuple") Option.none (Data.seq #[Value.ref 115]) #[]
noncomputable def q131 (_ : Params) : Obj := Obj.mk (Value.type "builtin_function_or_method") Option.none (Data.fields #[Value.builtin "type.__prepare__", Value.type "type"]) #[]
noncomputable def q132 (P : Params) : Obj := Obj.mk (Value.type "dict") Option.none (Data.dict #[DictEntry.mk (PyData.keyHash P (PySem.Str.ofString "__module__")) (Value.str (PySem.Str.ofString "__module__") 451) (Value.str (PySem.Str.ofString "_io") 456), DictEntry.mk (PyData.keyHash P (PySem.Str.ofString "__qualname__")) (Value.str (PySem.Str.ofString "__qualname__") 453) (Value.str (PySem.Str.ofString "BytesIO") 452), DictEntry.mk (PyData.keyHash P (PySem.Str.ofString "__firstlineno__")) (Value.str (PySem.Str.ofString "__firstlineno__") 455) (Value.int 45 454), DictEntry.mk (PyData.keyHash P (PySem.Str.ofString "__init__")) (Value.str (PySem.Str.ofString "__init__") 465) (Value.ref 144), DictEntry.mk (PyData.keyHash P (PySem.Str.ofString "_BytesIO__check")) (Value.str (PySem.Str.ofString "_BytesIO__check") 472) (Value.ref 151), DictEntry.mk (PyData.keyHash P (PySem.Str.ofString "_BytesIO__line")) (Value.str (PySem.Str.ofString "_BytesIO__line") 483) (Value.ref 158), DictEntry.mk (PyData.keyHash P (PySem.Str.ofString "closed")) (Value.str (PySem.Str.ofString "closed") 491) (Value.ref 166), DictEntry.mk (PyData.keyHash P (PySem.Str.ofString "close")) (Value.str (PySem.Str.ofString "close") 498) (Value.ref 173), DictEntry.mk (PyData.keyHash P (PySem.Str.ofString "__enter__")) (Value.str (PySem.Str.ofString "__enter__") 505) (Value.ref 180), DictEntry.mk (PyData.keyHash P (PySem.Str.ofString "__exit__")) (Value.str (PySem.Str.ofString "__exit__") 513) (Value.ref 187), DictEntry.mk (PyData.keyHash P (PySem.Str.ofString "readable")) (Value.str (PySem.Str.ofString "readable") 520) (Value.ref 194), DictEntry.mk (PyData.keyHash P (PySem.Str.ofString "writable")) (Value.str (PySem.Str.ofString "writable") 527) (Value.ref 201), DictEntry.mk (PyData.keyHash P (PySem.Str.ofString "seekable")) (Value.str (PySem.Str.ofString "seekable") 534) (Value.ref 208), DictEntry.mk (PyData.keyHash P (PySem.Str.ofString "isatty")) (Value.str (PySem.Str.ofString "isatty") 541) (Value.ref 215), DictEntry.mk (PyData.keyHash P (PySem.Str.ofString "flush")) (Value.str (PySem.Str.ofString "flush") 548) (Value.ref 222), DictEntry.mk (PyData.keyHash P (PySem.Str.ofString "fileno")) (Value.str (PySem.Str.ofString "fileno") 555) (Value.ref 229), DictEntry.mk (PyData.keyHash P (PySem.Str.ofString "detach")) (Value.str (PySem.Str.ofString "detach") 562) (Value.ref 236), DictEntry.mk (PyData.keyHash P (PySem.Str.ofString "getvalue")) (Value.str (PySem.Str.ofString "getvalue") 569) (Value.ref 243), DictEntry.mk (PyData.keyHash P (PySem.Str.ofString "getbuffer")) (Value.str (PySem.Str.ofString "getbuffer") 576) (Value.ref 250), DictEntry.mk (PyData.keyHash P (PySem.Str.ofString "tell")) (Value.str (PySem.Str.ofString "tell") 583) (Value.ref 257), DictEntry.mk (PyData.keyHash P (PySem.Str.ofString "seek")) (Value.str (PySem.Str.ofString "seek") 593) (Value.ref 265), DictEntry.mk (PyData.keyHash P (PySem.Str.ofString "truncate")) (Value.str (PySem.Str.ofString "truncate") 601) (Value.ref 273), DictEntry.mk (PyData.keyHash P (PySem.Str.ofString "read")) (Value.str (PySem.Str.ofString "read") 613) (Value.ref 281), DictEntry.mk (PyData.keyHash P (PySem.Str.ofString "read1")) (Value.str (PySem.Str.ofString "read1") 623) (Value.ref 289), DictEntry.mk (PyData.keyHash P (PySem.Str.ofString "readinto")) (Value.str (PySem.Str.ofString "readinto") 633) (Value.ref 296), DictEntry.mk (PyData.keyHash P (PySem.Str.ofString "readinto1")) (Value.str (PySem.Str.ofString "readinto1") 641) (Value.ref 303), DictEntry.mk (PyData.keyHash P (PySem.Str.ofString "readline")) (Value.str (PySem.Str.ofString "readline") 651) (Value.ref 311), DictEntry.mk (PyData.keyHash P (PySem.Str.ofString "readlines")) (Value.str (PySem.Str.ofString "readlines") 659) (Value.ref 319), DictEntry.mk (PyData.keyHash P (PySem.Str.ofString "__iter__")) (Value.str (PySem.Str.ofString "__iter__") 666) (Value.ref 326), DictEntry.mk (PyData.keyHash P (PySem.Str.ofString "__next__")) (Value.str (PySem.Str.ofString "__next__") 674) (Value.ref 333), DictEntry.mk (PyData.keyHash P (PySem.Str.ofString "write")) (Value.str (PySem.Str.ofString "write") 684) (Value.ref 340), DictEntry.mk (PyData.keyHash P (PySem.Str.ofString "writelines")) (Value.str (PySem.Str.ofString "writelines") 692) (Value.ref 347), DictEntry.mk (PyData.keyHash P (PySem.Str.ofString "__repr__")) (Value.str (PySem.Str.ofString "__repr__") 699) (Value.ref 354), DictEntry.mk (PyData.keyHash P (PySem.Str.ofString "__static_attributes__")) (Value.str (PySem.Str.ofString "__static_attributes__") 702) (Value.ref 355)] 34) #[]
noncomputable def q133 (_ : Params) : Obj := Obj.mk (Value.type "tuple") Option.none (Data.seq #[]) #[]
noncomputable def q134 (_ : Params) : Obj := Obj.mk Value.none Option.none (Data.fields #[Value.int 48 0, Value.int 4 0, Value.ref 143, Value.int 54 0, Value.int 4 0, Value.ref 150, Value.int 58 0, Value.int 4 0, Value.ref 157, Value.int 72 0, Value.int 4 0, Value.ref 164, Value.int 75 0, Value.int 4 0, Value.ref 172, Value.int 78 0, Value.int 4 0, Value.ref 179, Value.int 82 0, Value.int 4 0, Value.ref 186, Value.int 85 0, Value.int 4 0, Value.ref 193, Value.int 89 0, Value.int 4 0, Value.ref 200, Value.int 93 0, Value.int 4 0, Value.ref 207, Value.int 97 0, Value.int 4 0, Value.ref 214, Value.int 101 0, Value.int 4 0, Value.ref 221, Value.int 104 0, Value.int 4 0, Value.ref 228, Value.int 107 0, Value.int 4 0, Value.ref 235, Value.int 110 0, Value.int 4 0, Value.ref 242, Value.int 113 0, Value.int 4 0, Value.ref 249, Value.int 116 0, Value.int 4 0, Value.ref 256, Value.int 120 0, Value.int 4 0, Value.ref 264, Value.int 137 0, Value.int 4 0, Value.ref 272, Value.int 140 0, Value.int 4 0, Value.ref 280, Value.int 154 0, Value.int 4 0, Value.ref 288, Value.int 157 0, Value.int 4 0, Value.ref 295, Value.int 171 0, Value.int 4 0, Value.ref 302, Value.int 174 0, Value.int 4 0, Value.ref 310, Value.int 181 0, Value.int 4 0, Value.ref 318, Value.int 184 0, Value.int 4 0, Value.ref 325, Value.int 187 0, Value.int 4 0, Value.ref 332, Value.int 194 0, Value.int 4 0, Value.ref 339, Value.int 210 0, Value.int 4 0, Value.ref 346, Value.int 213 0, Value.int 4 0, Value.ref 353]) #[]
noncomputable def q135 (_ : Params) : Obj := Obj.mk (Value.type "code") Option.none (Data.fields #[Value.str (PySem.Str.ofString "BytesIO") 446, Value.str (PySem.Str.ofString "BytesIO") 447, Value.str (PySem.Str.ofString "/claim/cut.py") 448, Value.int 45 0, Value.int 0 0, Value.int 0 0, Value.int 0 0, Value.int 0 0, Value.ref 133, Value.bool Bool.false, Value.int 313 0, Value.ref 134, Value.none, Value.none, Value.none, Value.none, Value.int 449 0, Value.int 45 0, Value.str (PySem.Str.ofString "/claim/cut.py") 450]) #[]
noncomputable def q136 (_ : Params) : Obj := Obj.mk (Value.type "frame") Option.none Data.plain #[Option.some (Value.ref 135), Option.some (Value.ref 3), Option.some (Value.ref 132), Option.none, Option.some (Value.str (PySem.Str.ofString "io") 336), Option.none, Option.some (Value.ref 0)]
noncomputable def q137 (_ : Params) : Obj := Obj.mk (Value.type "tuple") Option.none (Data.seq #[Value.none]) #[]
noncomputable def q138 (_ : Params) : Obj := Obj.mk (Value.type "tuple") Option.none (Data.seq #[]) #[]
noncomputable def q139 (_ : Params) : Obj := Obj.mk Value.none Option.none (Data.fields #[]) #[]
noncomputable def q140 (_ : Params) : Obj := Obj.mk (Value.type "tuple") Option.none (Data.seq #[Value.str (PySem.Str.ofString "self") 461, Value.str (PySem.Str.ofString "initial_bytes") 462]) #[]
noncomputable def q141 (_ : Params) : Obj := Obj.mk (Value.type "tuple") Option.none (Data.seq #[]) #[]
noncomputable def q142 (_ : Params) : Obj := Obj.mk Value.none Option.none (Data.func (FuncData.mk (PySem.Str.ofString "__init__") (PySem.Str.ofString "BytesIO.__init__") (hqP (hqAt 10 1)) (FuncBody.stmts (hqB (hqAt 10 1))) (hqS (hqAt 10 1)) 0 [] Value.none Value.none Value.none Value.none Option.none Value.none Value.none 0)) #[]
noncomputable def q143 (_ : Params) : Obj := Obj.mk (Value.type "code") Option.none (Data.fields #[Value.str (PySem.Str.ofString "__init__") 458, Value.str (PySem.Str.ofString "BytesIO.__init__") 459, Value.str (PySem.Str.ofString "/claim/cut.py") 460, Value.int 48 0, Value.int 2 0, Value.int 0 0, Value.int 0 0, Value.int 3 0, Value.ref 138, Value.bool Bool.true, Value.int 313 0, Value.ref 139, Value.none, Value.ref 140, Value.ref 141, Value.ref 142, Value.int 463 0, Value.int 48 0, Value.str (PySem.Str.ofString "/claim/cut.py") 464]) #[]
noncomputable def q144 (_ : Params) : Obj := Obj.mk (Value.type "function") Option.none (Data.func (FuncData.mk (PySem.Str.ofString "__init__") (PySem.Str.ofString "BytesIO.__init__") (hqP (hqAt 10 1)) (FuncBody.stmts (hqB (hqAt 10 1))) (hqS (hqAt 10 1)) 3 [] (Value.ref 137) Value.none Value.none (Value.str (PySem.Str.ofString "io") 336) Option.none (Value.ref 143) Value.none 0)) #[]
noncomputable def q145 (_ : Params) : Obj := Obj.mk (Value.type "tuple") Option.none (Data.seq #[]) #[]
noncomputable def q146 (_ : Params) : Obj := Obj.mk Value.none Option.none (Data.fields #[]) #[]
noncomputable def q147 (_ : Params) : Obj := Obj.mk (Value.type "tuple") Option.none (Data.seq #[Value.str (PySem.Str.ofString "self") 469]) #[]
noncomputable def q148 (_ : Params) : Obj := Obj.mk (Value.type "tuple") Option.none (Data.seq #[]) #[]
noncomputable def q149 (_ : Params) : Obj := Obj.mk Value.none Option.none (Data.func (FuncData.mk (PySem.Str.ofString "__check") (PySem.Str.ofString "BytesIO.__check") (hqP (hqAt 10 2)) (FuncBody.stmts (hqB (hqAt 10 2))) (hqS (hqAt 10 2)) 0 [] Value.none Value.none Value.none Value.none Option.none Value.none Value.none 0)) #[]
noncomputable def q150 (_ : Params) : Obj := Obj.mk (Value.type "code") Option.none (Data.fields #[Value.str (PySem.Str.ofString "__check") 466, Value.str (PySem.Str.ofString "BytesIO.__check") 467, Value.str (PySem.Str.ofString "/claim/cut.py") 468, Value.int 54 0, Value.int 1 0, Value.int 0 0, Value.int 0 0, Value.int 3 0, Value.ref 145, Value.bool Bool.true, Value.int 313 0, Value.ref 146, Value.none, Value.ref 147, Value.ref 148, Value.ref 149, Value.int 470 0, Value.int 54 0, Value.str (PySem.Str.ofString "/claim/cut.py") 471]) #[]
noncomputable def q151 (_ : Params) : Obj := Obj.mk (Value.type "function") Option.none (Data.func (FuncData.mk (PySem.Str.ofString "__check") (PySem.Str.ofString "BytesIO.__check") (hqP (hqAt 10 2)) (FuncBody.stmts (hqB (hqAt 10 2))) (hqS (hqAt 10 2)) 3 [] Value.none Value.none Value.none (Value.str (PySem.Str.ofString "io") 336) Option.none (Value.ref 150) Value.none 0)) #[]
noncomputable def q152 (_ : Params) : Obj := Obj.mk (Value.type "tuple") Option.none (Data.seq #[]) #[]
noncomputable def q153 (_ : Params) : Obj := Obj.mk Value.none Option.none (Data.fields #[]) #[]
noncomputable def q154 (_ : Params) : Obj := Obj.mk (Value.type "tuple") Option.none (Data.seq #[Value.str (PySem.Str.ofString "self") 476, Value.str (PySem.Str.ofString "limit") 477, Value.str (PySem.Str.ofString "start") 478, Value.str (PySem.Str.ofString "stop") 479, Value.str (PySem.Str.ofString "i") 480]) #[]
noncomputable def q155 (_ : Params) : Obj := Obj.mk (Value.type "tuple") Option.none (Data.seq #[]) #[]
noncomputable def q156 (_ : Params) : Obj := Obj.mk Value.none Option.none (Data.func (FuncData.mk (PySem.Str.ofString "__line") (PySem.Str.ofString "BytesIO.__line") (hqP (hqAt 10 3)) (FuncBody.stmts (hqB (hqAt 10 3))) (hqS (hqAt 10 3)) 0 [] Value.none Value.none Value.none Value.none Option.none Value.none Value.none 0)) #[]
noncomputable def q157 (_ : Params) : Obj := Obj.mk (Value.type "code") Option.none (Data.fields #[Value.str (PySem.Str.ofString "__line") 473, Value.str (PySem.Str.ofString "BytesIO.__line") 474, Value.str (PySem.Str.ofString "/claim/cut.py") 475, Value.int 58 0, Value.int 2 0, Value.int 0 0, Value.int 0 0, Value.int 3 0, Value.ref 152, Value.bool Bool.true, Value.int 313 0, Value.ref 153, Value.none, Value.ref 154, Value.ref 155, Value.ref 156, Value.int 481 0, Value.int 58 0, Value.str (PySem.Str.ofString "/claim/cut.py") 482]) #[]
noncomputable def q158 (_ : Params) : Obj := Obj.mk (Value.type "function") Option.none (Data.func (FuncData.mk (PySem.Str.ofString "__line") (PySem.Str.ofString "BytesIO.__line") (hqP (hqAt 10 3)) (FuncBody.stmts (hqB (hqAt 10 3))) (hqS (hqAt 10 3)) 3 [] Value.none Value.none Value.none (Value.str (PySem.Str.ofString "io") 336) Option.none (Value.ref 157) Value.none 0)) #[]
noncomputable def q159 (_ : Params) : Obj := Obj.mk (Value.type "tuple") Option.none (Data.seq #[]) #[]
noncomputable def q160 (_ : Params) : Obj := Obj.mk Value.none Option.none (Data.fields #[]) #[]
noncomputable def q161 (_ : Params) : Obj := Obj.mk (Value.type "tuple") Option.none (Data.seq #[Value.str (PySem.Str.ofString "self") 487]) #[]
noncomputable def q162 (_ : Params) : Obj := Obj.mk (Value.type "tuple") Option.none (Data.seq #[]) #[]
noncomputable def q163 (_ : Params) : Obj := Obj.mk Value.none Option.none (Data.func (FuncData.mk (PySem.Str.ofString "closed") (PySem.Str.ofString "BytesIO.closed") (hqP (hqAt 10 4)) (FuncBody.stmts (hqB (hqAt 10 4))) (hqS (hqAt 10 4)) 0 [] Value.none Value.none Value.none Value.none Option.none Value.none Value.none 0)) #[]
noncomputable def q164 (_ : Params) : Obj := Obj.mk (Value.type "code") Option.none (Data.fields #[Value.str (PySem.Str.ofString "closed") 484, Value.str (PySem.Str.ofString "BytesIO.closed") 485, Value.str (PySem.Str.ofString "/claim/cut.py") 486, Value.int 71 0, Value.int 1 0, Value.int 0 0, Value.int 0 0, Value.int 3 0, Value.ref 159, Value.bool Bool.true, Value.int 313 0, Value.ref 160, Value.none, Value.ref 161, Value.ref 162, Value.ref 163, Value.int 488 0, Value.int 71 0, Value.str (PySem.Str.ofString "/claim/cut.py") 489]) #[]
noncomputable def q165 (_ : Params) : Obj := Obj.mk (Value.type "function") Option.none (Data.func (FuncData.mk (PySem.Str.ofString "closed") (PySem.Str.ofString "BytesIO.closed") (hqP (hqAt 10 4)) (FuncBody.stmts (hqB (hqAt 10 4))) (hqS (hqAt 10 4)) 3 [] Value.none Value.none Value.none (Value.str (PySem.Str.ofString "io") 336) Option.none (Value.ref 164) Value.none 0)) #[]
noncomputable def q166 (_ : Params) : Obj := Obj.mk (Value.type "property") Option.none (Data.fields #[Value.ref 165, Value.none, Value.none, Value.none, Value.str (PySem.Str.ofString "closed") 491, Value.bool Bool.false]) #[]
noncomputable def q167 (_ : Params) : Obj := Obj.mk (Value.type "tuple") Option.none (Data.seq #[]) #[]
noncomputable def q168 (_ : Params) : Obj := Obj.mk Value.none Option.none (Data.fields #[]) #[]
noncomputable def q169 (_ : Params) : Obj := Obj.mk (Value.type "tuple") Option.none (Data.seq #[Value.str (PySem.Str.ofString "self") 495]) #[]
noncomputable def q170 (_ : Params) : Obj := Obj.mk (Value.type "tuple") Option.none (Data.seq #[]) #[]
noncomputable def q171 (_ : Params) : Obj := Obj.mk Value.none Option.none (Data.func (FuncData.mk (PySem.Str.ofString "close") (PySem.Str.ofString "BytesIO.close") (hqP (hqAt 10 5)) (FuncBody.stmts (hqB (hqAt 10 5))) (hqS (hqAt 10 5)) 0 [] Value.none Value.none Value.none Value.none Option.none Value.none Value.none 0)) #[]
noncomputable def q172 (_ : Params) : Obj := Obj.mk (Value.type "code") Option.none (Data.fields #[Value.str (PySem.Str.ofString "close") 492, Value.str (PySem.Str.ofString "BytesIO.close") 493, Value.str (PySem.Str.ofString "/claim/cut.py") 494, Value.int 75 0, Value.int 1 0, Value.int 0 0, Value.int 0 0, Value.int 3 0, Value.ref 167, Value.bool Bool.true, Value.int 313 0, Value.ref 168, Value.none, Value.ref 169, Value.ref 170, Value.ref 171, Value.int 496 0, Value.int 75 0, Value.str (PySem.Str.ofString "/claim/cut.py") 497]) #[]
noncomputable def q173 (_ : Params) : Obj := Obj.mk (Value.type "function") Option.none (Data.func (FuncData.mk (PySem.Str.ofString "close") (PySem.Str.ofString "BytesIO.close") (hqP (hqAt 10 5)) (FuncBody.stmts (hqB (hqAt 10 5))) (hqS (hqAt 10 5)) 3 [] Value.none Value.none Value.none (Value.str (PySem.Str.ofString "io") 336) Option.none (Value.ref 172) Value.none 0)) #[]
noncomputable def q174 (_ : Params) : Obj := Obj.mk (Value.type "tuple") Option.none (Data.seq #[]) #[]
noncomputable def q175 (_ : Params) : Obj := Obj.mk Value.none Option.none (Data.fields #[]) #[]
noncomputable def q176 (_ : Params) : Obj := Obj.mk (Value.type "tuple") Option.none (Data.seq #[Value.str (PySem.Str.ofString "self") 502]) #[]
noncomputable def q177 (_ : Params) : Obj := Obj.mk (Value.type "tuple") Option.none (Data.seq #[]) #[]
noncomputable def q178 (_ : Params) : Obj := Obj.mk Value.none Option.none (Data.func (FuncData.mk (PySem.Str.ofString "__enter__") (PySem.Str.ofString "BytesIO.__enter__") (hqP (hqAt 10 6)) (FuncBody.stmts (hqB (hqAt 10 6))) (hqS (hqAt 10 6)) 0 [] Value.none Value.none Value.none Value.none Option.none Value.none Value.none 0)) #[]
noncomputable def q179 (_ : Params) : Obj := Obj.mk (Value.type "code") Option.none (Data.fields #[Value.str (PySem.Str.ofString "__enter__") 499, Value.str (PySem.Str.ofString "BytesIO.__enter__") 500, Value.str (PySem.Str.ofString "/claim/cut.py") 501, Value.int 78 0, Value.int 1 0, Value.int 0 0, Value.int 0 0, Value.int 3 0, Value.ref 174, Value.bool Bool.true, Value.int 313 0, Value.ref 175, Value.none, Value.ref 176, Value.ref 177, Value.ref 178, Value.int 503 0, Value.int 78 0, Value.str (PySem.Str.ofString "/claim/cut.py") 504]) #[]
noncomputable def q180 (_ : Params) : Obj := Obj.mk (Value.type "function") Option.none (Data.func (FuncData.mk (PySem.Str.ofString "__enter__") (PySem.Str.ofString "BytesIO.__enter__") (hqP (hqAt 10 6)) (FuncBody.stmts (hqB (hqAt 10 6))) (hqS (hqAt 10 6)) 3 [] Value.none Value.none Value.none (Value.str (PySem.Str.ofString "io") 336) Option.none (Value.ref 179) Value.none 0)) #[]
noncomputable def q181 (_ : Params) : Obj := Obj.mk (Value.type "tuple") Option.none (Data.seq #[]) #[]
noncomputable def q182 (_ : Params) : Obj := Obj.mk Value.none Option.none (Data.fields #[]) #[]
noncomputable def q183 (_ : Params) : Obj := Obj.mk (Value.type "tuple") Option.none (Data.seq #[Value.str (PySem.Str.ofString "self") 509, Value.str (PySem.Str.ofString "args") 510]) #[]
noncomputable def q184 (_ : Params) : Obj := Obj.mk (Value.type "tuple") Option.none (Data.seq #[]) #[]
noncomputable def q185 (_ : Params) : Obj := Obj.mk Value.none Option.none (Data.func (FuncData.mk (PySem.Str.ofString "__exit__") (PySem.Str.ofString "BytesIO.__exit__") (hqP (hqAt 10 7)) (FuncBody.stmts (hqB (hqAt 10 7))) (hqS (hqAt 10 7)) 0 [] Value.none Value.none Value.none Value.none Option.none Value.none Value.none 0)) #[]
noncomputable def q186 (_ : Params) : Obj := Obj.mk (Value.type "code") Option.none (Data.fields #[Value.str (PySem.Str.ofString "__exit__") 506, Value.str (PySem.Str.ofString "BytesIO.__exit__") 507, Value.str (PySem.Str.ofString "/claim/cut.py") 508, Value.int 82 0, Value.int 1 0, Value.int 0 0, Value.int 0 0, Value.int 7 0, Value.ref 181, Value.bool Bool.true, Value.int 313 0, Value.ref 182, Value.none, Value.ref 183, Value.ref 184, Value.ref 185, Value.int 511 0, Value.int 82 0, Value.str (PySem.Str.ofString "/claim/cut.py") 512]) #[]
noncomputable def q187 (_ : Params) : Obj := Obj.mk (Value.type "function") Option.none (Data.func (FuncData.mk (PySem.Str.ofString "__exit__") (PySem.Str.ofString "BytesIO.__exit__") (hqP (hqAt 10 7)) (FuncBody.stmts (hqB (hqAt 10 7))) (hqS (hqAt 10 7)) 3 [] Value.none Value.none Value.none (Value.str (PySem.Str.ofString "io") 336) Option.none (Value.ref 186) Value.none 0)) #[]
noncomputable def q188 (_ : Params) : Obj := Obj.mk (Value.type "tuple") Option.none (Data.seq #[]) #[]
noncomputable def q189 (_ : Params) : Obj := Obj.mk Value.none Option.none (Data.fields #[]) #[]
noncomputable def q190 (_ : Params) : Obj := Obj.mk (Value.type "tuple") Option.none (Data.seq #[Value.str (PySem.Str.ofString "self") 517]) #[]
noncomputable def q191 (_ : Params) : Obj := Obj.mk (Value.type "tuple") Option.none (Data.seq #[]) #[]
noncomputable def q192 (_ : Params) : Obj := Obj.mk Value.none Option.none (Data.func (FuncData.mk (PySem.Str.ofString "readable") (PySem.Str.ofString "BytesIO.readable") (hqP (hqAt 10 8)) (FuncBody.stmts (hqB (hqAt 10 8))) (hqS (hqAt 10 8)) 0 [] Value.none Value.none Value.none Value.none Option.none Value.none Value.none 0)) #[]
noncomputable def q193 (_ : Params) : Obj := Obj.mk (Value.type "code") Option.none (Data.fields #[Value.str (PySem.Str.ofString "readable") 514, Value.str (PySem.Str.ofString "BytesIO.readable") 515, Value.str (PySem.Str.ofString "/claim/cut.py") 516, Value.int 85 0, Value.int 1 0, Value.int 0 0, Value.int 0 0, Value.int 3 0, Value.ref 188, Value.bool Bool.true, Value.int 313 0, Value.ref 189, Value.none, Value.ref 190, Value.ref 191, Value.ref 192, Value.int 518 0, Value.int 85 0, Value.str (PySem.Str.ofString "/claim/cut.py") 519]) #[]
noncomputable def q194 (_ : Params) : Obj := Obj.mk (Value.type "function") Option.none (Data.func (FuncData.mk (PySem.Str.ofString "readable") (PySem.Str.ofString "BytesIO.readable") (hqP (hqAt 10 8)) (FuncBody.stmts (hqB (hqAt 10 8))) (hqS (hqAt 10 8)) 3 [] Value.none Value.none Value.none (Value.str (PySem.Str.ofString "io") 336) Option.none (Value.ref 193) Value.none 0)) #[]
noncomputable def q195 (_ : Params) : Obj := Obj.mk (Value.type "tuple") Option.none (Data.seq #[]) #[]
noncomputable def q196 (_ : Params) : Obj := Obj.mk Value.none Option.none (Data.fields #[]) #[]
noncomputable def q197 (_ : Params) : Obj := Obj.mk (Value.type "tuple") Option.none (Data.seq #[Value.str (PySem.Str.ofString "self") 524]) #[]
noncomputable def q198 (_ : Params) : Obj := Obj.mk (Value.type "tuple") Option.none (Data.seq #[]) #[]
noncomputable def q199 (_ : Params) : Obj := Obj.mk Value.none Option.none (Data.func (FuncData.mk (PySem.Str.ofString "writable") (PySem.Str.ofString "BytesIO.writable") (hqP (hqAt 10 9)) (FuncBody.stmts (hqB (hqAt 10 9))) (hqS (hqAt 10 9)) 0 [] Value.none Value.none Value.none Value.none Option.none Value.none Value.none 0)) #[]
noncomputable def q200 (_ : Params) : Obj := Obj.mk (Value.type "code") Option.none (Data.fields #[Value.str (PySem.Str.ofString "writable") 521, Value.str (PySem.Str.ofString "BytesIO.writable") 522, Value.str (PySem.Str.ofString "/claim/cut.py") 523, Value.int 89 0, Value.int 1 0, Value.int 0 0, Value.int 0 0, Value.int 3 0, Value.ref 195, Value.bool Bool.true, Value.int 313 0, Value.ref 196, Value.none, Value.ref 197, Value.ref 198, Value.ref 199, Value.int 525 0, Value.int 89 0, Value.str (PySem.Str.ofString "/claim/cut.py") 526]) #[]
noncomputable def q201 (_ : Params) : Obj := Obj.mk (Value.type "function") Option.none (Data.func (FuncData.mk (PySem.Str.ofString "writable") (PySem.Str.ofString "BytesIO.writable") (hqP (hqAt 10 9)) (FuncBody.stmts (hqB (hqAt 10 9))) (hqS (hqAt 10 9)) 3 [] Value.none Value.none Value.none (Value.str (PySem.Str.ofString "io") 336) Option.none (Value.ref 200) Value.none 0)) #[]
noncomputable def q202 (_ : Params) : Obj := Obj.mk (Value.type "tuple") Option.none (Data.seq #[]) #[]
noncomputable def q203 (_ : Params) : Obj := Obj.mk Value.none Option.none (Data.fields #[]) #[]
noncomputable def q204 (_ : Params) : Obj := Obj.mk (Value.type "tuple") Option.none (Data.seq #[Value.str (PySem.Str.ofString "self") 531]) #[]
noncomputable def q205 (_ : Params) : Obj := Obj.mk (Value.type "tuple") Option.none (Data.seq #[]) #[]
noncomputable def q206 (_ : Params) : Obj := Obj.mk Value.none Option.none (Data.func (FuncData.mk (PySem.Str.ofString "seekable") (PySem.Str.ofString "BytesIO.seekable") (hqP (hqAt 10 10)) (FuncBody.stmts (hqB (hqAt 10 10))) (hqS (hqAt 10 10)) 0 [] Value.none Value.none Value.none Value.none Option.none Value.none Value.none 0)) #[]
noncomputable def q207 (_ : Params) : Obj := Obj.mk (Value.type "code") Option.none (Data.fields #[Value.str (PySem.Str.ofString "seekable") 528, Value.str (PySem.Str.ofString "BytesIO.seekable") 529, Value.str (PySem.Str.ofString "/claim/cut.py") 530, Value.int 93 0, Value.int 1 0, Value.int 0 0, Value.int 0 0, Value.int 3 0, Value.ref 202, Value.bool Bool.true, Value.int 313 0, Value.ref 203, Value.none, Value.ref 204, Value.ref 205, Value.ref 206, Value.int 532 0, Value.int 93 0, Value.str (PySem.Str.ofString "/claim/cut.py") 533]) #[]
noncomputable def q208 (_ : Params) : Obj := Obj.mk (Value.type "function") Option.none (Data.func (FuncData.mk (PySem.Str.ofString "seekable") (PySem.Str.ofString "BytesIO.seekable") (hqP (hqAt 10 10)) (FuncBody.stmts (hqB (hqAt 10 10))) (hqS (hqAt 10 10)) 3 [] Value.none Value.none Value.none (Value.str (PySem.Str.ofString "io") 336) Option.none (Value.ref 207) Value.none 0)) #[]
noncomputable def q209 (_ : Params) : Obj := Obj.mk (Value.type "tuple") Option.none (Data.seq #[]) #[]
noncomputable def q210 (_ : Params) : Obj := Obj.mk Value.none Option.none (Data.fields #[]) #[]
noncomputable def q211 (_ : Params) : Obj := Obj.mk (Value.type "tuple") Option.none (Data.seq #[Value.str (PySem.Str.ofString "self") 538]) #[]
noncomputable def q212 (_ : Params) : Obj := Obj.mk (Value.type "tuple") Option.none (Data.seq #[]) #[]
noncomputable def q213 (_ : Params) : Obj := Obj.mk Value.none Option.none (Data.func (FuncData.mk (PySem.Str.ofString "isatty") (PySem.Str.ofString "BytesIO.isatty") (hqP (hqAt 10 11)) (FuncBody.stmts (hqB (hqAt 10 11))) (hqS (hqAt 10 11)) 0 [] Value.none Value.none Value.none Value.none Option.none Value.none Value.none 0)) #[]
noncomputable def q214 (_ : Params) : Obj := Obj.mk (Value.type "code") Option.none (Data.fields #[Value.str (PySem.Str.ofString "isatty") 535, Value.str (PySem.Str.ofString "BytesIO.isatty") 536, Value.str (PySem.Str.ofString "/claim/cut.py") 537, Value.int 97 0, Value.int 1 0, Value.int 0 0, Value.int 0 0, Value.int 3 0, Value.ref 209, Value.bool Bool.true, Value.int 313 0, Value.ref 210, Value.none, Value.ref 211, Value.ref 212, Value.ref 213, Value.int 539 0, Value.int 97 0, Value.str (PySem.Str.ofString "/claim/cut.py") 540]) #[]
noncomputable def q215 (_ : Params) : Obj := Obj.mk (Value.type "function") Option.none (Data.func (FuncData.mk (PySem.Str.ofString "isatty") (PySem.Str.ofString "BytesIO.isatty") (hqP (hqAt 10 11)) (FuncBody.stmts (hqB (hqAt 10 11))) (hqS (hqAt 10 11)) 3 [] Value.none Value.none Value.none (Value.str (PySem.Str.ofString "io") 336) Option.none (Value.ref 214) Value.none 0)) #[]
noncomputable def q216 (_ : Params) : Obj := Obj.mk (Value.type "tuple") Option.none (Data.seq #[]) #[]
noncomputable def q217 (_ : Params) : Obj := Obj.mk Value.none Option.none (Data.fields #[]) #[]
noncomputable def q218 (_ : Params) : Obj := Obj.mk (Value.type "tuple") Option.none (Data.seq #[Value.str (PySem.Str.ofString "self") 545]) #[]
noncomputable def q219 (_ : Params) : Obj := Obj.mk (Value.type "tuple") Option.none (Data.seq #[]) #[]
noncomputable def q220 (_ : Params) : Obj := Obj.mk Value.none Option.none (Data.func (FuncData.mk (PySem.Str.ofString "flush") (PySem.Str.ofString "BytesIO.flush") (hqP (hqAt 10 12)) (FuncBody.stmts (hqB (hqAt 10 12))) (hqS (hqAt 10 12)) 0 [] Value.none Value.none Value.none Value.none Option.none Value.none Value.none 0)) #[]
noncomputable def q221 (_ : Params) : Obj := Obj.mk (Value.type "code") Option.none (Data.fields #[Value.str (PySem.Str.ofString "flush") 542, Value.str (PySem.Str.ofString "BytesIO.flush") 543, Value.str (PySem.Str.ofString "/claim/cut.py") 544, Value.int 101 0, Value.int 1 0, Value.int 0 0, Value.int 0 0, Value.int 3 0, Value.ref 216, Value.bool Bool.true, Value.int 313 0, Value.ref 217, Value.none, Value.ref 218, Value.ref 219, Value.ref 220, Value.int 546 0, Value.int 101 0, Value.str (PySem.Str.ofString "/claim/cut.py") 547]) #[]
noncomputable def q222 (_ : Params) : Obj := Obj.mk (Value.type "function") Option.none (Data.func (FuncData.mk (PySem.Str.ofString "flush") (PySem.Str.ofString "BytesIO.flush") (hqP (hqAt 10 12)) (FuncBody.stmts (hqB (hqAt 10 12))) (hqS (hqAt 10 12)) 3 [] Value.none Value.none Value.none (Value.str (PySem.Str.ofString "io") 336) Option.none (Value.ref 221) Value.none 0)) #[]
noncomputable def q223 (_ : Params) : Obj := Obj.mk (Value.type "tuple") Option.none (Data.seq #[]) #[]
noncomputable def q224 (_ : Params) : Obj := Obj.mk Value.none Option.none (Data.fields #[]) #[]
noncomputable def q225 (_ : Params) : Obj := Obj.mk (Value.type "tuple") Option.none (Data.seq #[Value.str (PySem.Str.ofString "self") 552]) #[]
noncomputable def q226 (_ : Params) : Obj := Obj.mk (Value.type "tuple") Option.none (Data.seq #[]) #[]
noncomputable def q227 (_ : Params) : Obj := Obj.mk Value.none Option.none (Data.func (FuncData.mk (PySem.Str.ofString "fileno") (PySem.Str.ofString "BytesIO.fileno") (hqP (hqAt 10 13)) (FuncBody.stmts (hqB (hqAt 10 13))) (hqS (hqAt 10 13)) 0 [] Value.none Value.none Value.none Value.none Option.none Value.none Value.none 0)) #[]
noncomputable def q228 (_ : Params) : Obj := Obj.mk (Value.type "code") Option.none (Data.fields #[Value.str (PySem.Str.ofString "fileno") 549, Value.str (PySem.Str.ofString "BytesIO.fileno") 550, Value.str (PySem.Str.ofString "/claim/cut.py") 551, Value.int 104 0, Value.int 1 0, Value.int 0 0, Value.int 0 0, Value.int 3 0, Value.ref 223, Value.bool Bool.true, Value.int 313 0, Value.ref 224, Value.none, Value.ref 225, Value.ref 226, Value.ref 227, Value.int 553 0, Value.int 104 0, Value.str (PySem.Str.ofString "/claim/cut.py") 554]) #[]
noncomputable def q229 (_ : Params) : Obj := Obj.mk (Value.type "function") Option.none (Data.func (FuncData.mk (PySem.Str.ofString "fileno") (PySem.Str.ofString "BytesIO.fileno") (hqP (hqAt 10 13)) (FuncBody.stmts (hqB (hqAt 10 13))) (hqS (hqAt 10 13)) 3 [] Value.none Value.none Value.none (Value.str (PySem.Str.ofString "io") 336) Option.none (Value.ref 228) Value.none 0)) #[]
noncomputable def q230 (_ : Params) : Obj := Obj.mk (Value.type "tuple") Option.none (Data.seq #[]) #[]
noncomputable def q231 (_ : Params) : Obj := Obj.mk Value.none Option.none (Data.fields #[]) #[]
noncomputable def q232 (_ : Params) : Obj := Obj.mk (Value.type "tuple") Option.none (Data.seq #[Value.str (PySem.Str.ofString "self") 559]) #[]
noncomputable def q233 (_ : Params) : Obj := Obj.mk (Value.type "tuple") Option.none (Data.seq #[]) #[]
noncomputable def q234 (_ : Params) : Obj := Obj.mk Value.none Option.none (Data.func (FuncData.mk (PySem.Str.ofString "detach") (PySem.Str.ofString "BytesIO.detach") (hqP (hqAt 10 14)) (FuncBody.stmts (hqB (hqAt 10 14))) (hqS (hqAt 10 14)) 0 [] Value.none Value.none Value.none Value.none Option.none Value.none Value.none 0)) #[]
noncomputable def q235 (_ : Params) : Obj := Obj.mk (Value.type "code") Option.none (Data.fields #[Value.str (PySem.Str.ofString "detach") 556, Value.str (PySem.Str.ofString "BytesIO.detach") 557, Value.str (PySem.Str.ofString "/claim/cut.py") 558, Value.int 107 0, Value.int 1 0, Value.int 0 0, Value.int 0 0, Value.int 3 0, Value.ref 230, Value.bool Bool.true, Value.int 313 0, Value.ref 231, Value.none, Value.ref 232, Value.ref 233, Value.ref 234, Value.int 560 0, Value.int 107 0, Value.str (PySem.Str.ofString "/claim/cut.py") 561]) #[]
noncomputable def q236 (_ : Params) : Obj := Obj.mk (Value.type "function") Option.none (Data.func (FuncData.mk (PySem.Str.ofString "detach") (PySem.Str.ofString "BytesIO.detach") (hqP (hqAt 10 14)) (FuncBody.stmts (hqB (hqAt 10 14))) (hqS (hqAt 10 14)) 3 [] Value.none Value.none Value.none (Value.str (PySem.Str.ofString "io") 336) Option.none (Value.ref 235) Value.none 0)) #[]
noncomputable def q237 (_ : Params) : Obj := Obj.mk (Value.type "tuple") Option.none (Data.seq #[]) #[]
noncomputable def q238 (_ : Params) : Obj := Obj.mk Value.none Option.none (Data.fields #[]) #[]
noncomputable def q239 (_ : Params) : Obj := Obj.mk (Value.type "tuple") Option.none (Data.seq #[Value.str (PySem.Str.ofString "self") 566]) #[]
noncomputable def q240 (_ : Params) : Obj := Obj.mk (Value.type "tuple") Option.none (Data.seq #[]) #[]
noncomputable def q241 (_ : Params) : Obj := Obj.mk Value.none Option.none (Data.func (FuncData.mk (PySem.Str.ofString "getvalue") (PySem.Str.ofString "BytesIO.getvalue") (hqP (hqAt 10 15)) (FuncBody.stmts (hqB (hqAt 10 15))) (hqS (hqAt 10 15)) 0 [] Value.none Value.none Value.none Value.none Option.none Value.none Value.none 0)) #[]
noncomputable def q242 (_ : Params) : Obj := Obj.mk (Value.type "code") Option.none (Data.fields #[Value.str (PySem.Str.ofString "getvalue") 563, Value.str (PySem.Str.ofString "BytesIO.getvalue") 564, Value.str (PySem.Str.ofString "/claim/cut.py") 565, Value.int 110 0, Value.int 1 0, Value.int 0 0, Value.int 0 0, Value.int 3 0, Value.ref 237, Value.bool Bool.true, Value.int 313 0, Value.ref 238, Value.none, Value.ref 239, Value.ref 240, Value.ref 241, Value.int 567 0, Value.int 110 0, Value.str (PySem.Str.ofString "/claim/cut.py") 568]) #[]
noncomputable def q243 (_ : Params) : Obj := Obj.mk (Value.type "function") Option.none (Data.func (FuncData.mk (PySem.Str.ofString "getvalue") (PySem.Str.ofString "BytesIO.getvalue") (hqP (hqAt 10 15)) (FuncBody.stmts (hqB (hqAt 10 15))) (hqS (hqAt 10 15)) 3 [] Value.none Value.none Value.none (Value.str (PySem.Str.ofString "io") 336) Option.none (Value.ref 242) Value.none 0)) #[]
noncomputable def q244 (_ : Params) : Obj := Obj.mk (Value.type "tuple") Option.none (Data.seq #[]) #[]
noncomputable def q245 (_ : Params) : Obj := Obj.mk Value.none Option.none (Data.fields #[]) #[]
noncomputable def q246 (_ : Params) : Obj := Obj.mk (Value.type "tuple") Option.none (Data.seq #[Value.str (PySem.Str.ofString "self") 573]) #[]
noncomputable def q247 (_ : Params) : Obj := Obj.mk (Value.type "tuple") Option.none (Data.seq #[]) #[]
noncomputable def q248 (_ : Params) : Obj := Obj.mk Value.none Option.none (Data.func (FuncData.mk (PySem.Str.ofString "getbuffer") (PySem.Str.ofString "BytesIO.getbuffer") (hqP (hqAt 10 16)) (FuncBody.stmts (hqB (hqAt 10 16))) (hqS (hqAt 10 16)) 0 [] Value.none Value.none Value.none Value.none Option.none Value.none Value.none 0)) #[]
noncomputable def q249 (_ : Params) : Obj := Obj.mk (Value.type "code") Option.none (Data.fields #[Value.str (PySem.Str.ofString "getbuffer") 570, Value.str (PySem.Str.ofString "BytesIO.getbuffer") 571, Value.str (PySem.Str.ofString "/claim/cut.py") 572, Value.int 113 0, Value.int 1 0, Value.int 0 0, Value.int 0 0, Value.int 3 0, Value.ref 244, Value.bool Bool.true, Value.int 313 0, Value.ref 245, Value.none, Value.ref 246, Value.ref 247, Value.ref 248, Value.int 574 0, Value.int 113 0, Value.str (PySem.Str.ofString "/claim/cut.py") 575]) #[]
noncomputable def q250 (_ : Params) : Obj := Obj.mk (Value.type "function") Option.none (Data.func (FuncData.mk (PySem.Str.ofString "getbuffer") (PySem.Str.ofString "BytesIO.getbuffer") (hqP (hqAt 10 16)) (FuncBody.stmts (hqB (hqAt 10 16))) (hqS (hqAt 10 16)) 3 [] Value.none Value.none Value.none (Value.str (PySem.Str.ofString "io") 336) Option.none (Value.ref 249) Value.none 0)) #[]
noncomputable def q251 (_ : Params) : Obj := Obj.mk (Value.type "tuple") Option.none (Data.seq #[]) #[]
noncomputable def q252 (_ : Params) : Obj := Obj.mk Value.none Option.none (Data.fields #[]) #[]
noncomputable def q253 (_ : Params) : Obj := Obj.mk (Value.type "tuple") Option.none (Data.seq #[Value.str (PySem.Str.ofString "self") 580]) #[]
noncomputable def q254 (_ : Params) : Obj := Obj.mk (Value.type "tuple") Option.none (Data.seq #[]) #[]
noncomputable def q255 (_ : Params) : Obj := Obj.mk Value.none Option.none (Data.func (FuncData.mk (PySem.Str.ofString "tell") (PySem.Str.ofString "BytesIO.tell") (hqP (hqAt 10 17)) (FuncBody.stmts (hqB (hqAt 10 17))) (hqS (hqAt 10 17)) 0 [] Value.none Value.none Value.none Value.none Option.none Value.none Value.none 0)) #[]
noncomputable def q256 (_ : Params) : Obj := Obj.mk (Value.type "code") Option.none (Data.fields #[Value.str (PySem.Str.ofString "tell") 577, Value.str (PySem.Str.ofString "BytesIO.tell") 578, Value.str (PySem.Str.ofString "/claim/cut.py") 579, Value.int 116 0, Value.int 1 0, Value.int 0 0, Value.int 0 0, Value.int 3 0, Value.ref 251, Value.bool Bool.true, Value.int 313 0, Value.ref 252, Value.none, Value.ref 253, Value.ref 254, Value.ref 255, Value.int 581 0, Value.int 116 0, Value.str (PySem.Str.ofString "/claim/cut.py") 582]) #[]
noncomputable def q257 (_ : Params) : Obj := Obj.mk (Value.type "function") Option.none (Data.func (FuncData.mk (PySem.Str.ofString "tell") (PySem.Str.ofString "BytesIO.tell") (hqP (hqAt 10 17)) (FuncBody.stmts (hqB (hqAt 10 17))) (hqS (hqAt 10 17)) 3 [] Value.none Value.none Value.none (Value.str (PySem.Str.ofString "io") 336) Option.none (Value.ref 256) Value.none 0)) #[]
noncomputable def q258 (_ : Params) : Obj := Obj.mk (Value.type "tuple") Option.none (Data.seq #[Value.int 0 584]) #[]
noncomputable def q259 (_ : Params) : Obj := Obj.mk (Value.type "tuple") Option.none (Data.seq #[]) #[]
noncomputable def q260 (_ : Params) : Obj := Obj.mk Value.none Option.none (Data.fields #[]) #[]
noncomputable def q261 (_ : Params) : Obj := Obj.mk (Value.type "tuple") Option.none (Data.seq #[Value.str (PySem.Str.ofString "self") 588, Value.str (PySem.Str.ofString "pos") 589, Value.str (PySem.Str.ofString "whence") 590]) #[]
noncomputable def q262 (_ : Params) : Obj := Obj.mk (Value.type "tuple") Option.none (Data.seq #[]) #[]
noncomputable def q263 (_ : Params) : Obj := Obj.mk Value.none Option.none (Data.func (FuncData.mk (PySem.Str.ofString "seek") (PySem.Str.ofString "BytesIO.seek") (hqP (hqAt 10 18)) (FuncBody.stmts (hqB (hqAt 10 18))) (hqS (hqAt 10 18)) 0 [] Value.none Value.none Value.none Value.none Option.none Value.none Value.none 0)) #[]
noncomputable def q264 (_ : Params) : Obj := Obj.mk (Value.type "code") Option.none (Data.fields #[Value.str (PySem.Str.ofString "seek") 585, Value.str (PySem.Str.ofString "BytesIO.seek") 586, Value.str (PySem.Str.ofString "/claim/cut.py") 587, Value.int 120 0, Value.int 3 0, Value.int 3 0, Value.int 0 0, Value.int 3 0, Value.ref 259, Value.bool Bool.true, Value.int 313 0, Value.ref 260, Value.none, Value.ref 261, Value.ref 262, Value.ref 263, Value.int 591 0, Value.int 120 0, Value.str (PySem.Str.ofString "/claim/cut.py") 592]) #[]
noncomputable def q265 (_ : Params) : Obj := Obj.mk (Value.type "function") Option.none (Data.func (FuncData.mk (PySem.Str.ofString "seek") (PySem.Str.ofString "BytesIO.seek") (hqP (hqAt 10 18)) (FuncBody.stmts (hqB (hqAt 10 18))) (hqS (hqAt 10 18)) 3 [] (Value.ref 258) Value.none Value.none (Value.str (PySem.Str.ofString "io") 336) Option.none (Value.ref 264) Value.none 0)) #[]
noncomputable def q266 (_ : Params) : Obj := Obj.mk (Value.type "tuple") Option.none (Data.seq #[Value.none]) #[]
noncomputable def q267 (_ : Params) : Obj := Obj.mk (Value.type "tuple") Option.none (Data.seq #[]) #[]
noncomputable def q268 (_ : Params) : Obj := Obj.mk Value.none Option.none (Data.fields #[]) #[]
noncomputable def q269 (_ : Params) : Obj := Obj.mk (Value.type "tuple") Option.none (Data.seq #[Value.str (PySem.Str.ofString "self") 597, Value.str (PySem.Str.ofString "size") 598]) #[]
noncomputable def q270 (_ : Params) : Obj := Obj.mk (Value.type "tuple") Option.none (Data.seq #[]) #[]
noncomputable def q271 (_ : Params) : Obj := Obj.mk Value.none Option.none (Data.func (FuncData.mk (PySem.Str.ofString "truncate") (PySem.Str.ofString "BytesIO.truncate") (hqP (hqAt 10 19)) (FuncBody.stmts (hqB (hqAt 10 19))) (hqS (hqAt 10 19)) 0 [] Value.none Value.none Value.none Value.none Option.none Value.none Value.none 0)) #[]
noncomputable def q272 (_ : Params) : Obj := Obj.mk (Value.type "code") Option.none (Data.fields #[Value.str (PySem.Str.ofString "truncate") 594, Value.str (PySem.Str.ofString "BytesIO.truncate") 595, Value.str (PySem.Str.ofString "/claim/cut.py") 596, Value.int 137 0, Value.int 2 0, Value.int 2 0, Value.int 0 0, Value.int 3 0, Value.ref 267, Value.bool Bool.true, Value.int 313 0, Value.ref 268, Value.none, Value.ref 269, Value.ref 270, Value.ref 271, Value.int 599 0, Value.int 137 0, Value.str (PySem.Str.ofString "/claim/cut.py") 600]) #[]
noncomputable def q273 (_ : Params) : Obj := Obj.mk (Value.type "function") Option.none (Data.func (FuncData.mk (PySem.Str.ofString "truncate") (PySem.Str.ofString "BytesIO.truncate") (hqP (hqAt 10 19)) (FuncBody.stmts (hqB (hqAt 10 19))) (hqS (hqAt 10 19)) 3 [] (Value.ref 266) Value.none Value.none (Value.str (PySem.Str.ofString "io") 336) Option.none (Value.ref 272) Value.none 0)) #[]
noncomputable def q274 (_ : Params) : Obj := Obj.mk (Value.type "tuple") Option.none (Data.seq #[Value.int (-1) 603]) #[]
noncomputable def q275 (_ : Params) : Obj := Obj.mk (Value.type "tuple") Option.none (Data.seq #[]) #[]
noncomputable def q276 (_ : Params) : Obj := Obj.mk Value.none Option.none (Data.fields #[]) #[]
noncomputable def q277 (_ : Params) : Obj := Obj.mk (Value.type "tuple") Option.none (Data.seq #[Value.str (PySem.Str.ofString "self") 607, Value.str (PySem.Str.ofString "size") 608, Value.str (PySem.Str.ofString "start") 609, Value.str (PySem.Str.ofString "stop") 610]) #[]
noncomputable def q278 (_ : Params) : Obj := Obj.mk (Value.type "tuple") Option.none (Data.seq #[]) #[]
noncomputable def q279 (_ : Params) : Obj := Obj.mk Value.none Option.none (Data.func (FuncData.mk (PySem.Str.ofString "read") (PySem.Str.ofString "BytesIO.read") (hqP (hqAt 10 20)) (FuncBody.stmts (hqB (hqAt 10 20))) (hqS (hqAt 10 20)) 0 [] Value.none Value.none Value.none Value.none Option.none Value.none Value.none 0)) #[]
noncomputable def q280 (_ : Params) : Obj := Obj.mk (Value.type "code") Option.none (Data.fields #[Value.str (PySem.Str.ofString "read") 604, Value.str (PySem.Str.ofString "BytesIO.read") 605, Value.str (PySem.Str.ofString "/claim/cut.py") 606, Value.int 140 0, Value.int 2 0, Value.int 2 0, Value.int 0 0, Value.int 3 0, Value.ref 275, Value.bool Bool.true, Value.int 313 0, Value.ref 276, Value.none, Value.ref 277, Value.ref 278, Value.ref 279, Value.int 611 0, Value.int 140 0, Value.str (PySem.Str.ofString "/claim/cut.py") 612]) #[]
noncomputable def q281 (_ : Params) : Obj := Obj.mk (Value.type "function") Option.none (Data.func (FuncData.mk (PySem.Str.ofString "read") (PySem.Str.ofString "BytesIO.read") (hqP (hqAt 10 20)) (FuncBody.stmts (hqB (hqAt 10 20))) (hqS (hqAt 10 20)) 3 [] (Value.ref 274) Value.none Value.none (Value.str (PySem.Str.ofString "io") 336) Option.none (Value.ref 280) Value.none 0)) #[]
noncomputable def q282 (_ : Params) : Obj := Obj.mk (Value.type "tuple") Option.none (Data.seq #[Value.int (-1) 615]) #[]
noncomputable def q283 (_ : Params) : Obj := Obj.mk (Value.type "tuple") Option.none (Data.seq #[]) #[]
noncomputable def q284 (_ : Params) : Obj := Obj.mk Value.none Option.none (Data.fields #[]) #[]
noncomputable def q285 (_ : Params) : Obj := Obj.mk (Value.type "tuple") Option.none (Data.seq #[Value.str (PySem.Str.ofString "self") 619, Value.str (PySem.Str.ofString "size") 620]) #[]
noncomputable def q286 (_ : Params) : Obj := Obj.mk (Value.type "tuple") Option.none (Data.seq #[]) #[]
noncomputable def q287 (_ : Params) : Obj := Obj.mk Value.none Option.none (Data.func (FuncData.mk (PySem.Str.ofString "read1") (PySem.Str.ofString "BytesIO.read1") (hqP (hqAt 10 21)) (FuncBody.stmts (hqB (hqAt 10 21))) (hqS (hqAt 10 21)) 0 [] Value.none Value.none Value.none Value.none Option.none Value.none Value.none 0)) #[]
noncomputable def q288 (_ : Params) : Obj := Obj.mk (Value.type "code") Option.none (Data.fields #[Value.str (PySem.Str.ofString "read1") 616, Value.str (PySem.Str.ofString "BytesIO.read1") 617, Value.str (PySem.Str.ofString "/claim/cut.py") 618, Value.int 154 0, Value.int 2 0, Value.int 2 0, Value.int 0 0, Value.int 3 0, Value.ref 283, Value.bool Bool.true, Value.int 313 0, Value.ref 284, Value.none, Value.ref 285, Value.ref 286, Value.ref 287, Value.int 621 0, Value.int 154 0, Value.str (PySem.Str.ofString "/claim/cut.py") 622]) #[]
noncomputable def q289 (_ : Params) : Obj := Obj.mk (Value.type "function") Option.none (Data.func (FuncData.mk (PySem.Str.ofString "read1") (PySem.Str.ofString "BytesIO.read1") (hqP (hqAt 10 21)) (FuncBody.stmts (hqB (hqAt 10 21))) (hqS (hqAt 10 21)) 3 [] (Value.ref 282) Value.none Value.none (Value.str (PySem.Str.ofString "io") 336) Option.none (Value.ref 288) Value.none 0)) #[]
noncomputable def q290 (_ : Params) : Obj := Obj.mk (Value.type "tuple") Option.none (Data.seq #[]) #[]
noncomputable def q291 (_ : Params) : Obj := Obj.mk Value.none Option.none (Data.fields #[]) #[]
noncomputable def q292 (_ : Params) : Obj := Obj.mk (Value.type "tuple") Option.none (Data.seq #[Value.str (PySem.Str.ofString "self") 627, Value.str (PySem.Str.ofString "buffer") 628, Value.str (PySem.Str.ofString "start") 629, Value.str (PySem.Str.ofString "n") 630]) #[]
noncomputable def q293 (_ : Params) : Obj := Obj.mk (Value.type "tuple") Option.none (Data.seq #[]) #[]
noncomputable def q294 (_ : Params) : Obj := Obj.mk Value.none Option.none (Data.func (FuncData.mk (PySem.Str.ofString "readinto") (PySem.Str.ofString "BytesIO.readinto") (hqP (hqAt 10 22)) (FuncBody.stmts (hqB (hqAt 10 22))) (hqS (hqAt 10 22)) 0 [] Value.none Value.none Value.none Value.none Option.none Value.none Value.none 0)) #[]
noncomputable def q295 (_ : Params) : Obj := Obj.mk (Value.type "code") Option.none (Data.fields #[Value.str (PySem.Str.ofString "readinto") 624, Value.str (PySem.Str.ofString "BytesIO.readinto") 625, Value.str (PySem.Str.ofString "/claim/cut.py") 626, Value.int 157 0, Value.int 2 0, Value.int 2 0, Value.int 0 0, Value.int 3 0, Value.ref 290, Value.bool Bool.true, Value.int 313 0, Value.ref 291, Value.none, Value.ref 292, Value.ref 293, Value.ref 294, Value.int 631 0, Value.int 157 0, Value.str (PySem.Str.ofString "/claim/cut.py") 632]) #[]
noncomputable def q296 (_ : Params) : Obj := Obj.mk (Value.type "function") Option.none (Data.func (FuncData.mk (PySem.Str.ofString "readinto") (PySem.Str.ofString "BytesIO.readinto") (hqP (hqAt 10 22)) (FuncBody.stmts (hqB (hqAt 10 22))) (hqS (hqAt 10 22)) 3 [] Value.none Value.none Value.none (Value.str (PySem.Str.ofString "io") 336) Option.none (Value.ref 295) Value.none 0)) #[]
noncomputable def q297 (_ : Params) : Obj := Obj.mk (Value.type "tuple") Option.none (Data.seq #[]) #[]
noncomputable def q298 (_ : Params) : Obj := Obj.mk Value.none Option.none (Data.fields #[]) #[]
noncomputable def q299 (_ : Params) : Obj := Obj.mk (Value.type "tuple") Option.none (Data.seq #[Value.str (PySem.Str.ofString "self") 637, Value.str (PySem.Str.ofString "buffer") 638]) #[]
noncomputable def q300 (_ : Params) : Obj := Obj.mk (Value.type "tuple") Option.none (Data.seq #[]) #[]
noncomputable def q301 (_ : Params) : Obj := Obj.mk Value.none Option.none (Data.func (FuncData.mk (PySem.Str.ofString "readinto1") (PySem.Str.ofString "BytesIO.readinto1") (hqP (hqAt 10 23)) (FuncBody.stmts (hqB (hqAt 10 23))) (hqS (hqAt 10 23)) 0 [] Value.none Value.none Value.none Value.none Option.none Value.none Value.none 0)) #[]
noncomputable def q302 (_ : Params) : Obj := Obj.mk (Value.type "code") Option.none (Data.fields #[Value.str (PySem.Str.ofString "readinto1") 634, Value.str (PySem.Str.ofString "BytesIO.readinto1") 635, Value.str (PySem.Str.ofString "/claim/cut.py") 636, Value.int 171 0, Value.int 2 0, Value.int 2 0, Value.int 0 0, Value.int 3 0, Value.ref 297, Value.bool Bool.true, Value.int 313 0, Value.ref 298, Value.none, Value.ref 299, Value.ref 300, Value.ref 301, Value.int 639 0, Value.int 171 0, Value.str (PySem.Str.ofString "/claim/cut.py") 640]) #[]
noncomputable def q303 (_ : Params) : Obj := Obj.mk (Value.type "function") Option.none (Data.func (FuncData.mk (PySem.Str.ofString "readinto1") (PySem.Str.ofString "BytesIO.readinto1") (hqP (hqAt 10 23)) (FuncBody.stmts (hqB (hqAt 10 23))) (hqS (hqAt 10 23)) 3 [] Value.none Value.none Value.none (Value.str (PySem.Str.ofString "io") 336) Option.none (Value.ref 302) Value.none 0)) #[]
noncomputable def q304 (_ : Params) : Obj := Obj.mk (Value.type "tuple") Option.none (Data.seq #[Value.int (-1) 643]) #[]
noncomputable def q305 (_ : Params) : Obj := Obj.mk (Value.type "tuple") Option.none (Data.seq #[]) #[]
noncomputable def q306 (_ : Params) : Obj := Obj.mk Value.none Option.none (Data.fields #[]) #[]
noncomputable def q307 (_ : Params) : Obj := Obj.mk (Value.type "tuple") Option.none (Data.seq #[Value.str (PySem.Str.ofString "self") 647, Value.str (PySem.Str.ofString "size") 648]) #[]
noncomputable def q308 (_ : Params) : Obj := Obj.mk (Value.type "tuple") Option.none (Data.seq #[]) #[]
noncomputable def q309 (_ : Params) : Obj := Obj.mk Value.none Option.none (Data.func (FuncData.mk (PySem.Str.ofString "readline") (PySem.Str.ofString "BytesIO.readline") (hqP (hqAt 10 24)) (FuncBody.stmts (hqB (hqAt 10 24))) (hqS (hqAt 10 24)) 0 [] Value.none Value.none Value.none Value.none Option.none Value.none Value.none 0)) #[]
noncomputable def q310 (_ : Params) : Obj := Obj.mk (Value.type "code") Option.none (Data.fields #[Value.str (PySem.Str.ofString "readline") 644, Value.str (PySem.Str.ofString "BytesIO.readline") 645, Value.str (PySem.Str.ofString "/claim/cut.py") 646, Value.int 174 0, Value.int 2 0, Value.int 2 0, Value.int 0 0, Value.int 3 0, Value.ref 305, Value.bool Bool.true, Value.int 313 0, Value.ref 306, Value.none, Value.ref 307, Value.ref 308, Value.ref 309, Value.int 649 0, Value.int 174 0, Value.str (PySem.Str.ofString "/claim/cut.py") 650]) #[]
noncomputable def q311 (_ : Params) : Obj := Obj.mk (Value.type "function") Option.none (Data.func (FuncData.mk (PySem.Str.ofString "readline") (PySem.Str.ofString "BytesIO.readline") (hqP (hqAt 10 24)) (FuncBody.stmts (hqB (hqAt 10 24))) (hqS (hqAt 10 24)) 3 [] (Value.ref 304) Value.none Value.none (Value.str (PySem.Str.ofString "io") 336) Option.none (Value.ref 310) Value.none 0)) #[]
noncomputable def q312 (_ : Params) : Obj := Obj.mk (Value.type "tuple") Option.none (Data.seq #[Value.none]) #[]
noncomputable def q313 (_ : Params) : Obj := Obj.mk (Value.type "tuple") Option.none (Data.seq #[]) #[]
noncomputable def q314 (_ : Params) : Obj := Obj.mk Value.none Option.none (Data.fields #[]) #[]
noncomputable def q315 (_ : Params) : Obj := Obj.mk (Value.type "tuple") Option.none (Data.seq #[Value.str (PySem.Str.ofString "self") 655, Value.str (PySem.Str.ofString "size") 656]) #[]
noncomputable def q316 (_ : Params) : Obj := Obj.mk (Value.type "tuple") Option.none (Data.seq #[]) #[]
noncomputable def q317 (_ : Params) : Obj := Obj.mk Value.none Option.none (Data.func (FuncData.mk (PySem.Str.ofString "readlines") (PySem.Str.ofString "BytesIO.readlines") (hqP (hqAt 10 25)) (FuncBody.stmts (hqB (hqAt 10 25))) (hqS (hqAt 10 25)) 0 [] Value.none Value.none Value.none Value.none Option.none Value.none Value.none 0)) #[]
noncomputable def q318 (_ : Params) : Obj := Obj.mk (Value.type "code") Option.none (Data.fields #[Value.str (PySem.Str.ofString "readlines") 652, Value.str (PySem.Str.ofString "BytesIO.readlines") 653, Value.str (PySem.Str.ofString "/claim/cut.py") 654, Value.int 181 0, Value.int 2 0, Value.int 2 0, Value.int 0 0, Value.int 3 0, Value.ref 313, Value.bool Bool.true, Value.int 313 0, Value.ref 314, Value.none, Value.ref 315, Value.ref 316, Value.ref 317, Value.int 657 0, Value.int 181 0, Value.str (PySem.Str.ofString "/claim/cut.py") 658]) #[]
noncomputable def q319 (_ : Params) : Obj := Obj.mk (Value.type "function") Option.none (Data.func (FuncData.mk (PySem.Str.ofString "readlines") (PySem.Str.ofString "BytesIO.readlines") (hqP (hqAt 10 25)) (FuncBody.stmts (hqB (hqAt 10 25))) (hqS (hqAt 10 25)) 3 [] (Value.ref 312) Value.none Value.none (Value.str (PySem.Str.ofString "io") 336) Option.none (Value.ref 318) Value.none 0)) #[]
noncomputable def q320 (_ : Params) : Obj := Obj.mk (Value.type "tuple") Option.none (Data.seq #[]) #[]
noncomputable def q321 (_ : Params) : Obj := Obj.mk Value.none Option.none (Data.fields #[]) #[]
noncomputable def q322 (_ : Params) : Obj := Obj.mk (Value.type "tuple") Option.none (Data.seq #[Value.str (PySem.Str.ofString "self") 663]) #[]
noncomputable def q323 (_ : Params) : Obj := Obj.mk (Value.type "tuple") Option.none (Data.seq #[]) #[]
noncomputable def q324 (_ : Params) : Obj := Obj.mk Value.none Option.none (Data.func (FuncData.mk (PySem.Str.ofString "__iter__") (PySem.Str.ofString "BytesIO.__iter__") (hqP (hqAt 10 26)) (FuncBody.stmts (hqB (hqAt 10 26))) (hqS (hqAt 10 26)) 0 [] Value.none Value.none Value.none Value.none Option.none Value.none Value.none 0)) #[]
noncomputable def q325 (_ : Params) : Obj := Obj.mk (Value.type "code") Option.none (Data.fields #[Value.str (PySem.Str.ofString "__iter__") 660, Value.str (PySem.Str.ofString "BytesIO.__iter__") 661, Value.str (PySem.Str.ofString "/claim/cut.py") 662, Value.int 184 0, Value.int 1 0, Value.int 0 0, Value.int 0 0, Value.int 3 0, Value.ref 320, Value.bool Bool.true, Value.int 313 0, Value.ref 321, Value.none, Value.ref 322, Value.ref 323, Value.ref 324, Value.int 664 0, Value.int 184 0, Value.str (PySem.Str.ofString "/claim/cut.py") 665]) #[]
noncomputable def q326 (_ : Params) : Obj := Obj.mk (Value.type "function") Option.none (Data.func (FuncData.mk (PySem.Str.ofString "__iter__") (PySem.Str.ofString "BytesIO.__iter__") (hqP (hqAt 10 26)) (FuncBody.stmts (hqB (hqAt 10 26))) (hqS (hqAt 10 26)) 3 [] Value.none Value.none Value.none (Value.str (PySem.Str.ofString "io") 336) Option.none (Value.ref 325) Value.none 0)) #[]
noncomputable def q327 (_ : Params) : Obj := Obj.mk (Value.type "tuple") Option.none (Data.seq #[]) #[]
noncomputable def q328 (_ : Params) : Obj := Obj.mk Value.none Option.none (Data.fields #[]) #[]
noncomputable def q329 (_ : Params) : Obj := Obj.mk (Value.type "tuple") Option.none (Data.seq #[Value.str (PySem.Str.ofString "self") 670, Value.str (PySem.Str.ofString "line") 671]) #[]
noncomputable def q330 (_ : Params) : Obj := Obj.mk (Value.type "tuple") Option.none (Data.seq #[]) #[]
noncomputable def q331 (_ : Params) : Obj := Obj.mk Value.none Option.none (Data.func (FuncData.mk (PySem.Str.ofString "__next__") (PySem.Str.ofString "BytesIO.__next__") (hqP (hqAt 10 27)) (FuncBody.stmts (hqB (hqAt 10 27))) (hqS (hqAt 10 27)) 0 [] Value.none Value.none Value.none Value.none Option.none Value.none Value.none 0)) #[]
noncomputable def q332 (_ : Params) : Obj := Obj.mk (Value.type "code") Option.none (Data.fields #[Value.str (PySem.Str.ofString "__next__") 667, Value.str (PySem.Str.ofString "BytesIO.__next__") 668, Value.str (PySem.Str.ofString "/claim/cut.py") 669, Value.int 187 0, Value.int 1 0, Value.int 0 0, Value.int 0 0, Value.int 3 0, Value.ref 327, Value.bool Bool.true, Value.int 313 0, Value.ref 328, Value.none, Value.ref 329, Value.ref 330, Value.ref 331, Value.int 672 0, Value.int 187 0, Value.str (PySem.Str.ofString "/claim/cut.py") 673]) #[]
noncomputable def q333 (_ : Params) : Obj := Obj.mk (Value.type "function") Option.none (Data.func (FuncData.mk (PySem.Str.ofString "__next__") (PySem.Str.ofString "BytesIO.__next__") (hqP (hqAt 10 27)) (FuncBody.stmts (hqB (hqAt 10 27))) (hqS (hqAt 10 27)) 3 [] Value.none Value.none Value.none (Value.str (PySem.Str.ofString "io") 336) Option.none (Value.ref 332) Value.none 0)) #[]
noncomputable def q334 (_ : Params) : Obj := Obj.mk (Value.type "tuple") Option.none (Data.seq #[]) #[]
noncomputable def q335 (_ : Params) : Obj := Obj.mk Value.none Option.none (Data.fields #[]) #[]
noncomputable def q336 (_ : Params) : Obj := Obj.mk (Value.type "tuple") Option.none (Data.seq #[Value.str (PySem.Str.ofString "self") 678, Value.str (PySem.Str.ofString "b") 679, Value.str (PySem.Str.ofString "n") 680, Value.str (PySem.Str.ofString "start") 681]) #[]
noncomputable def q337 (_ : Params) : Obj := Obj.mk (Value.type "tuple") Option.none (Data.seq #[]) #[]
noncomputable def q338 (_ : Params) : Obj := Obj.mk Value.none Option.none (Data.func (FuncData.mk (PySem.Str.ofString "write") (PySem.Str.ofString "BytesIO.write") (hqP (hqAt 10 28)) (FuncBody.stmts (hqB (hqAt 10 28))) (hqS (hqAt 10 28)) 0 [] Value.none Value.none Value.none Value.none Option.none Value.none Value.none 0)) #[]
noncomputable def q339 (_ : Params) : Obj := Obj.mk (Value.type "code") Option.none (Data.fields #[Value.str (PySem.Str.ofString "write") 675, Value.str (PySem.Str.ofString "BytesIO.write") 676, Value.str (PySem.Str.ofString "/claim/cut.py") 677, Value.int 194 0, Value.int 2 0, Value.int 2 0, Value.int 0 0, Value.int 3 0, Value.ref 334, Value.bool Bool.true, Value.int 313 0, Value.ref 335, Value.none, Value.ref 336, Value.ref 337, Value.ref 338, Value.int 682 0, Value.int 194 0, Value.str (PySem.Str.ofString "/claim/cut.py") 683]) #[]
noncomputable def q340 (_ : Params) : Obj := Obj.mk (Value.type "function") Option.none (Data.func (FuncData.mk (PySem.Str.ofString "write") (PySem.Str.ofString "BytesIO.write") (hqP (hqAt 10 28)) (FuncBody.stmts (hqB (hqAt 10 28))) (hqS (hqAt 10 28)) 3 [] Value.none Value.none Value.none (Value.str (PySem.Str.ofString "io") 336) Option.none (Value.ref 339) Value.none 0)) #[]
noncomputable def q341 (_ : Params) : Obj := Obj.mk (Value.type "tuple") Option.none (Data.seq #[]) #[]
noncomputable def q342 (_ : Params) : Obj := Obj.mk Value.none Option.none (Data.fields #[]) #[]
noncomputable def q343 (_ : Params) : Obj := Obj.mk (Value.type "tuple") Option.none (Data.seq #[Value.str (PySem.Str.ofString "self") 688, Value.str (PySem.Str.ofString "lines") 689]) #[]
noncomputable def q344 (_ : Params) : Obj := Obj.mk (Value.type "tuple") Option.none (Data.seq #[]) #[]
noncomputable def q345 (_ : Params) : Obj := Obj.mk Value.none Option.none (Data.func (FuncData.mk (PySem.Str.ofString "writelines") (PySem.Str.ofString "BytesIO.writelines") (hqP (hqAt 10 29)) (FuncBody.stmts (hqB (hqAt 10 29))) (hqS (hqAt 10 29)) 0 [] Value.none Value.none Value.none Value.none Option.none Value.none Value.none 0)) #[]
noncomputable def q346 (_ : Params) : Obj := Obj.mk (Value.type "code") Option.none (Data.fields #[Value.str (PySem.Str.ofString "writelines") 685, Value.str (PySem.Str.ofString "BytesIO.writelines") 686, Value.str (PySem.Str.ofString "/claim/cut.py") 687, Value.int 210 0, Value.int 2 0, Value.int 2 0, Value.int 0 0, Value.int 3 0, Value.ref 341, Value.bool Bool.true, Value.int 313 0, Value.ref 342, Value.none, Value.ref 343, Value.ref 344, Value.ref 345, Value.int 690 0, Value.int 210 0, Value.str (PySem.Str.ofString "/claim/cut.py") 691]) #[]
noncomputable def q347 (_ : Params) : Obj := Obj.mk (Value.type "function") Option.none (Data.func (FuncData.mk (PySem.Str.ofString "writelines") (PySem.Str.ofString "BytesIO.writelines") (hqP (hqAt 10 29)) (FuncBody.stmts (hqB (hqAt 10 29))) (hqS (hqAt 10 29)) 3 [] Value.none Value.none Value.none (Value.str (PySem.Str.ofString "io") 336) Option.none (Value.ref 346) Value.none 0)) #[]
noncomputable def q348 (_ : Params) : Obj := Obj.mk (Value.type "tuple") Option.none (Data.seq #[]) #[]
noncomputable def q349 (_ : Params) : Obj := Obj.mk Value.none Option.none (Data.fields #[]) #[]
noncomputable def q350 (_ : Params) : Obj := Obj.mk (Value.type "tuple") Option.none (Data.seq #[Value.str (PySem.Str.ofString "self") 696]) #[]
noncomputable def q351 (_ : Params) : Obj := Obj.mk (Value.type "tuple") Option.none (Data.seq #[]) #[]
noncomputable def q352 (_ : Params) : Obj := Obj.mk Value.none Option.none (Data.func (FuncData.mk (PySem.Str.ofString "__repr__") (PySem.Str.ofString "BytesIO.__repr__") (hqP (hqAt 10 30)) (FuncBody.stmts (hqB (hqAt 10 30))) (hqS (hqAt 10 30)) 0 [] Value.none Value.none Value.none Value.none Option.none Value.none Value.none 0)) #[]
noncomputable def q353 (_ : Params) : Obj := Obj.mk (Value.type "code") Option.none (Data.fields #[Value.str (PySem.Str.ofString "__repr__") 693, Value.str (PySem.Str.ofString "BytesIO.__repr__") 694, Value.str (PySem.Str.ofString "/claim/cut.py") 695, Value.int 213 0, Value.int 1 0, Value.int 0 0, Value.int 0 0, Value.int 3 0, Value.ref 348, Value.bool Bool.true, Value.int 313 0, Value.ref 349, Value.none, Value.ref 350, Value.ref 351, Value.ref 352, Value.int 697 0, Value.int 213 0, Value.str (PySem.Str.ofString "/claim/cut.py") 698]) #[]
noncomputable def q354 (_ : Params) : Obj := Obj.mk (Value.type "function") Option.none (Data.func (FuncData.mk (PySem.Str.ofString "__repr__") (PySem.Str.ofString "BytesIO.__repr__") (hqP (hqAt 10 30)) (FuncBody.stmts (hqB (hqAt 10 30))) (hqS (hqAt 10 30)) 3 [] Value.none Value.none Value.none (Value.str (PySem.Str.ofString "io") 336) Option.none (Value.ref 353) Value.none 0)) #[]
noncomputable def q355 (_ : Params) : Obj := Obj.mk (Value.type "tuple") Option.none (Data.seq #[Value.str (PySem.Str.ofString "__buf") 700, Value.str (PySem.Str.ofString "__pos") 701]) #[]
noncomputable def q356 (P : Params) : Obj := Obj.mk (Value.type "dict") Option.none (Data.dict #[DictEntry.mk (PyData.keyHash P (PySem.Str.ofString "__module__")) (Value.str (PySem.Str.ofString "__module__") 451) (Value.str (PySem.Str.ofString "_io") 456), DictEntry.mk (PyData.keyHash P (PySem.Str.ofString "__firstlineno__")) (Value.str (PySem.Str.ofString "__firstlineno__") 455) (Value.int 45 454), DictEntry.mk (PyData.keyHash P (PySem.Str.ofString "__init__")) (Value.str (PySem.Str.ofString "__init__") 465) (Value.ref 144), DictEntry.mk (PyData.keyHash P (PySem.Str.ofString "_BytesIO__check")) (Value.str (PySem.Str.ofString "_BytesIO__check") 472) (Value.ref 151), DictEntry.mk (PyData.keyHash P (PySem.Str.ofString "_BytesIO__line")) (Value.str (PySem.Str.ofString "_BytesIO__line") 483) (Value.ref 158), DictEntry.mk (PyData.keyHash P (PySem.Str.ofString "closed")) (Value.str (PySem.Str.ofString "closed") 491) (Value.ref 166), DictEntry.mk (PyData.keyHash P (PySem.Str.ofString "close")) (Value.str (PySem.Str.ofString "close") 498) (Value.ref 173), DictEntry.mk (PyData.keyHash P (PySem.Str.ofString "__enter__")) (Value.str (PySem.Str.ofString "__enter__") 505) (Value.ref 180), DictEntry.mk (PyData.keyHash P (PySem.Str.ofString "__exit__")) (Value.str (PySem.Str.ofString "__exit__") 513) (Value.ref 187), DictEntry.mk (PyData.keyHash P (PySem.Str.ofString "readable")) (Value.str (PySem.Str.ofString "readable") 520) (Value.ref 194), DictEntry.mk (PyData.keyHash P (PySem.Str.ofString "writable")) (Value.str (PySem.Str.ofString "writable") 527) (Value.ref 201), DictEntry.mk (PyData.keyHash P (PySem.Str.ofString "seekable")) (Value.str (PySem.Str.ofString "seekable") 534) (Value.ref 208), DictEntry.mk (PyData.keyHash P (PySem.Str.ofString "isatty")) (Value.str (PySem.Str.ofString "isatty") 541) (Value.ref 215), DictEntry.mk (PyData.keyHash P (PySem.Str.ofString "flush")) (Value.str (PySem.Str.ofString "flush") 548) (Value.ref 222), DictEntry.mk (PyData.keyHash P (PySem.Str.ofString "fileno")) (Value.str (PySem.Str.ofString "fileno") 555) (Value.ref 229), DictEntry.mk (PyData.keyHash P (PySem.Str.ofString "detach")) (Value.str (PySem.Str.ofString "detach") 562) (Value.ref 236), DictEntry.mk (PyData.keyHash P (PySem.Str.ofString "getvalue")) (Value.str (PySem.Str.ofString "getvalue") 569) (Value.ref 243), DictEntry.mk (PyData.keyHash P (PySem.Str.ofString "getbuffer")) (Value.str (PySem.Str.ofString "getbuffer") 576) (Value.ref 250), DictEntry.mk (PyData.keyHash P (PySem.Str.ofString "tell")) (Value.str (PySem.Str.ofString "tell") 583) (Value.ref 257), DictEntry.mk (PyData.keyHash P (PySem.Str.ofString "seek")) (Value.str (PySem.Str.ofString "seek") 593) (Value.ref 265), DictEntry.mk (PyData.keyHash P (PySem.Str.ofString "truncate")) (Value.str (PySem.Str.ofString "truncate") 601) (Value.ref 273), DictEntry.mk (PyData.keyHash P (PySem.Str.ofString "read")) (Value.str (PySem.Str.ofString "read") 613) (Value.ref 281), DictEntry.mk (PyData.keyHash P (PySem.Str.ofString "read1")) (Value.str (PySem.Str.ofString "read1") 623) (Value.ref 289), DictEntry.mk (PyData.keyHash P (PySem.Str.ofString "readinto")) (Value.str (PySem.Str.ofString "readinto") 633) (Value.ref 296), DictEntry.mk (PyData.keyHash P (PySem.Str.ofString "readinto1")) (Value.str (PySem.Str.ofString "readinto1") 641) (Value.ref 303), DictEntry.mk (PyData.keyHash P (PySem.Str.ofString "readline")) (Value.str (PySem.Str.ofString "readline") 651) (Value.ref 311), DictEntry.mk (PyData.keyHash P (PySem.Str.ofString "readlines")) (Value.str (PySem.Str.ofString "readlines") 659) (Value.ref 319), DictEntry.mk (PyData.keyHash P (PySem.Str.ofString "__iter__")) (Value.str (PySem.Str.ofString "__iter__") 666) (Value.ref 326), DictEntry.mk (PyData.keyHash P (PySem.Str.ofString "__next__")) (Value.str (PySem.Str.ofString "__next__") 674) (Value.ref 333), DictEntry.mk (PyData.keyHash P (PySem.Str.ofString "write")) (Value.str (PySem.Str.ofString "write") 684) (Value.ref 340), DictEntry.mk (PyData.keyHash P (PySem.Str.ofString "writelines")) (Value.str (PySem.Str.ofString "writelines") 692) (Value.ref 347), DictEntry.mk (PyData.keyHash P (PySem.Str.ofString "__repr__")) (Value.str (PySem.Str.ofString "__repr__") 699) (Value.ref 354), DictEntry.mk (PyData.keyHash P (PySem.Str.ofString "__static_attributes__")) (Value.str (PySem.Str.ofString "__static_attributes__") 702) (Value.ref 355), DictEntry.mk (PyData.keyHash P (PySem.Str.ofString "__doc__")) (Value.str (PySem.Str.ofString "__doc__") 703) Value.none] 2) #[]
noncomputable def q357 (_ : Params) : Obj := Obj.mk (Value.type "type") Option.none (Data.cls (ClassData.mk (PySem.Str.ofString "BytesIO") [Value.ref 115] [Value.ref 357, Value.ref 115, Value.ref 100, Value.type "object"] 356 (PySem.Str.ofString "BytesIO") Bool.true [] [] Bool.false Option.none Bool.false)) #[Option.some (Value.ref 130), Option.none, Option.some (Value.str (PySem.Str.ofString "BytesIO") 444), Option.some (Value.str (PySem.Str.ofString "BytesIO") 452), Option.some Value.none, Option.some (Value.bool Bool.true)]
noncomputable def q358 (_ : Params) : Obj := Obj.mk (Value.type "super") Option.none (Data.fields #[Value.ref 357, Value.ref 357, Value.ref 357]) #[]
noncomputable def q359 (_ : Params) : Obj := Obj.mk (Value.type "builtin_function_or_method") Option.none (Data.fields #[Value.builtin "object.__init_subclass__", Value.ref 357]) #[]
noncomputable def q360 (_ : Params) : Obj := Obj.mk (Value.type "tuple") Option.none (Data.seq #[Value.ref 127]) #[]
noncomputable def q361 (_ : Params) : Obj := Obj.mk (Value.type "builtin_function_or_method") Option.none (Data.fields #[Value.builtin "type.__prepare__", Value.type "type"]) #[]
noncomputable def q362 (P : Params) : Obj := Obj.mk (Value.type "dict") Option.none (Data.dict #[DictEntry.mk (PyData.keyHash P (PySem.Str.ofString "__module__")) (Value.str (PySem.Str.ofString "__module__") 713) (Value.str (PySem.Str.ofString "_io") 718), DictEntry.mk (PyData.keyHash P (PySem.Str.ofString "__qualname__")) (Value.str (PySem.Str.ofString "__qualname__") 715) (Value.str (PySem.Str.ofString "StringIO") 714), DictEntry.mk (PyData.keyHash P (PySem.Str.ofString "__firstlineno__")) (Value.str (PySem.Str.ofString "__firstlineno__") 717) (Value.int 215 716), DictEntry.mk (PyData.keyHash P (PySem.Str.ofString "__init__")) (Value.str (PySem.Str.ofString "__init__") 730) (Value.ref 374), DictEntry.mk (PyData.keyHash P (PySem.Str.ofString "_StringIO__translated")) (Value.str (PySem.Str.ofString "_StringIO__translated") 739) (Value.ref 381), DictEntry.mk (PyData.keyHash P (PySem.Str.ofString "_StringIO__check")) (Value.str (PySem.Str.ofString "_StringIO__check") 746) (Value.ref 388), DictEntry.mk (PyData.keyHash P (PySem.Str.ofString "_StringIO__check_dot")) (Value.str (PySem.Str.ofString "_StringIO__check_dot") 753) (Value.ref 395), DictEntry.mk (PyData.keyHash P (PySem.Str.ofString "_StringIO__line")) (Value.str (PySem.Str.ofString "_StringIO__line") 768) (Value.ref 402), DictEntry.mk (PyData.keyHash P (PySem.Str.ofString "closed")) (Value.str (PySem.Str.ofString "closed") 776) (Value.ref 410), DictEntry.mk (PyData.keyHash P (PySem.Str.ofString "line_buffering")) (Value.str (PySem.Str.ofString "line_buffering") 784) (Value.ref 418), DictEntry.mk (PyData.keyHash P (PySem.Str.ofString "newlines")) (Value.str (PySem.Str.ofString "newlines") 792) (Value.ref 426), DictEntry.mk (PyData.keyHash P (PySem.Str.ofString "encoding")) (Value.str (PySem.Str.ofString "encoding") 800) (Value.ref 434), DictEntry.mk (PyData.keyHash P (PySem.Str.ofString "errors")) (Value.str (PySem.Str.ofString "errors") 808) (Value.ref 442), DictEntry.mk (PyData.keyHash P (PySem.Str.ofString "close")) (Value.str (PySem.Str.ofString "close") 815) (Value.ref 449), DictEntry.mk (PyData.keyHash P (PySem.Str.ofString "__enter__")) (Value.str (PySem.Str.ofString "__enter__") 822) (Value.ref 456), DictEntry.mk (PyData.keyHash P (PySem.Str.ofString "__exit__")) (Value.str (PySem.Str.ofString "__exit__") 830) (Value.ref 463), DictEntry.mk (PyData.keyHash P (PySem.Str.ofString "readable")) (Value.str (PySem.Str.ofString "readable") 837) (Value.ref 470), DictEntry.mk (PyData.keyHash P (PySem.Str.ofString "writable")) (Value.str (PySem.Str.ofString "writable") 844) (Value.ref 477), DictEntry.mk (PyData.keyHash P (PySem.Str.ofString "seekable")) (Value.str (PySem.Str.ofString "seekable") 851) (Value.ref 484), DictEntry.mk (PyData.keyHash P (PySem.Str.ofString "isatty")) (Value.str (PySem.Str.ofString "isatty") 858) (Value.ref 491), DictEntry.mk (PyData.keyHash P (PySem.Str.ofString "flush")) (Value.str (PySem.Str.ofString "flush") 865) (Value.ref 498), DictEntry.mk (PyData.keyHash P (PySem.Str.ofString "fileno")) (Value.str (PySem.Str.ofString "fileno") 872) (Value.ref 505), DictEntry.mk (PyData.keyHash P (PySem.Str.ofString "detach")) (Value.str (PySem.Str.ofString "detach") 879) (Value.ref 512), DictEntry.mk (PyData.keyHash P (PySem.Str.ofString "getvalue")) (Value.str (PySem.Str.ofString "getvalue") 886) (Value.ref 519), DictEntry.mk (PyData.keyHash P (PySem.Str.ofString "tell")) (Value.str (PySem.Str.ofString "tell") 893) (Value.ref 526), DictEntry.mk (PyData.keyHash P (PySem.Str.ofString "seek")) (Value.str (PySem.Str.ofString "seek") 903) (Value.ref 534), DictEntry.mk (PyData.keyHash P (PySem.Str.ofString "truncate")) (Value.str (PySem.Str.ofString "truncate") 911) (Value.ref 542), DictEntry.mk (PyData.keyHash P (PySem.Str.ofString "read")) (Value.str (PySem.Str.ofString "read") 923) (Value.ref 550), DictEntry.mk (PyData.keyHash P (PySem.Str.ofString "readline")) (Value.str (PySem.Str.ofString "readline") 933) (Value.ref 558), DictEntry.mk (PyData.keyHash P (PySem.Str.ofString "readlines")) (Value.str (PySem.Str.ofString "readlines") 943) (Value.ref 566), DictEntry.mk (PyData.keyHash P (PySem.Str.ofString "__iter__")) (Value.str (PySem.Str.ofString "__iter__") 950) (Value.ref 573), DictEntry.mk (PyData.keyHash P (PySem.Str.ofString "__next__")) (Value.str (PySem.Str.ofString "__next__") 958) (Value.ref 580), DictEntry.mk (PyData.keyHash P (PySem.Str.ofString "write")) (Value.str (PySem.Str.ofString "write") 970) (Value.ref 587), DictEntry.mk (PyData.keyHash P (PySem.Str.ofString "writelines")) (Value.str (PySem.Str.ofString "writelines") 978) (Value.ref 594), DictEntry.mk (PyData.keyHash P (PySem.Str.ofString "__repr__")) (Value.str (PySem.Str.ofString "__repr__") 985) (Value.ref 601), DictEntry.mk (PyData.keyHash P (PySem.Str.ofString "__static_attributes__")) (Value.str (PySem.Str.ofString "__static_attributes__") 989) (Value.ref 602)] 36) #[]
noncomputable def q363 (_ : Params) : Obj := Obj.mk (Value.type "tuple") Option.none (Data.seq #[]) #[]
noncomputable def q364 (_ : Params) : Obj := Obj.mk Value.none Option.none (Data.fields #[Value.int 218 0, Value.int 4 0, Value.ref 373, Value.int 231 0, Value.int 4 0, Value.ref 380, Value.int 239 0, Value.int 4 0, Value.ref 387, Value.int 243 0, Value.int 4 0, Value.ref 394, Value.int 247 0, Value.int 4 0, Value.ref 401, Value.int 280 0, Value.int 4 0, Value.ref 408, Value.int 284 0, Value.int 4 0, Value.ref 416, Value.int 288 0, Value.int 4 0, Value.ref 424, Value.int 292 0, Value.int 4 0, Value.ref 432, Value.int 296 0, Value.int 4 0, Value.ref 440, Value.int 299 0, Value.int 4 0, Value.ref 448, Value.int 302 0, Value.int 4 0, Value.ref 455, Value.int 306 0, Value.int 4 0, Value.ref 462, Value.int 309 0, Value.int 4 0, Value.ref 469, Value.int 313 0, Value.int 4 0, Value.ref 476, Value.int 317 0, Value.int 4 0, Value.ref 483, Value.int 321 0, Value.int 4 0, Value.ref 490, Value.int 325 0, Value.int 4 0, Value.ref 497, Value.int 328 0, Value.int 4 0, Value.ref 504, Value.int 331 0, Value.int 4 0, Value.ref 511, Value.int 334 0, Value.int 4 0, Value.ref 518, Value.int 337 0, Value.int 4 0, Value.ref 525, Value.int 341 0, Value.int 4 0, Value.ref 533, Value.int 358 0, Value.int 4 0, Value.ref 541, Value.int 361 0, Value.int 4 0, Value.ref 549, Value.int 375 0, Value.int 4 0, Value.ref 557, Value.int 382 0, Value.int 4 0, Value.ref 565, Value.int 385 0, Value.int 4 0, Value.ref 572, Value.int 389 0, Value.int 4 0, Value.ref 579, Value.int 396 0, Value.int 4 0, Value.ref 586, Value.int 415 0, Value.int 4 0, Value.ref 593, Value.int 418 0, Value.int 4 0, Value.ref 600]) #[]
noncomputable def q365 (_ : Params) : Obj := Obj.mk (Value.type "code") Option.none (Data.fields #[Value.str (PySem.Str.ofString "StringIO") 708, Value.str (PySem.Str.ofString "StringIO") 709, Value.str (PySem.Str.ofString "/claim/cut.py") 710, Value.int 215 0, Value.int 0 0, Value.int 0 0, Value.int 0 0, Value.int 0 0, Value.ref 363, Value.bool Bool.false, Value.int 313 0, Value.ref 364, Value.none, Value.none, Value.none, Value.none, Value.int 711 0, Value.int 215 0, Value.str (PySem.Str.ofString "/claim/cut.py") 712]) #[]
noncomputable def q366 (_ : Params) : Obj := Obj.mk (Value.type "frame") Option.none Data.plain #[Option.some (Value.ref 365), Option.some (Value.ref 3), Option.some (Value.ref 362), Option.none, Option.some (Value.str (PySem.Str.ofString "io") 336), Option.none, Option.some (Value.ref 0)]
noncomputable def q367 (_ : Params) : Obj := Obj.mk (Value.type "tuple") Option.none (Data.seq #[Value.str (PySem.Str.ofString "") 720, Value.str (PySem.Str.ofString "\n") 721]) #[]
noncomputable def q368 (_ : Params) : Obj := Obj.mk (Value.type "tuple") Option.none (Data.seq #[]) #[]
noncomputable def q369 (_ : Params) : Obj := Obj.mk Value.none Option.none (Data.fields #[]) #[]
noncomputable def q370 (_ : Params) : Obj := Obj.mk (Value.type "tuple") Option.none (Data.seq #[Value.str (PySem.Str.ofString "self") 725, Value.str (PySem.Str.ofString "initial_value") 726, Value.str (PySem.Str.ofString "newline") 727]) #[]
noncomputable def q371 (_ : Params) : Obj := Obj.mk (Value.type "tuple") Option.none (Data.seq #[]) #[]
noncomputable def q372 (_ : Params) : Obj := Obj.mk Value.none Option.none (Data.func (FuncData.mk (PySem.Str.ofString "__init__") (PySem.Str.ofString "StringIO.__init__") (hqP (hqAt 11 1)) (FuncBody.stmts (hqB (hqAt 11 1))) (hqS (hqAt 11 1)) 0 [] Value.none Value.none Value.none Value.none Option.none Value.none Value.none 0)) #[]
noncomputable def q373 (_ : Params) : Obj := Obj.mk (Value.type "code") Option.none (Data.fields #[Value.str (PySem.Str.ofString "__init__") 722, Value.str (PySem.Str.ofString "StringIO.__init__") 723, Value.str (PySem.Str.ofString "/claim/cut.py") 724, Value.int 218 0, Value.int 3 0, Value.int 0 0, Value.int 0 0, Value.int 3 0, Value.ref 368, Value.bool Bool.true, Value.int 313 0, Value.ref 369, Value.none, Value.ref 370, Value.ref 371, Value.ref 372, Value.int 728 0, Value.int 218 0, Value.str (PySem.Str.ofString "/claim/cut.py") 729]) #[]
noncomputable def q374 (_ : Params) : Obj := Obj.mk (Value.type "function") Option.none (Data.func (FuncData.mk (PySem.Str.ofString "__init__") (PySem.Str.ofString "StringIO.__init__") (hqP (hqAt 11 1)) (FuncBody.stmts (hqB (hqAt 11 1))) (hqS (hqAt 11 1)) 3 [] (Value.ref 367) Value.none Value.none (Value.str (PySem.Str.ofString "io") 336) Option.none (Value.ref 373) Value.none 0)) #[]
noncomputable def q375 (_ : Params) : Obj := Obj.mk (Value.type "tuple") Option.none (Data.seq #[]) #[]
noncomputable def q376 (_ : Params) : Obj := Obj.mk Value.none Option.none (Data.fields #[]) #[]
noncomputable def q377 (_ : Params) : Obj := Obj.mk (Value.type "tuple") Option.none (Data.seq #[Value.str (PySem.Str.ofString "self") 734, Value.str (PySem.Str.ofString "s") 735, Value.str (PySem.Str.ofString "newline") 736]) #[]
noncomputable def q378 (_ : Params) : Obj := Obj.mk (Value.type "tuple") Option.none (Data.seq #[]) #[]
noncomputable def q379 (_ : Params) : Obj := Obj.mk Value.none Option.none (Data.func (FuncData.mk (PySem.Str.ofString "__translated") (PySem.Str.ofString "StringIO.__translated") (hqP (hqAt 11 2)) (FuncBody.stmts (hqB (hqAt 11 2))) (hqS (hqAt 11 2)) 0 [] Value.none Value.none Value.none Value.none Option.none Value.none Value.none 0)) #[]
noncomputable def q380 (_ : Params) : Obj := Obj.mk (Value.type "code") Option.none (Data.fields #[Value.str (PySem.Str.ofString "__translated") 731, Value.str (PySem.Str.ofString "StringIO.__translated") 732, Value.str (PySem.Str.ofString "/claim/cut.py") 733, Value.int 231 0, Value.int 2 0, Value.int 0 0, Value.int 0 0, Value.int 3 0, Value.ref 375, Value.bool Bool.true, Value.int 313 0, Value.ref 376, Value.none, Value.ref 377, Value.ref 378, Value.ref 379, Value.int 737 0, Value.int 231 0, Value.str (PySem.Str.ofString "/claim/cut.py") 738]) #[]
noncomputable def q381 (_ : Params) : Obj := Obj.mk (Value.type "function") Option.none (Data.func (FuncData.mk (PySem.Str.ofString "__translated") (PySem.Str.ofString "StringIO.__translated") (hqP (hqAt 11 2)) (FuncBody.stmts (hqB (hqAt 11 2))) (hqS (hqAt 11 2)) 3 [] Value.none Value.none Value.none (Value.str (PySem.Str.ofString "io") 336) Option.none (Value.ref 380) Value.none 0)) #[]
noncomputable def q382 (_ : Params) : Obj := Obj.mk (Value.type "tuple") Option.none (Data.seq #[]) #[]
noncomputable def q383 (_ : Params) : Obj := Obj.mk Value.none Option.none (Data.fields #[]) #[]
noncomputable def q384 (_ : Params) : Obj := Obj.mk (Value.type "tuple") Option.none (Data.seq #[Value.str (PySem.Str.ofString "self") 743]) #[]
noncomputable def q385 (_ : Params) : Obj := Obj.mk (Value.type "tuple") Option.none (Data.seq #[]) #[]
noncomputable def q386 (_ : Params) : Obj := Obj.mk Value.none Option.none (Data.func (FuncData.mk (PySem.Str.ofString "__check") (PySem.Str.ofString "StringIO.__check") (hqP (hqAt 11 3)) (FuncBody.stmts (hqB (hqAt 11 3))) (hqS (hqAt 11 3)) 0 [] Value.none Value.none Value.none Value.none Option.none Value.none Value.none 0)) #[]
noncomputable def q387 (_ : Params) : Obj := Obj.mk (Value.type "code") Option.none (Data.fields #[Value.str (PySem.Str.ofString "__check") 740, Value.str (PySem.Str.ofString "StringIO.__check") 741, Value.str (PySem.Str.ofString "/claim/cut.py") 742, Value.int 239 0, Value.int 1 0, Value.int 0 0, Value.int 0 0, Value.int 3 0, Value.ref 382, Value.bool Bool.true, Value.int 313 0, Value.ref 383, Value.none, Value.ref 384, Value.ref 385, Value.ref 386, Value.int 744 0, Value.int 239 0, Value.str (PySem.Str.ofString "/claim/cut.py") 745]) #[]
noncomputable def q388 (_ : Params) : Obj := Obj.mk (Value.type "function") Option.none (Data.func (FuncData.mk (PySem.Str.ofString "__check") (PySem.Str.ofString "StringIO.__check") (hqP (hqAt 11 3)) (FuncBody.stmts (hqB (hqAt 11 3))) (hqS (hqAt 11 3)) 3 [] Value.none Value.none Value.none (Value.str (PySem.Str.ofString "io") 336) Option.none (Value.ref 387) Value.none 0)) #[]
noncomputable def q389 (_ : Params) : Obj := Obj.mk (Value.type "tuple") Option.none (Data.seq #[]) #[]
noncomputable def q390 (_ : Params) : Obj := Obj.mk Value.none Option.none (Data.fields #[]) #[]
noncomputable def q391 (_ : Params) : Obj := Obj.mk (Value.type "tuple") Option.none (Data.seq #[Value.str (PySem.Str.ofString "self") 750]) #[]
noncomputable def q392 (_ : Params) : Obj := Obj.mk (Value.type "tuple") Option.none (Data.seq #[]) #[]
noncomputable def q393 (_ : Params) : Obj := Obj.mk Value.none Option.none (Data.func (FuncData.mk (PySem.Str.ofString "__check_dot") (PySem.Str.ofString "StringIO.__check_dot") (hqP (hqAt 11 4)) (FuncBody.stmts (hqB (hqAt 11 4))) (hqS (hqAt 11 4)) 0 [] Value.none Value.none Value.none Value.none Option.none Value.none Value.none 0)) #[]
noncomputable def q394 (_ : Params) : Obj := Obj.mk (Value.type "code") Option.none (Data.fields #[Value.str (PySem.Str.ofString "__check_dot") 747, Value.str (PySem.Str.ofString "StringIO.__check_dot") 748, Value.str (PySem.Str.ofString "/claim/cut.py") 749, Value.int 243 0, Value.int 1 0, Value.int 0 0, Value.int 0 0, Value.int 3 0, Value.ref 389, Value.bool Bool.true, Value.int 313 0, Value.ref 390, Value.none, Value.ref 391, Value.ref 392, Value.ref 393, Value.int 751 0, Value.int 243 0, Value.str (PySem.Str.ofString "/claim/cut.py") 752]) #[]
noncomputable def q395 (_ : Params) : Obj := Obj.mk (Value.type "function") Option.none (Data.func (FuncData.mk (PySem.Str.ofString "__check_dot") (PySem.Str.ofString "StringIO.__check_dot") (hqP (hqAt 11 4)) (FuncBody.stmts (hqB (hqAt 11 4))) (hqS (hqAt 11 4)) 3 [] Value.none Value.none Value.none (Value.str (PySem.Str.ofString "io") 336) Option.none (Value.ref 394) Value.none 0)) #[]
noncomputable def q396 (_ : Params) : Obj := Obj.mk (Value.type "tuple") Option.none (Data.seq #[]) #[]
noncomputable def q397 (_ : Params) : Obj := Obj.mk Value.none Option.none (Data.fields #[]) #[]
noncomputable def q398 (_ : Params) : Obj := Obj.mk (Value.type "tuple") Option.none (Data.seq #[Value.str (PySem.Str.ofString "self") 757, Value.str (PySem.Str.ofString "limit") 758, Value.str (PySem.Str.ofString "start") 759, Value.str (PySem.Str.ofString "stop") 760, Value.str (PySem.Str.ofString "cut") 761, Value.str (PySem.Str.ofString "newline") 762, Value.str (PySem.Str.ofString "i") 763, Value.str (PySem.Str.ofString "j") 764, Value.str (PySem.Str.ofString "end") 765]) #[]
noncomputable def q399 (_ : Params) : Obj := Obj.mk (Value.type "tuple") Option.none (Data.seq #[]) #[]
noncomputable def q400 (_ : Params) : Obj := Obj.mk Value.none Option.none (Data.func (FuncData.mk (PySem.Str.ofString "__line") (PySem.Str.ofString "StringIO.__line") (hqP (hqAt 11 5)) (FuncBody.stmts (hqB (hqAt 11 5))) (hqS (hqAt 11 5)) 0 [] Value.none Value.none Value.none Value.none Option.none Value.none Value.none 0)) #[]
noncomputable def q401 (_ : Params) : Obj := Obj.mk (Value.type "code") Option.none (Data.fields #[Value.str (PySem.Str.ofString "__line") 754, Value.str (PySem.Str.ofString "StringIO.__line") 755, Value.str (PySem.Str.ofString "/claim/cut.py") 756, Value.int 247 0, Value.int 2 0, Value.int 0 0, Value.int 0 0, Value.int 3 0, Value.ref 396, Value.bool Bool.true, Value.int 313 0, Value.ref 397, Value.none, Value.ref 398, Value.ref 399, Value.ref 400, Value.int 766 0, Value.int 247 0, Value.str (PySem.Str.ofString "/claim/cut.py") 767]) #[]
noncomputable def q402 (_ : Params) : Obj := Obj.mk (Value.type "function") Option.none (Data.func (FuncData.mk (PySem.Str.ofString "__line") (PySem.Str.ofString "StringIO.__line") (hqP (hqAt 11 5)) (FuncBody.stmts (hqB (hqAt 11 5))) (hqS (hqAt 11 5)) 3 [] Value.none Value.none Value.none (Value.str (PySem.Str.ofString "io") 336) Option.none (Value.ref 401) Value.none 0)) #[]
noncomputable def q403 (_ : Params) : Obj := Obj.mk (Value.type "tuple") Option.none (Data.seq #[]) #[]
noncomputable def q404 (_ : Params) : Obj := Obj.mk Value.none Option.none (Data.fields #[]) #[]
noncomputable def q405 (_ : Params) : Obj := Obj.mk (Value.type "tuple") Option.none (Data.seq #[Value.str (PySem.Str.ofString "self") 772]) #[]
noncomputable def q406 (_ : Params) : Obj := Obj.mk (Value.type "tuple") Option.none (Data.seq #[]) #[]
noncomputable def q407 (_ : Params) : Obj := Obj.mk Value.none Option.none (Data.func (FuncData.mk (PySem.Str.ofString "closed") (PySem.Str.ofString "StringIO.closed") (hqP (hqAt 11 6)) (FuncBody.stmts (hqB (hqAt 11 6))) (hqS (hqAt 11 6)) 0 [] Value.none Value.none Value.none Value.none Option.none Value.none Value.none 0)) #[]
noncomputable def q408 (_ : Params) : Obj := Obj.mk (Value.type "code") Option.none (Data.fields #[Value.str (PySem.Str.ofString "closed") 769, Value.str (PySem.Str.ofString "StringIO.closed") 770, Value.str (PySem.Str.ofString "/claim/cut.py") 771, Value.int 279 0, Value.int 1 0, Value.int 0 0, Value.int 0 0, Value.int 3 0, Value.ref 403, Value.bool Bool.true, Value.int 313 0, Value.ref 404, Value.none, Value.ref 405, Value.ref 406, Value.ref 407, Value.int 773 0, Value.int 279 0, Value.str (PySem.Str.ofString "/claim/cut.py") 774]) #[]
noncomputable def q409 (_ : Params) : Obj := Obj.mk (Value.type "function") Option.none (Data.func (FuncData.mk (PySem.Str.ofString "closed") (PySem.Str.ofString "StringIO.closed") (hqP (hqAt 11 6)) (FuncBody.stmts (hqB (hqAt 11 6))) (hqS (hqAt 11 6)) 3 [] Value.none Value.none Value.none (Value.str (PySem.Str.ofString "io") 336) Option.none (Value.ref 408) Value.none 0)) #[]
noncomputable def q410 (_ : Params) : Obj := Obj.mk (Value.type "property") Option.none (Data.fields #[Value.ref 409, Value.none, Value.none, Value.none, Value.str (PySem.Str.ofString "closed") 776, Value.bool Bool.false]) #[]
noncomputable def q411 (_ : Params) : Obj := Obj.mk (Value.type "tuple") Option.none (Data.seq #[]) #[]
noncomputable def q412 (_ : Params) : Obj := Obj.mk Value.none Option.none (Data.fields #[]) #[]
noncomputable def q413 (_ : Params) : Obj := Obj.mk (Value.type "tuple") Option.none (Data.seq #[Value.str (PySem.Str.ofString "self") 780]) #[]
noncomputable def q414 (_ : Params) : Obj := Obj.mk (Value.type "tuple") Option.none (Data.seq #[]) #[]
noncomputable def q415 (_ : Params) : Obj := Obj.mk Value.none Option.none (Data.func (FuncData.mk (PySem.Str.ofString "line_buffering") (PySem.Str.ofString "StringIO.line_buffering") (hqP (hqAt 11 7)) (FuncBody.stmts (hqB (hqAt 11 7))) (hqS (hqAt 11 7)) 0 [] Value.none Value.none Value.none Value.none Option.none Value.none Value.none 0)) #[]
noncomputable def q416 (_ : Params) : Obj := Obj.mk (Value.type "code") Option.none (Data.fields #[Value.str (PySem.Str.ofString "line_buffering") 777, Value.str (PySem.Str.ofString "StringIO.line_buffering") 778, Value.str (PySem.Str.ofString "/claim/cut.py") 779, Value.int 283 0, Value.int 1 0, Value.int 0 0, Value.int 0 0, Value.int 3 0, Value.ref 411, Value.bool Bool.true, Value.int 313 0, Value.ref 412, Value.none, Value.ref 413, Value.ref 414, Value.ref 415, Value.int 781 0, Value.int 283 0, Value.str (PySem.Str.ofString "/claim/cut.py") 782]) #[]
noncomputable def q417 (_ : Params) : Obj := Obj.mk (Value.type "function") Option.none (Data.func (FuncData.mk (PySem.Str.ofString "line_buffering") (PySem.Str.ofString "StringIO.line_buffering") (hqP (hqAt 11 7)) (FuncBody.stmts (hqB (hqAt 11 7))) (hqS (hqAt 11 7)) 3 [] Value.none Value.none Value.none (Value.str (PySem.Str.ofString "io") 336) Option.none (Value.ref 416) Value.none 0)) #[]
noncomputable def q418 (_ : Params) : Obj := Obj.mk (Value.type "property") Option.none (Data.fields #[Value.ref 417, Value.none, Value.none, Value.none, Value.str (PySem.Str.ofString "line_buffering") 784, Value.bool Bool.false]) #[]
noncomputable def q419 (_ : Params) : Obj := Obj.mk (Value.type "tuple") Option.none (Data.seq #[]) #[]
noncomputable def q420 (_ : Params) : Obj := Obj.mk Value.none Option.none (Data.fields #[]) #[]
noncomputable def q421 (_ : Params) : Obj := Obj.mk (Value.type "tuple") Option.none (Data.seq #[Value.str (PySem.Str.ofString "self") 788]) #[]
noncomputable def q422 (_ : Params) : Obj := Obj.mk (Value.type "tuple") Option.none (Data.seq #[]) #[]
noncomputable def q423 (_ : Params) : Obj := Obj.mk Value.none Option.none (Data.func (FuncData.mk (PySem.Str.ofString "newlines") (PySem.Str.ofString "StringIO.newlines") (hqP (hqAt 11 8)) (FuncBody.stmts (hqB (hqAt 11 8))) (hqS (hqAt 11 8)) 0 [] Value.none Value.none Value.none Value.none Option.none Value.none Value.none 0)) #[]
noncomputable def q424 (_ : Params) : Obj := Obj.mk (Value.type "code") Option.none (Data.fields #[Value.str (PySem.Str.ofString "newlines") 785, Value.str (PySem.Str.ofString "StringIO.newlines") 786, Value.str (PySem.Str.ofString "/claim/cut.py") 787, Value.int 287 0, Value.int 1 0, Value.int 0 0, Value.int 0 0, Value.int 3 0, Value.ref 419, Value.bool Bool.true, Value.int 313 0, Value.ref 420, Value.none, Value.ref 421, Value.ref 422, Value.ref 423, Value.int 789 0, Value.int 287 0, Value.str (PySem.Str.ofString "/claim/cut.py") 790]) #[]
noncomputable def q425 (_ : Params) : Obj := Obj.mk (Value.type "function") Option.none (Data.func (FuncData.mk (PySem.Str.ofString "newlines") (PySem.Str.ofString "StringIO.newlines") (hqP (hqAt 11 8)) (FuncBody.stmts (hqB (hqAt 11 8))) (hqS (hqAt 11 8)) 3 [] Value.none Value.none Value.none (Value.str (PySem.Str.ofString "io") 336) Option.none (Value.ref 424) Value.none 0)) #[]
noncomputable def q426 (_ : Params) : Obj := Obj.mk (Value.type "property") Option.none (Data.fields #[Value.ref 425, Value.none, Value.none, Value.none, Value.str (PySem.Str.ofString "newlines") 792, Value.bool Bool.false]) #[]
noncomputable def q427 (_ : Params) : Obj := Obj.mk (Value.type "tuple") Option.none (Data.seq #[]) #[]
noncomputable def q428 (_ : Params) : Obj := Obj.mk Value.none Option.none (Data.fields #[]) #[]
noncomputable def q429 (_ : Params) : Obj := Obj.mk (Value.type "tuple") Option.none (Data.seq #[Value.str (PySem.Str.ofString "self") 796]) #[]
noncomputable def q430 (_ : Params) : Obj := Obj.mk (Value.type "tuple") Option.none (Data.seq #[]) #[]
noncomputable def q431 (_ : Params) : Obj := Obj.mk Value.none Option.none (Data.func (FuncData.mk (PySem.Str.ofString "encoding") (PySem.Str.ofString "StringIO.encoding") (hqP (hqAt 11 9)) (FuncBody.stmts (hqB (hqAt 11 9))) (hqS (hqAt 11 9)) 0 [] Value.none Value.none Value.none Value.none Option.none Value.none Value.none 0)) #[]
noncomputable def q432 (_ : Params) : Obj := Obj.mk (Value.type "code") Option.none (Data.fields #[Value.str (PySem.Str.ofString "encoding") 793, Value.str (PySem.Str.ofString "StringIO.encoding") 794, Value.str (PySem.Str.ofString "/claim/cut.py") 795, Value.int 291 0, Value.int 1 0, Value.int 0 0, Value.int 0 0, Value.int 3 0, Value.ref 427, Value.bool Bool.true, Value.int 313 0, Value.ref 428, Value.none, Value.ref 429, Value.ref 430, Value.ref 431, Value.int 797 0, Value.int 291 0, Value.str (PySem.Str.ofString "/claim/cut.py") 798]) #[]
noncomputable def q433 (_ : Params) : Obj := Obj.mk (Value.type "function") Option.none (Data.func (FuncData.mk (PySem.Str.ofString "encoding") (PySem.Str.ofString "StringIO.encoding") (hqP (hqAt 11 9)) (FuncBody.stmts (hqB (hqAt 11 9))) (hqS (hqAt 11 9)) 3 [] Value.none Value.none Value.none (Value.str (PySem.Str.ofString "io") 336) Option.none (Value.ref 432) Value.none 0)) #[]
noncomputable def q434 (_ : Params) : Obj := Obj.mk (Value.type "property") Option.none (Data.fields #[Value.ref 433, Value.none, Value.none, Value.none, Value.str (PySem.Str.ofString "encoding") 800, Value.bool Bool.false]) #[]
noncomputable def q435 (_ : Params) : Obj := Obj.mk (Value.type "tuple") Option.none (Data.seq #[]) #[]
noncomputable def q436 (_ : Params) : Obj := Obj.mk Value.none Option.none (Data.fields #[]) #[]
noncomputable def q437 (_ : Params) : Obj := Obj.mk (Value.type "tuple") Option.none (Data.seq #[Value.str (PySem.Str.ofString "self") 804]) #[]
noncomputable def q438 (_ : Params) : Obj := Obj.mk (Value.type "tuple") Option.none (Data.seq #[]) #[]
noncomputable def q439 (_ : Params) : Obj := Obj.mk Value.none Option.none (Data.func (FuncData.mk (PySem.Str.ofString "errors") (PySem.Str.ofString "StringIO.errors") (hqP (hqAt 11 10)) (FuncBody.stmts (hqB (hqAt 11 10))) (hqS (hqAt 11 10)) 0 [] Value.none Value.none Value.none Value.none Option.none Value.none Value.none 0)) #[]
noncomputable def q440 (_ : Params) : Obj := Obj.mk (Value.type "code") Option.none (Data.fields #[Value.str (PySem.Str.ofString "errors") 801, Value.str (PySem.Str.ofString "StringIO.errors") 802, Value.str (PySem.Str.ofString "/claim/cut.py") 803, Value.int 295 0, Value.int 1 0, Value.int 0 0, Value.int 0 0, Value.int 3 0, Value.ref 435, Value.bool Bool.true, Value.int 313 0, Value.ref 436, Value.none, Value.ref 437, Value.ref 438, Value.ref 439, Value.int 805 0, Value.int 295 0, Value.str (PySem.Str.ofString "/claim/cut.py") 806]) #[]
noncomputable def q441 (_ : Params) : Obj := Obj.mk (Value.type "function") Option.none (Data.func (FuncData.mk (PySem.Str.ofString "errors") (PySem.Str.ofString "StringIO.errors") (hqP (hqAt 11 10)) (FuncBody.stmts (hqB (hqAt 11 10))) (hqS (hqAt 11 10)) 3 [] Value.none Value.none Value.none (Value.str (PySem.Str.ofString "io") 336) Option.none (Value.ref 440) Value.none 0)) #[]
noncomputable def q442 (_ : Params) : Obj := Obj.mk (Value.type "property") Option.none (Data.fields #[Value.ref 441, Value.none, Value.none, Value.none, Value.str (PySem.Str.ofString "errors") 808, Value.bool Bool.false]) #[]
noncomputable def q443 (_ : Params) : Obj := Obj.mk (Value.type "tuple") Option.none (Data.seq #[]) #[]
noncomputable def q444 (_ : Params) : Obj := Obj.mk Value.none Option.none (Data.fields #[]) #[]
noncomputable def q445 (_ : Params) : Obj := Obj.mk (Value.type "tuple") Option.none (Data.seq #[Value.str (PySem.Str.ofString "self") 812]) #[]
noncomputable def q446 (_ : Params) : Obj := Obj.mk (Value.type "tuple") Option.none (Data.seq #[]) #[]
noncomputable def q447 (_ : Params) : Obj := Obj.mk Value.none Option.none (Data.func (FuncData.mk (PySem.Str.ofString "close") (PySem.Str.ofString "StringIO.close") (hqP (hqAt 11 11)) (FuncBody.stmts (hqB (hqAt 11 11))) (hqS (hqAt 11 11)) 0 [] Value.none Value.none Value.none Value.none Option.none Value.none Value.none 0)) #[]
noncomputable def q448 (_ : Params) : Obj := Obj.mk (Value.type "code") Option.none (Data.fields #[Value.str (PySem.Str.ofString "close") 809, Value.str (PySem.Str.ofString "StringIO.close") 810, Value.str (PySem.Str.ofString "/claim/cut.py") 811, Value.int 299 0, Value.int 1 0, Value.int 0 0, Value.int 0 0, Value.int 3 0, Value.ref 443, Value.bool Bool.true, Value.int 313 0, Value.ref 444, Value.none, Value.ref 445, Value.ref 446, Value.ref 447, Value.int 813 0, Value.int 299 0, Value.str (PySem.Str.ofString "/claim/cut.py") 814]) #[]
noncomputable def q449 (_ : Params) : Obj := Obj.mk (Value.type "function") Option.none (Data.func (FuncData.mk (PySem.Str.ofString "close") (PySem.Str.ofString "StringIO.close") (hqP (hqAt 11 11)) (FuncBody.stmts (hqB (hqAt 11 11))) (hqS (hqAt 11 11)) 3 [] Value.none Value.none Value.none (Value.str (PySem.Str.ofString "io") 336) Option.none (Value.ref 448) Value.none 0)) #[]
noncomputable def q450 (_ : Params) : Obj := Obj.mk (Value.type "tuple") Option.none (Data.seq #[]) #[]
noncomputable def q451 (_ : Params) : Obj := Obj.mk Value.none Option.none (Data.fields #[]) #[]
noncomputable def q452 (_ : Params) : Obj := Obj.mk (Value.type "tuple") Option.none (Data.seq #[Value.str (PySem.Str.ofString "self") 819]) #[]
noncomputable def q453 (_ : Params) : Obj := Obj.mk (Value.type "tuple") Option.none (Data.seq #[]) #[]
noncomputable def q454 (_ : Params) : Obj := Obj.mk Value.none Option.none (Data.func (FuncData.mk (PySem.Str.ofString "__enter__") (PySem.Str.ofString "StringIO.__enter__") (hqP (hqAt 11 12)) (FuncBody.stmts (hqB (hqAt 11 12))) (hqS (hqAt 11 12)) 0 [] Value.none Value.none Value.none Value.none Option.none Value.none Value.none 0)) #[]
noncomputable def q455 (_ : Params) : Obj := Obj.mk (Value.type "code") Option.none (Data.fields #[Value.str (PySem.Str.ofString "__enter__") 816, Value.str (PySem.Str.ofString "StringIO.__enter__") 817, Value.str (PySem.Str.ofString "/claim/cut.py") 818, Value.int 302 0, Value.int 1 0, Value.int 0 0, Value.int 0 0, Value.int 3 0, Value.ref 450, Value.bool Bool.true, Value.int 313 0, Value.ref 451, Value.none, Value.ref 452, Value.ref 453, Value.ref 454, Value.int 820 0, Value.int 302 0, Value.str (PySem.Str.ofString "/claim/cut.py") 821]) #[]
noncomputable def q456 (_ : Params) : Obj := Obj.mk (Value.type "function") Option.none (Data.func (FuncData.mk (PySem.Str.ofString "__enter__") (PySem.Str.ofString "StringIO.__enter__") (hqP (hqAt 11 12)) (FuncBody.stmts (hqB (hqAt 11 12))) (hqS (hqAt 11 12)) 3 [] Value.none Value.none Value.none (Value.str (PySem.Str.ofString "io") 336) Option.none (Value.ref 455) Value.none 0)) #[]
noncomputable def q457 (_ : Params) : Obj := Obj.mk (Value.type "tuple") Option.none (Data.seq #[]) #[]
noncomputable def q458 (_ : Params) : Obj := Obj.mk Value.none Option.none (Data.fields #[]) #[]
noncomputable def q459 (_ : Params) : Obj := Obj.mk (Value.type "tuple") Option.none (Data.seq #[Value.str (PySem.Str.ofString "self") 826, Value.str (PySem.Str.ofString "args") 827]) #[]
noncomputable def q460 (_ : Params) : Obj := Obj.mk (Value.type "tuple") Option.none (Data.seq #[]) #[]
noncomputable def q461 (_ : Params) : Obj := Obj.mk Value.none Option.none (Data.func (FuncData.mk (PySem.Str.ofString "__exit__") (PySem.Str.ofString "StringIO.__exit__") (hqP (hqAt 11 13)) (FuncBody.stmts (hqB (hqAt 11 13))) (hqS (hqAt 11 13)) 0 [] Value.none Value.none Value.none Value.none Option.none Value.none Value.none 0)) #[]
noncomputable def q462 (_ : Params) : Obj := Obj.mk (Value.type "code") Option.none (Data.fields #[Value.str (PySem.Str.ofString "__exit__") 823, Value.str (PySem.Str.ofString "StringIO.__exit__") 824, Value.str (PySem.Str.ofString "/claim/cut.py") 825, Value.int 306 0, Value.int 1 0, Value.int 0 0, Value.int 0 0, Value.int 7 0, Value.ref 457, Value.bool Bool.true, Value.int 313 0, Value.ref 458, Value.none, Value.ref 459, Value.ref 460, Value.ref 461, Value.int 828 0, Value.int 306 0, Value.str (PySem.Str.ofString "/claim/cut.py") 829]) #[]
noncomputable def q463 (_ : Params) : Obj := Obj.mk (Value.type "function") Option.none (Data.func (FuncData.mk (PySem.Str.ofString "__exit__") (PySem.Str.ofString "StringIO.__exit__") (hqP (hqAt 11 13)) (FuncBody.stmts (hqB (hqAt 11 13))) (hqS (hqAt 11 13)) 3 [] Value.none Value.none Value.none (Value.str (PySem.Str.ofString "io") 336) Option.none (Value.ref 462) Value.none 0)) #[]
noncomputable def q464 (_ : Params) : Obj := Obj.mk (Value.type "tuple") Option.none (Data.seq #[]) #[]
noncomputable def q465 (_ : Params) : Obj := Obj.mk Value.none Option.none (Data.fields #[]) #[]
noncomputable def q466 (_ : Params) : Obj := Obj.mk (Value.type "tuple") Option.none (Data.seq #[Value.str (PySem.Str.ofString "self") 834]) #[]
noncomputable def q467 (_ : Params) : Obj := Obj.mk (Value.type "tuple") Option.none (Data.seq #[]) #[]
noncomputable def q468 (_ : Params) : Obj := Obj.mk Value.none Option.none (Data.func (FuncData.mk (PySem.Str.ofString "readable") (PySem.Str.ofString "StringIO.readable") (hqP (hqAt 11 14)) (FuncBody.stmts (hqB (hqAt 11 14))) (hqS (hqAt 11 14)) 0 [] Value.none Value.none Value.none Value.none Option.none Value.none Value.none 0)) #[]
noncomputable def q469 (_ : Params) : Obj := Obj.mk (Value.type "code") Option.none (Data.fields #[Value.str (PySem.Str.ofString "readable") 831, Value.str (PySem.Str.ofString "StringIO.readable") 832, Value.str (PySem.Str.ofString "/claim/cut.py") 833, Value.int 309 0, Value.int 1 0, Value.int 0 0, Value.int 0 0, Value.int 3 0, Value.ref 464, Value.bool Bool.true, Value.int 313 0, Value.ref 465, Value.none, Value.ref 466, Value.ref 467, Value.ref 468, Value.int 835 0, Value.int 309 0, Value.str (PySem.Str.ofString "/claim/cut.py") 836]) #[]
noncomputable def q470 (_ : Params) : Obj := Obj.mk (Value.type "function") Option.none (Data.func (FuncData.mk (PySem.Str.ofString "readable") (PySem.Str.ofString "StringIO.readable") (hqP (hqAt 11 14)) (FuncBody.stmts (hqB (hqAt 11 14))) (hqS (hqAt 11 14)) 3 [] Value.none Value.none Value.none (Value.str (PySem.Str.ofString "io") 336) Option.none (Value.ref 469) Value.none 0)) #[]
noncomputable def q471 (_ : Params) : Obj := Obj.mk (Value.type "tuple") Option.none (Data.seq #[]) #[]
noncomputable def q472 (_ : Params) : Obj := Obj.mk Value.none Option.none (Data.fields #[]) #[]
noncomputable def q473 (_ : Params) : Obj := Obj.mk (Value.type "tuple") Option.none (Data.seq #[Value.str (PySem.Str.ofString "self") 841]) #[]
noncomputable def q474 (_ : Params) : Obj := Obj.mk (Value.type "tuple") Option.none (Data.seq #[]) #[]
noncomputable def q475 (_ : Params) : Obj := Obj.mk Value.none Option.none (Data.func (FuncData.mk (PySem.Str.ofString "writable") (PySem.Str.ofString "StringIO.writable") (hqP (hqAt 11 15)) (FuncBody.stmts (hqB (hqAt 11 15))) (hqS (hqAt 11 15)) 0 [] Value.none Value.none Value.none Value.none Option.none Value.none Value.none 0)) #[]
noncomputable def q476 (_ : Params) : Obj := Obj.mk (Value.type "code") Option.none (Data.fields #[Value.str (PySem.Str.ofString "writable") 838, Value.str (PySem.Str.ofString "StringIO.writable") 839, Value.str (PySem.Str.ofString "/claim/cut.py") 840, Value.int 313 0, Value.int 1 0, Value.int 0 0, Value.int 0 0, Value.int 3 0, Value.ref 471, Value.bool Bool.true, Value.int 313 0, Value.ref 472, Value.none, Value.ref 473, Value.ref 474, Value.ref 475, Value.int 842 0, Value.int 313 0, Value.str (PySem.Str.ofString "/claim/cut.py") 843]) #[]
noncomputable def q477 (_ : Params) : Obj := Obj.mk (Value.type "function") Option.none (Data.func (FuncData.mk (PySem.Str.ofString "writable") (PySem.Str.ofString "StringIO.writable") (hqP (hqAt 11 15)) (FuncBody.stmts (hqB (hqAt 11 15))) (hqS (hqAt 11 15)) 3 [] Value.none Value.none Value.none (Value.str (PySem.Str.ofString "io") 336) Option.none (Value.ref 476) Value.none 0)) #[]
noncomputable def q478 (_ : Params) : Obj := Obj.mk (Value.type "tuple") Option.none (Data.seq #[]) #[]
noncomputable def q479 (_ : Params) : Obj := Obj.mk Value.none Option.none (Data.fields #[]) #[]
noncomputable def q480 (_ : Params) : Obj := Obj.mk (Value.type "tuple") Option.none (Data.seq #[Value.str (PySem.Str.ofString "self") 848]) #[]
noncomputable def q481 (_ : Params) : Obj := Obj.mk (Value.type "tuple") Option.none (Data.seq #[]) #[]
noncomputable def q482 (_ : Params) : Obj := Obj.mk Value.none Option.none (Data.func (FuncData.mk (PySem.Str.ofString "seekable") (PySem.Str.ofString "StringIO.seekable") (hqP (hqAt 11 16)) (FuncBody.stmts (hqB (hqAt 11 16))) (hqS (hqAt 11 16)) 0 [] Value.none Value.none Value.none Value.none Option.none Value.none Value.none 0)) #[]
noncomputable def q483 (_ : Params) : Obj := Obj.mk (Value.type "code") Option.none (Data.fields #[Value.str (PySem.Str.ofString "seekable") 845, Value.str (PySem.Str.ofString "StringIO.seekable") 846, Value.str (PySem.Str.ofString "/claim/cut.py") 847, Value.int 317 0, Value.int 1 0, Value.int 0 0, Value.int 0 0, Value.int 3 0, Value.ref 478, Value.bool Bool.true, Value.int 313 0, Value.ref 479, Value.none, Value.ref 480, Value.ref 481, Value.ref 482, Value.int 849 0, Value.int 317 0, Value.str (PySem.Str.ofString "/claim/cut.py") 850]) #[]
noncomputable def q484 (_ : Params) : Obj := Obj.mk (Value.type "function") Option.none (Data.func (FuncData.mk (PySem.Str.ofString "seekable") (PySem.Str.ofString "StringIO.seekable") (hqP (hqAt 11 16)) (FuncBody.stmts (hqB (hqAt 11 16))) (hqS (hqAt 11 16)) 3 [] Value.none Value.none Value.none (Value.str (PySem.Str.ofString "io") 336) Option.none (Value.ref 483) Value.none 0)) #[]
noncomputable def q485 (_ : Params) : Obj := Obj.mk (Value.type "tuple") Option.none (Data.seq #[]) #[]
noncomputable def q486 (_ : Params) : Obj := Obj.mk Value.none Option.none (Data.fields #[]) #[]
noncomputable def q487 (_ : Params) : Obj := Obj.mk (Value.type "tuple") Option.none (Data.seq #[Value.str (PySem.Str.ofString "self") 855]) #[]
noncomputable def q488 (_ : Params) : Obj := Obj.mk (Value.type "tuple") Option.none (Data.seq #[]) #[]
noncomputable def q489 (_ : Params) : Obj := Obj.mk Value.none Option.none (Data.func (FuncData.mk (PySem.Str.ofString "isatty") (PySem.Str.ofString "StringIO.isatty") (hqP (hqAt 11 17)) (FuncBody.stmts (hqB (hqAt 11 17))) (hqS (hqAt 11 17)) 0 [] Value.none Value.none Value.none Value.none Option.none Value.none Value.none 0)) #[]
noncomputable def q490 (_ : Params) : Obj := Obj.mk (Value.type "code") Option.none (Data.fields #[Value.str (PySem.Str.ofString "isatty") 852, Value.str (PySem.Str.ofString "StringIO.isatty") 853, Value.str (PySem.Str.ofString "/claim/cut.py") 854, Value.int 321 0, Value.int 1 0, Value.int 0 0, Value.int 0 0, Value.int 3 0, Value.ref 485, Value.bool Bool.true, Value.int 313 0, Value.ref 486, Value.none, Value.ref 487, Value.ref 488, Value.ref 489, Value.int 856 0, Value.int 321 0, Value.str (PySem.Str.ofString "/claim/cut.py") 857]) #[]
noncomputable def q491 (_ : Params) : Obj := Obj.mk (Value.type "function") Option.none (Data.func (FuncData.mk (PySem.Str.ofString "isatty") (PySem.Str.ofString "StringIO.isatty") (hqP (hqAt 11 17)) (FuncBody.stmts (hqB (hqAt 11 17))) (hqS (hqAt 11 17)) 3 [] Value.none Value.none Value.none (Value.str (PySem.Str.ofString "io") 336) Option.none (Value.ref 490) Value.none 0)) #[]
noncomputable def q492 (_ : Params) : Obj := Obj.mk (Value.type "tuple") Option.none (Data.seq #[]) #[]
noncomputable def q493 (_ : Params) : Obj := Obj.mk Value.none Option.none (Data.fields #[]) #[]
noncomputable def q494 (_ : Params) : Obj := Obj.mk (Value.type "tuple") Option.none (Data.seq #[Value.str (PySem.Str.ofString "self") 862]) #[]
noncomputable def q495 (_ : Params) : Obj := Obj.mk (Value.type "tuple") Option.none (Data.seq #[]) #[]
noncomputable def q496 (_ : Params) : Obj := Obj.mk Value.none Option.none (Data.func (FuncData.mk (PySem.Str.ofString "flush") (PySem.Str.ofString "StringIO.flush") (hqP (hqAt 11 18)) (FuncBody.stmts (hqB (hqAt 11 18))) (hqS (hqAt 11 18)) 0 [] Value.none Value.none Value.none Value.none Option.none Value.none Value.none 0)) #[]
noncomputable def q497 (_ : Params) : Obj := Obj.mk (Value.type "code") Option.none (Data.fields #[Value.str (PySem.Str.ofString "flush") 859, Value.str (PySem.Str.ofString "StringIO.flush") 860, Value.str (PySem.Str.ofString "/claim/cut.py") 861, Value.int 325 0, Value.int 1 0, Value.int 0 0, Value.int 0 0, Value.int 3 0, Value.ref 492, Value.bool Bool.true, Value.int 313 0, Value.ref 493, Value.none, Value.ref 494, Value.ref 495, Value.ref 496, Value.int 863 0, Value.int 325 0, Value.str (PySem.Str.ofString "/claim/cut.py") 864]) #[]
noncomputable def q498 (_ : Params) : Obj := Obj.mk (Value.type "function") Option.none (Data.func (FuncData.mk (PySem.Str.ofString "flush") (PySem.Str.ofString "StringIO.flush") (hqP (hqAt 11 18)) (FuncBody.stmts (hqB (hqAt 11 18))) (hqS (hqAt 11 18)) 3 [] Value.none Value.none Value.none (Value.str (PySem.Str.ofString "io") 336) Option.none (Value.ref 497) Value.none 0)) #[]
noncomputable def q499 (_ : Params) : Obj := Obj.mk (Value.type "tuple") Option.none (Data.seq #[]) #[]
noncomputable def q500 (_ : Params) : Obj := Obj.mk Value.none Option.none (Data.fields #[]) #[]
noncomputable def q501 (_ : Params) : Obj := Obj.mk (Value.type "tuple") Option.none (Data.seq #[Value.str (PySem.Str.ofString "self") 869]) #[]
noncomputable def q502 (_ : Params) : Obj := Obj.mk (Value.type "tuple") Option.none (Data.seq #[]) #[]
noncomputable def q503 (_ : Params) : Obj := Obj.mk Value.none Option.none (Data.func (FuncData.mk (PySem.Str.ofString "fileno") (PySem.Str.ofString "StringIO.fileno") (hqP (hqAt 11 19)) (FuncBody.stmts (hqB (hqAt 11 19))) (hqS (hqAt 11 19)) 0 [] Value.none Value.none Value.none Value.none Option.none Value.none Value.none 0)) #[]
noncomputable def q504 (_ : Params) : Obj := Obj.mk (Value.type "code") Option.none (Data.fields #[Value.str (PySem.Str.ofString "fileno") 866, Value.str (PySem.Str.ofString "StringIO.fileno") 867, Value.str (PySem.Str.ofString "/claim/cut.py") 868, Value.int 328 0, Value.int 1 0, Value.int 0 0, Value.int 0 0, Value.int 3 0, Value.ref 499, Value.bool Bool.true, Value.int 313 0, Value.ref 500, Value.none, Value.ref 501, Value.ref 502, Value.ref 503, Value.int 870 0, Value.int 328 0, Value.str (PySem.Str.ofString "/claim/cut.py") 871]) #[]
noncomputable def q505 (_ : Params) : Obj := Obj.mk (Value.type "function") Option.none (Data.func (FuncData.mk (PySem.Str.ofString "fileno") (PySem.Str.ofString "StringIO.fileno") (hqP (hqAt 11 19)) (FuncBody.stmts (hqB (hqAt 11 19))) (hqS (hqAt 11 19)) 3 [] Value.none Value.none Value.none (Value.str (PySem.Str.ofString "io") 336) Option.none (Value.ref 504) Value.none 0)) #[]
noncomputable def q506 (_ : Params) : Obj := Obj.mk (Value.type "tuple") Option.none (Data.seq #[]) #[]
noncomputable def q507 (_ : Params) : Obj := Obj.mk Value.none Option.none (Data.fields #[]) #[]
noncomputable def q508 (_ : Params) : Obj := Obj.mk (Value.type "tuple") Option.none (Data.seq #[Value.str (PySem.Str.ofString "self") 876]) #[]
noncomputable def q509 (_ : Params) : Obj := Obj.mk (Value.type "tuple") Option.none (Data.seq #[]) #[]
noncomputable def q510 (_ : Params) : Obj := Obj.mk Value.none Option.none (Data.func (FuncData.mk (PySem.Str.ofString "detach") (PySem.Str.ofString "StringIO.detach") (hqP (hqAt 11 20)) (FuncBody.stmts (hqB (hqAt 11 20))) (hqS (hqAt 11 20)) 0 [] Value.none Value.none Value.none Value.none Option.none Value.none Value.none 0)) #[]
noncomputable def q511 (_ : Params) : Obj := Obj.mk (Value.type "code") Option.none (Data.fields #[Value.str (PySem.Str.ofString "detach") 873, Value.str (PySem.Str.ofString "StringIO.detach") 874, Value.str (PySem.Str.ofString "/claim/cut.py") 875, Value.int 331 0, Value.int 1 0, Value.int 0 0, Value.int 0 0, Value.int 3 0, Value.ref 506, Value.bool Bool.true, Value.int 313 0, Value.ref 507, Value.none, Value.ref 508, Value.ref 509, Value.ref 510, Value.int 877 0, Value.int 331 0, Value.str (PySem.Str.ofString "/claim/cut.py") 878]) #[]
noncomputable def q512 (_ : Params) : Obj := Obj.mk (Value.type "function") Option.none (Data.func (FuncData.mk (PySem.Str.ofString "detach") (PySem.Str.ofString "StringIO.detach") (hqP (hqAt 11 20)) (FuncBody.stmts (hqB (hqAt 11 20))) (hqS (hqAt 11 20)) 3 [] Value.none Value.none Value.none (Value.str (PySem.Str.ofString "io") 336) Option.none (Value.ref 511) Value.none 0)) #[]
noncomputable def q513 (_ : Params) : Obj := Obj.mk (Value.type "tuple") Option.none (Data.seq #[]) #[]
noncomputable def q514 (_ : Params) : Obj := Obj.mk Value.none Option.none (Data.fields #[]) #[]
noncomputable def q515 (_ : Params) : Obj := Obj.mk (Value.type "tuple") Option.none (Data.seq #[Value.str (PySem.Str.ofString "self") 883]) #[]
noncomputable def q516 (_ : Params) : Obj := Obj.mk (Value.type "tuple") Option.none (Data.seq #[]) #[]
noncomputable def q517 (_ : Params) : Obj := Obj.mk Value.none Option.none (Data.func (FuncData.mk (PySem.Str.ofString "getvalue") (PySem.Str.ofString "StringIO.getvalue") (hqP (hqAt 11 21)) (FuncBody.stmts (hqB (hqAt 11 21))) (hqS (hqAt 11 21)) 0 [] Value.none Value.none Value.none Value.none Option.none Value.none Value.none 0)) #[]
noncomputable def q518 (_ : Params) : Obj := Obj.mk (Value.type "code") Option.none (Data.fields #[Value.str (PySem.Str.ofString "getvalue") 880, Value.str (PySem.Str.ofString "StringIO.getvalue") 881, Value.str (PySem.Str.ofString "/claim/cut.py") 882, Value.int 334 0, Value.int 1 0, Value.int 0 0, Value.int 0 0, Value.int 3 0, Value.ref 513, Value.bool Bool.true, Value.int 313 0, Value.ref 514, Value.none, Value.ref 515, Value.ref 516, Value.ref 517, Value.int 884 0, Value.int 334 0, Value.str (PySem.Str.ofString "/claim/cut.py") 885]) #[]
noncomputable def q519 (_ : Params) : Obj := Obj.mk (Value.type "function") Option.none (Data.func (FuncData.mk (PySem.Str.ofString "getvalue") (PySem.Str.ofString "StringIO.getvalue") (hqP (hqAt 11 21)) (FuncBody.stmts (hqB (hqAt 11 21))) (hqS (hqAt 11 21)) 3 [] Value.none Value.none Value.none (Value.str (PySem.Str.ofString "io") 336) Option.none (Value.ref 518) Value.none 0)) #[]
noncomputable def q520 (_ : Params) : Obj := Obj.mk (Value.type "tuple") Option.none (Data.seq #[]) #[]
noncomputable def q521 (_ : Params) : Obj := Obj.mk Value.none Option.none (Data.fields #[]) #[]
noncomputable def q522 (_ : Params) : Obj := Obj.mk (Value.type "tuple") Option.none (Data.seq #[Value.str (PySem.Str.ofString "self") 890]) #[]
noncomputable def q523 (_ : Params) : Obj := Obj.mk (Value.type "tuple") Option.none (Data.seq #[]) #[]
noncomputable def q524 (_ : Params) : Obj := Obj.mk Value.none Option.none (Data.func (FuncData.mk (PySem.Str.ofString "tell") (PySem.Str.ofString "StringIO.tell") (hqP (hqAt 11 22)) (FuncBody.stmts (hqB (hqAt 11 22))) (hqS (hqAt 11 22)) 0 [] Value.none Value.none Value.none Value.none Option.none Value.none Value.none 0)) #[]
noncomputable def q525 (_ : Params) : Obj := Obj.mk (Value.type "code") Option.none (Data.fields #[Value.str (PySem.Str.ofString "tell") 887, Value.str (PySem.Str.ofString "StringIO.tell") 888, Value.str (PySem.Str.ofString "/claim/cut.py") 889, Value.int 337 0, Value.int 1 0, Value.int 0 0, Value.int 0 0, Value.int 3 0, Value.ref 520, Value.bool Bool.true, Value.int 313 0, Value.ref 521, Value.none, Value.ref 522, Value.ref 523, Value.ref 524, Value.int 891 0, Value.int 337 0, Value.str (PySem.Str.ofString "/claim/cut.py") 892]) #[]
noncomputable def q526 (_ : Params) : Obj := Obj.mk (Value.type "function") Option.none (Data.func (FuncData.mk (PySem.Str.ofString "tell") (PySem.Str.ofString "StringIO.tell") (hqP (hqAt 11 22)) (FuncBody.stmts (hqB (hqAt 11 22))) (hqS (hqAt 11 22)) 3 [] Value.none Value.none Value.none (Value.str (PySem.Str.ofString "io") 336) Option.none (Value.ref 525) Value.none 0)) #[]
noncomputable def q527 (_ : Params) : Obj := Obj.mk (Value.type "tuple") Option.none (Data.seq #[Value.int 0 894]) #[]
noncomputable def q528 (_ : Params) : Obj := Obj.mk (Value.type "tuple") Option.none (Data.seq #[]) #[]
noncomputable def q529 (_ : Params) : Obj := Obj.mk Value.none Option.none (Data.fields #[]) #[]
noncomputable def q530 (_ : Params) : Obj := Obj.mk (Value.type "tuple") Option.none (Data.seq #[Value.str (PySem.Str.ofString "self") 898, Value.str (PySem.Str.ofString "pos") 899, Value.str (PySem.Str.ofString "whence") 900]) #[]
noncomputable def q531 (_ : Params) : Obj := Obj.mk (Value.type "tuple") Option.none (Data.seq #[]) #[]
noncomputable def q532 (_ : Params) : Obj := Obj.mk Value.none Option.none (Data.func (FuncData.mk (PySem.Str.ofString "seek") (PySem.Str.ofString "StringIO.seek") (hqP (hqAt 11 23)) (FuncBody.stmts (hqB (hqAt 11 23))) (hqS (hqAt 11 23)) 0 [] Value.none Value.none Value.none Value.none Option.none Value.none Value.none 0)) #[]
noncomputable def q533 (_ : Params) : Obj := Obj.mk (Value.type "code") Option.none (Data.fields #[Value.str (PySem.Str.ofString "seek") 895, Value.str (PySem.Str.ofString "StringIO.seek") 896, Value.str (PySem.Str.ofString "/claim/cut.py") 897, Value.int 341 0, Value.int 3 0, Value.int 3 0, Value.int 0 0, Value.int 3 0, Value.ref 528, Value.bool Bool.true, Value.int 313 0, Value.ref 529, Value.none, Value.ref 530, Value.ref 531, Value.ref 532, Value.int 901 0, Value.int 341 0, Value.str (PySem.Str.ofString "/claim/cut.py") 902]) #[]
noncomputable def q534 (_ : Params) : Obj := Obj.mk (Value.type "function") Option.none (Data.func (FuncData.mk (PySem.Str.ofString "seek") (PySem.Str.ofString "StringIO.seek") (hqP (hqAt 11 23)) (FuncBody.stmts (hqB (hqAt 11 23))) (hqS (hqAt 11 23)) 3 [] (Value.ref 527) Value.none Value.none (Value.str (PySem.Str.ofString "io") 336) Option.none (Value.ref 533) Value.none 0)) #[]
noncomputable def q535 (_ : Params) : Obj := Obj.mk (Value.type "tuple") Option.none (Data.seq #[Value.none]) #[]
noncomputable def q536 (_ : Params) : Obj := Obj.mk (Value.type "tuple") Option.none (Data.seq #[]) #[]
noncomputable def q537 (_ : Params) : Obj := Obj.mk Value.none Option.none (Data.fields #[]) #[]
noncomputable def q538 (_ : Params) : Obj := Obj.mk (Value.type "tuple") Option.none (Data.seq #[Value.str (PySem.Str.ofString "self") 907, Value.str (PySem.Str.ofString "pos") 908]) #[]
noncomputable def q539 (_ : Params) : Obj := Obj.mk (Value.type "tuple") Option.none (Data.seq #[]) #[]
noncomputable def q540 (_ : Params) : Obj := Obj.mk Value.none Option.none (Data.func (FuncData.mk (PySem.Str.ofString "truncate") (PySem.Str.ofString "StringIO.truncate") (hqP (hqAt 11 24)) (FuncBody.stmts (hqB (hqAt 11 24))) (hqS (hqAt 11 24)) 0 [] Value.none Value.none Value.none Value.none Option.none Value.none Value.none 0)) #[]
noncomputable def q541 (_ : Params) : Obj := Obj.mk (Value.type "code") Option.none (Data.fields #[Value.str (PySem.Str.ofString "truncate") 904, Value.str (PySem.Str.ofString "StringIO.truncate") 905, Value.str (PySem.Str.ofString "/claim/cut.py") 906, Value.int 358 0, Value.int 2 0, Value.int 2 0, Value.int 0 0, Value.int 3 0, Value.ref 536, Value.bool Bool.true, Value.int 313 0, Value.ref 537, Value.none, Value.ref 538, Value.ref 539, Value.ref 540, Value.int 909 0, Value.int 358 0, Value.str (PySem.Str.ofString "/claim/cut.py") 910]) #[]
noncomputable def q542 (_ : Params) : Obj := Obj.mk (Value.type "function") Option.none (Data.func (FuncData.mk (PySem.Str.ofString "truncate") (PySem.Str.ofString "StringIO.truncate") (hqP (hqAt 11 24)) (FuncBody.stmts (hqB (hqAt 11 24))) (hqS (hqAt 11 24)) 3 [] (Value.ref 535) Value.none Value.none (Value.str (PySem.Str.ofString "io") 336) Option.none (Value.ref 541) Value.none 0)) #[]
noncomputable def q543 (_ : Params) : Obj := Obj.mk (Value.type "tuple") Option.none (Data.seq #[Value.int (-1) 913]) #[]
noncomputable def q544 (_ : Params) : Obj := Obj.mk (Value.type "tuple") Option.none (Data.seq #[]) #[]
noncomputable def q545 (_ : Params) : Obj := Obj.mk Value.none Option.none (Data.fields #[]) #[]
noncomputable def q546 (_ : Params) : Obj := Obj.mk (Value.type "tuple") Option.none (Data.seq #[Value.str (PySem.Str.ofString "self") 917, Value.str (PySem.Str.ofString "size") 918, Value.str (PySem.Str.ofString "start") 919, Value.str (PySem.Str.ofString "stop") 920]) #[]
noncomputable def q547 (_ : Params) : Obj := Obj.mk (Value.type "tuple") Option.none (Data.seq #[]) #[]
noncomputable def q548 (_ : Params) : Obj := Obj.mk Value.none Option.none (Data.func (FuncData.mk (PySem.Str.ofString "read") (PySem.Str.ofString "StringIO.read") (hqP (hqAt 11 25)) (FuncBody.stmts (hqB (hqAt 11 25))) (hqS (hqAt 11 25)) 0 [] Value.none Value.none Value.none Value.none Option.none Value.none Value.none 0)) #[]
noncomputable def q549 (_ : Params) : Obj := Obj.mk (Value.type "code") Option.none (Data.fields #[Value.str (PySem.Str.ofString "read") 914, Value.str (PySem.Str.ofString "StringIO.read") 915, Value.str (PySem.Str.ofString "/claim/cut.py") 916, Value.int 361 0, Value.int 2 0, Value.int 2 0, Value.int 0 0, Value.int 3 0, Value.ref 544, Value.bool Bool.true, Value.int 313 0, Value.ref 545, Value.none, Value.ref 546, Value.ref 547, Value.ref 548, Value.int 921 0, Value.int 361 0, Value.str (PySem.Str.ofString "/claim/cut.py") 922]) #[]
noncomputable def q550 (_ : Params) : Obj := Obj.mk (Value.type "function") Option.none (Data.func (FuncData.mk (PySem.Str.ofString "read") (PySem.Str.ofString "StringIO.read") (hqP (hqAt 11 25)) (FuncBody.stmts (hqB (hqAt 11 25))) (hqS (hqAt 11 25)) 3 [] (Value.ref 543) Value.none Value.none (Value.str (PySem.Str.ofString "io") 336) Option.none (Value.ref 549) Value.none 0)) #[]
noncomputable def q551 (_ : Params) : Obj := Obj.mk (Value.type "tuple") Option.none (Data.seq #[Value.int (-1) 925]) #[]
noncomputable def q552 (_ : Params) : Obj := Obj.mk (Value.type "tuple") Option.none (Data.seq #[]) #[]
noncomputable def q553 (_ : Params) : Obj := Obj.mk Value.none Option.none (Data.fields #[]) #[]
noncomputable def q554 (_ : Params) : Obj := Obj.mk (Value.type "tuple") Option.none (Data.seq #[Value.str (PySem.Str.ofString "self") 929, Value.str (PySem.Str.ofString "size") 930]) #[]
noncomputable def q555 (_ : Params) : Obj := Obj.mk (Value.type "tuple") Option.none (Data.seq #[]) #[]
noncomputable def q556 (_ : Params) : Obj := Obj.mk Value.none Option.none (Data.func (FuncData.mk (PySem.Str.ofString "readline") (PySem.Str.ofString "StringIO.readline") (hqP (hqAt 11 26)) (FuncBody.stmts (hqB (hqAt 11 26))) (hqS (hqAt 11 26)) 0 [] Value.none Value.none Value.none Value.none Option.none Value.none Value.none 0)) #[]
noncomputable def q557 (_ : Params) : Obj := Obj.mk (Value.type "code") Option.none (Data.fields #[Value.str (PySem.Str.ofString "readline") 926, Value.str (PySem.Str.ofString "StringIO.readline") 927, Value.str (PySem.Str.ofString "/claim/cut.py") 928, Value.int 375 0, Value.int 2 0, Value.int 2 0, Value.int 0 0, Value.int 3 0, Value.ref 552, Value.bool Bool.true, Value.int 313 0, Value.ref 553, Value.none, Value.ref 554, Value.ref 555, Value.ref 556, Value.int 931 0, Value.int 375 0, Value.str (PySem.Str.ofString "/claim/cut.py") 932]) #[]
noncomputable def q558 (_ : Params) : Obj := Obj.mk (Value.type "function") Option.none (Data.func (FuncData.mk (PySem.Str.ofString "readline") (PySem.Str.ofString "StringIO.readline") (hqP (hqAt 11 26)) (FuncBody.stmts (hqB (hqAt 11 26))) (hqS (hqAt 11 26)) 3 [] (Value.ref 551) Value.none Value.none (Value.str (PySem.Str.ofString "io") 336) Option.none (Value.ref 557) Value.none 0)) #[]
noncomputable def q559 (_ : Params) : Obj := Obj.mk (Value.type "tuple") Option.none (Data.seq #[Value.int (-1) 935]) #[]
noncomputable def q560 (_ : Params) : Obj := Obj.mk (Value.type "tuple") Option.none (Data.seq #[]) #[]
noncomputable def q561 (_ : Params) : Obj := Obj.mk Value.none Option.none (Data.fields #[]) #[]
noncomputable def q562 (_ : Params) : Obj := Obj.mk (Value.type "tuple") Option.none (Data.seq #[Value.str (PySem.Str.ofString "self") 939, Value.str (PySem.Str.ofString "hint") 940]) #[]
noncomputable def q563 (_ : Params) : Obj := Obj.mk (Value.type "tuple") Option.none (Data.seq #[]) #[]
noncomputable def q564 (_ : Params) : Obj := Obj.mk Value.none Option.none (Data.func (FuncData.mk (PySem.Str.ofString "readlines") (PySem.Str.ofString "StringIO.readlines") (hqP (hqAt 11 27)) (FuncBody.stmts (hqB (hqAt 11 27))) (hqS (hqAt 11 27)) 0 [] Value.none Value.none Value.none Value.none Option.none Value.none Value.none 0)) #[]
noncomputable def q565 (_ : Params) : Obj := Obj.mk (Value.type "code") Option.none (Data.fields #[Value.str (PySem.Str.ofString "readlines") 936, Value.str (PySem.Str.ofString "StringIO.readlines") 937, Value.str (PySem.Str.ofString "/claim/cut.py") 938, Value.int 382 0, Value.int 2 0, Value.int 2 0, Value.int 0 0, Value.int 3 0, Value.ref 560, Value.bool Bool.true, Value.int 313 0, Value.ref 561, Value.none, Value.ref 562, Value.ref 563, Value.ref 564, Value.int 941 0, Value.int 382 0, Value.str (PySem.Str.ofString "/claim/cut.py") 942]) #[]
noncomputable def q566 (_ : Params) : Obj := Obj.mk (Value.type "function") Option.none (Data.func (FuncData.mk (PySem.Str.ofString "readlines") (PySem.Str.ofString "StringIO.readlines") (hqP (hqAt 11 27)) (FuncBody.stmts (hqB (hqAt 11 27))) (hqS (hqAt 11 27)) 3 [] (Value.ref 559) Value.none Value.none (Value.str (PySem.Str.ofString "io") 336) Option.none (Value.ref 565) Value.none 0)) #[]
noncomputable def q567 (_ : Params) : Obj := Obj.mk (Value.type "tuple") Option.none (Data.seq #[]) #[]
noncomputable def q568 (_ : Params) : Obj := Obj.mk Value.none Option.none (Data.fields #[]) #[]
noncomputable def q569 (_ : Params) : Obj := Obj.mk (Value.type "tuple") Option.none (Data.seq #[Value.str (PySem.Str.ofString "self") 947]) #[]
noncomputable def q570 (_ : Params) : Obj := Obj.mk (Value.type "tuple") Option.none (Data.seq #[]) #[]
noncomputable def q571 (_ : Params) : Obj := Obj.mk Value.none Option.none (Data.func (FuncData.mk (PySem.Str.ofString "__iter__") (PySem.Str.ofString "StringIO.__iter__") (hqP (hqAt 11 28)) (FuncBody.stmts (hqB (hqAt 11 28))) (hqS (hqAt 11 28)) 0 [] Value.none Value.none Value.none Value.none Option.none Value.none Value.none 0)) #[]
noncomputable def q572 (_ : Params) : Obj := Obj.mk (Value.type "code") Option.none (Data.fields #[Value.str (PySem.Str.ofString "__iter__") 944, Value.str (PySem.Str.ofString "StringIO.__iter__") 945, Value.str (PySem.Str.ofString "/claim/cut.py") 946, Value.int 385 0, Value.int 1 0, Value.int 0 0, Value.int 0 0, Value.int 3 0, Value.ref 567, Value.bool Bool.true, Value.int 313 0, Value.ref 568, Value.none, Value.ref 569, Value.ref 570, Value.ref 571, Value.int 948 0, Value.int 385 0, Value.str (PySem.Str.ofString "/claim/cut.py") 949]) #[]
noncomputable def q573 (_ : Params) : Obj := Obj.mk (Value.type "function") Option.none (Data.func (FuncData.mk (PySem.Str.ofString "__iter__") (PySem.Str.ofString "StringIO.__iter__") (hqP (hqAt 11 28)) (FuncBody.stmts (hqB (hqAt 11 28))) (hqS (hqAt 11 28)) 3 [] Value.none Value.none Value.none (Value.str (PySem.Str.ofString "io") 336) Option.none (Value.ref 572) Value.none 0)) #[]
noncomputable def q574 (_ : Params) : Obj := Obj.mk (Value.type "tuple") Option.none (Data.seq #[]) #[]
noncomputable def q575 (_ : Params) : Obj := Obj.mk Value.none Option.none (Data.fields #[]) #[]
noncomputable def q576 (_ : Params) : Obj := Obj.mk (Value.type "tuple") Option.none (Data.seq #[Value.str (PySem.Str.ofString "self") 954, Value.str (PySem.Str.ofString "line") 955]) #[]
noncomputable def q577 (_ : Params) : Obj := Obj.mk (Value.type "tuple") Option.none (Data.seq #[]) #[]
noncomputable def q578 (_ : Params) : Obj := Obj.mk Value.none Option.none (Data.func (FuncData.mk (PySem.Str.ofString "__next__") (PySem.Str.ofString "StringIO.__next__") (hqP (hqAt 11 29)) (FuncBody.stmts (hqB (hqAt 11 29))) (hqS (hqAt 11 29)) 0 [] Value.none Value.none Value.none Value.none Option.none Value.none Value.none 0)) #[]
noncomputable def q579 (_ : Params) : Obj := Obj.mk (Value.type "code") Option.none (Data.fields #[Value.str (PySem.Str.ofString "__next__") 951, Value.str (PySem.Str.ofString "StringIO.__next__") 952, Value.str (PySem.Str.ofString "/claim/cut.py") 953, Value.int 389 0, Value.int 1 0, Value.int 0 0, Value.int 0 0, Value.int 3 0, Value.ref 574, Value.bool Bool.true, Value.int 313 0, Value.ref 575, Value.none, Value.ref 576, Value.ref 577, Value.ref 578, Value.int 956 0, Value.int 389 0, Value.str (PySem.Str.ofString "/claim/cut.py") 957]) #[]
noncomputable def q580 (_ : Params) : Obj := Obj.mk (Value.type "function") Option.none (Data.func (FuncData.mk (PySem.Str.ofString "__next__") (PySem.Str.ofString "StringIO.__next__") (hqP (hqAt 11 29)) (FuncBody.stmts (hqB (hqAt 11 29))) (hqS (hqAt 11 29)) 3 [] Value.none Value.none Value.none (Value.str (PySem.Str.ofString "io") 336) Option.none (Value.ref 579) Value.none 0)) #[]
noncomputable def q581 (_ : Params) : Obj := Obj.mk (Value.type "tuple") Option.none (Data.seq #[]) #[]
noncomputable def q582 (_ : Params) : Obj := Obj.mk Value.none Option.none (Data.fields #[]) #[]
noncomputable def q583 (_ : Params) : Obj := Obj.mk (Value.type "tuple") Option.none (Data.seq #[Value.str (PySem.Str.ofString "self") 962, Value.str (PySem.Str.ofString "s") 963, Value.str (PySem.Str.ofString "n") 964, Value.str (PySem.Str.ofString "m") 965, Value.str (PySem.Str.ofString "start") 966, Value.str (PySem.Str.ofString "buf") 967]) #[]
noncomputable def q584 (_ : Params) : Obj := Obj.mk (Value.type "tuple") Option.none (Data.seq #[]) #[]
noncomputable def q585 (_ : Params) : Obj := Obj.mk Value.none Option.none (Data.func (FuncData.mk (PySem.Str.ofString "write") (PySem.Str.ofString "StringIO.write") (hqP (hqAt 11 30)) (FuncBody.stmts (hqB (hqAt 11 30))) (hqS (hqAt 11 30)) 0 [] Value.none Value.none Value.none Value.none Option.none Value.none Value.none 0)) #[]
noncomputable def q586 (_ : Params) : Obj := Obj.mk (Value.type "code") Option.none (Data.fields #[Value.str (PySem.Str.ofString "write") 959, Value.str (PySem.Str.ofString "StringIO.write") 960, Value.str (PySem.Str.ofString "/claim/cut.py") 961, Value.int 396 0, Value.int 2 0, Value.int 2 0, Value.int 0 0, Value.int 3 0, Value.ref 581, Value.bool Bool.true, Value.int 313 0, Value.ref 582, Value.none, Value.ref 583, Value.ref 584, Value.ref 585, Value.int 968 0, Value.int 396 0, Value.str (PySem.Str.ofString "/claim/cut.py") 969]) #[]
noncomputable def q587 (_ : Params) : Obj := Obj.mk (Value.type "function") Option.none (Data.func (FuncData.mk (PySem.Str.ofString "write") (PySem.Str.ofString "StringIO.write") (hqP (hqAt 11 30)) (FuncBody.stmts (hqB (hqAt 11 30))) (hqS (hqAt 11 30)) 3 [] Value.none Value.none Value.none (Value.str (PySem.Str.ofString "io") 336) Option.none (Value.ref 586) Value.none 0)) #[]
noncomputable def q588 (_ : Params) : Obj := Obj.mk (Value.type "tuple") Option.none (Data.seq #[]) #[]
noncomputable def q589 (_ : Params) : Obj := Obj.mk Value.none Option.none (Data.fields #[]) #[]
noncomputable def q590 (_ : Params) : Obj := Obj.mk (Value.type "tuple") Option.none (Data.seq #[Value.str (PySem.Str.ofString "self") 974, Value.str (PySem.Str.ofString "lines") 975]) #[]
noncomputable def q591 (_ : Params) : Obj := Obj.mk (Value.type "tuple") Option.none (Data.seq #[]) #[]
noncomputable def q592 (_ : Params) : Obj := Obj.mk Value.none Option.none (Data.func (FuncData.mk (PySem.Str.ofString "writelines") (PySem.Str.ofString "StringIO.writelines") (hqP (hqAt 11 31)) (FuncBody.stmts (hqB (hqAt 11 31))) (hqS (hqAt 11 31)) 0 [] Value.none Value.none Value.none Value.none Option.none Value.none Value.none 0)) #[]
noncomputable def q593 (_ : Params) : Obj := Obj.mk (Value.type "code") Option.none (Data.fields #[Value.str (PySem.Str.ofString "writelines") 971, Value.str (PySem.Str.ofString "StringIO.writelines") 972, Value.str (PySem.Str.ofString "/claim/cut.py") 973, Value.int 415 0, Value.int 2 0, Value.int 2 0, Value.int 0 0, Value.int 3 0, Value.ref 588, Value.bool Bool.true, Value.int 313 0, Value.ref 589, Value.none, Value.ref 590, Value.ref 591, Value.ref 592, Value.int 976 0, Value.int 415 0, Value.str (PySem.Str.ofString "/claim/cut.py") 977]) #[]
noncomputable def q594 (_ : Params) : Obj := Obj.mk (Value.type "function") Option.none (Data.func (FuncData.mk (PySem.Str.ofString "writelines") (PySem.Str.ofString "StringIO.writelines") (hqP (hqAt 11 31)) (FuncBody.stmts (hqB (hqAt 11 31))) (hqS (hqAt 11 31)) 3 [] Value.none Value.none Value.none (Value.str (PySem.Str.ofString "io") 336) Option.none (Value.ref 593) Value.none 0)) #[]
noncomputable def q595 (_ : Params) : Obj := Obj.mk (Value.type "tuple") Option.none (Data.seq #[]) #[]
noncomputable def q596 (_ : Params) : Obj := Obj.mk Value.none Option.none (Data.fields #[]) #[]
noncomputable def q597 (_ : Params) : Obj := Obj.mk (Value.type "tuple") Option.none (Data.seq #[Value.str (PySem.Str.ofString "self") 982]) #[]
noncomputable def q598 (_ : Params) : Obj := Obj.mk (Value.type "tuple") Option.none (Data.seq #[]) #[]
noncomputable def q599 (_ : Params) : Obj := Obj.mk Value.none Option.none (Data.func (FuncData.mk (PySem.Str.ofString "__repr__") (PySem.Str.ofString "StringIO.__repr__") (hqP (hqAt 11 32)) (FuncBody.stmts (hqB (hqAt 11 32))) (hqS (hqAt 11 32)) 0 [] Value.none Value.none Value.none Value.none Option.none Value.none Value.none 0)) #[]
noncomputable def q600 (_ : Params) : Obj := Obj.mk (Value.type "code") Option.none (Data.fields #[Value.str (PySem.Str.ofString "__repr__") 979, Value.str (PySem.Str.ofString "StringIO.__repr__") 980, Value.str (PySem.Str.ofString "/claim/cut.py") 981, Value.int 418 0, Value.int 1 0, Value.int 0 0, Value.int 0 0, Value.int 3 0, Value.ref 595, Value.bool Bool.true, Value.int 313 0, Value.ref 596, Value.none, Value.ref 597, Value.ref 598, Value.ref 599, Value.int 983 0, Value.int 418 0, Value.str (PySem.Str.ofString "/claim/cut.py") 984]) #[]
noncomputable def q601 (_ : Params) : Obj := Obj.mk (Value.type "function") Option.none (Data.func (FuncData.mk (PySem.Str.ofString "__repr__") (PySem.Str.ofString "StringIO.__repr__") (hqP (hqAt 11 32)) (FuncBody.stmts (hqB (hqAt 11 32))) (hqS (hqAt 11 32)) 3 [] Value.none Value.none Value.none (Value.str (PySem.Str.ofString "io") 336) Option.none (Value.ref 600) Value.none 0)) #[]
noncomputable def q602 (_ : Params) : Obj := Obj.mk (Value.type "tuple") Option.none (Data.seq #[Value.str (PySem.Str.ofString "__buf") 986, Value.str (PySem.Str.ofString "__newline") 987, Value.str (PySem.Str.ofString "__pos") 988]) #[]
noncomputable def q603 (P : Params) : Obj := Obj.mk (Value.type "dict") Option.none (Data.dict #[DictEntry.mk (PyData.keyHash P (PySem.Str.ofString "__module__")) (Value.str (PySem.Str.ofString "__module__") 713) (Value.str (PySem.Str.ofString "_io") 718), DictEntry.mk (PyData.keyHash P (PySem.Str.ofString "__firstlineno__")) (Value.str (PySem.Str.ofString "__firstlineno__") 717) (Value.int 215 716), DictEntry.mk (PyData.keyHash P (PySem.Str.ofString "__init__")) (Value.str (PySem.Str.ofString "__init__") 730) (Value.ref 374), DictEntry.mk (PyData.keyHash P (PySem.Str.ofString "_StringIO__translated")) (Value.str (PySem.Str.ofString "_StringIO__translated") 739) (Value.ref 381), DictEntry.mk (PyData.keyHash P (PySem.Str.ofString "_StringIO__check")) (Value.str (PySem.Str.ofString "_StringIO__check") 746) (Value.ref 388), DictEntry.mk (PyData.keyHash P (PySem.Str.ofString "_StringIO__check_dot")) (Value.str (PySem.Str.ofString "_StringIO__check_dot") 753) (Value.ref 395), DictEntry.mk (PyData.keyHash P (PySem.Str.ofString "_StringIO__line")) (Value.str (PySem.Str.ofString "_StringIO__line") 768) (Value.ref 402), DictEntry.mk (PyData.keyHash P (PySem.Str.ofString "closed")) (Value.str (PySem.Str.ofString "closed") 776) (Value.ref 410), DictEntry.mk (PyData.keyHash P (PySem.Str.ofString "line_buffering")) (Value.str (PySem.Str.ofString "line_buffering") 784) (Value.ref 418), DictEntry.mk (PyData.keyHash P (PySem.Str.ofString "newlines")) (Value.str (PySem.Str.ofString "newlines") 792) (Value.ref 426), DictEntry.mk (PyData.keyHash P (PySem.Str.ofString "encoding")) (Value.str (PySem.Str.ofString "encoding") 800) (Value.ref 434), DictEntry.mk (PyData.keyHash P (PySem.Str.ofString "errors")) (Value.str (PySem.Str.ofString "errors") 808) (Value.ref 442), DictEntry.mk (PyData.keyHash P (PySem.Str.ofString "close")) (Value.str (PySem.Str.ofString "close") 815) (Value.ref 449), DictEntry.mk (PyData.keyHash P (PySem.Str.ofString "__enter__")) (Value.str (PySem.Str.ofString "__enter__") 822) (Value.ref 456), DictEntry.mk (PyData.keyHash P (PySem.Str.ofString "__exit__")) (Value.str (PySem.Str.ofString "__exit__") 830) (Value.ref 463), DictEntry.mk (PyData.keyHash P (PySem.Str.ofString "readable")) (Value.str (PySem.Str.ofString "readable") 837) (Value.ref 470), DictEntry.mk (PyData.keyHash P (PySem.Str.ofString "writable")) (Value.str (PySem.Str.ofString "writable") 844) (Value.ref 477), DictEntry.mk (PyData.keyHash P (PySem.Str.ofString "seekable")) (Value.str (PySem.Str.ofString "seekable") 851) (Value.ref 484), DictEntry.mk (PyData.keyHash P (PySem.Str.ofString "isatty")) (Value.str (PySem.Str.ofString "isatty") 858) (Value.ref 491), DictEntry.mk (PyData.keyHash P (PySem.Str.ofString "flush")) (Value.str (PySem.Str.ofString "flush") 865) (Value.ref 498), DictEntry.mk (PyData.keyHash P (PySem.Str.ofString "fileno")) (Value.str (PySem.Str.ofString "fileno") 872) (Value.ref 505), DictEntry.mk (PyData.keyHash P (PySem.Str.ofString "detach")) (Value.str (PySem.Str.ofString "detach") 879) (Value.ref 512), DictEntry.mk (PyData.keyHash P (PySem.Str.ofString "getvalue")) (Value.str (PySem.Str.ofString "getvalue") 886) (Value.ref 519), DictEntry.mk (PyData.keyHash P (PySem.Str.ofString "tell")) (Value.str (PySem.Str.ofString "tell") 893) (Value.ref 526), DictEntry.mk (PyData.keyHash P (PySem.Str.ofString "seek")) (Value.str (PySem.Str.ofString "seek") 903) (Value.ref 534), DictEntry.mk (PyData.keyHash P (PySem.Str.ofString "truncate")) (Value.str (PySem.Str.ofString "truncate") 911) (Value.ref 542), DictEntry.mk (PyData.keyHash P (PySem.Str.ofString "read")) (Value.str (PySem.Str.ofString "read") 923) (Value.ref 550), DictEntry.mk (PyData.keyHash P (PySem.Str.ofString "readline")) (Value.str (PySem.Str.ofString "readline") 933) (Value.ref 558), DictEntry.mk (PyData.keyHash P (PySem.Str.ofString "readlines")) (Value.str (PySem.Str.ofString "readlines") 943) (Value.ref 566), DictEntry.mk (PyData.keyHash P (PySem.Str.ofString "__iter__")) (Value.str (PySem.Str.ofString "__iter__") 950) (Value.ref 573), DictEntry.mk (PyData.keyHash P (PySem.Str.ofString "__next__")) (Value.str (PySem.Str.ofString "__next__") 958) (Value.ref 580), DictEntry.mk (PyData.keyHash P (PySem.Str.ofString "write")) (Value.str (PySem.Str.ofString "write") 970) (Value.ref 587), DictEntry.mk (PyData.keyHash P (PySem.Str.ofString "writelines")) (Value.str (PySem.Str.ofString "writelines") 978) (Value.ref 594), DictEntry.mk (PyData.keyHash P (PySem.Str.ofString "__repr__")) (Value.str (PySem.Str.ofString "__repr__") 985) (Value.ref 601), DictEntry.mk (PyData.keyHash P (PySem.Str.ofString "__static_attributes__")) (Value.str (PySem.Str.ofString "__static_attributes__") 989) (Value.ref 602), DictEntry.mk (PyData.keyHash P (PySem.Str.ofString "__doc__")) (Value.str (PySem.Str.ofString "__doc__") 990) Value.none] 2) #[]
noncomputable def q604 (_ : Params) : Obj := Obj.mk (Value.type "type") Option.none (Data.cls (ClassData.mk (PySem.Str.ofString "StringIO") [Value.ref 127] [Value.ref 604, Value.ref 127, Value.ref 100, Value.type "object"] 603 (PySem.Str.ofString "StringIO") Bool.true [] [] Bool.false Option.none Bool.false)) #[Option.some (Value.ref 360), Option.none, Option.some (Value.str (PySem.Str.ofString "StringIO") 706), Option.some (Value.str (PySem.Str.ofString "StringIO") 714), Option.some Value.none, Option.some (Value.bool Bool.true)]
noncomputable def q605 (_ : Params) : Obj := Obj.mk (Value.type "super") Option.none (Data.fields #[Value.ref 604, Value.ref 604, Value.ref 604]) #[]
noncomputable def q606 (_ : Params) : Obj := Obj.mk (Value.type "builtin_function_or_method") Option.none (Data.fields #[Value.builtin "object.__init_subclass__", Value.ref 604]) #[]
noncomputable def q3 (P : Params) : Obj := Obj.mk (Value.type "dict") Option.none (Data.dict #[DictEntry.mk (PyData.keyHash P (PySem.Str.ofString "__name__")) (Value.str (PySem.Str.ofString "__name__") 165) (Value.str (PySem.Str.ofString "rlp.utils") 1210), DictEntry.mk (PyData.keyHash P (PySem.Str.ofString "__doc__")) (Value.str (PySem.Str.ofString "__doc__") 166) Value.none, DictEntry.mk (PyData.keyHash P (PySem.Str.ofString "__package__")) (Value.str (PySem.Str.ofString "__package__") 167) Value.none, DictEntry.mk (PyData.keyHash P (PySem.Str.ofString "__loader__")) (Value.str (PySem.Str.ofString "__loader__") 168) (Value.builtin "__main__.__loader__#opaque"), DictEntry.mk (PyData.keyHash P (PySem.Str.ofString "__spec__")) (Value.str (PySem.Str.ofString "__spec__") 169) Value.none, DictEntry.mk (PyData.keyHash P (PySem.Str.ofString "__annotations__")) (Value.str (PySem.Str.ofString "__annotations__") 170) (Value.ref 6), DictEntry.mk (PyData.keyHash P (PySem.Str.ofString "__builtins__")) (Value.str (PySem.Str.ofString "__builtins__") 171) (Value.ref 4), DictEntry.mk (PyData.keyHash P (PySem.Str.ofString "__file__")) (Value.str (PySem.Str.ofString "__file__") 173) (Value.str (PySem.Str.ofString "/claim/cut.py") 172), DictEntry.mk (PyData.keyHash P (PySem.Str.ofString "__cached__")) (Value.str (PySem.Str.ofString "__cached__") 174) Value.none, DictEntry.mk (PyData.keyHash P (PySem.Str.ofString "pack")) (Value.str (PySem.Str.ofString "pack") 312) (Value.builtin "_struct.pack"), DictEntry.mk (PyData.keyHash P (PySem.Str.ofString "_wall")) (Value.str (PySem.Str.ofString "_wall") 325) (Value.ref 49), DictEntry.mk (PyData.keyHash P (PySem.Str.ofString "to_bytes")) (Value.str (PySem.Str.ofString "to_bytes") 335) (Value.ref 56), DictEntry.mk (PyData.keyHash P (PySem.Str.ofString "_whence")) (Value.str (PySem.Str.ofString "_whence") 345) (Value.ref 63), DictEntry.mk (PyData.keyHash P (PySem.Str.ofString "_index")) (Value.str (PySem.Str.ofString "_index") 353) (Value.ref 70), DictEntry.mk (PyData.keyHash P (PySem.Str.ofString "UnsupportedOperation")) (Value.str (PySem.Str.ofString "UnsupportedOperation") 375) (Value.ref 80), DictEntry.mk (PyData.keyHash P (PySem.Str.ofString "IOBase")) (Value.str (PySem.Str.ofString "IOBase") 407) (Value.ref 100), DictEntry.mk (PyData.keyHash P (PySem.Str.ofString "BufferedIOBase")) (Value.str (PySem.Str.ofString "BufferedIOBase") 425) (Value.ref 115), DictEntry.mk (PyData.keyHash P (PySem.Str.ofString "TextIOBase")) (Value.str (PySem.Str.ofString "TextIOBase") 443) (Value.ref 127), DictEntry.mk (PyData.keyHash P (PySem.Str.ofString "BytesIO")) (Value.str (PySem.Str.ofString "BytesIO") 705) (Value.ref 357), DictEntry.mk (PyData.keyHash P (PySem.Str.ofString "StringIO")) (Value.str (PySem.Str.ofString "StringIO") 992) (Value.ref 604), DictEntry.mk (PyData.keyHash P (PySem.Str.ofString "from_bytes")) (Value.str (PySem.Str.ofString "from_bytes") 1003) (Value.ref 613), DictEntry.mk (PyData.keyHash P (PySem.Str.ofString "read_from")) (Value.str (PySem.Str.ofString "read_from") 1013) (Value.ref 620), DictEntry.mk (PyData.keyHash P (PySem.Str.ofString "RLPException")) (Value.str (PySem.Str.ofString "RLPException") 1035) (Value.ref 630), DictEntry.mk (PyData.keyHash P (PySem.Str.ofString "EncodingError")) (Value.str (PySem.Str.ofString "EncodingError") 1063) (Value.ref 652), DictEntry.mk (PyData.keyHash P (PySem.Str.ofString "DecodingError")) (Value.str (PySem.Str.ofString "DecodingError") 1091) (Value.ref 673), DictEntry.mk (PyData.keyHash P (PySem.Str.ofString "SerializationError")) (Value.str (PySem.Str.ofString "SerializationError") 1119) (Value.ref 694), DictEntry.mk (PyData.keyHash P (PySem.Str.ofString "ListSerializationError")) (Value.str (PySem.Str.ofString "ListSerializationError") 1150) (Value.ref 716), DictEntry.mk (PyData.keyHash P (PySem.Str.ofString "DeserializationError")) (Value.str (PySem.Str.ofString "DeserializationError") 1178) (Value.ref 737), DictEntry.mk (PyData.keyHash P (PySem.Str.ofString "ListDeserializationError")) (Value.str (PySem.Str.ofString "ListDeserializationError") 1209) (Value.ref 759)] 29) #[]
noncomputable def q40 (_ : Params) : Obj := Obj.mk Value.none Option.none (Data.fields #[Value.int 2 0, Value.int 0 0, Value.ref 48, Value.int 6 0, Value.int 0 0, Value.ref 55, Value.int 20 0, Value.int 0 0, Value.ref 62, Value.int 25 0, Value.int 0 0, Value.ref 69, Value.int 32 0, Value.int 0 0, Value.ref 76, Value.int 34 0, Value.int 0 0, Value.ref 89, Value.int 41 0, Value.int 0 0, Value.ref 111, Value.int 43 0, Value.int 0 0, Value.ref 123, Value.int 45 0, Value.int 0 0, Value.ref 135, Value.int 215 0, Value.int 0 0, Value.ref 365, Value.int 421 0, Value.int 0 0, Value.ref 612, Value.int 427 0, Value.int 0 0, Value.ref 619, Value.int 440 0, Value.int 0 0, Value.ref 626, Value.int 442 0, Value.int 0 0, Value.ref 640, Value.int 447 0, Value.int 0 0, Value.ref 661, Value.int 452 0, Value.int 0 0, Value.ref 682, Value.int 457 0, Value.int 0 0, Value.ref 703, Value.int 467 0, Value.int 0 0, Value.ref 725, Value.int 472 0, Value.int 0 0, Value.ref 746]) #[]
noncomputable def q607 (_ : Params) : Obj := Obj.mk (Value.type "tuple") Option.none (Data.seq #[]) #[]
noncomputable def q608 (_ : Params) : Obj := Obj.mk Value.none Option.none (Data.fields #[]) #[]
noncomputable def q609 (_ : Params) : Obj := Obj.mk (Value.type "tuple") Option.none (Data.seq #[Value.str (PySem.Str.ofString "b") 998, Value.str (PySem.Str.ofString "s") 999, Value.str (PySem.Str.ofString "res") 1000]) #[]
noncomputable def q610 (_ : Params) : Obj := Obj.mk (Value.type "tuple") Option.none (Data.seq #[]) #[]
noncomputable def q611 (_ : Params) : Obj := Obj.mk Value.none Option.none (Data.func (FuncData.mk (PySem.Str.ofString "from_bytes") (PySem.Str.ofString "from_bytes") (hqP (hqSt 13)) (FuncBody.stmts (hqB (hqSt 13))) (hqS (hqSt 13)) 0 [] Value.none Value.none Value.none Value.none Option.none Value.none Value.none 0)) #[]
noncomputable def q612 (_ : Params) : Obj := Obj.mk (Value.type "code") Option.none (Data.fields #[Value.str (PySem.Str.ofString "from_bytes") 995, Value.str (PySem.Str.ofString "from_bytes") 996, Value.str (PySem.Str.ofString "/claim/cut.py") 997, Value.int 421 0, Value.int 1 0, Value.int 0 0, Value.int 0 0, Value.int 3 0, Value.ref 607, Value.bool Bool.true, Value.int 313 0, Value.ref 608, Value.none, Value.ref 609, Value.ref 610, Value.ref 611, Value.int 1001 0, Value.int 421 0, Value.str (PySem.Str.ofString "/claim/cut.py") 1002]) #[]
noncomputable def q613 (_ : Params) : Obj := Obj.mk (Value.type "function") Option.none (Data.func (FuncData.mk (PySem.Str.ofString "from_bytes") (PySem.Str.ofString "from_bytes") (hqP (hqSt 13)) (FuncBody.stmts (hqB (hqSt 13))) (hqS (hqSt 13)) 3 [] Value.none Value.none Value.none (Value.str (PySem.Str.ofString "embit.compact") 993) Option.none (Value.ref 612) Value.none 0)) #[]
noncomputable def q614 (_ : Params) : Obj := Obj.mk (Value.type "tuple") Option.none (Data.seq #[]) #[]
noncomputable def q615 (_ : Params) : Obj := Obj.mk Value.none Option.none (Data.fields #[]) #[]
noncomputable def q616 (_ : Params) : Obj := Obj.mk (Value.type "tuple") Option.none (Data.seq #[Value.str (PySem.Str.ofString "stream") 1007, Value.str (PySem.Str.ofString "c") 1008, Value.str (PySem.Str.ofString "i") 1009, Value.str (PySem.Str.ofString "bytes_to_read") 1010]) #[]
noncomputable def q617 (_ : Params) : Obj := Obj.mk (Value.type "tuple") Option.none (Data.seq #[]) #[]
noncomputable def q618 (_ : Params) : Obj := Obj.mk Value.none Option.none (Data.func (FuncData.mk (PySem.Str.ofString "read_from") (PySem.Str.ofString "read_from") (hqP (hqSt 14)) (FuncBody.stmts (hqB (hqSt 14))) (hqS (hqSt 14)) 0 [] Value.none Value.none Value.none Value.none Option.none Value.none Value.none 0)) #[]
noncomputable def q619 (_ : Params) : Obj := Obj.mk (Value.type "code") Option.none (Data.fields #[Value.str (PySem.Str.ofString "read_from") 1004, Value.str (PySem.Str.ofString "read_from") 1005, Value.str (PySem.Str.ofString "/claim/cut.py") 1006, Value.int 427 0, Value.int 1 0, Value.int 0 0, Value.int 0 0, Value.int 3 0, Value.ref 614, Value.bool Bool.true, Value.int 313 0, Value.ref 615, Value.none, Value.ref 616, Value.ref 617, Value.ref 618, Value.int 1011 0, Value.int 427 0, Value.str (PySem.Str.ofString "/claim/cut.py") 1012]) #[]
noncomputable def q620 (_ : Params) : Obj := Obj.mk (Value.type "function") Option.none (Data.func (FuncData.mk (PySem.Str.ofString "read_from") (PySem.Str.ofString "read_from") (hqP (hqSt 14)) (FuncBody.stmts (hqB (hqSt 14))) (hqS (hqSt 14)) 3 [] Value.none Value.none Value.none (Value.str (PySem.Str.ofString "embit.compact") 993) Option.none (Value.ref 619) Value.none 0)) #[]
noncomputable def q621 (_ : Params) : Obj := Obj.mk (Value.type "tuple") Option.none (Data.seq #[Value.type "Exception"]) #[]
noncomputable def q622 (_ : Params) : Obj := Obj.mk (Value.type "builtin_function_or_method") Option.none (Data.fields #[Value.builtin "type.__prepare__", Value.type "type"]) #[]
noncomputable def q623 (P : Params) : Obj := Obj.mk (Value.type "dict") Option.none (Data.dict #[DictEntry.mk (PyData.keyHash P (PySem.Str.ofString "__module__")) (Value.str (PySem.Str.ofString "__module__") 1023) (Value.str (PySem.Str.ofString "rlp.exceptions") 1014), DictEntry.mk (PyData.keyHash P (PySem.Str.ofString "__qualname__")) (Value.str (PySem.Str.ofString "__qualname__") 1025) (Value.str (PySem.Str.ofString "RLPException") 1024), DictEntry.mk (PyData.keyHash P (PySem.Str.ofString "__firstlineno__")) (Value.str (PySem.Str.ofString "__firstlineno__") 1027) (Value.int 440 1026), DictEntry.mk (PyData.keyHash P (PySem.Str.ofString "__static_attributes__")) (Value.str (PySem.Str.ofString "__static_attributes__") 1028) (Value.ref 628)] 4) #[]
noncomputable def q624 (_ : Params) : Obj := Obj.mk (Value.type "tuple") Option.none (Data.seq #[]) #[]
noncomputable def q625 (_ : Params) : Obj := Obj.mk Value.none Option.none (Data.fields #[]) #[]
noncomputable def q626 (_ : Params) : Obj := Obj.mk (Value.type "code") Option.none (Data.fields #[Value.str (PySem.Str.ofString "RLPException") 1018, Value.str (PySem.Str.ofString "RLPException") 1019, Value.str (PySem.Str.ofString "/claim/cut.py") 1020, Value.int 440 0, Value.int 0 0, Value.int 0 0, Value.int 0 0, Value.int 0 0, Value.ref 624, Value.bool Bool.false, Value.int 313 0, Value.ref 625, Value.none, Value.none, Value.none, Value.none, Value.int 1021 0, Value.int 440 0, Value.str (PySem.Str.ofString "/claim/cut.py") 1022]) #[]
noncomputable def q627 (_ : Params) : Obj := Obj.mk (Value.type "frame") Option.none Data.plain #[Option.some (Value.ref 626), Option.some (Value.ref 3), Option.some (Value.ref 623), Option.none, Option.some (Value.str (PySem.Str.ofString "rlp.exceptions") 1014), Option.none, Option.some (Value.ref 0)]
noncomputable def q628 (_ : Params) : Obj := Obj.mk (Value.type "tuple") Option.none (Data.seq #[]) #[]
noncomputable def q629 (P : Params) : Obj := Obj.mk (Value.type "dict") Option.none (Data.dict #[DictEntry.mk (PyData.keyHash P (PySem.Str.ofString "__module__")) (Value.str (PySem.Str.ofString "__module__") 1023) (Value.str (PySem.Str.ofString "rlp.exceptions") 1014), DictEntry.mk (PyData.keyHash P (PySem.Str.ofString "__firstlineno__")) (Value.str (PySem.Str.ofString "__firstlineno__") 1027) (Value.int 440 1026), DictEntry.mk (PyData.keyHash P (PySem.Str.ofString "__static_attributes__")) (Value.str (PySem.Str.ofString "__static_attributes__") 1028) (Value.ref 628), DictEntry.mk (PyData.keyHash P (PySem.Str.ofString "__weakref__")) (Value.str (PySem.Str.ofString "__weakref__") 1030) (Value.ref 631), DictEntry.mk (PyData.keyHash P (PySem.Str.ofString "__doc__")) (Value.str (PySem.Str.ofString "__doc__") 1031) Value.none] 3) #[]
noncomputable def q630 (_ : Params) : Obj := Obj.mk (Value.type "type") Option.none (Data.cls (ClassData.mk (PySem.Str.ofString "RLPException") [Value.type "Exception"] [Value.ref 630, Value.type "Exception", Value.type "BaseException", Value.type "object"] 629 (PySem.Str.ofString "RLPException") Bool.true [] [Value.ref 652, Value.ref 673, Value.ref 694, Value.ref 737] Bool.false Option.none Bool.false)) #[Option.some (Value.ref 621), Option.none, Option.some (Value.str (PySem.Str.ofString "RLPException") 1016), Option.some (Value.str (PySem.Str.ofString "RLPException") 1024), Option.some (Value.builtin "Exception.__new__"), Option.some (Value.bool Bool.true)]
noncomputable def q631 (_ : Params) : Obj := Obj.mk (Value.type "getset_descriptor") Option.none (Data.fields #[Value.str (PySem.Str.ofString "__weakref__") 1029, Value.ref 630, Value.builtin "ExceptionGroup.__weakref__", Value.none]) #[]
noncomputable def q632 (_ : Params) : Obj := Obj.mk (Value.type "super") Option.none (Data.fields #[Value.ref 630, Value.ref 630, Value.ref 630]) #[]
noncomputable def q633 (_ : Params) : Obj := Obj.mk (Value.type "builtin_function_or_method") Option.none (Data.fields #[Value.builtin "object.__init_subclass__", Value.ref 630]) #[]
noncomputable def q634 (_ : Params) : Obj := Obj.mk (Value.type "tuple") Option.none (Data.seq #[Value.ref 630]) #[]
noncomputable def q635 (_ : Params) : Obj := Obj.mk (Value.type "builtin_function_or_method") Option.none (Data.fields #[Value.builtin "type.__prepare__", Value.type "type"]) #[]
noncomputable def q636 (P : Params) : Obj := Obj.mk (Value.type "dict") Option.none (Data.dict #[DictEntry.mk (PyData.keyHash P (PySem.Str.ofString "__module__")) (Value.str (PySem.Str.ofString "__module__") 1043) (Value.str (PySem.Str.ofString "rlp.exceptions") 1014), DictEntry.mk (PyData.keyHash P (PySem.Str.ofString "__qualname__")) (Value.str (PySem.Str.ofString "__qualname__") 1045) (Value.str (PySem.Str.ofString "EncodingError") 1044), DictEntry.mk (PyData.keyHash P (PySem.Str.ofString "__firstlineno__")) (Value.str (PySem.Str.ofString "__firstlineno__") 1047) (Value.int 442 1046), DictEntry.mk (PyData.keyHash P (PySem.Str.ofString "__init__")) (Value.str (PySem.Str.ofString "__init__") 1057) (Value.ref 649), DictEntry.mk (PyData.keyHash P (PySem.Str.ofString "__static_attributes__")) (Value.str (PySem.Str.ofString "__static_attributes__") 1059) (Value.ref 650), DictEntry.mk (PyData.keyHash P (PySem.Str.ofString "__classcell__")) (Value.str (PySem.Str.ofString "__classcell__") 1060) (Value.ref 637)] 6) #[]
noncomputable def q637 (_ : Params) : Obj := Obj.mk (Value.type "cell") Option.none (Data.cell (Option.some (Value.ref 652))) #[]
noncomputable def q638 (_ : Params) : Obj := Obj.mk (Value.type "tuple") Option.none (Data.seq #[]) #[]
noncomputable def q639 (_ : Params) : Obj := Obj.mk Value.none Option.none (Data.fields #[Value.int 444 0, Value.int 4 0, Value.ref 648]) #[]
noncomputable def q640 (_ : Params) : Obj := Obj.mk (Value.type "code") Option.none (Data.fields #[Value.str (PySem.Str.ofString "EncodingError") 1038, Value.str (PySem.Str.ofString "EncodingError") 1039, Value.str (PySem.Str.ofString "/claim/cut.py") 1040, Value.int 442 0, Value.int 0 0, Value.int 0 0, Value.int 0 0, Value.int 0 0, Value.ref 638, Value.bool Bool.false, Value.int 313 0, Value.ref 639, Value.none, Value.none, Value.none, Value.none, Value.int 1041 0, Value.int 442 0, Value.str (PySem.Str.ofString "/claim/cut.py") 1042]) #[]
noncomputable def q641 (_ : Params) : Obj := Obj.mk (Value.type "frame") Option.none Data.plain #[Option.some (Value.ref 640), Option.some (Value.ref 3), Option.some (Value.ref 636), Option.none, Option.some (Value.str (PySem.Str.ofString "rlp.exceptions") 1014), Option.none, Option.some (Value.ref 0)]
noncomputable def q642 (_ : Params) : Obj := Obj.mk (Value.type "tuple") Option.none (Data.seq #[Value.ref 637]) #[]
noncomputable def q643 (_ : Params) : Obj := Obj.mk (Value.type "tuple") Option.none (Data.seq #[Value.str (PySem.Str.ofString "__class__") 1051]) #[]
noncomputable def q644 (_ : Params) : Obj := Obj.mk Value.none Option.none (Data.fields #[]) #[]
noncomputable def q645 (_ : Params) : Obj := Obj.mk (Value.type "tuple") Option.none (Data.seq #[Value.str (PySem.Str.ofString "self") 1052, Value.str (PySem.Str.ofString "message") 1053, Value.str (PySem.Str.ofString "obj") 1054]) #[]
noncomputable def q646 (_ : Params) : Obj := Obj.mk (Value.type "tuple") Option.none (Data.seq #[]) #[]
noncomputable def q647 (_ : Params) : Obj := Obj.mk Value.none Option.none (Data.func (FuncData.mk (PySem.Str.ofString "__init__") (PySem.Str.ofString "EncodingError.__init__") (hqP (hqIn 17)) (FuncBody.stmts (hqB (hqIn 17))) (hqS (hqIn 17)) 0 [] Value.none Value.none Value.none Value.none Option.none Value.none Value.none 0)) #[]
noncomputable def q648 (_ : Params) : Obj := Obj.mk (Value.type "code") Option.none (Data.fields #[Value.str (PySem.Str.ofString "__init__") 1048, Value.str (PySem.Str.ofString "EncodingError.__init__") 1049, Value.str (PySem.Str.ofString "/claim/cut.py") 1050, Value.int 444 0, Value.int 3 0, Value.int 0 0, Value.int 0 0, Value.int 3 0, Value.ref 643, Value.bool Bool.true, Value.int 313 0, Value.ref 644, Value.none, Value.ref 645, Value.ref 646, Value.ref 647, Value.int 1055 0, Value.int 444 0, Value.str (PySem.Str.ofString "/claim/cut.py") 1056]) #[]
noncomputable def q649 (_ : Params) : Obj := Obj.mk (Value.type "function") Option.none (Data.func (FuncData.mk (PySem.Str.ofString "__init__") (PySem.Str.ofString "EncodingError.__init__") (hqP (hqIn 17)) (FuncBody.stmts (hqB (hqIn 17))) (hqS (hqIn 17)) 3 [(PySem.Str.ofString "__class__", 637)] Value.none Value.none Value.none (Value.str (PySem.Str.ofString "rlp.exceptions") 1014) Option.none (Value.ref 648) (Value.ref 642) 0)) #[]
noncomputable def q650 (_ : Params) : Obj := Obj.mk (Value.type "tuple") Option.none (Data.seq #[Value.str (PySem.Str.ofString "obj") 1058]) #[]
noncomputable def q651 (P : Params) : Obj := Obj.mk (Value.type "dict") Option.none (Data.dict #[DictEntry.mk (PyData.keyHash P (PySem.Str.ofString "__module__")) (Value.str (PySem.Str.ofString "__module__") 1043) (Value.str (PySem.Str.ofString "rlp.exceptions") 1014), DictEntry.mk (PyData.keyHash P (PySem.Str.ofString "__firstlineno__")) (Value.str (PySem.Str.ofString "__firstlineno__") 1047) (Value.int 442 1046), DictEntry.mk (PyData.keyHash P (PySem.Str.ofString "__init__")) (Value.str (PySem.Str.ofString "__init__") 1057) (Value.ref 649), DictEntry.mk (PyData.keyHash P (PySem.Str.ofString "__static_attributes__")) (Value.str (PySem.Str.ofString "__static_attributes__") 1059) (Value.ref 650), DictEntry.mk (PyData.keyHash P (PySem.Str.ofString "__doc__")) (Value.str (PySem.Str.ofString "__doc__") 1061) Value.none] 3) #[]
noncomputable def q652 (_ : Params) : Obj := Obj.mk (Value.type "type") Option.none (Data.cls (ClassData.mk (PySem.Str.ofString "EncodingError") [Value.ref 630] [Value.ref 652, Value.ref 630, Value.type "Exception", Value.type "BaseException", Value.type "object"] 651 (PySem.Str.ofString "EncodingError") Bool.true [] [] Bool.false Option.none Bool.false)) #[Option.some (Value.ref 634), Option.none, Option.some (Value.str (PySem.Str.ofString "EncodingError") 1036), Option.some (Value.str (PySem.Str.ofString "EncodingError") 1044), Option.some (Value.builtin "Exception.__new__"), Option.some (Value.bool Bool.true)]
noncomputable def q653 (_ : Params) : Obj := Obj.mk (Value.type "super") Option.none (Data.fields #[Value.ref 652, Value.ref 652, Value.ref 652]) #[]
noncomputable def q654 (_ : Params) : Obj := Obj.mk (Value.type "builtin_function_or_method") Option.none (Data.fields #[Value.builtin "object.__init_subclass__", Value.ref 652]) #[]
noncomputable def q655 (_ : Params) : Obj := Obj.mk (Value.type "tuple") Option.none (Data.seq #[Value.ref 630]) #[]
noncomputable def q656 (_ : Params) : Obj := Obj.mk (Value.type "builtin_function_or_method") Option.none (Data.fields #[Value.builtin "type.__prepare__", Value.type "type"]) #[]
noncomputable def q657 (P : Params) : Obj := Obj.mk (Value.type "dict") Option.none (Data.dict #[DictEntry.mk (PyData.keyHash P (PySem.Str.ofString "__module__")) (Value.str (PySem.Str.ofString "__module__") 1071) (Value.str (PySem.Str.ofString "rlp.exceptions") 1014), DictEntry.mk (PyData.keyHash P (PySem.Str.ofString "__qualname__")) (Value.str (PySem.Str.ofString "__qualname__") 1073) (Value.str (PySem.Str.ofString "DecodingError") 1072), DictEntry.mk (PyData.keyHash P (PySem.Str.ofString "__firstlineno__")) (Value.str (PySem.Str.ofString "__firstlineno__") 1075) (Value.int 447 1074), DictEntry.mk (PyData.keyHash P (PySem.Str.ofString "__init__")) (Value.str (PySem.Str.ofString "__init__") 1085) (Value.ref 670), DictEntry.mk (PyData.keyHash P (PySem.Str.ofString "__static_attributes__")) (Value.str (PySem.Str.ofString "__static_attributes__") 1087) (Value.ref 671), DictEntry.mk (PyData.keyHash P (PySem.Str.ofString "__classcell__")) (Value.str (PySem.Str.ofString "__classcell__") 1088) (Value.ref 658)] 6) #[]
noncomputable def q658 (_ : Params) : Obj := Obj.mk (Value.type "cell") Option.none (Data.cell (Option.some (Value.ref 673))) #[]
noncomputable def q659 (_ : Params) : Obj := Obj.mk (Value.type "tuple") Option.none (Data.seq #[]) #[]
noncomputable def q660 (_ : Params) : Obj := Obj.mk Value.none Option.none (Data.fields #[Value.int 449 0, Value.int 4 0, Value.ref 669]) #[]
noncomputable def q661 (_ : Params) : Obj := Obj.mk (Value.type "code") Option.none (Data.fields #[Value.str (PySem.Str.ofString "DecodingError") 1066, Value.str (PySem.Str.ofString "DecodingError") 1067, Value.str (PySem.Str.ofString "/claim/cut.py") 1068, Value.int 447 0, Value.int 0 0, Value.int 0 0, Value.int 0 0, Value.int 0 0, Value.ref 659, Value.bool Bool.false, Value.int 313 0, Value.ref 660, Value.none, Value.none, Value.none, Value.none, Value.int 1069 0, Value.int 447 0, Value.str (PySem.Str.ofString "/claim/cut.py") 1070]) #[]
noncomputable def q662 (_ : Params) : Obj := Obj.mk (Value.type "frame") Option.none Data.plain #[Option.some (Value.ref 661), Option.some (Value.ref 3), Option.some (Value.ref 657), Option.none, Option.some (Value.str (PySem.Str.ofString "rlp.exceptions") 1014), Option.none, Option.some (Value.ref 0)]
noncomputable def q663 (_ : Params) : Obj := Obj.mk (Value.type "tuple") Option.none (Data.seq #[Value.ref 658]) #[]
noncomputable def q664 (_ : Params) : Obj := Obj.mk (Value.type "tuple") Option.none (Data.seq #[Value.str (PySem.Str.ofString "__class__") 1079]) #[]
noncomputable def q665 (_ : Params) : Obj := Obj.mk Value.none Option.none (Data.fields #[]) #[]
noncomputable def q666 (_ : Params) : Obj := Obj.mk (Value.type "tuple") Option.none (Data.seq #[Value.str (PySem.Str.ofString "self") 1080, Value.str (PySem.Str.ofString "message") 1081, Value.str (PySem.Str.ofString "rlp") 1082]) #[]
noncomputable def q667 (_ : Params) : Obj := Obj.mk (Value.type "tuple") Option.none (Data.seq #[]) #[]
noncomputable def q668 (_ : Params) : Obj := Obj.mk Value.none Option.none (Data.func (FuncData.mk (PySem.Str.ofString "__init__") (PySem.Str.ofString "DecodingError.__init__") (hqP (hqIn 18)) (FuncBody.stmts (hqB (hqIn 18))) (hqS (hqIn 18)) 0 [] Value.none Value.none Value.none Value.none Option.none Value.none Value.none 0)) #[]
noncomputable def q669 (_ : Params) : Obj := Obj.mk (Value.type "code") Option.none (Data.fields #[Value.str (PySem.Str.ofString "__init__") 1076, Value.str (PySem.Str.ofString "DecodingError.__init__") 1077, Value.str (PySem.Str.ofString "/claim/cut.py") 1078, Value.int 449 0, Value.int 3 0, Value.int 0 0, Value.int 0 0, Value.int 3 0, Value.ref 664, Value.bool Bool.true, Value.int 313 0, Value.ref 665, Value.none, Value.ref 666, Value.ref 667, Value.ref 668, Value.int 1083 0, Value.int 449 0, Value.str (PySem.Str.ofString "/claim/cut.py") 1084]) #[]
noncomputable def q670 (_ : Params) : Obj := Obj.mk (Value.type "function") Option.none (Data.func (FuncData.mk (PySem.Str.ofString "__init__") (PySem.Str.ofString "DecodingError.__init__") (hqP (hqIn 18)) (FuncBody.stmts (hqB (hqIn 18))) (hqS (hqIn 18)) 3 [(PySem.Str.ofString "__class__", 658)] Value.none Value.none Value.none (Value.str (PySem.Str.ofString "rlp.exceptions") 1014) Option.none (Value.ref 669) (Value.ref 663) 0)) #[]
noncomputable def q671 (_ : Params) : Obj := Obj.mk (Value.type "tuple") Option.none (Data.seq #[Value.str (PySem.Str.ofString "rlp") 1086]) #[]
noncomputable def q672 (P : Params) : Obj := Obj.mk (Value.type "dict") Option.none (Data.dict #[DictEntry.mk (PyData.keyHash P (PySem.Str.ofString "__module__")) (Value.str (PySem.Str.ofString "__module__") 1071) (Value.str (PySem.Str.ofString "rlp.exceptions") 1014), DictEntry.mk (PyData.keyHash P (PySem.Str.ofString "__firstlineno__")) (Value.str (PySem.Str.ofString "__firstlineno__") 1075) (Value.int 447 1074), DictEntry.mk (PyData.keyHash P (PySem.Str.ofString "__init__")) (Value.str (PySem.Str.ofString "__init__") 1085) (Value.ref 670), DictEntry.mk (PyData.keyHash P (PySem.Str.ofString "__static_attributes__")) (Value.str (PySem.Str.ofString "__static_attributes__") 1087) (Value.ref 671), DictEntry.mk (PyData.keyHash P (PySem.Str.ofString "__doc__")) (Value.str (PySem.Str.ofString "__doc__") 1089) Value.none] 3) #[]
noncomputable def q673 (_ : Params) : Obj := Obj.mk (Value.type "type") Option.none (Data.cls (ClassData.mk (PySem.Str.ofString "DecodingError") [Value.ref 630] [Value.ref 673, Value.ref 630, Value.type "Exception", Value.type "BaseException", Value.type "object"] 672 (PySem.Str.ofString "DecodingError") Bool.true [] [] Bool.false Option.none Bool.false)) #[Option.some (Value.ref 655), Option.none, Option.some (Value.str (PySem.Str.ofString "DecodingError") 1064), Option.some (Value.str (PySem.Str.ofString "DecodingError") 1072), Option.some (Value.builtin "Exception.__new__"), Option.some (Value.bool Bool.true)]
noncomputable def q674 (_ : Params) : Obj := Obj.mk (Value.type "super") Option.none (Data.fields #[Value.ref 673, Value.ref 673, Value.ref 673]) #[]
noncomputable def q675 (_ : Params) : Obj := Obj.mk (Value.type "builtin_function_or_method") Option.none (Data.fields #[Value.builtin "object.__init_subclass__", Value.ref 673]) #[]
noncomputable def q676 (_ : Params) : Obj := Obj.mk (Value.type "tuple") Option.none (Data.seq #[Value.ref 630]) #[]
noncomputable def q677 (_ : Params) : Obj := Obj.mk (Value.type "builtin_function_or_method") Option.none (Data.fields #[Value.builtin "type.__prepare__", Value.type "type"]) #[]
noncomputable def q678 (P : Params) : Obj := Obj.mk (Value.type "dict") Option.none (Data.dict #[DictEntry.mk (PyData.keyHash P (PySem.Str.ofString "__module__")) (Value.str (PySem.Str.ofString "__module__") 1099) (Value.str (PySem.Str.ofString "rlp.exceptions") 1014), DictEntry.mk (PyData.keyHash P (PySem.Str.ofString "__qualname__")) (Value.str (PySem.Str.ofString "__qualname__") 1101) (Value.str (PySem.Str.ofString "SerializationError") 1100), DictEntry.mk (PyData.keyHash P (PySem.Str.ofString "__firstlineno__")) (Value.str (PySem.Str.ofString "__firstlineno__") 1103) (Value.int 452 1102), DictEntry.mk (PyData.keyHash P (PySem.Str.ofString "__init__")) (Value.str (PySem.Str.ofString "__init__") 1113) (Value.ref 691), DictEntry.mk (PyData.keyHash P (PySem.Str.ofString "__static_attributes__")) (Value.str (PySem.Str.ofString "__static_attributes__") 1115) (Value.ref 692), DictEntry.mk (PyData.keyHash P (PySem.Str.ofString "__classcell__")) (Value.str (PySem.Str.ofString "__classcell__") 1116) (Value.ref 679)] 6) #[]
noncomputable def q679 (_ : Params) : Obj := Obj.mk (Value.type "cell") Option.none (Data.cell (Option.some (Value.ref 694))) #[]
noncomputable def q680 (_ : Params) : Obj := Obj.mk (Value.type "tuple") Option.none (Data.seq #[]) #[]
noncomputable def q681 (_ : Params) : Obj := Obj.mk Value.none Option.none (Data.fields #[Value.int 454 0, Value.int 4 0, Value.ref 690]) #[]
noncomputable def q682 (_ : Params) : Obj := Obj.mk (Value.type "code") Option.none (Data.fields #[Value.str (PySem.Str.ofString "SerializationError") 1094, Value.str (PySem.Str.ofString "SerializationError") 1095, Value.str (PySem.Str.ofString "/claim/cut.py") 1096, Value.int 452 0, Value.int 0 0, Value.int 0 0, Value.int 0 0, Value.int 0 0, Value.ref 680, Value.bool Bool.false, Value.int 313 0, Value.ref 681, Value.none, Value.none, Value.none, Value.none, Value.int 1097 0, Value.int 452 0, Value.str (PySem.Str.ofString "/claim/cut.py") 1098]) #[]
noncomputable def q683 (_ : Params) : Obj := Obj.mk (Value.type "frame") Option.none Data.plain #[Option.some (Value.ref 682), Option.some (Value.ref 3), Option.some (Value.ref 678), Option.none, Option.some (Value.str (PySem.Str.ofString "rlp.exceptions") 1014), Option.none, Option.some (Value.ref 0)]
noncomputable def q684 (_ : Params) : Obj := Obj.mk (Value.type "tuple") Option.none (Data.seq #[Value.ref 679]) #[]
noncomputable def q685 (_ : Params) : Obj := Obj.mk (Value.type "tuple") Option.none (Data.seq #[Value.str (PySem.Str.ofString "__class__") 1107]) #[]
noncomputable def q686 (_ : Params) : Obj := Obj.mk Value.none Option.none (Data.fields #[]) #[]
noncomputable def q687 (_ : Params) : Obj := Obj.mk (Value.type "tuple") Option.none (Data.seq #[Value.str (PySem.Str.ofString "self") 1108, Value.str (PySem.Str.ofString "message") 1109, Value.str (PySem.Str.ofString "obj") 1110]) #[]
noncomputable def q688 (_ : Params) : Obj := Obj.mk (Value.type "tuple") Option.none (Data.seq #[]) #[]
noncomputable def q689 (_ : Params) : Obj := Obj.mk Value.none Option.none (Data.func (FuncData.mk (PySem.Str.ofString "__init__") (PySem.Str.ofString "SerializationError.__init__") (hqP (hqIn 19)) (FuncBody.stmts (hqB (hqIn 19))) (hqS (hqIn 19)) 0 [] Value.none Value.none Value.none Value.none Option.none Value.none Value.none 0)) #[]
noncomputable def q690 (_ : Params) : Obj := Obj.mk (Value.type "code") Option.none (Data.fields #[Value.str (PySem.Str.ofString "__init__") 1104, Value.str (PySem.Str.ofString "SerializationError.__init__") 1105, Value.str (PySem.Str.ofString "/claim/cut.py") 1106, Value.int 454 0, Value.int 3 0, Value.int 0 0, Value.int 0 0, Value.int 3 0, Value.ref 685, Value.bool Bool.true, Value.int 313 0, Value.ref 686, Value.none, Value.ref 687, Value.ref 688, Value.ref 689, Value.int 1111 0, Value.int 454 0, Value.str (PySem.Str.ofString "/claim/cut.py") 1112]) #[]
noncomputable def q691 (_ : Params) : Obj := Obj.mk (Value.type "function") Option.none (Data.func (FuncData.mk (PySem.Str.ofString "__init__") (PySem.Str.ofString "SerializationError.__init__") (hqP (hqIn 19)) (FuncBody.stmts (hqB (hqIn 19))) (hqS (hqIn 19)) 3 [(PySem.Str.ofString "__class__", 679)] Value.none Value.none Value.none (Value.str (PySem.Str.ofString "rlp.exceptions") 1014) Option.none (Value.ref 690) (Value.ref 684) 0)) #[]
noncomputable def q692 (_ : Params) : Obj := Obj.mk (Value.type "tuple") Option.none (Data.seq #[Value.str (PySem.Str.ofString "obj") 1114]) #[]
noncomputable def q693 (P : Params) : Obj := Obj.mk (Value.type "dict") Option.none (Data.dict #[DictEntry.mk (PyData.keyHash P (PySem.Str.ofString "__module__")) (Value.str (PySem.Str.ofString "__module__") 1099) (Value.str (PySem.Str.ofString "rlp.exceptions") 1014), DictEntry.mk (PyData.keyHash P (PySem.Str.ofString "__firstlineno__")) (Value.str (PySem.Str.ofString "__firstlineno__") 1103) (Value.int 452 1102), DictEntry.mk (PyData.keyHash P (PySem.Str.ofString "__init__")) (Value.str (PySem.Str.ofString "__init__") 1113) (Value.ref 691), DictEntry.mk (PyData.keyHash P (PySem.Str.ofString "__static_attributes__")) (Value.str (PySem.Str.ofString "__static_attributes__") 1115) (Value.ref 692), DictEntry.mk (PyData.keyHash P (PySem.Str.ofString "__doc__")) (Value.str (PySem.Str.ofString "__doc__") 1117) Value.none] 3) #[]
noncomputable def q694 (_ : Params) : Obj := Obj.mk (Value.type "type") Option.none (Data.cls (ClassData.mk (PySem.Str.ofString "SerializationError") [Value.ref 630] [Value.ref 694, Value.ref 630, Value.type "Exception", Value.type "BaseException", Value.type "object"] 693 (PySem.Str.ofString "SerializationError") Bool.true [] [Value.ref 716] Bool.false Option.none Bool.false)) #[Option.some (Value.ref 676), Option.none, Option.some (Value.str (PySem.Str.ofString "SerializationError") 1092), Option.some (Value.str (PySem.Str.ofString "SerializationError") 1100), Option.some (Value.builtin "Exception.__new__"), Option.some (Value.bool Bool.true)]
noncomputable def q695 (_ : Params) : Obj := Obj.mk (Value.type "super") Option.none (Data.fields #[Value.ref 694, Value.ref 694, Value.ref 694]) #[]
noncomputable def q696 (_ : Params) : Obj := Obj.mk (Value.type "builtin_function_or_method") Option.none (Data.fields #[Value.builtin "object.__init_subclass__", Value.ref 694]) #[]
noncomputable def q697 (_ : Params) : Obj := Obj.mk (Value.type "tuple") Option.none (Data.seq #[Value.ref 694]) #[]
noncomputable def q698 (_ : Params) : Obj := Obj.mk (Value.type "builtin_function_or_method") Option.none (Data.fields #[Value.builtin "type.__prepare__", Value.type "type"]) #[]
noncomputable def q699 (P : Params) : Obj := Obj.mk (Value.type "dict") Option.none (Data.dict #[DictEntry.mk (PyData.keyHash P (PySem.Str.ofString "__module__")) (Value.str (PySem.Str.ofString "__module__") 1127) (Value.str (PySem.Str.ofString "rlp.exceptions") 1014), DictEntry.mk (PyData.keyHash P (PySem.Str.ofString "__qualname__")) (Value.str (PySem.Str.ofString "__qualname__") 1129) (Value.str (PySem.Str.ofString "ListSerializationError") 1128), DictEntry.mk (PyData.keyHash P (PySem.Str.ofString "__firstlineno__")) (Value.str (PySem.Str.ofString "__firstlineno__") 1131) (Value.int 457 1130), DictEntry.mk (PyData.keyHash P (PySem.Str.ofString "__init__")) (Value.str (PySem.Str.ofString "__init__") 1143) (Value.ref 713), DictEntry.mk (PyData.keyHash P (PySem.Str.ofString "__static_attributes__")) (Value.str (PySem.Str.ofString "__static_attributes__") 1146) (Value.ref 714), DictEntry.mk (PyData.keyHash P (PySem.Str.ofString "__classcell__")) (Value.str (PySem.Str.ofString "__classcell__") 1147) (Value.ref 700)] 6) #[]
noncomputable def q700 (_ : Params) : Obj := Obj.mk (Value.type "cell") Option.none (Data.cell (Option.some (Value.ref 716))) #[]
noncomputable def q701 (_ : Params) : Obj := Obj.mk (Value.type "tuple") Option.none (Data.seq #[]) #[]
noncomputable def q702 (_ : Params) : Obj := Obj.mk Value.none Option.none (Data.fields #[Value.int 459 0, Value.int 4 0, Value.ref 712]) #[]
noncomputable def q703 (_ : Params) : Obj := Obj.mk (Value.type "code") Option.none (Data.fields #[Value.str (PySem.Str.ofString "ListSerializationError") 1122, Value.str (PySem.Str.ofString "ListSerializationError") 1123, Value.str (PySem.Str.ofString "/claim/cut.py") 1124, Value.int 457 0, Value.int 0 0, Value.int 0 0, Value.int 0 0, Value.int 0 0, Value.ref 701, Value.bool Bool.false, Value.int 313 0, Value.ref 702, Value.none, Value.none, Value.none, Value.none, Value.int 1125 0, Value.int 457 0, Value.str (PySem.Str.ofString "/claim/cut.py") 1126]) #[]
noncomputable def q704 (_ : Params) : Obj := Obj.mk (Value.type "frame") Option.none Data.plain #[Option.some (Value.ref 703), Option.some (Value.ref 3), Option.some (Value.ref 699), Option.none, Option.some (Value.str (PySem.Str.ofString "rlp.exceptions") 1014), Option.none, Option.some (Value.ref 0)]
noncomputable def q705 (_ : Params) : Obj := Obj.mk (Value.type "tuple") Option.none (Data.seq #[Value.none, Value.none, Value.none, Value.none]) #[]
noncomputable def q706 (_ : Params) : Obj := Obj.mk (Value.type "tuple") Option.none (Data.seq #[Value.ref 700]) #[]
noncomputable def q707 (_ : Params) : Obj := Obj.mk (Value.type "tuple") Option.none (Data.seq #[Value.str (PySem.Str.ofString "__class__") 1135]) #[]
noncomputable def q708 (_ : Params) : Obj := Obj.mk Value.none Option.none (Data.fields #[]) #[]
noncomputable def q709 (_ : Params) : Obj := Obj.mk (Value.type "tuple") Option.none (Data.seq #[Value.str (PySem.Str.ofString "self") 1136, Value.str (PySem.Str.ofString "message") 1137, Value.str (PySem.Str.ofString "obj") 1138, Value.str (PySem.Str.ofString "element_exception") 1139, Value.str (PySem.Str.ofString "index") 1140]) #[]
noncomputable def q710 (_ : Params) : Obj := Obj.mk (Value.type "tuple") Option.none (Data.seq #[]) #[]
noncomputable def q711 (_ : Params) : Obj := Obj.mk Value.none Option.none (Data.func (FuncData.mk (PySem.Str.ofString "__init__") (PySem.Str.ofString "ListSerializationError.__init__") (hqP (hqIn 20)) (FuncBody.stmts (hqB (hqIn 20))) (hqS (hqIn 20)) 0 [] Value.none Value.none Value.none Value.none Option.none Value.none Value.none 0)) #[]
noncomputable def q712 (_ : Params) : Obj := Obj.mk (Value.type "code") Option.none (Data.fields #[Value.str (PySem.Str.ofString "__init__") 1132, Value.str (PySem.Str.ofString "ListSerializationError.__init__") 1133, Value.str (PySem.Str.ofString "/claim/cut.py") 1134, Value.int 459 0, Value.int 5 0, Value.int 0 0, Value.int 0 0, Value.int 3 0, Value.ref 707, Value.bool Bool.true, Value.int 313 0, Value.ref 708, Value.none, Value.ref 709, Value.ref 710, Value.ref 711, Value.int 1141 0, Value.int 459 0, Value.str (PySem.Str.ofString "/claim/cut.py") 1142]) #[]
noncomputable def q713 (_ : Params) : Obj := Obj.mk (Value.type "function") Option.none (Data.func (FuncData.mk (PySem.Str.ofString "__init__") (PySem.Str.ofString "ListSerializationError.__init__") (hqP (hqIn 20)) (FuncBody.stmts (hqB (hqIn 20))) (hqS (hqIn 20)) 3 [(PySem.Str.ofString "__class__", 700)] (Value.ref 705) Value.none Value.none (Value.str (PySem.Str.ofString "rlp.exceptions") 1014) Option.none (Value.ref 712) (Value.ref 706) 0)) #[]
noncomputable def q714 (_ : Params) : Obj := Obj.mk (Value.type "tuple") Option.none (Data.seq #[Value.str (PySem.Str.ofString "element_exception") 1144, Value.str (PySem.Str.ofString "index") 1145]) #[]
noncomputable def q715 (P : Params) : Obj := Obj.mk (Value.type "dict") Option.none (Data.dict #[DictEntry.mk (PyData.keyHash P (PySem.Str.ofString "__module__")) (Value.str (PySem.Str.ofString "__module__") 1127) (Value.str (PySem.Str.ofString "rlp.exceptions") 1014), DictEntry.mk (PyData.keyHash P (PySem.Str.ofString "__firstlineno__")) (Value.str (PySem.Str.ofString "__firstlineno__") 1131) (Value.int 457 1130), DictEntry.mk (PyData.keyHash P (PySem.Str.ofString "__init__")) (Value.str (PySem.Str.ofString "__init__") 1143) (Value.ref 713), DictEntry.mk (PyData.keyHash P (PySem.Str.ofString "__static_attributes__")) (Value.str (PySem.Str.ofString "__static_attributes__") 1146) (Value.ref 714), DictEntry.mk (PyData.keyHash P (PySem.Str.ofString "__doc__")) (Value.str (PySem.Str.ofString "__doc__") 1148) Value.none] 3) #[]
noncomputable def q716 (_ : Params) : Obj := Obj.mk (Value.type "type") Option.none (Data.cls (ClassData.mk (PySem.Str.ofString "ListSerializationError") [Value.ref 694] [Value.ref 716, Value.ref 694, Value.ref 630, Value.type "Exception", Value.type "BaseException", Value.type "object"] 715 (PySem.Str.ofString "ListSerializationError") Bool.true [] [] Bool.false Option.none Bool.false)) #[Option.some (Value.ref 697), Option.none, Option.some (Value.str (PySem.Str.ofString "ListSerializationError") 1120), Option.some (Value.str (PySem.Str.ofString "ListSerializationError") 1128), Option.some (Value.builtin "Exception.__new__"), Option.some (Value.bool Bool.true)]
noncomputable def q717 (_ : Params) : Obj := Obj.mk (Value.type "super") Option.none (Data.fields #[Value.ref 716, Value.ref 716, Value.ref 716]) #[]
noncomputable def q718 (_ : Params) : Obj := Obj.mk (Value.type "builtin_function_or_method") Option.none (Data.fields #[Value.builtin "object.__init_subclass__", Value.ref 716]) #[]
noncomputable def q719 (_ : Params) : Obj := Obj.mk (Value.type "tuple") Option.none (Data.seq #[Value.ref 630]) #[]
noncomputable def q720 (_ : Params) : Obj := Obj.mk (Value.type "builtin_function_or_method") Option.none (Data.fields #[Value.builtin "type.__prepare__", Value.type "type"]) #[]
noncomputable def q721 (P : Params) : Obj := Obj.mk (Value.type "dict") Option.none (Data.dict #[DictEntry.mk (PyData.keyHash P (PySem.Str.ofString "__module__")) (Value.str (PySem.Str.ofString "__module__") 1158) (Value.str (PySem.Str.ofString "rlp.exceptions") 1014), DictEntry.mk (PyData.keyHash P (PySem.Str.ofString "__qualname__")) (Value.str (PySem.Str.ofString "__qualname__") 1160) (Value.str (PySem.Str.ofString "DeserializationError") 1159), DictEntry.mk (PyData.keyHash P (PySem.Str.ofString "__firstlineno__")) (Value.str (PySem.Str.ofString "__firstlineno__") 1162) (Value.int 467 1161), DictEntry.mk (PyData.keyHash P (PySem.Str.ofString "__init__")) (Value.str (PySem.Str.ofString "__init__") 1172) (Value.ref 734), DictEntry.mk (PyData.keyHash P (PySem.Str.ofString "__static_attributes__")) (Value.str (PySem.Str.ofString "__static_attributes__") 1174) (Value.ref 735), DictEntry.mk (PyData.keyHash P (PySem.Str.ofString "__classcell__")) (Value.str (PySem.Str.ofString "__classcell__") 1175) (Value.ref 722)] 6) #[]
noncomputable def q722 (_ : Params) : Obj := Obj.mk (Value.type "cell") Option.none (Data.cell (Option.some (Value.ref 737))) #[]
noncomputable def q723 (_ : Params) : Obj := Obj.mk (Value.type "tuple") Option.none (Data.seq #[]) #[]
noncomputable def q724 (_ : Params) : Obj := Obj.mk Value.none Option.none (Data.fields #[Value.int 469 0, Value.int 4 0, Value.ref 733]) #[]
noncomputable def q725 (_ : Params) : Obj := Obj.mk (Value.type "code") Option.none (Data.fields #[Value.str (PySem.Str.ofString "DeserializationError") 1153, Value.str (PySem.Str.ofString "DeserializationError") 1154, Value.str (PySem.Str.ofString "/claim/cut.py") 1155, Value.int 467 0, Value.int 0 0, Value.int 0 0, Value.int 0 0, Value.int 0 0, Value.ref 723, Value.bool Bool.false, Value.int 313 0, Value.ref 724, Value.none, Value.none, Value.none, Value.none, Value.int 1156 0, Value.int 467 0, Value.str (PySem.Str.ofString "/claim/cut.py") 1157]) #[]
noncomputable def q726 (_ : Params) : Obj := Obj.mk (Value.type "frame") Option.none Data.plain #[Option.some (Value.ref 725), Option.some (Value.ref 3), Option.some (Value.ref 721), Option.none, Option.some (Value.str (PySem.Str.ofString "rlp.exceptions") 1014), Option.none, Option.some (Value.ref 0)]
noncomputable def q727 (_ : Params) : Obj := Obj.mk (Value.type "tuple") Option.none (Data.seq #[Value.ref 722]) #[]
noncomputable def q728 (_ : Params) : Obj := Obj.mk (Value.type "tuple") Option.none (Data.seq #[Value.str (PySem.Str.ofString "__class__") 1166]) #[]
noncomputable def q729 (_ : Params) : Obj := Obj.mk Value.none Option.none (Data.fields #[]) #[]
noncomputable def q730 (_ : Params) : Obj := Obj.mk (Value.type "tuple") Option.none (Data.seq #[Value.str (PySem.Str.ofString "self") 1167, Value.str (PySem.Str.ofString "message") 1168, Value.str (PySem.Str.ofString "serial") 1169]) #[]
noncomputable def q731 (_ : Params) : Obj := Obj.mk (Value.type "tuple") Option.none (Data.seq #[]) #[]
noncomputable def q732 (_ : Params) : Obj := Obj.mk Value.none Option.none (Data.func (FuncData.mk (PySem.Str.ofString "__init__") (PySem.Str.ofString "DeserializationError.__init__") (hqP (hqIn 21)) (FuncBody.stmts (hqB (hqIn 21))) (hqS (hqIn 21)) 0 [] Value.none Value.none Value.none Value.none Option.none Value.none Value.none 0)) #[]
noncomputable def q733 (_ : Params) : Obj := Obj.mk (Value.type "code") Option.none (Data.fields #[Value.str (PySem.Str.ofString "__init__") 1163, Value.str (PySem.Str.ofString "DeserializationError.__init__") 1164, Value.str (PySem.Str.ofString "/claim/cut.py") 1165, Value.int 469 0, Value.int 3 0, Value.int 0 0, Value.int 0 0, Value.int 3 0, Value.ref 728, Value.bool Bool.true, Value.int 313 0, Value.ref 729, Value.none, Value.ref 730, Value.ref 731, Value.ref 732, Value.int 1170 0, Value.int 469 0, Value.str (PySem.Str.ofString "/claim/cut.py") 1171]) #[]
noncomputable def q734 (_ : Params) : Obj := Obj.mk (Value.type "function") Option.none (Data.func (FuncData.mk (PySem.Str.ofString "__init__") (PySem.Str.ofString "DeserializationError.__init__") (hqP (hqIn 21)) (FuncBody.stmts (hqB (hqIn 21))) (hqS (hqIn 21)) 3 [(PySem.Str.ofString "__class__", 722)] Value.none Value.none Value.none (Value.str (PySem.Str.ofString "rlp.exceptions") 1014) Option.none (Value.ref 733) (Value.ref 727) 0)) #[]
noncomputable def q735 (_ : Params) : Obj := Obj.mk (Value.type "tuple") Option.none (Data.seq #[Value.str (PySem.Str.ofString "serial") 1173]) #[]
noncomputable def q736 (P : Params) : Obj := Obj.mk (Value.type "dict") Option.none (Data.dict #[DictEntry.mk (PyData.keyHash P (PySem.Str.ofString "__module__")) (Value.str (PySem.Str.ofString "__module__") 1158) (Value.str (PySem.Str.ofString "rlp.exceptions") 1014), DictEntry.mk (PyData.keyHash P (PySem.Str.ofString "__firstlineno__")) (Value.str (PySem.Str.ofString "__firstlineno__") 1162) (Value.int 467 1161), DictEntry.mk (PyData.keyHash P (PySem.Str.ofString "__init__")) (Value.str (PySem.Str.ofString "__init__") 1172) (Value.ref 734), DictEntry.mk (PyData.keyHash P (PySem.Str.ofString "__static_attributes__")) (Value.str (PySem.Str.ofString "__static_attributes__") 1174) (Value.ref 735), DictEntry.mk (PyData.keyHash P (PySem.Str.ofString "__doc__")) (Value.str (PySem.Str.ofString "__doc__") 1176) Value.none] 3) #[]
noncomputable def q737 (_ : Params) : Obj := Obj.mk (Value.type "type") Option.none (Data.cls (ClassData.mk (PySem.Str.ofString "DeserializationError") [Value.ref 630] [Value.ref 737, Value.ref 630, Value.type "Exception", Value.type "BaseException", Value.type "object"] 736 (PySem.Str.ofString "DeserializationError") Bool.true [] [Value.ref 759] Bool.false Option.none Bool.false)) #[Option.some (Value.ref 719), Option.none, Option.some (Value.str (PySem.Str.ofString "DeserializationError") 1151), Option.some (Value.str (PySem.Str.ofString "DeserializationError") 1159), Option.some (Value.builtin "Exception.__new__"), Option.some (Value.bool Bool.true)]
noncomputable def q738 (_ : Params) : Obj := Obj.mk (Value.type "super") Option.none (Data.fields #[Value.ref 737, Value.ref 737, Value.ref 737]) #[]
noncomputable def q739 (_ : Params) : Obj := Obj.mk (Value.type "builtin_function_or_method") Option.none (Data.fields #[Value.builtin "object.__init_subclass__", Value.ref 737]) #[]
noncomputable def q740 (_ : Params) : Obj := Obj.mk (Value.type "tuple") Option.none (Data.seq #[Value.ref 737]) #[]
noncomputable def q741 (_ : Params) : Obj := Obj.mk (Value.type "builtin_function_or_method") Option.none (Data.fields #[Value.builtin "type.__prepare__", Value.type "type"]) #[]
noncomputable def q742 (P : Params) : Obj := Obj.mk (Value.type "dict") Option.none (Data.dict #[DictEntry.mk (PyData.keyHash P (PySem.Str.ofString "__module__")) (Value.str (PySem.Str.ofString "__module__") 1186) (Value.str (PySem.Str.ofString "rlp.exceptions") 1014), DictEntry.mk (PyData.keyHash P (PySem.Str.ofString "__qualname__")) (Value.str (PySem.Str.ofString "__qualname__") 1188) (Value.str (PySem.Str.ofString "ListDeserializationError") 1187), DictEntry.mk (PyData.keyHash P (PySem.Str.ofString "__firstlineno__")) (Value.str (PySem.Str.ofString "__firstlineno__") 1190) (Value.int 472 1189), DictEntry.mk (PyData.keyHash P (PySem.Str.ofString "__init__")) (Value.str (PySem.Str.ofString "__init__") 1202) (Value.ref 756), DictEntry.mk (PyData.keyHash P (PySem.Str.ofString "__static_attributes__")) (Value.str (PySem.Str.ofString "__static_attributes__") 1205) (Value.ref 757), DictEntry.mk (PyData.keyHash P (PySem.Str.ofString "__classcell__")) (Value.str (PySem.Str.ofString "__classcell__") 1206) (Value.ref 743)] 6) #[]
noncomputable def q743 (_ : Params) : Obj := Obj.mk (Value.type "cell") Option.none (Data.cell (Option.some (Value.ref 759))) #[]
noncomputable def q744 (_ : Params) : Obj := Obj.mk (Value.type "tuple") Option.none (Data.seq #[]) #[]
noncomputable def q745 (_ : Params) : Obj := Obj.mk Value.none Option.none (Data.fields #[Value.int 474 0, Value.int 4 0, Value.ref 755]) #[]
noncomputable def q746 (_ : Params) : Obj := Obj.mk (Value.type "code") Option.none (Data.fields #[Value.str (PySem.Str.ofString "ListDeserializationError") 1181, Value.str (PySem.Str.ofString "ListDeserializationError") 1182, Value.str (PySem.Str.ofString "/claim/cut.py") 1183, Value.int 472 0, Value.int 0 0, Value.int 0 0, Value.int 0 0, Value.int 0 0, Value.ref 744, Value.bool Bool.false, Value.int 313 0, Value.ref 745, Value.none, Value.none, Value.none, Value.none, Value.int 1184 0, Value.int 472 0, Value.str (PySem.Str.ofString "/claim/cut.py") 1185]) #[]
noncomputable def q747 (_ : Params) : Obj := Obj.mk (Value.type "frame") Option.none Data.plain #[Option.some (Value.ref 746), Option.some (Value.ref 3), Option.some (Value.ref 742), Option.none, Option.some (Value.str (PySem.Str.ofString "rlp.exceptions") 1014), Option.none, Option.some (Value.ref 0)]
noncomputable def q748 (_ : Params) : Obj := Obj.mk (Value.type "tuple") Option.none (Data.seq #[Value.none, Value.none, Value.none, Value.none]) #[]
noncomputable def q749 (_ : Params) : Obj := Obj.mk (Value.type "tuple") Option.none (Data.seq #[Value.ref 743]) #[]
noncomputable def q750 (_ : Params) : Obj := Obj.mk (Value.type "tuple") Option.none (Data.seq #[Value.str (PySem.Str.ofString "__class__") 1194]) #[]
noncomputable def q751 (_ : Params) : Obj := Obj.mk Value.none Option.none (Data.fields #[]) #[]
noncomputable def q752 (_ : Params) : Obj := Obj.mk (Value.type "tuple") Option.none (Data.seq #[Value.str (PySem.Str.ofString "self") 1195, Value.str (PySem.Str.ofString "message") 1196, Value.str (PySem.Str.ofString "serial") 1197, Value.str (PySem.Str.ofString "element_exception") 1198, Value.str (PySem.Str.ofString "index") 1199]) #[]
noncomputable def q753 (_ : Params) : Obj := Obj.mk (Value.type "tuple") Option.none (Data.seq #[]) #[]
noncomputable def q754 (_ : Params) : Obj := Obj.mk Value.none Option.none (Data.func (FuncData.mk (PySem.Str.ofString "__init__") (PySem.Str.ofString "ListDeserializationError.__init__") (hqP (hqIn 22)) (FuncBody.stmts (hqB (hqIn 22))) (hqS (hqIn 22)) 0 [] Value.none Value.none Value.none Value.none Option.none Value.none Value.none 0)) #[]
noncomputable def q755 (_ : Params) : Obj := Obj.mk (Value.type "code") Option.none (Data.fields #[Value.str (PySem.Str.ofString "__init__") 1191, Value.str (PySem.Str.ofString "ListDeserializationError.__init__") 1192, Value.str (PySem.Str.ofString "/claim/cut.py") 1193, Value.int 474 0, Value.int 5 0, Value.int 0 0, Value.int 0 0, Value.int 3 0, Value.ref 750, Value.bool Bool.true, Value.int 313 0, Value.ref 751, Value.none, Value.ref 752, Value.ref 753, Value.ref 754, Value.int 1200 0, Value.int 474 0, Value.str (PySem.Str.ofString "/claim/cut.py") 1201]) #[]
noncomputable def q756 (_ : Params) : Obj := Obj.mk (Value.type "function") Option.none (Data.func (FuncData.mk (PySem.Str.ofString "__init__") (PySem.Str.ofString "ListDeserializationError.__init__") (hqP (hqIn 22)) (FuncBody.stmts (hqB (hqIn 22))) (hqS (hqIn 22)) 3 [(PySem.Str.ofString "__class__", 743)] (Value.ref 748) Value.none Value.none (Value.str (PySem.Str.ofString "rlp.exceptions") 1014) Option.none (Value.ref 755) (Value.ref 749) 0)) #[]
noncomputable def q757 (_ : Params) : Obj := Obj.mk (Value.type "tuple") Option.none (Data.seq #[Value.str (PySem.Str.ofString "element_exception") 1203, Value.str (PySem.Str.ofString "index") 1204]) #[]
noncomputable def q758 (P : Params) : Obj := Obj.mk (Value.type "dict") Option.none (Data.dict #[DictEntry.mk (PyData.keyHash P (PySem.Str.ofString "__module__")) (Value.str (PySem.Str.ofString "__module__") 1186) (Value.str (PySem.Str.ofString "rlp.exceptions") 1014), DictEntry.mk (PyData.keyHash P (PySem.Str.ofString "__firstlineno__")) (Value.str (PySem.Str.ofString "__firstlineno__") 1190) (Value.int 472 1189), DictEntry.mk (PyData.keyHash P (PySem.Str.ofString "__init__")) (Value.str (PySem.Str.ofString "__init__") 1202) (Value.ref 756), DictEntry.mk (PyData.keyHash P (PySem.Str.ofString "__static_attributes__")) (Value.str (PySem.Str.ofString "__static_attributes__") 1205) (Value.ref 757), DictEntry.mk (PyData.keyHash P (PySem.Str.ofString "__doc__")) (Value.str (PySem.Str.ofString "__doc__") 1207) Value.none] 3) #[]
noncomputable def q759 (_ : Params) : Obj := Obj.mk (Value.type "type") Option.none (Data.cls (ClassData.mk (PySem.Str.ofString "ListDeserializationError") [Value.ref 737] [Value.ref 759, Value.ref 737, Value.ref 630, Value.type "Exception", Value.type "BaseException", Value.type "object"] 758 (PySem.Str.ofString "ListDeserializationError") Bool.true [] [] Bool.false Option.none Bool.false)) #[Option.some (Value.ref 740), Option.none, Option.some (Value.str (PySem.Str.ofString "ListDeserializationError") 1179), Option.some (Value.str (PySem.Str.ofString "ListDeserializationError") 1187), Option.some (Value.builtin "Exception.__new__"), Option.some (Value.bool Bool.true)]
noncomputable def q760 (_ : Params) : Obj := Obj.mk (Value.type "super") Option.none (Data.fields #[Value.ref 759, Value.ref 759, Value.ref 759]) #[]
noncomputable def q761 (_ : Params) : Obj := Obj.mk (Value.type "builtin_function_or_method") Option.none (Data.fields #[Value.builtin "object.__init_subclass__", Value.ref 759]) #[]
noncomputable def tq0 (P : Params) : BT := (((((Mine.Pre.tree_144 P).set 2 (hqAdd P)).set 115 (fun _ => q115 P)).set 127 (fun _ => q127 P)).set 3 (fun _ => q3 P)).set 40 (fun _ => q40 P)
noncomputable def tq1 (P : Params) : BT := ((((((((((((((((tq0 P).ins 130 (q130 P)).ins 131 (q131 P)).ins 132 (q132 P)).ins 133 (q133 P)).ins 134 (q134 P)).ins 135 (q135 P)).ins 136 (q136 P)).ins 137 (q137 P)).ins 138 (q138 P)).ins 139 (q139 P)).ins 140 (q140 P)).ins 141 (q141 P)).ins 142 (q142 P)).ins 143 (q143 P)).ins 144 (q144 P)).ins 145 (q145 P)
noncomputable def tq2 (P : Params) : BT := ((((((((((((((((tq1 P).ins 146 (q146 P)).ins 147 (q147 P)).ins 148 (q148 P)).ins 149 (q149 P)).ins 150 (q150 P)).ins 151 (q151 P)).ins 152 (q152 P)).ins 153 (q153 P)).ins 154 (q154 P)).ins 155 (q155 P)).ins 156 (q156 P)).ins 157 (q157 P)).ins 158 (q158 P)).ins 159 (q159 P)).ins 160 (q160 P)).ins 161 (q161 P)
noncomputable def tq3 (P : Params) : BT := ((((((((((((((((tq2 P).ins 162 (q162 P)).ins 163 (q163 P)).ins 164 (q164 P)).ins 165 (q165 P)).ins 166 (q166 P)).ins 167 (q167 P)).ins 168 (q168 P)).ins 169 (q169 P)).ins 170 (q170 P)).ins 171 (q171 P)).ins 172 (q172 P)).ins 173 (q173 P)).ins 174 (q174 P)).ins 175 (q175 P)).ins 176 (q176 P)).ins 177 (q177 P)
noncomputable def tq4 (P : Params) : BT := ((((((((((((((((tq3 P).ins 178 (q178 P)).ins 179 (q179 P)).ins 180 (q180 P)).ins 181 (q181 P)).ins 182 (q182 P)).ins 183 (q183 P)).ins 184 (q184 P)).ins 185 (q185 P)).ins 186 (q186 P)).ins 187 (q187 P)).ins 188 (q188 P)).ins 189 (q189 P)).ins 190 (q190 P)).ins 191 (q191 P)).ins 192 (q192 P)).ins 193 (q193 P)
noncomputable def tq5 (P : Params) : BT := ((((((((((((((((tq4 P).ins 194 (q194 P)).ins 195 (q195 P)).ins 196 (q196 P)).ins 197 (q197 P)).ins 198 (q198 P)).ins 199 (q199 P)).ins 200 (q200 P)).ins 201 (q201 P)).ins 202 (q202 P)).ins 203 (q203 P)).ins 204 (q204 P)).ins 205 (q205 P)).ins 206 (q206 P)).ins 207 (q207 P)).ins 208 (q208 P)).ins 209 (q209 P)
noncomputable def tq6 (P : Params) : BT := ((((((((((((((((tq5 P).ins 210 (q210 P)).ins 211 (q211 P)).ins 212 (q212 P)).ins 213 (q213 P)).ins 214 (q214 P)).ins 215 (q215 P)).ins 216 (q216 P)).ins 217 (q217 P)).ins 218 (q218 P)).ins 219 (q219 P)).ins 220 (q220 P)).ins 221 (q221 P)).ins 222 (q222 P)).ins 223 (q223 P)).ins 224 (q224 P)).ins 225 (q225 P)
noncomputable def tq7 (P : Params) : BT := ((((((((((((((((tq6 P).ins 226 (q226 P)).ins 227 (q227 P)).ins 228 (q228 P)).ins 229 (q229 P)).ins 230 (q230 P)).ins 231 (q231 P)).ins 232 (q232 P)).ins 233 (q233 P)).ins 234 (q234 P)).ins 235 (q235 P)).ins 236 (q236 P)).ins 237 (q237 P)).ins 238 (q238 P)).ins 239 (q239 P)).ins 240 (q240 P)).ins 241 (q241 P)
noncomputable def tq8 (P : Params) : BT := ((((((((((((((((tq7 P).ins 242 (q242 P)).ins 243 (q243 P)).ins 244 (q244 P)).ins 245 (q245 P)).ins 246 (q246 P)).ins 247 (q247 P)).ins 248 (q248 P)).ins 249 (q249 P)).ins 250 (q250 P)).ins 251 (q251 P)).ins 252 (q252 P)).ins 253 (q253 P)).ins 254 (q254 P)).ins 255 (q255 P)).ins 256 (q256 P)).ins 257 (q257 P)
noncomputable def tq9 (P : Params) : BT := ((((((((((((((((tq8 P).ins 258 (q258 P)).ins 259 (q259 P)).ins 260 (q260 P)).ins 261 (q261 P)).ins 262 (q262 P)).ins 263 (q263 P)).ins 264 (q264 P)).ins 265 (q265 P)).ins 266 (q266 P)).ins 267 (q267 P)).ins 268 (q268 P)).ins 269 (q269 P)).ins 270 (q270 P)).ins 271 (q271 P)).ins 272 (q272 P)).ins 273 (q273 P)
noncomputable def tq10 (P : Params) : BT := ((((((((((((((((tq9 P).ins 274 (q274 P)).ins 275 (q275 P)).ins 276 (q276 P)).ins 277 (q277 P)).ins 278 (q278 P)).ins 279 (q279 P)).ins 280 (q280 P)).ins 281 (q281 P)).ins 282 (q282 P)).ins 283 (q283 P)).ins 284 (q284 P)).ins 285 (q285 P)).ins 286 (q286 P)).ins 287 (q287 P)).ins 288 (q288 P)).ins 289 (q289 P)
noncomputable def tq11 (P : Params) : BT := ((((((((((((((((tq10 P).ins 290 (q290 P)).ins 291 (q291 P)).ins 292 (q292 P)).ins 293 (q293 P)).ins 294 (q294 P)).ins 295 (q295 P)).ins 296 (q296 P)).ins 297 (q297 P)).ins 298 (q298 P)).ins 299 (q299 P)).ins 300 (q300 P)).ins 301 (q301 P)).ins 302 (q302 P)).ins 303 (q303 P)).ins 304 (q304 P)).ins 305 (q305 P)
noncomputable def tq12 (P : Params) : BT := ((((((((((((((((tq11 P).ins 306 (q306 P)).ins 307 (q307 P)).ins 308 (q308 P)).ins 309 (q309 P)).ins 310 (q310 P)).ins 311 (q311 P)).ins 312 (q312 P)).ins 313 (q313 P)).ins 314 (q314 P)).ins 315 (q315 P)).ins 316 (q316 P)).ins 317 (q317 P)).ins 318 (q318 P)).ins 319 (q319 P)).ins 320 (q320 P)).ins 321 (q321 P)
noncomputable def tq13 (P : Params) : BT := ((((((((((((((((tq12 P).ins 322 (q322 P)).ins 323 (q323 P)).ins 324 (q324 P)).ins 325 (q325 P)).ins 326 (q326 P)).ins 327 (q327 P)).ins 328 (q328 P)).ins 329 (q329 P)).ins 330 (q330 P)).ins 331 (q331 P)).ins 332 (q332 P)).ins 333 (q333 P)).ins 334 (q334 P)).ins 335 (q335 P)).ins 336 (q336 P)).ins 337 (q337 P)
noncomputable def tq14 (P : Params) : BT := ((((((((((((((((tq13 P).ins 338 (q338 P)).ins 339 (q339 P)).ins 340 (q340 P)).ins 341 (q341 P)).ins 342 (q342 P)).ins 343 (q343 P)).ins 344 (q344 P)).ins 345 (q345 P)).ins 346 (q346 P)).ins 347 (q347 P)).ins 348 (q348 P)).ins 349 (q349 P)).ins 350 (q350 P)).ins 351 (q351 P)).ins 352 (q352 P)).ins 353 (q353 P)
noncomputable def tq15 (P : Params) : BT := ((((((((((((((((tq14 P).ins 354 (q354 P)).ins 355 (q355 P)).ins 356 (q356 P)).ins 357 (q357 P)).ins 358 (q358 P)).ins 359 (q359 P)).ins 360 (q360 P)).ins 361 (q361 P)).ins 362 (q362 P)).ins 363 (q363 P)).ins 364 (q364 P)).ins 365 (q365 P)).ins 366 (q366 P)).ins 367 (q367 P)).ins 368 (q368 P)).ins 369 (q369 P)
noncomputable def tq16 (P : Params) : BT := ((((((((((((((((tq15 P).ins 370 (q370 P)).ins 371 (q371 P)).ins 372 (q372 P)).ins 373 (q373 P)).ins 374 (q374 P)).ins 375 (q375 P)).ins 376 (q376 P)).ins 377 (q377 P)).ins 378 (q378 P)).ins 379 (q379 P)).ins 380 (q380 P)).ins 381 (q381 P)).ins 382 (q382 P)).ins 383 (q383 P)).ins 384 (q384 P)).ins 385 (q385 P)
noncomputable def tq17 (P : Params) : BT := ((((((((((((((((tq16 P).ins 386 (q386 P)).ins 387 (q387 P)).ins 388 (q388 P)).ins 389 (q389 P)).ins 390 (q390 P)).ins 391 (q391 P)).ins 392 (q392 P)).ins 393 (q393 P)).ins 394 (q394 P)).ins 395 (q395 P)).ins 396 (q396 P)).ins 397 (q397 P)).ins 398 (q398 P)).ins 399 (q399 P)).ins 400 (q400 P)).ins 401 (q401 P)
noncomputable def tq18 (P : Params) : BT := ((((((((((((((((tq17 P).ins 402 (q402 P)).ins 403 (q403 P)).ins 404 (q404 P)).ins 405 (q405 P)).ins 406 (q406 P)).ins 407 (q407 P)).ins 408 (q408 P)).ins 409 (q409 P)).ins 410 (q410 P)).ins 411 (q411 P)).ins 412 (q412 P)).ins 413 (q413 P)).ins 414 (q414 P)).ins 415 (q415 P)).ins 416 (q416 P)).ins 417 (q417 P)
noncomputable def tq19 (P : Params) : BT := ((((((((((((((((tq18 P).ins 418 (q418 P)).ins 419 (q419 P)).ins 420 (q420 P)).ins 421 (q421 P)).ins 422 (q422 P)).ins 423 (q423 P)).ins 424 (q424 P)).ins 425 (q425 P)).ins 426 (q426 P)).ins 427 (q427 P)).ins 428 (q428 P)).ins 429 (q429 P)).ins 430 (q430 P)).ins 431 (q431 P)).ins 432 (q432 P)).ins 433 (q433 P)
noncomputable def tq20 (P : Params) : BT := ((((((((((((((((tq19 P).ins 434 (q434 P)).ins 435 (q435 P)).ins 436 (q436 P)).ins 437 (q437 P)).ins 438 (q438 P)).ins 439 (q439 P)).ins 440 (q440 P)).ins 441 (q441 P)).ins 442 (q442 P)).ins 443 (q443 P)).ins 444 (q444 P)).ins 445 (q445 P)).ins 446 (q446 P)).ins 447 (q447 P)).ins 448 (q448 P)).ins 449 (q449 P)
noncomputable def tq21 (P : Params) : BT := ((((((((((((((((tq20 P).ins 450 (q450 P)).ins 451 (q451 P)).ins 452 (q452 P)).ins 453 (q453 P)).ins 454 (q454 P)).ins 455 (q455 P)).ins 456 (q456 P)).ins 457 (q457 P)).ins 458 (q458 P)).ins 459 (q459 P)).ins 460 (q460 P)).ins 461 (q461 P)).ins 462 (q462 P)).ins 463 (q463 P)).ins 464 (q464 P)).ins 465 (q465 P)
noncomputable def tq22 (P : Params) : BT := ((((((((((((((((tq21 P).ins 466 (q466 P)).ins 467 (q467 P)).ins 468 (q468 P)).ins 469 (q469 P)).ins 470 (q470 P)).ins 471 (q471 P)).ins 472 (q472 P)).ins 473 (q473 P)).ins 474 (q474 P)).ins 475 (q475 P)).ins 476 (q476 P)).ins 477 (q477 P)).ins 478 (q478 P)).ins 479 (q479 P)).ins 480 (q480 P)).ins 481 (q481 P)
noncomputable def tq23 (P : Params) : BT := ((((((((((((((((tq22 P).ins 482 (q482 P)).ins 483 (q483 P)).ins 484 (q484 P)).ins 485 (q485 P)).ins 486 (q486 P)).ins 487 (q487 P)).ins 488 (q488 P)).ins 489 (q489 P)).ins 490 (q490 P)).ins 491 (q491 P)).ins 492 (q492 P)).ins 493 (q493 P)).ins 494 (q494 P)).ins 495 (q495 P)).ins 496 (q496 P)).ins 497 (q497 P)
noncomputable def tq24 (P : Params) : BT := ((((((((((((((((tq23 P).ins 498 (q498 P)).ins 499 (q499 P)).ins 500 (q500 P)).ins 501 (q501 P)).ins 502 (q502 P)).ins 503 (q503 P)).ins 504 (q504 P)).ins 505 (q505 P)).ins 506 (q506 P)).ins 507 (q507 P)).ins 508 (q508 P)).ins 509 (q509 P)).ins 510 (q510 P)).ins 511 (q511 P)).ins 512 (q512 P)).ins 513 (q513 P)
noncomputable def tq25 (P : Params) : BT := ((((((((((((((((tq24 P).ins 514 (q514 P)).ins 515 (q515 P)).ins 516 (q516 P)).ins 517 (q517 P)).ins 518 (q518 P)).ins 519 (q519 P)).ins 520 (q520 P)).ins 521 (q521 P)).ins 522 (q522 P)).ins 523 (q523 P)).ins 524 (q524 P)).ins 525 (q525 P)).ins 526 (q526 P)).ins 527 (q527 P)).ins 528 (q528 P)).ins 529 (q529 P)
noncomputable def tq26 (P : Params) : BT := ((((((((((((((((tq25 P).ins 530 (q530 P)).ins 531 (q531 P)).ins 532 (q532 P)).ins 533 (q533 P)).ins 534 (q534 P)).ins 535 (q535 P)).ins 536 (q536 P)).ins 537 (q537 P)).ins 538 (q538 P)).ins 539 (q539 P)).ins 540 (q540 P)).ins 541 (q541 P)).ins 542 (q542 P)).ins 543 (q543 P)).ins 544 (q544 P)).ins 545 (q545 P)
noncomputable def tq27 (P : Params) : BT := ((((((((((((((((tq26 P).ins 546 (q546 P)).ins 547 (q547 P)).ins 548 (q548 P)).ins 549 (q549 P)).ins 550 (q550 P)).ins 551 (q551 P)).ins 552 (q552 P)).ins 553 (q553 P)).ins 554 (q554 P)).ins 555 (q555 P)).ins 556 (q556 P)).ins 557 (q557 P)).ins 558 (q558 P)).ins 559 (q559 P)).ins 560 (q560 P)).ins 561 (q561 P)
noncomputable def tq28 (P : Params) : BT := ((((((((((((((((tq27 P).ins 562 (q562 P)).ins 563 (q563 P)).ins 564 (q564 P)).ins 565 (q565 P)).ins 566 (q566 P)).ins 567 (q567 P)).ins 568 (q568 P)).ins 569 (q569 P)).ins 570 (q570 P)).ins 571 (q571 P)).ins 572 (q572 P)).ins 573 (q573 P)).ins 574 (q574 P)).ins 575 (q575 P)).ins 576 (q576 P)).ins 577 (q577 P)
noncomputable def tq29 (P : Params) : BT := ((((((((((((((((tq28 P).ins 578 (q578 P)).ins 579 (q579 P)).ins 580 (q580 P)).ins 581 (q581 P)).ins 582 (q582 P)).ins 583 (q583 P)).ins 584 (q584 P)).ins 585 (q585 P)).ins 586 (q586 P)).ins 587 (q587 P)).ins 588 (q588 P)).ins 589 (q589 P)).ins 590 (q590 P)).ins 591 (q591 P)).ins 592 (q592 P)).ins 593 (q593 P)
noncomputable def tq30 (P : Params) : BT := ((((((((((((((((tq29 P).ins 594 (q594 P)).ins 595 (q595 P)).ins 596 (q596 P)).ins 597 (q597 P)).ins 598 (q598 P)).ins 599 (q599 P)).ins 600 (q600 P)).ins 601 (q601 P)).ins 602 (q602 P)).ins 603 (q603 P)).ins 604 (q604 P)).ins 605 (q605 P)).ins 606 (q606 P)).ins 607 (q607 P)).ins 608 (q608 P)).ins 609 (q609 P)
noncomputable def tq31 (P : Params) : BT := ((((((((((((((((tq30 P).ins 610 (q610 P)).ins 611 (q611 P)).ins 612 (q612 P)).ins 613 (q613 P)).ins 614 (q614 P)).ins 615 (q615 P)).ins 616 (q616 P)).ins 617 (q617 P)).ins 618 (q618 P)).ins 619 (q619 P)).ins 620 (q620 P)).ins 621 (q621 P)).ins 622 (q622 P)).ins 623 (q623 P)).ins 624 (q624 P)).ins 625 (q625 P)
noncomputable def tq32 (P : Params) : BT := ((((((((((((((((tq31 P).ins 626 (q626 P)).ins 627 (q627 P)).ins 628 (q628 P)).ins 629 (q629 P)).ins 630 (q630 P)).ins 631 (q631 P)).ins 632 (q632 P)).ins 633 (q633 P)).ins 634 (q634 P)).ins 635 (q635 P)).ins 636 (q636 P)).ins 637 (q637 P)).ins 638 (q638 P)).ins 639 (q639 P)).ins 640 (q640 P)).ins 641 (q641 P)
noncomputable def tq33 (P : Params) : BT := ((((((((((((((((tq32 P).ins 642 (q642 P)).ins 643 (q643 P)).ins 644 (q644 P)).ins 645 (q645 P)).ins 646 (q646 P)).ins 647 (q647 P)).ins 648 (q648 P)).ins 649 (q649 P)).ins 650 (q650 P)).ins 651 (q651 P)).ins 652 (q652 P)).ins 653 (q653 P)).ins 654 (q654 P)).ins 655 (q655 P)).ins 656 (q656 P)).ins 657 (q657 P)
noncomputable def tq34 (P : Params) : BT := ((((((((((((((((tq33 P).ins 658 (q658 P)).ins 659 (q659 P)).ins 660 (q660 P)).ins 661 (q661 P)).ins 662 (q662 P)).ins 663 (q663 P)).ins 664 (q664 P)).ins 665 (q665 P)).ins 666 (q666 P)).ins 667 (q667 P)).ins 668 (q668 P)).ins 669 (q669 P)).ins 670 (q670 P)).ins 671 (q671 P)).ins 672 (q672 P)).ins 673 (q673 P)
noncomputable def tq35 (P : Params) : BT := ((((((((((((((((tq34 P).ins 674 (q674 P)).ins 675 (q675 P)).ins 676 (q676 P)).ins 677 (q677 P)).ins 678 (q678 P)).ins 679 (q679 P)).ins 680 (q680 P)).ins 681 (q681 P)).ins 682 (q682 P)).ins 683 (q683 P)).ins 684 (q684 P)).ins 685 (q685 P)).ins 686 (q686 P)).ins 687 (q687 P)).ins 688 (q688 P)).ins 689 (q689 P)
noncomputable def tq36 (P : Params) : BT := ((((((((((((((((tq35 P).ins 690 (q690 P)).ins 691 (q691 P)).ins 692 (q692 P)).ins 693 (q693 P)).ins 694 (q694 P)).ins 695 (q695 P)).ins 696 (q696 P)).ins 697 (q697 P)).ins 698 (q698 P)).ins 699 (q699 P)).ins 700 (q700 P)).ins 701 (q701 P)).ins 702 (q702 P)).ins 703 (q703 P)).ins 704 (q704 P)).ins 705 (q705 P)
noncomputable def tq37 (P : Params) : BT := ((((((((((((((((tq36 P).ins 706 (q706 P)).ins 707 (q707 P)).ins 708 (q708 P)).ins 709 (q709 P)).ins 710 (q710 P)).ins 711 (q711 P)).ins 712 (q712 P)).ins 713 (q713 P)).ins 714 (q714 P)).ins 715 (q715 P)).ins 716 (q716 P)).ins 717 (q717 P)).ins 718 (q718 P)).ins 719 (q719 P)).ins 720 (q720 P)).ins 721 (q721 P)
noncomputable def tq38 (P : Params) : BT := ((((((((((((((((tq37 P).ins 722 (q722 P)).ins 723 (q723 P)).ins 724 (q724 P)).ins 725 (q725 P)).ins 726 (q726 P)).ins 727 (q727 P)).ins 728 (q728 P)).ins 729 (q729 P)).ins 730 (q730 P)).ins 731 (q731 P)).ins 732 (q732 P)).ins 733 (q733 P)).ins 734 (q734 P)).ins 735 (q735 P)).ins 736 (q736 P)).ins 737 (q737 P)
noncomputable def tq39 (P : Params) : BT := ((((((((((((((((tq38 P).ins 738 (q738 P)).ins 739 (q739 P)).ins 740 (q740 P)).ins 741 (q741 P)).ins 742 (q742 P)).ins 743 (q743 P)).ins 744 (q744 P)).ins 745 (q745 P)).ins 746 (q746 P)).ins 747 (q747 P)).ins 748 (q748 P)).ins 749 (q749 P)).ins 750 (q750 P)).ins 751 (q751 P)).ins 752 (q752 P)).ins 753 (q753 P)
noncomputable def tq40 (P : Params) : BT := ((((((((tq39 P).ins 754 (q754 P)).ins 755 (q755 P)).ins 756 (q756 P)).ins 757 (q757 P)).ins 758 (q758 P)).ins 759 (q759 P)).ins 760 (q760 P)).ins 761 (q761 P)
noncomputable def tree24 (P : Params) : BT := tq40 P
abbrev q0 : Pos := { line := 0, col := 0, endLine := 0, endCol := 0 }
abbrev posX : Pos := { line := 43, col := 0, endLine := 44, endCol := 21 }
abbrev posK : Pos := { line := 482, col := 0, endLine := 482, endCol := 8 }
noncomputable abbrev cB : Code := Code.body (behindTheImports PP) Mine.Pre.env_1
noncomputable def pre10 (w : World) (os : OsState) : SharedT := { tree := Mine.Pre.tree_144 w.params, n := 130, life := { }, gens := #[], drawn := { }, toks := 444, os := os }
noncomputable def pre24 (w : World) (os : OsState) : SharedT := { tree := tree24 w.params, n := 762, life := { }, gens := #[], drawn := { }, toks := 1212, os := os }
noncomputable def exSt : List Stmt := ((behindTheImports PP).drop 10).take 14
noncomputable def exTh : Thread := ⟨(execs exSt Mine.Pre.env_1).wrap doneF deadEnd id id, cB, posX, [topFrame q0]⟩
theorem warm0 : ((fun (_ : World → OsState → SharedT) (_ : Thread) (_ : World → OsState → SharedT) => true) pre10 exTh pre24) = true := by k_qdec
end Mine
end

section
open PySem PySem.W PyProof.Rows PySem.Calls
set_option maxRecDepth 100000
set_option maxHeartbeats 8000000
namespace Mine
abbrev posM : Pos := { line := 483, col := 0, endLine := 483, endCol := 9 }
abbrev posE : Pos := { line := 755, col := 0, endLine := 801, endCol := 31 }
noncomputable def midSt : List Stmt := ((behindTheImports PP).drop 24).take 1
noncomputable def sufSt : List Stmt := (behindTheImports PP).drop 25
noncomputable def midTh : Thread := ⟨(execs midSt Mine.Pre.env_1).wrap doneF deadEnd id id, cB, posK, [topFrame q0]⟩
noncomputable def ff (b1 b2 : Bool) (w : World) : World := (w.withFollow "comprehension-iter-twice" b1).withFollow "special-get-raises" b2
noncomputable def X1 (w : World) (os : OsState) : Option (SharedT × Thread) := segGoT treeTable PP (ff false false w) 39 (some (.ref 6)) 1 153 (pre24 w os) midTh
noncomputable def T1 (w : World) (os : OsState) : Thread := match X1 w os with | some (_, t) => t | none => midTh
noncomputable def G1 (w : World) (os : OsState) : Array GenState := match X1 w os with | some (s, _) => s.gens | none => #[]
def bytesAt (j : Nat) : List Value := (List.range j).map fun i => .bytes #[i.toUInt8] (1226 + 4 * i)
def o40 : Obj := Obj.mk Value.none none (Data.fields #[Value.int 2 0, Value.int 0 0, Value.ref 48, Value.int 6 0, Value.int 0 0, Value.ref 55, Value.int 20 0, Value.int 0 0, Value.ref 62, Value.int 25 0, Value.int 0 0, Value.ref 69, Value.int 32 0, Value.int 0 0, Value.ref 76, Value.int 34 0, Value.int 0 0, Value.ref 89, Value.int 41 0, Value.int 0 0, Value.ref 111, Value.int 43 0, Value.int 0 0, Value.ref 123, Value.int 45 0, Value.int 0 0, Value.ref 135, Value.int 215 0, Value.int 0 0, Value.ref 365, Value.int 421 0, Value.int 0 0, Value.ref 612, Value.int 427 0, Value.int 0 0, Value.ref 619, Value.int 440 0, Value.int 0 0, Value.ref 626, Value.int 442 0, Value.int 0 0, Value.ref 640, Value.int 447 0, Value.int 0 0, Value.ref 661, Value.int 452 0, Value.int 0 0, Value.ref 682, Value.int 457 0, Value.int 0 0, Value.ref 703, Value.int 467 0, Value.int 0 0, Value.ref 725, Value.int 472 0, Value.int 0 0, Value.ref 746, Value.int 483 0, Value.int 18 0, Value.ref 766] ) #[]
noncomputable def tree1 (P : Params) (j : Nat) : BT :=
  (((((((((tree24 P).set 40 (fun _ => o40)).ins 762 { cls := Value.type "range", data := Data.fields #[Value.int 0 1213, Value.int 256 1212, Value.int 1 1214] }).ins 763
    { cls := Value.type "range_iterator", data := Data.fields #[Value.int (j : Nat) 0, Value.int ((256 - j : Nat) : Nat) 0, Value.int 1 0] }).ins 764
    { cls := Value.type "tuple", data := Data.seq #[] }).ins 765
    { cls := Value.none, data := Data.fields #[] }).ins 766
    { cls := Value.type "code", data := Data.fields #[Value.str (Str.ofString "<genexpr>") 1215, Value.str (Str.ofString "<genexpr>") 1216,
        Value.str (Str.ofString "/claim/cut.py") 1217, Value.int 483 0, Value.int 1 0, Value.int 0 0, Value.int 0 0,
        Value.int 35 0, Value.ref 764, Value.bool true, Value.int 313 0, Value.ref 765, Value.none, Value.none,
        Value.none, Value.none, Value.int 1218 0, Value.int 483 0, Value.str (Str.ofString "/claim/cut.py") 1219] }).ins 767
    { cls := Value.type "frame", data := Data.dict #[{ hash := PyData.keyHash P (Str.ofString ".0"), key := Value.str (Str.ofString ".0") 1220, val := Value.ref 763 },
        { hash := PyData.keyHash P (Str.ofString "i"), key := Value.str (Str.ofString "i") 1224, val := Value.int ((j - 1 : Nat) : Nat) (1219 + 4 * j) }] 2 }).ins 768
    { cls := Value.type "generator", data := Data.fields #[Value.int 0 0, Value.str (Str.ofString "<genexpr>") 1221, Value.str (Str.ofString "<genexpr>") 1222] }).ins 769
    { cls := Value.type "list", data := Data.seq (bytesAt j).toArray (j + 2) }
noncomputable def St (j : Nat) (w : World) (os : OsState) : SharedT := { tree := tree1 w.params j, n := 770, life := { }, gens := G1 w os, drawn := { }, toks := 1223 + 4 * j, os := os }
noncomputable def tree2 (P : Params) : BT :=
  ((((((tree1 P 256).ins 770 { cls := Value.type "tuple", data := Data.seq #[] }).ins 771
    { cls := Value.type "StopIteration", data := Data.fields #[Value.ref 770, Value.none, Value.none, Value.none, Value.bool false, Value.none] }).ins 772
    { cls := Value.type "tuple", data := Data.seq #[] }).ins 773
    { cls := Value.type "StopIteration", data := Data.fields #[Value.ref 772, Value.none, Value.none, Value.none, Value.bool false, Value.none] }).ins 774
    { cls := Value.type "tuple", data := Data.seq (bytesAt 256).toArray }).set 3 (fun o => ⟨o.cls, o.dict, match o.data with
      | .dict es n => .dict (es.push { hash := PyData.keyHash P (Str.ofString "ALL_BYTES"), key := Value.str (Str.ofString "ALL_BYTES") 2247, val := Value.ref 774 }) (n + 1)
      | d => d, o.slots⟩)
noncomputable def pre25 (w : World) (os : OsState) : SharedT := { tree := tree2 w.params, n := 775, life := { }, gens := #[.finished], drawn := { }, toks := 2248, os := os }
noncomputable def sufTh : Thread := ⟨(execs sufSt Mine.Pre.env_1).wrap doneF deadEnd id id, cB, posM, [topFrame q0]⟩
theorem warm : ((fun (_ : World → OsState → SharedT) (_ : Thread) (_ : World → OsState → Thread) (_ : Nat → World → OsState → SharedT) (_ : World → OsState → SharedT) (_ : Thread) => true) pre24 midTh T1 St pre25 sufTh) = true := by k_qdec
end Mine
end

section
open PySem PySem.W PyProof.Rows PySem.Calls
set_option maxRecDepth 100000
set_option maxHeartbeats 8000000
namespace Mine
theorem mid0_false_false (w : World) (os : OsState) : segGoT treeTable PySem.Challenge.pw_vn0014_01 (ff false false w) 39 (some (.ref 6)) 1 153 (pre24 (ff false false w) os) midTh = some (St 1 (ff false false w) os, T1 (ff false false w) os) := by
  rw [PySem.W.Fast.te10295753902157049106, PySem.W.Fast.te14364793385576792824, PySem.W.Fast.te8076486315364915696, PySem.W.Fast.te9613235578950274087, PySem.W.Fast.te6374507947666645600, PySem.W.Fast.te17542292619506720367, PySem.W.Fast.te11530697753030833354]
  kernel_rfl
theorem mid0_false_true (w : World) (os : OsState) : segGoT treeTable PySem.Challenge.pw_vn0014_01 (ff false true w) 39 (some (.ref 6)) 1 153 (pre24 (ff false true w) os) midTh = some (St 1 (ff false true w) os, T1 (ff false true w) os) := by
  rw [PySem.W.Fast.te10295753902157049106, PySem.W.Fast.te14364793385576792824, PySem.W.Fast.te8076486315364915696, PySem.W.Fast.te9613235578950274087, PySem.W.Fast.te6374507947666645600, PySem.W.Fast.te17542292619506720367, PySem.W.Fast.te11530697753030833354]
  kernel_rfl
theorem mid0_true_false (w : World) (os : OsState) : segGoT treeTable PySem.Challenge.pw_vn0014_01 (ff true false w) 39 (some (.ref 6)) 1 143 (pre24 (ff true false w) os) midTh = some (St 1 (ff true false w) os, T1 (ff true false w) os) := by
  rw [PySem.W.Fast.te10295753902157049106, PySem.W.Fast.te14364793385576792824, PySem.W.Fast.te8076486315364915696, PySem.W.Fast.te9613235578950274087, PySem.W.Fast.te6374507947666645600, PySem.W.Fast.te17542292619506720367, PySem.W.Fast.te11530697753030833354]
  kernel_rfl
theorem mid0_true_true (w : World) (os : OsState) : segGoT treeTable PySem.Challenge.pw_vn0014_01 (ff true true w) 39 (some (.ref 6)) 1 143 (pre24 (ff true true w) os) midTh = some (St 1 (ff true true w) os, T1 (ff true true w) os) := by
  rw [PySem.W.Fast.te10295753902157049106, PySem.W.Fast.te14364793385576792824, PySem.W.Fast.te8076486315364915696, PySem.W.Fast.te9613235578950274087, PySem.W.Fast.te6374507947666645600, PySem.W.Fast.te17542292619506720367, PySem.W.Fast.te11530697753030833354]
  kernel_rfl
end Mine
end

section
open PySem PySem.W PyProof.Rows PySem.Calls
set_option maxRecDepth 100000
set_option maxHeartbeats 8000000
namespace Mine
theorem exT (w : World) (os : OsState) : segRunT treeTable PySem.Challenge.pw_vn0014_01 w 39 (some (.ref 6)) 1 7000 (pre10 w os) exTh = some (.next, pre24 w os, cB, posK) := by
  rw [PySem.W.Fast.te10110043849684766642, PySem.W.Fast.te14364793385576792824, PySem.W.Fast.te8076486315364915696, PySem.W.Fast.te17810743255605349289, PySem.W.Fast.te14397495957622319193, PySem.W.Fast.te9613235578950274087]
  kernel_rfl
end Mine
end

section
open PySem PySem.W PyProof.Rows PySem.Calls
set_option maxRecDepth 100000
set_option maxHeartbeats 8000000
namespace Mine
theorem chunk_1 (w : World) (os : OsState) : segGoT treeTable PySem.Challenge.pw_vn0014_01 w 39 (some (.ref 6)) 1 2499 (St 1 w os) (T1 w os) = some (St 52 w os, T1 w os) := by
  rw [PySem.W.Fast.te10295753902157049106, PySem.W.Fast.te14364793385576792824, PySem.W.Fast.te8076486315364915696, PySem.W.Fast.te17542292619506720367, PySem.W.Fast.te11530697753030833354]
  kernel_rfl
theorem chunk_52 (w : World) (os : OsState) : segGoT treeTable PySem.Challenge.pw_vn0014_01 w 39 (some (.ref 6)) 1 2499 (St 52 w os) (T1 w os) = some (St 103 w os, T1 w os) := by
  rw [PySem.W.Fast.te10295753902157049106, PySem.W.Fast.te14364793385576792824, PySem.W.Fast.te8076486315364915696, PySem.W.Fast.te17542292619506720367, PySem.W.Fast.te11530697753030833354]
  kernel_rfl
theorem chunk_103 (w : World) (os : OsState) : segGoT treeTable PySem.Challenge.pw_vn0014_01 w 39 (some (.ref 6)) 1 2499 (St 103 w os) (T1 w os) = some (St 154 w os, T1 w os) := by
  rw [PySem.W.Fast.te10295753902157049106, PySem.W.Fast.te14364793385576792824, PySem.W.Fast.te8076486315364915696, PySem.W.Fast.te17542292619506720367, PySem.W.Fast.te11530697753030833354]
  kernel_rfl
theorem chunk_154 (w : World) (os : OsState) : segGoT treeTable PySem.Challenge.pw_vn0014_01 w 39 (some (.ref 6)) 1 2499 (St 154 w os) (T1 w os) = some (St 205 w os, T1 w os) := by
  rw [PySem.W.Fast.te10295753902157049106, PySem.W.Fast.te14364793385576792824, PySem.W.Fast.te8076486315364915696, PySem.W.Fast.te17542292619506720367, PySem.W.Fast.te11530697753030833354]
  kernel_rfl
theorem chunk_205 (w : World) (os : OsState) : segGoT treeTable PySem.Challenge.pw_vn0014_01 w 39 (some (.ref 6)) 1 2499 (St 205 w os) (T1 w os) = some (St 256 w os, T1 w os) := by
  rw [PySem.W.Fast.te10295753902157049106, PySem.W.Fast.te14364793385576792824, PySem.W.Fast.te8076486315364915696, PySem.W.Fast.te17542292619506720367, PySem.W.Fast.te11530697753030833354]
  kernel_rfl
theorem midEnd (w : World) (os : OsState) : segRunT treeTable PySem.Challenge.pw_vn0014_01 w 39 (some (.ref 6)) 1 52 (St 256 w os) (T1 w os) = some (.next, pre25 w os, cB, posM) := by
  rw [PySem.W.Fast.te10110043849684766642, PySem.W.Fast.te14364793385576792824, PySem.W.Fast.te8076486315364915696, PySem.W.Fast.te17542292619506720367, PySem.W.Fast.te11530697753030833354, PySem.W.Fast.te6054564331659853566]
  kernel_rfl
end Mine
end

section
open PySem PySem.W PyProof.Rows PySem.Calls
set_option maxRecDepth 100000
set_option maxHeartbeats 8000000
namespace Mine
noncomputable def r3 (P : Params) : Obj := Obj.mk (Value.type "dict") Option.none (Data.dict #[DictEntry.mk (PyData.keyHash P (PySem.Str.ofString "__name__")) (Value.str (PySem.Str.ofString "__name__") 165) (Value.str (PySem.Str.ofString "law_vn0014_01") 2675), DictEntry.mk (PyData.keyHash P (PySem.Str.ofString "__doc__")) (Value.str (PySem.Str.ofString "__doc__") 166) Value.none, DictEntry.mk (PyData.keyHash P (PySem.Str.ofString "__package__")) (Value.str (PySem.Str.ofString "__package__") 167) Value.none, DictEntry.mk (PyData.keyHash P (PySem.Str.ofString "__loader__")) (Value.str (PySem.Str.ofString "__loader__") 168) (Value.builtin "__main__.__loader__#opaque"), DictEntry.mk (PyData.keyHash P (PySem.Str.ofString "__spec__")) (Value.str (PySem.Str.ofString "__spec__") 169) Value.none, DictEntry.mk (PyData.keyHash P (PySem.Str.ofString "__annotations__")) (Value.str (PySem.Str.ofString "__annotations__") 170) (Value.ref 6), DictEntry.mk (PyData.keyHash P (PySem.Str.ofString "__builtins__")) (Value.str (PySem.Str.ofString "__builtins__") 171) (Value.ref 4), DictEntry.mk (PyData.keyHash P (PySem.Str.ofString "__file__")) (Value.str (PySem.Str.ofString "__file__") 173) (Value.str (PySem.Str.ofString "/claim/cut.py") 172), DictEntry.mk (PyData.keyHash P (PySem.Str.ofString "__cached__")) (Value.str (PySem.Str.ofString "__cached__") 174) Value.none, DictEntry.mk (PyData.keyHash P (PySem.Str.ofString "pack")) (Value.str (PySem.Str.ofString "pack") 312) (Value.builtin "_struct.pack"), DictEntry.mk (PyData.keyHash P (PySem.Str.ofString "_wall")) (Value.str (PySem.Str.ofString "_wall") 325) (Value.ref 49), DictEntry.mk (PyData.keyHash P (PySem.Str.ofString "to_bytes")) (Value.str (PySem.Str.ofString "to_bytes") 335) (Value.ref 56), DictEntry.mk (PyData.keyHash P (PySem.Str.ofString "_whence")) (Value.str (PySem.Str.ofString "_whence") 345) (Value.ref 63), DictEntry.mk (PyData.keyHash P (PySem.Str.ofString "_index")) (Value.str (PySem.Str.ofString "_index") 353) (Value.ref 70), DictEntry.mk (PyData.keyHash P (PySem.Str.ofString "UnsupportedOperation")) (Value.str (PySem.Str.ofString "UnsupportedOperation") 375) (Value.ref 80), DictEntry.mk (PyData.keyHash P (PySem.Str.ofString "IOBase")) (Value.str (PySem.Str.ofString "IOBase") 407) (Value.ref 100), DictEntry.mk (PyData.keyHash P (PySem.Str.ofString "BufferedIOBase")) (Value.str (PySem.Str.ofString "BufferedIOBase") 425) (Value.ref 115), DictEntry.mk (PyData.keyHash P (PySem.Str.ofString "TextIOBase")) (Value.str (PySem.Str.ofString "TextIOBase") 443) (Value.ref 127), DictEntry.mk (PyData.keyHash P (PySem.Str.ofString "BytesIO")) (Value.str (PySem.Str.ofString "BytesIO") 705) (Value.ref 357), DictEntry.mk (PyData.keyHash P (PySem.Str.ofString "StringIO")) (Value.str (PySem.Str.ofString "StringIO") 992) (Value.ref 604), DictEntry.mk (PyData.keyHash P (PySem.Str.ofString "from_bytes")) (Value.str (PySem.Str.ofString "from_bytes") 1003) (Value.ref 613), DictEntry.mk (PyData.keyHash P (PySem.Str.ofString "read_from")) (Value.str (PySem.Str.ofString "read_from") 1013) (Value.ref 620), DictEntry.mk (PyData.keyHash P (PySem.Str.ofString "RLPException")) (Value.str (PySem.Str.ofString "RLPException") 1035) (Value.ref 630), DictEntry.mk (PyData.keyHash P (PySem.Str.ofString "EncodingError")) (Value.str (PySem.Str.ofString "EncodingError") 1063) (Value.ref 652), DictEntry.mk (PyData.keyHash P (PySem.Str.ofString "DecodingError")) (Value.str (PySem.Str.ofString "DecodingError") 1091) (Value.ref 673), DictEntry.mk (PyData.keyHash P (PySem.Str.ofString "SerializationError")) (Value.str (PySem.Str.ofString "SerializationError") 1119) (Value.ref 694), DictEntry.mk (PyData.keyHash P (PySem.Str.ofString "ListSerializationError")) (Value.str (PySem.Str.ofString "ListSerializationError") 1150) (Value.ref 716), DictEntry.mk (PyData.keyHash P (PySem.Str.ofString "DeserializationError")) (Value.str (PySem.Str.ofString "DeserializationError") 1178) (Value.ref 737), DictEntry.mk (PyData.keyHash P (PySem.Str.ofString "ListDeserializationError")) (Value.str (PySem.Str.ofString "ListDeserializationError") 1209) (Value.ref 759), DictEntry.mk (PyData.keyHash P (PySem.Str.ofString "ALL_BYTES")) (Value.str (PySem.Str.ofString "ALL_BYTES") 2247) (Value.ref 774), DictEntry.mk (PyData.keyHash P (PySem.Str.ofString "Atomic")) (Value.str (PySem.Str.ofString "Atomic") 2248) (Value.ref 775), DictEntry.mk (PyData.keyHash P (PySem.Str.ofString "Sequence")) (Value.str (PySem.Str.ofString "Sequence") 2249) (Value.ref 776), DictEntry.mk (PyData.keyHash P (PySem.Str.ofString "is_bytes")) (Value.str (PySem.Str.ofString "is_bytes") 2256) (Value.ref 783), DictEntry.mk (PyData.keyHash P (PySem.Str.ofString "big_endian_to_int")) (Value.str (PySem.Str.ofString "big_endian_to_int") 2263) (Value.ref 790), DictEntry.mk (PyData.keyHash P (PySem.Str.ofString "int_to_big_endian")) (Value.str (PySem.Str.ofString "int_to_big_endian") 2270) (Value.ref 797), DictEntry.mk (PyData.keyHash P (PySem.Str.ofString "BigEndianInt")) (Value.str (PySem.Str.ofString "BigEndianInt") 2318) (Value.ref 829), DictEntry.mk (PyData.keyHash P (PySem.Str.ofString "big_endian_int")) (Value.str (PySem.Str.ofString "big_endian_int") 2323) (Value.ref 835), DictEntry.mk (PyData.keyHash P (PySem.Str.ofString "Binary")) (Value.str (PySem.Str.ofString "Binary") 2423) (Value.ref 896), DictEntry.mk (PyData.keyHash P (PySem.Str.ofString "binary")) (Value.str (PySem.Str.ofString "binary") 2437) (Value.ref 902), DictEntry.mk (PyData.keyHash P (PySem.Str.ofString "Boolean")) (Value.str (PySem.Str.ofString "Boolean") 2475) (Value.ref 927), DictEntry.mk (PyData.keyHash P (PySem.Str.ofString "boolean")) (Value.str (PySem.Str.ofString "boolean") 2476) (Value.ref 933), DictEntry.mk (PyData.keyHash P (PySem.Str.ofString "is_sedes")) (Value.str (PySem.Str.ofString "is_sedes") 2485) (Value.ref 940), DictEntry.mk (PyData.keyHash P (PySem.Str.ofString "is_sequence")) (Value.str (PySem.Str.ofString "is_sequence") 2492) (Value.ref 947), DictEntry.mk (PyData.keyHash P (PySem.Str.ofString "List")) (Value.str (PySem.Str.ofString "List") 2551) (Value.ref 981), DictEntry.mk (PyData.keyHash P (PySem.Str.ofString "encode_raw")) (Value.str (PySem.Str.ofString "encode_raw") 2564) (Value.ref 992), DictEntry.mk (PyData.keyHash P (PySem.Str.ofString "decode_raw")) (Value.str (PySem.Str.ofString "decode_raw") 2577) (Value.ref 999), DictEntry.mk (PyData.keyHash P (PySem.Str.ofString "encode")) (Value.str (PySem.Str.ofString "encode") 2589) (Value.ref 1007), DictEntry.mk (PyData.keyHash P (PySem.Str.ofString "LONG_LENGTH")) (Value.str (PySem.Str.ofString "LONG_LENGTH") 2593) (Value.int 18446744073709551616 2592), DictEntry.mk (PyData.keyHash P (PySem.Str.ofString "length_prefix")) (Value.str (PySem.Str.ofString "length_prefix") 2602) (Value.ref 1014), DictEntry.mk (PyData.keyHash P (PySem.Str.ofString "SHORT_STRING")) (Value.str (PySem.Str.ofString "SHORT_STRING") 2606) (Value.int 184 2605), DictEntry.mk (PyData.keyHash P (PySem.Str.ofString "consume_length_prefix")) (Value.str (PySem.Str.ofString "consume_length_prefix") 2618) (Value.ref 1021), DictEntry.mk (PyData.keyHash P (PySem.Str.ofString "consume_payload")) (Value.str (PySem.Str.ofString "consume_payload") 2640) (Value.ref 1028), DictEntry.mk (PyData.keyHash P (PySem.Str.ofString "consume_item")) (Value.str (PySem.Str.ofString "consume_item") 2652) (Value.ref 1035), DictEntry.mk (PyData.keyHash P (PySem.Str.ofString "decode")) (Value.str (PySem.Str.ofString "decode") 2666) (Value.ref 1043), DictEntry.mk (PyData.keyHash P (PySem.Str.ofString "infer_sedes")) (Value.str (PySem.Str.ofString "infer_sedes") 2674) (Value.ref 1050), DictEntry.mk (PyData.keyHash P (PySem.Str.ofString "_law_numbers")) (Value.str (PySem.Str.ofString "_law_numbers") 2682) (Value.ref 1055), DictEntry.mk (PyData.keyHash P (PySem.Str.ofString "_law_number")) (Value.str (PySem.Str.ofString "_law_number") 2690) (Value.ref 1062), DictEntry.mk (PyData.keyHash P (PySem.Str.ofString "_law_long")) (Value.str (PySem.Str.ofString "_law_long") 2697) (Value.ref 1069), DictEntry.mk (PyData.keyHash P (PySem.Str.ofString "law")) (Value.str (PySem.Str.ofString "law") 2703) (Value.ref 1074)] 59) #[]
noncomputable def r40 (_ : Params) : Obj := Obj.mk Value.none Option.none (Data.fields #[Value.int 2 0, Value.int 0 0, Value.ref 48, Value.int 6 0, Value.int 0 0, Value.ref 55, Value.int 20 0, Value.int 0 0, Value.ref 62, Value.int 25 0, Value.int 0 0, Value.ref 69, Value.int 32 0, Value.int 0 0, Value.ref 76, Value.int 34 0, Value.int 0 0, Value.ref 89, Value.int 41 0, Value.int 0 0, Value.ref 111, Value.int 43 0, Value.int 0 0, Value.ref 123, Value.int 45 0, Value.int 0 0, Value.ref 135, Value.int 215 0, Value.int 0 0, Value.ref 365, Value.int 421 0, Value.int 0 0, Value.ref 612, Value.int 427 0, Value.int 0 0, Value.ref 619, Value.int 440 0, Value.int 0 0, Value.ref 626, Value.int 442 0, Value.int 0 0, Value.ref 640, Value.int 447 0, Value.int 0 0, Value.ref 661, Value.int 452 0, Value.int 0 0, Value.ref 682, Value.int 457 0, Value.int 0 0, Value.ref 703, Value.int 467 0, Value.int 0 0, Value.ref 725, Value.int 472 0, Value.int 0 0, Value.ref 746, Value.int 483 0, Value.int 18 0, Value.ref 766, Value.int 486 0, Value.int 0 0, Value.ref 782, Value.int 488 0, Value.int 0 0, Value.ref 789, Value.int 490 0, Value.int 0 0, Value.ref 796, Value.int 493 0, Value.int 0 0, Value.ref 803, Value.int 523 0, Value.int 0 0, Value.ref 842, Value.int 560 0, Value.int 0 0, Value.ref 909, Value.int 581 0, Value.int 0 0, Value.ref 939, Value.int 583 0, Value.int 0 0, Value.ref 946, Value.int 585 0, Value.int 0 0, Value.ref 954, Value.int 625 0, Value.int 0 0, Value.ref 991, Value.int 642 0, Value.int 0 0, Value.ref 998, Value.int 651 0, Value.int 0 0, Value.ref 1006, Value.int 661 0, Value.int 0 0, Value.ref 1013, Value.int 670 0, Value.int 0 0, Value.ref 1020, Value.int 698 0, Value.int 0 0, Value.ref 1027, Value.int 720 0, Value.int 0 0, Value.ref 1034, Value.int 723 0, Value.int 0 0, Value.ref 1042, Value.int 732 0, Value.int 0 0, Value.ref 1049, Value.int 746 0, Value.int 0 0, Value.ref 1054, Value.int 748 0, Value.int 0 0, Value.ref 1061, Value.int 753 0, Value.int 0 0, Value.ref 1068, Value.int 755 0, Value.int 0 0, Value.ref 1073]) #[]
noncomputable def r775 (_ : Params) : Obj := Obj.mk (Value.type "tuple") Option.none (Data.seq #[Value.type "bytes", Value.type "bytearray"]) #[]
noncomputable def r776 (_ : Params) : Obj := Obj.mk (Value.type "tuple") Option.none (Data.seq #[Value.type "list", Value.type "tuple"]) #[]
noncomputable def r777 (_ : Params) : Obj := Obj.mk (Value.type "tuple") Option.none (Data.seq #[]) #[]
noncomputable def r778 (_ : Params) : Obj := Obj.mk Value.none Option.none (Data.fields #[]) #[]
noncomputable def r779 (_ : Params) : Obj := Obj.mk (Value.type "tuple") Option.none (Data.seq #[Value.str (PySem.Str.ofString "value") 2253]) #[]
noncomputable def r780 (_ : Params) : Obj := Obj.mk (Value.type "tuple") Option.none (Data.seq #[]) #[]
noncomputable def r781 (_ : Params) : Obj := Obj.mk Value.none Option.none (Data.func (FuncData.mk (PySem.Str.ofString "is_bytes") (PySem.Str.ofString "is_bytes") (hqP (hqSt 27)) (FuncBody.stmts (hqB (hqSt 27))) (hqS (hqSt 27)) 0 [] Value.none Value.none Value.none Value.none Option.none Value.none Value.none 0)) #[]
noncomputable def r782 (_ : Params) : Obj := Obj.mk (Value.type "code") Option.none (Data.fields #[Value.str (PySem.Str.ofString "is_bytes") 2250, Value.str (PySem.Str.ofString "is_bytes") 2251, Value.str (PySem.Str.ofString "/claim/cut.py") 2252, Value.int 486 0, Value.int 1 0, Value.int 0 0, Value.int 0 0, Value.int 3 0, Value.ref 777, Value.bool Bool.true, Value.int 313 0, Value.ref 778, Value.none, Value.ref 779, Value.ref 780, Value.ref 781, Value.int 2254 0, Value.int 486 0, Value.str (PySem.Str.ofString "/claim/cut.py") 2255]) #[]
noncomputable def r783 (_ : Params) : Obj := Obj.mk (Value.type "function") Option.none (Data.func (FuncData.mk (PySem.Str.ofString "is_bytes") (PySem.Str.ofString "is_bytes") (hqP (hqSt 27)) (FuncBody.stmts (hqB (hqSt 27))) (hqS (hqSt 27)) 3 [] Value.none Value.none Value.none (Value.str (PySem.Str.ofString "rlp.utils") 1210) Option.none (Value.ref 782) Value.none 0)) #[]
noncomputable def r784 (_ : Params) : Obj := Obj.mk (Value.type "tuple") Option.none (Data.seq #[]) #[]
noncomputable def r785 (_ : Params) : Obj := Obj.mk Value.none Option.none (Data.fields #[]) #[]
noncomputable def r786 (_ : Params) : Obj := Obj.mk (Value.type "tuple") Option.none (Data.seq #[Value.str (PySem.Str.ofString "value") 2260]) #[]
noncomputable def r787 (_ : Params) : Obj := Obj.mk (Value.type "tuple") Option.none (Data.seq #[]) #[]
noncomputable def r788 (_ : Params) : Obj := Obj.mk Value.none Option.none (Data.func (FuncData.mk (PySem.Str.ofString "big_endian_to_int") (PySem.Str.ofString "big_endian_to_int") (hqP (hqSt 28)) (FuncBody.stmts (hqB (hqSt 28))) (hqS (hqSt 28)) 0 [] Value.none Value.none Value.none Value.none Option.none Value.none Value.none 0)) #[]
noncomputable def r789 (_ : Params) : Obj := Obj.mk (Value.type "code") Option.none (Data.fields #[Value.str (PySem.Str.ofString "big_endian_to_int") 2257, Value.str (PySem.Str.ofString "big_endian_to_int") 2258, Value.str (PySem.Str.ofString "/claim/cut.py") 2259, Value.int 488 0, Value.int 1 0, Value.int 0 0, Value.int 0 0, Value.int 3 0, Value.ref 784, Value.bool Bool.true, Value.int 313 0, Value.ref 785, Value.none, Value.ref 786, Value.ref 787, Value.ref 788, Value.int 2261 0, Value.int 488 0, Value.str (PySem.Str.ofString "/claim/cut.py") 2262]) #[]
noncomputable def r790 (_ : Params) : Obj := Obj.mk (Value.type "function") Option.none (Data.func (FuncData.mk (PySem.Str.ofString "big_endian_to_int") (PySem.Str.ofString "big_endian_to_int") (hqP (hqSt 28)) (FuncBody.stmts (hqB (hqSt 28))) (hqS (hqSt 28)) 3 [] Value.none Value.none Value.none (Value.str (PySem.Str.ofString "rlp.utils") 1210) Option.none (Value.ref 789) Value.none 0)) #[]
noncomputable def r791 (_ : Params) : Obj := Obj.mk (Value.type "tuple") Option.none (Data.seq #[]) #[]
noncomputable def r792 (_ : Params) : Obj := Obj.mk Value.none Option.none (Data.fields #[]) #[]
noncomputable def r793 (_ : Params) : Obj := Obj.mk (Value.type "tuple") Option.none (Data.seq #[Value.str (PySem.Str.ofString "value") 2267]) #[]
noncomputable def r794 (_ : Params) : Obj := Obj.mk (Value.type "tuple") Option.none (Data.seq #[]) #[]
noncomputable def r795 (_ : Params) : Obj := Obj.mk Value.none Option.none (Data.func (FuncData.mk (PySem.Str.ofString "int_to_big_endian") (PySem.Str.ofString "int_to_big_endian") (hqP (hqSt 29)) (FuncBody.stmts (hqB (hqSt 29))) (hqS (hqSt 29)) 0 [] Value.none Value.none Value.none Value.none Option.none Value.none Value.none 0)) #[]
noncomputable def r796 (_ : Params) : Obj := Obj.mk (Value.type "code") Option.none (Data.fields #[Value.str (PySem.Str.ofString "int_to_big_endian") 2264, Value.str (PySem.Str.ofString "int_to_big_endian") 2265, Value.str (PySem.Str.ofString "/claim/cut.py") 2266, Value.int 490 0, Value.int 1 0, Value.int 0 0, Value.int 0 0, Value.int 3 0, Value.ref 791, Value.bool Bool.true, Value.int 313 0, Value.ref 792, Value.none, Value.ref 793, Value.ref 794, Value.ref 795, Value.int 2268 0, Value.int 490 0, Value.str (PySem.Str.ofString "/claim/cut.py") 2269]) #[]
noncomputable def r797 (_ : Params) : Obj := Obj.mk (Value.type "function") Option.none (Data.func (FuncData.mk (PySem.Str.ofString "int_to_big_endian") (PySem.Str.ofString "int_to_big_endian") (hqP (hqSt 29)) (FuncBody.stmts (hqB (hqSt 29))) (hqS (hqSt 29)) 3 [] Value.none Value.none Value.none (Value.str (PySem.Str.ofString "rlp.utils") 1210) Option.none (Value.ref 796) Value.none 0)) #[]
noncomputable def r798 (_ : Params) : Obj := Obj.mk (Value.type "tuple") Option.none (Data.seq #[]) #[]
noncomputable def r799 (_ : Params) : Obj := Obj.mk (Value.type "builtin_function_or_method") Option.none (Data.fields #[Value.builtin "type.__prepare__", Value.type "type"]) #[]
noncomputable def r800 (P : Params) : Obj := Obj.mk (Value.type "dict") Option.none (Data.dict #[DictEntry.mk (PyData.keyHash P (PySem.Str.ofString "__module__")) (Value.str (PySem.Str.ofString "__module__") 2280) (Value.str (PySem.Str.ofString "rlp.sedes.big_endian_int") 2271), DictEntry.mk (PyData.keyHash P (PySem.Str.ofString "__qualname__")) (Value.str (PySem.Str.ofString "__qualname__") 2282) (Value.str (PySem.Str.ofString "BigEndianInt") 2281), DictEntry.mk (PyData.keyHash P (PySem.Str.ofString "__firstlineno__")) (Value.str (PySem.Str.ofString "__firstlineno__") 2284) (Value.int 493 2283), DictEntry.mk (PyData.keyHash P (PySem.Str.ofString "__init__")) (Value.str (PySem.Str.ofString "__init__") 2292) (Value.ref 812), DictEntry.mk (PyData.keyHash P (PySem.Str.ofString "serialize")) (Value.str (PySem.Str.ofString "serialize") 2301) (Value.ref 819), DictEntry.mk (PyData.keyHash P (PySem.Str.ofString "deserialize")) (Value.str (PySem.Str.ofString "deserialize") 2309) (Value.ref 826), DictEntry.mk (PyData.keyHash P (PySem.Str.ofString "__static_attributes__")) (Value.str (PySem.Str.ofString "__static_attributes__") 2311) (Value.ref 827)] 7) #[]
noncomputable def r801 (_ : Params) : Obj := Obj.mk (Value.type "tuple") Option.none (Data.seq #[]) #[]
noncomputable def r802 (_ : Params) : Obj := Obj.mk Value.none Option.none (Data.fields #[Value.int 495 0, Value.int 4 0, Value.ref 811, Value.int 498 0, Value.int 4 0, Value.ref 818, Value.int 514 0, Value.int 4 0, Value.ref 825]) #[]
noncomputable def r803 (_ : Params) : Obj := Obj.mk (Value.type "code") Option.none (Data.fields #[Value.str (PySem.Str.ofString "BigEndianInt") 2275, Value.str (PySem.Str.ofString "BigEndianInt") 2276, Value.str (PySem.Str.ofString "/claim/cut.py") 2277, Value.int 493 0, Value.int 0 0, Value.int 0 0, Value.int 0 0, Value.int 0 0, Value.ref 801, Value.bool Bool.false, Value.int 313 0, Value.ref 802, Value.none, Value.none, Value.none, Value.none, Value.int 2278 0, Value.int 493 0, Value.str (PySem.Str.ofString "/claim/cut.py") 2279]) #[]
noncomputable def r804 (_ : Params) : Obj := Obj.mk (Value.type "frame") Option.none Data.plain #[Option.some (Value.ref 803), Option.some (Value.ref 3), Option.some (Value.ref 800), Option.none, Option.some (Value.str (PySem.Str.ofString "rlp.sedes.big_endian_int") 2271), Option.none, Option.some (Value.ref 0)]
noncomputable def r805 (_ : Params) : Obj := Obj.mk (Value.type "tuple") Option.none (Data.seq #[Value.none]) #[]
noncomputable def r806 (_ : Params) : Obj := Obj.mk (Value.type "tuple") Option.none (Data.seq #[]) #[]
noncomputable def r807 (_ : Params) : Obj := Obj.mk Value.none Option.none (Data.fields #[]) #[]
noncomputable def r808 (_ : Params) : Obj := Obj.mk (Value.type "tuple") Option.none (Data.seq #[Value.str (PySem.Str.ofString "self") 2288, Value.str (PySem.Str.ofString "length") 2289]) #[]
noncomputable def r809 (_ : Params) : Obj := Obj.mk (Value.type "tuple") Option.none (Data.seq #[]) #[]
noncomputable def r810 (_ : Params) : Obj := Obj.mk Value.none Option.none (Data.func (FuncData.mk (PySem.Str.ofString "__init__") (PySem.Str.ofString "BigEndianInt.__init__") (hqP (hqAt 31 0)) (FuncBody.stmts (hqB (hqAt 31 0))) (hqS (hqAt 31 0)) 0 [] Value.none Value.none Value.none Value.none Option.none Value.none Value.none 0)) #[]
noncomputable def r811 (_ : Params) : Obj := Obj.mk (Value.type "code") Option.none (Data.fields #[Value.str (PySem.Str.ofString "__init__") 2285, Value.str (PySem.Str.ofString "BigEndianInt.__init__") 2286, Value.str (PySem.Str.ofString "/claim/cut.py") 2287, Value.int 495 0, Value.int 2 0, Value.int 0 0, Value.int 0 0, Value.int 3 0, Value.ref 806, Value.bool Bool.true, Value.int 313 0, Value.ref 807, Value.none, Value.ref 808, Value.ref 809, Value.ref 810, Value.int 2290 0, Value.int 495 0, Value.str (PySem.Str.ofString "/claim/cut.py") 2291]) #[]
noncomputable def r812 (_ : Params) : Obj := Obj.mk (Value.type "function") Option.none (Data.func (FuncData.mk (PySem.Str.ofString "__init__") (PySem.Str.ofString "BigEndianInt.__init__") (hqP (hqAt 31 0)) (FuncBody.stmts (hqB (hqAt 31 0))) (hqS (hqAt 31 0)) 3 [] (Value.ref 805) Value.none Value.none (Value.str (PySem.Str.ofString "rlp.sedes.big_endian_int") 2271) Option.none (Value.ref 811) Value.none 0)) #[]
noncomputable def r813 (_ : Params) : Obj := Obj.mk (Value.type "tuple") Option.none (Data.seq #[]) #[]
noncomputable def r814 (_ : Params) : Obj := Obj.mk Value.none Option.none (Data.fields #[]) #[]
noncomputable def r815 (_ : Params) : Obj := Obj.mk (Value.type "tuple") Option.none (Data.seq #[Value.str (PySem.Str.ofString "self") 2296, Value.str (PySem.Str.ofString "obj") 2297, Value.str (PySem.Str.ofString "s") 2298]) #[]
noncomputable def r816 (_ : Params) : Obj := Obj.mk (Value.type "tuple") Option.none (Data.seq #[]) #[]
noncomputable def r817 (_ : Params) : Obj := Obj.mk Value.none Option.none (Data.func (FuncData.mk (PySem.Str.ofString "serialize") (PySem.Str.ofString "BigEndianInt.serialize") (hqP (hqAt 31 1)) (FuncBody.stmts (hqB (hqAt 31 1))) (hqS (hqAt 31 1)) 0 [] Value.none Value.none Value.none Value.none Option.none Value.none Value.none 0)) #[]
noncomputable def r818 (_ : Params) : Obj := Obj.mk (Value.type "code") Option.none (Data.fields #[Value.str (PySem.Str.ofString "serialize") 2293, Value.str (PySem.Str.ofString "BigEndianInt.serialize") 2294, Value.str (PySem.Str.ofString "/claim/cut.py") 2295, Value.int 498 0, Value.int 2 0, Value.int 0 0, Value.int 0 0, Value.int 3 0, Value.ref 813, Value.bool Bool.true, Value.int 313 0, Value.ref 814, Value.none, Value.ref 815, Value.ref 816, Value.ref 817, Value.int 2299 0, Value.int 498 0, Value.str (PySem.Str.ofString "/claim/cut.py") 2300]) #[]
noncomputable def r819 (_ : Params) : Obj := Obj.mk (Value.type "function") Option.none (Data.func (FuncData.mk (PySem.Str.ofString "serialize") (PySem.Str.ofString "BigEndianInt.serialize") (hqP (hqAt 31 1)) (FuncBody.stmts (hqB (hqAt 31 1))) (hqS (hqAt 31 1)) 3 [] Value.none Value.none Value.none (Value.str (PySem.Str.ofString "rlp.sedes.big_endian_int") 2271) Option.none (Value.ref 818) Value.none 0)) #[]
noncomputable def r820 (_ : Params) : Obj := Obj.mk (Value.type "tuple") Option.none (Data.seq #[]) #[]
noncomputable def r821 (_ : Params) : Obj := Obj.mk Value.none Option.none (Data.fields #[]) #[]
noncomputable def r822 (_ : Params) : Obj := Obj.mk (Value.type "tuple") Option.none (Data.seq #[Value.str (PySem.Str.ofString "self") 2305, Value.str (PySem.Str.ofString "serial") 2306]) #[]
noncomputable def r823 (_ : Params) : Obj := Obj.mk (Value.type "tuple") Option.none (Data.seq #[]) #[]
noncomputable def r824 (_ : Params) : Obj := Obj.mk Value.none Option.none (Data.func (FuncData.mk (PySem.Str.ofString "deserialize") (PySem.Str.ofString "BigEndianInt.deserialize") (hqP (hqAt 31 2)) (FuncBody.stmts (hqB (hqAt 31 2))) (hqS (hqAt 31 2)) 0 [] Value.none Value.none Value.none Value.none Option.none Value.none Value.none 0)) #[]
noncomputable def r825 (_ : Params) : Obj := Obj.mk (Value.type "code") Option.none (Data.fields #[Value.str (PySem.Str.ofString "deserialize") 2302, Value.str (PySem.Str.ofString "BigEndianInt.deserialize") 2303, Value.str (PySem.Str.ofString "/claim/cut.py") 2304, Value.int 514 0, Value.int 2 0, Value.int 0 0, Value.int 0 0, Value.int 3 0, Value.ref 820, Value.bool Bool.true, Value.int 313 0, Value.ref 821, Value.none, Value.ref 822, Value.ref 823, Value.ref 824, Value.int 2307 0, Value.int 514 0, Value.str (PySem.Str.ofString "/claim/cut.py") 2308]) #[]
noncomputable def r826 (_ : Params) : Obj := Obj.mk (Value.type "function") Option.none (Data.func (FuncData.mk (PySem.Str.ofString "deserialize") (PySem.Str.ofString "BigEndianInt.deserialize") (hqP (hqAt 31 2)) (FuncBody.stmts (hqB (hqAt 31 2))) (hqS (hqAt 31 2)) 3 [] Value.none Value.none Value.none (Value.str (PySem.Str.ofString "rlp.sedes.big_endian_int") 2271) Option.none (Value.ref 825) Value.none 0)) #[]
noncomputable def r827 (_ : Params) : Obj := Obj.mk (Value.type "tuple") Option.none (Data.seq #[Value.str (PySem.Str.ofString "length") 2310]) #[]
noncomputable def r828 (P : Params) : Obj := Obj.mk (Value.type "dict") Option.none (Data.dict #[DictEntry.mk (PyData.keyHash P (PySem.Str.ofString "__module__")) (Value.str (PySem.Str.ofString "__module__") 2280) (Value.str (PySem.Str.ofString "rlp.sedes.big_endian_int") 2271), DictEntry.mk (PyData.keyHash P (PySem.Str.ofString "__firstlineno__")) (Value.str (PySem.Str.ofString "__firstlineno__") 2284) (Value.int 493 2283), DictEntry.mk (PyData.keyHash P (PySem.Str.ofString "__init__")) (Value.str (PySem.Str.ofString "__init__") 2292) (Value.ref 812), DictEntry.mk (PyData.keyHash P (PySem.Str.ofString "serialize")) (Value.str (PySem.Str.ofString "serialize") 2301) (Value.ref 819), DictEntry.mk (PyData.keyHash P (PySem.Str.ofString "deserialize")) (Value.str (PySem.Str.ofString "deserialize") 2309) (Value.ref 826), DictEntry.mk (PyData.keyHash P (PySem.Str.ofString "__static_attributes__")) (Value.str (PySem.Str.ofString "__static_attributes__") 2311) (Value.ref 827), DictEntry.mk (PyData.keyHash P (PySem.Str.ofString "__dict__")) (Value.str (PySem.Str.ofString "__dict__") 2313) (Value.ref 830), DictEntry.mk (PyData.keyHash P (PySem.Str.ofString "__weakref__")) (Value.str (PySem.Str.ofString "__weakref__") 2315) (Value.ref 831), DictEntry.mk (PyData.keyHash P (PySem.Str.ofString "__doc__")) (Value.str (PySem.Str.ofString "__doc__") 2316) Value.none] 4) #[]
noncomputable def r829 (_ : Params) : Obj := Obj.mk (Value.type "type") Option.none (Data.cls (ClassData.mk (PySem.Str.ofString "BigEndianInt") [Value.type "object"] [Value.ref 829, Value.type "object"] 828 (PySem.Str.ofString "BigEndianInt") Bool.true [] [] Bool.false Option.none Bool.false)) #[Option.none, Option.none, Option.some (Value.str (PySem.Str.ofString "BigEndianInt") 2273), Option.some (Value.str (PySem.Str.ofString "BigEndianInt") 2281), Option.some (Value.builtin "object.__new__"), Option.some (Value.bool Bool.true)]
noncomputable def r830 (_ : Params) : Obj := Obj.mk (Value.type "getset_descriptor") Option.none (Data.fields #[Value.str (PySem.Str.ofString "__dict__") 2312, Value.ref 829, Value.builtin "function.__dict__", Value.builtin "function.__dict__#set"]) #[]
noncomputable def r831 (_ : Params) : Obj := Obj.mk (Value.type "getset_descriptor") Option.none (Data.fields #[Value.str (PySem.Str.ofString "__weakref__") 2314, Value.ref 829, Value.builtin "ExceptionGroup.__weakref__", Value.none]) #[]
noncomputable def r832 (_ : Params) : Obj := Obj.mk (Value.type "super") Option.none (Data.fields #[Value.ref 829, Value.ref 829, Value.ref 829]) #[]
noncomputable def r833 (_ : Params) : Obj := Obj.mk (Value.type "builtin_function_or_method") Option.none (Data.fields #[Value.builtin "object.__init_subclass__", Value.ref 829]) #[]
noncomputable def r834 (P : Params) : Obj := Obj.mk (Value.type "dict") Option.none (Data.dict #[DictEntry.mk (PyData.keyHash P (PySem.Str.ofString "length")) (Value.str (PySem.Str.ofString "length") 2322) Value.none] 1) #[]
noncomputable def r835 (_ : Params) : Obj := Obj.mk (Value.ref 829) (Option.some 834) Data.plain #[]
noncomputable def r836 (P : Params) : Obj := Obj.mk (Value.type "frame") Option.none (Data.dict #[DictEntry.mk (PyData.keyHash P (PySem.Str.ofString "self")) (Value.str (PySem.Str.ofString "self") 2319) (Value.ref 835), DictEntry.mk (PyData.keyHash P (PySem.Str.ofString "length")) (Value.str (PySem.Str.ofString "length") 2320) Value.none] 2) #[]
noncomputable def r837 (_ : Params) : Obj := Obj.mk (Value.type "tuple") Option.none (Data.seq #[]) #[]
noncomputable def r838 (_ : Params) : Obj := Obj.mk (Value.type "builtin_function_or_method") Option.none (Data.fields #[Value.builtin "type.__prepare__", Value.type "type"]) #[]
noncomputable def r839 (P : Params) : Obj := Obj.mk (Value.type "dict") Option.none (Data.dict #[DictEntry.mk (PyData.keyHash P (PySem.Str.ofString "__module__")) (Value.str (PySem.Str.ofString "__module__") 2333) (Value.str (PySem.Str.ofString "rlp.sedes.binary") 2324), DictEntry.mk (PyData.keyHash P (PySem.Str.ofString "__qualname__")) (Value.str (PySem.Str.ofString "__qualname__") 2335) (Value.str (PySem.Str.ofString "Binary") 2334), DictEntry.mk (PyData.keyHash P (PySem.Str.ofString "__firstlineno__")) (Value.str (PySem.Str.ofString "__firstlineno__") 2337) (Value.int 523 2336), DictEntry.mk (PyData.keyHash P (PySem.Str.ofString "__init__")) (Value.str (PySem.Str.ofString "__init__") 2347) (Value.ref 851), DictEntry.mk (PyData.keyHash P (PySem.Str.ofString "fixed_length")) (Value.str (PySem.Str.ofString "fixed_length") 2368) (Value.ref 861), DictEntry.mk (PyData.keyHash P (PySem.Str.ofString "is_valid_type")) (Value.str (PySem.Str.ofString "is_valid_type") 2388) (Value.ref 871), DictEntry.mk (PyData.keyHash P (PySem.Str.ofString "is_valid_length")) (Value.str (PySem.Str.ofString "is_valid_length") 2396) (Value.ref 879), DictEntry.mk (PyData.keyHash P (PySem.Str.ofString "serialize")) (Value.str (PySem.Str.ofString "serialize") 2404) (Value.ref 886), DictEntry.mk (PyData.keyHash P (PySem.Str.ofString "deserialize")) (Value.str (PySem.Str.ofString "deserialize") 2412) (Value.ref 893), DictEntry.mk (PyData.keyHash P (PySem.Str.ofString "__static_attributes__")) (Value.str (PySem.Str.ofString "__static_attributes__") 2416) (Value.ref 894)] 10) #[]
noncomputable def r840 (_ : Params) : Obj := Obj.mk (Value.type "tuple") Option.none (Data.seq #[]) #[]
noncomputable def r841 (_ : Params) : Obj := Obj.mk Value.none Option.none (Data.fields #[Value.int 525 0, Value.int 4 0, Value.ref 850, Value.int 534 0, Value.int 4 0, Value.ref 858, Value.int 538 0, Value.int 4 0, Value.ref 868, Value.int 541 0, Value.int 4 0, Value.ref 878, Value.int 544 0, Value.int 4 0, Value.ref 885, Value.int 551 0, Value.int 4 0, Value.ref 892]) #[]
noncomputable def r842 (_ : Params) : Obj := Obj.mk (Value.type "code") Option.none (Data.fields #[Value.str (PySem.Str.ofString "Binary") 2328, Value.str (PySem.Str.ofString "Binary") 2329, Value.str (PySem.Str.ofString "/claim/cut.py") 2330, Value.int 523 0, Value.int 0 0, Value.int 0 0, Value.int 0 0, Value.int 0 0, Value.ref 840, Value.bool Bool.false, Value.int 313 0, Value.ref 841, Value.none, Value.none, Value.none, Value.none, Value.int 2331 0, Value.int 523 0, Value.str (PySem.Str.ofString "/claim/cut.py") 2332]) #[]
noncomputable def r843 (_ : Params) : Obj := Obj.mk (Value.type "frame") Option.none Data.plain #[Option.some (Value.ref 842), Option.some (Value.ref 3), Option.some (Value.ref 839), Option.none, Option.some (Value.str (PySem.Str.ofString "rlp.sedes.binary") 2324), Option.none, Option.some (Value.ref 0)]
noncomputable def r844 (_ : Params) : Obj := Obj.mk (Value.type "tuple") Option.none (Data.seq #[Value.none, Value.none, Value.bool Bool.false]) #[]
noncomputable def r845 (_ : Params) : Obj := Obj.mk (Value.type "tuple") Option.none (Data.seq #[]) #[]
noncomputable def r846 (_ : Params) : Obj := Obj.mk Value.none Option.none (Data.fields #[]) #[]
noncomputable def r847 (_ : Params) : Obj := Obj.mk (Value.type "tuple") Option.none (Data.seq #[Value.str (PySem.Str.ofString "self") 2341, Value.str (PySem.Str.ofString "min_length") 2342, Value.str (PySem.Str.ofString "max_length") 2343, Value.str (PySem.Str.ofString "allow_empty") 2344]) #[]
noncomputable def r848 (_ : Params) : Obj := Obj.mk (Value.type "tuple") Option.none (Data.seq #[]) #[]
noncomputable def r849 (_ : Params) : Obj := Obj.mk Value.none Option.none (Data.func (FuncData.mk (PySem.Str.ofString "__init__") (PySem.Str.ofString "Binary.__init__") (hqP (hqAt 34 0)) (FuncBody.stmts (hqB (hqAt 34 0))) (hqS (hqAt 34 0)) 0 [] Value.none Value.none Value.none Value.none Option.none Value.none Value.none 0)) #[]
noncomputable def r850 (_ : Params) : Obj := Obj.mk (Value.type "code") Option.none (Data.fields #[Value.str (PySem.Str.ofString "__init__") 2338, Value.str (PySem.Str.ofString "Binary.__init__") 2339, Value.str (PySem.Str.ofString "/claim/cut.py") 2340, Value.int 525 0, Value.int 4 0, Value.int 0 0, Value.int 0 0, Value.int 3 0, Value.ref 845, Value.bool Bool.true, Value.int 313 0, Value.ref 846, Value.none, Value.ref 847, Value.ref 848, Value.ref 849, Value.int 2345 0, Value.int 525 0, Value.str (PySem.Str.ofString "/claim/cut.py") 2346]) #[]
noncomputable def r851 (_ : Params) : Obj := Obj.mk (Value.type "function") Option.none (Data.func (FuncData.mk (PySem.Str.ofString "__init__") (PySem.Str.ofString "Binary.__init__") (hqP (hqAt 34 0)) (FuncBody.stmts (hqB (hqAt 34 0))) (hqS (hqAt 34 0)) 3 [] (Value.ref 844) Value.none Value.none (Value.str (PySem.Str.ofString "rlp.sedes.binary") 2324) Option.none (Value.ref 850) Value.none 0)) #[]
noncomputable def r852 (_ : Params) : Obj := Obj.mk (Value.type "tuple") Option.none (Data.seq #[Value.bool Bool.false]) #[]
noncomputable def r853 (_ : Params) : Obj := Obj.mk (Value.type "tuple") Option.none (Data.seq #[]) #[]
noncomputable def r854 (_ : Params) : Obj := Obj.mk Value.none Option.none (Data.fields #[]) #[]
noncomputable def r855 (_ : Params) : Obj := Obj.mk (Value.type "tuple") Option.none (Data.seq #[Value.str (PySem.Str.ofString "cls") 2351, Value.str (PySem.Str.ofString "length") 2352, Value.str (PySem.Str.ofString "allow_empty") 2353]) #[]
noncomputable def r856 (_ : Params) : Obj := Obj.mk (Value.type "tuple") Option.none (Data.seq #[]) #[]
noncomputable def r857 (_ : Params) : Obj := Obj.mk Value.none Option.none (Data.func (FuncData.mk (PySem.Str.ofString "fixed_length") (PySem.Str.ofString "Binary.fixed_length") (hqP (hqAt 34 1)) (FuncBody.stmts (hqB (hqAt 34 1))) (hqS (hqAt 34 1)) 0 [] Value.none Value.none Value.none Value.none Option.none Value.none Value.none 0)) #[]
noncomputable def r858 (_ : Params) : Obj := Obj.mk (Value.type "code") Option.none (Data.fields #[Value.str (PySem.Str.ofString "fixed_length") 2348, Value.str (PySem.Str.ofString "Binary.fixed_length") 2349, Value.str (PySem.Str.ofString "/claim/cut.py") 2350, Value.int 533 0, Value.int 3 0, Value.int 0 0, Value.int 0 0, Value.int 3 0, Value.ref 853, Value.bool Bool.true, Value.int 313 0, Value.ref 854, Value.none, Value.ref 855, Value.ref 856, Value.ref 857, Value.int 2354 0, Value.int 533 0, Value.str (PySem.Str.ofString "/claim/cut.py") 2355]) #[]
noncomputable def r859 (_ : Params) : Obj := Obj.mk (Value.type "function") Option.none (Data.func (FuncData.mk (PySem.Str.ofString "fixed_length") (PySem.Str.ofString "Binary.fixed_length") (hqP (hqAt 34 1)) (FuncBody.stmts (hqB (hqAt 34 1))) (hqS (hqAt 34 1)) 3 [] (Value.ref 852) Value.none Value.none (Value.str (PySem.Str.ofString "rlp.sedes.binary") 2324) (Option.some 862) (Value.ref 858) Value.none 0)) #[]
noncomputable def r860 (P : Params) : Obj := Obj.mk (Value.type "dict") Option.none (Data.dict #[DictEntry.mk (PyData.keyHash P (PySem.Str.ofString "__module__")) (Value.str (PySem.Str.ofString "__module__") 2357) (Value.str (PySem.Str.ofString "rlp.sedes.binary") 2324), DictEntry.mk (PyData.keyHash P (PySem.Str.ofString "__name__")) (Value.str (PySem.Str.ofString "__name__") 2360) (Value.str (PySem.Str.ofString "fixed_length") 2359), DictEntry.mk (PyData.keyHash P (PySem.Str.ofString "__qualname__")) (Value.str (PySem.Str.ofString "__qualname__") 2363) (Value.str (PySem.Str.ofString "Binary.fixed_length") 2362), DictEntry.mk (PyData.keyHash P (PySem.Str.ofString "__doc__")) (Value.str (PySem.Str.ofString "__doc__") 2365) Value.none, DictEntry.mk (PyData.keyHash P (PySem.Str.ofString "__annotations__")) (Value.str (PySem.Str.ofString "__annotations__") 2367) (Value.ref 862)] 5) #[]
noncomputable def r861 (_ : Params) : Obj := Obj.mk (Value.type "classmethod") (Option.some 860) (Data.fields #[Value.ref 859, Value.bool Bool.false]) #[]
noncomputable def r862 (_ : Params) : Obj := Obj.mk (Value.type "dict") Option.none (Data.dict #[]) #[]
noncomputable def r863 (_ : Params) : Obj := Obj.mk (Value.type "tuple") Option.none (Data.seq #[]) #[]
noncomputable def r864 (_ : Params) : Obj := Obj.mk Value.none Option.none (Data.fields #[]) #[]
noncomputable def r865 (_ : Params) : Obj := Obj.mk (Value.type "tuple") Option.none (Data.seq #[Value.str (PySem.Str.ofString "cls") 2372, Value.str (PySem.Str.ofString "obj") 2373]) #[]
noncomputable def r866 (_ : Params) : Obj := Obj.mk (Value.type "tuple") Option.none (Data.seq #[]) #[]
noncomputable def r867 (_ : Params) : Obj := Obj.mk Value.none Option.none (Data.func (FuncData.mk (PySem.Str.ofString "is_valid_type") (PySem.Str.ofString "Binary.is_valid_type") (hqP (hqAt 34 2)) (FuncBody.stmts (hqB (hqAt 34 2))) (hqS (hqAt 34 2)) 0 [] Value.none Value.none Value.none Value.none Option.none Value.none Value.none 0)) #[]
noncomputable def r868 (_ : Params) : Obj := Obj.mk (Value.type "code") Option.none (Data.fields #[Value.str (PySem.Str.ofString "is_valid_type") 2369, Value.str (PySem.Str.ofString "Binary.is_valid_type") 2370, Value.str (PySem.Str.ofString "/claim/cut.py") 2371, Value.int 537 0, Value.int 2 0, Value.int 0 0, Value.int 0 0, Value.int 3 0, Value.ref 863, Value.bool Bool.true, Value.int 313 0, Value.ref 864, Value.none, Value.ref 865, Value.ref 866, Value.ref 867, Value.int 2374 0, Value.int 537 0, Value.str (PySem.Str.ofString "/claim/cut.py") 2375]) #[]
noncomputable def r869 (_ : Params) : Obj := Obj.mk (Value.type "function") Option.none (Data.func (FuncData.mk (PySem.Str.ofString "is_valid_type") (PySem.Str.ofString "Binary.is_valid_type") (hqP (hqAt 34 2)) (FuncBody.stmts (hqB (hqAt 34 2))) (hqS (hqAt 34 2)) 3 [] Value.none Value.none Value.none (Value.str (PySem.Str.ofString "rlp.sedes.binary") 2324) (Option.some 872) (Value.ref 868) Value.none 0)) #[]
noncomputable def r870 (P : Params) : Obj := Obj.mk (Value.type "dict") Option.none (Data.dict #[DictEntry.mk (PyData.keyHash P (PySem.Str.ofString "__module__")) (Value.str (PySem.Str.ofString "__module__") 2377) (Value.str (PySem.Str.ofString "rlp.sedes.binary") 2324), DictEntry.mk (PyData.keyHash P (PySem.Str.ofString "__name__")) (Value.str (PySem.Str.ofString "__name__") 2380) (Value.str (PySem.Str.ofString "is_valid_type") 2379), DictEntry.mk (PyData.keyHash P (PySem.Str.ofString "__qualname__")) (Value.str (PySem.Str.ofString "__qualname__") 2383) (Value.str (PySem.Str.ofString "Binary.is_valid_type") 2382), DictEntry.mk (PyData.keyHash P (PySem.Str.ofString "__doc__")) (Value.str (PySem.Str.ofString "__doc__") 2385) Value.none, DictEntry.mk (PyData.keyHash P (PySem.Str.ofString "__annotations__")) (Value.str (PySem.Str.ofString "__annotations__") 2387) (Value.ref 872)] 5) #[]
noncomputable def r871 (_ : Params) : Obj := Obj.mk (Value.type "classmethod") (Option.some 870) (Data.fields #[Value.ref 869, Value.bool Bool.false]) #[]
noncomputable def r872 (_ : Params) : Obj := Obj.mk (Value.type "dict") Option.none (Data.dict #[]) #[]
noncomputable def r873 (_ : Params) : Obj := Obj.mk (Value.type "tuple") Option.none (Data.seq #[]) #[]
noncomputable def r874 (_ : Params) : Obj := Obj.mk Value.none Option.none (Data.fields #[]) #[]
noncomputable def r875 (_ : Params) : Obj := Obj.mk (Value.type "tuple") Option.none (Data.seq #[Value.str (PySem.Str.ofString "self") 2392, Value.str (PySem.Str.ofString "length") 2393]) #[]
noncomputable def r876 (_ : Params) : Obj := Obj.mk (Value.type "tuple") Option.none (Data.seq #[]) #[]
noncomputable def r877 (_ : Params) : Obj := Obj.mk Value.none Option.none (Data.func (FuncData.mk (PySem.Str.ofString "is_valid_length") (PySem.Str.ofString "Binary.is_valid_length") (hqP (hqAt 34 3)) (FuncBody.stmts (hqB (hqAt 34 3))) (hqS (hqAt 34 3)) 0 [] Value.none Value.none Value.none Value.none Option.none Value.none Value.none 0)) #[]
noncomputable def r878 (_ : Params) : Obj := Obj.mk (Value.type "code") Option.none (Data.fields #[Value.str (PySem.Str.ofString "is_valid_length") 2389, Value.str (PySem.Str.ofString "Binary.is_valid_length") 2390, Value.str (PySem.Str.ofString "/claim/cut.py") 2391, Value.int 541 0, Value.int 2 0, Value.int 0 0, Value.int 0 0, Value.int 3 0, Value.ref 873, Value.bool Bool.true, Value.int 313 0, Value.ref 874, Value.none, Value.ref 875, Value.ref 876, Value.ref 877, Value.int 2394 0, Value.int 541 0, Value.str (PySem.Str.ofString "/claim/cut.py") 2395]) #[]
noncomputable def r879 (_ : Params) : Obj := Obj.mk (Value.type "function") Option.none (Data.func (FuncData.mk (PySem.Str.ofString "is_valid_length") (PySem.Str.ofString "Binary.is_valid_length") (hqP (hqAt 34 3)) (FuncBody.stmts (hqB (hqAt 34 3))) (hqS (hqAt 34 3)) 3 [] Value.none Value.none Value.none (Value.str (PySem.Str.ofString "rlp.sedes.binary") 2324) Option.none (Value.ref 878) Value.none 0)) #[]
noncomputable def r880 (_ : Params) : Obj := Obj.mk (Value.type "tuple") Option.none (Data.seq #[]) #[]
noncomputable def r881 (_ : Params) : Obj := Obj.mk Value.none Option.none (Data.fields #[]) #[]
noncomputable def r882 (_ : Params) : Obj := Obj.mk (Value.type "tuple") Option.none (Data.seq #[Value.str (PySem.Str.ofString "self") 2400, Value.str (PySem.Str.ofString "obj") 2401]) #[]
noncomputable def r883 (_ : Params) : Obj := Obj.mk (Value.type "tuple") Option.none (Data.seq #[]) #[]
noncomputable def r884 (_ : Params) : Obj := Obj.mk Value.none Option.none (Data.func (FuncData.mk (PySem.Str.ofString "serialize") (PySem.Str.ofString "Binary.serialize") (hqP (hqAt 34 4)) (FuncBody.stmts (hqB (hqAt 34 4))) (hqS (hqAt 34 4)) 0 [] Value.none Value.none Value.none Value.none Option.none Value.none Value.none 0)) #[]
noncomputable def r885 (_ : Params) : Obj := Obj.mk (Value.type "code") Option.none (Data.fields #[Value.str (PySem.Str.ofString "serialize") 2397, Value.str (PySem.Str.ofString "Binary.serialize") 2398, Value.str (PySem.Str.ofString "/claim/cut.py") 2399, Value.int 544 0, Value.int 2 0, Value.int 0 0, Value.int 0 0, Value.int 3 0, Value.ref 880, Value.bool Bool.true, Value.int 313 0, Value.ref 881, Value.none, Value.ref 882, Value.ref 883, Value.ref 884, Value.int 2402 0, Value.int 544 0, Value.str (PySem.Str.ofString "/claim/cut.py") 2403]) #[]
noncomputable def r886 (_ : Params) : Obj := Obj.mk (Value.type "function") Option.none (Data.func (FuncData.mk (PySem.Str.ofString "serialize") (PySem.Str.ofString "Binary.serialize") (hqP (hqAt 34 4)) (FuncBody.stmts (hqB (hqAt 34 4))) (hqS (hqAt 34 4)) 3 [] Value.none Value.none Value.none (Value.str (PySem.Str.ofString "rlp.sedes.binary") 2324) Option.none (Value.ref 885) Value.none 0)) #[]
noncomputable def r887 (_ : Params) : Obj := Obj.mk (Value.type "tuple") Option.none (Data.seq #[]) #[]
noncomputable def r888 (_ : Params) : Obj := Obj.mk Value.none Option.none (Data.fields #[]) #[]
noncomputable def r889 (_ : Params) : Obj := Obj.mk (Value.type "tuple") Option.none (Data.seq #[Value.str (PySem.Str.ofString "self") 2408, Value.str (PySem.Str.ofString "serial") 2409]) #[]
noncomputable def r890 (_ : Params) : Obj := Obj.mk (Value.type "tuple") Option.none (Data.seq #[]) #[]
noncomputable def r891 (_ : Params) : Obj := Obj.mk Value.none Option.none (Data.func (FuncData.mk (PySem.Str.ofString "deserialize") (PySem.Str.ofString "Binary.deserialize") (hqP (hqAt 34 5)) (FuncBody.stmts (hqB (hqAt 34 5))) (hqS (hqAt 34 5)) 0 [] Value.none Value.none Value.none Value.none Option.none Value.none Value.none 0)) #[]
noncomputable def r892 (_ : Params) : Obj := Obj.mk (Value.type "code") Option.none (Data.fields #[Value.str (PySem.Str.ofString "deserialize") 2405, Value.str (PySem.Str.ofString "Binary.deserialize") 2406, Value.str (PySem.Str.ofString "/claim/cut.py") 2407, Value.int 551 0, Value.int 2 0, Value.int 0 0, Value.int 0 0, Value.int 3 0, Value.ref 887, Value.bool Bool.true, Value.int 313 0, Value.ref 888, Value.none, Value.ref 889, Value.ref 890, Value.ref 891, Value.int 2410 0, Value.int 551 0, Value.str (PySem.Str.ofString "/claim/cut.py") 2411]) #[]
noncomputable def r893 (_ : Params) : Obj := Obj.mk (Value.type "function") Option.none (Data.func (FuncData.mk (PySem.Str.ofString "deserialize") (PySem.Str.ofString "Binary.deserialize") (hqP (hqAt 34 5)) (FuncBody.stmts (hqB (hqAt 34 5))) (hqS (hqAt 34 5)) 3 [] Value.none Value.none Value.none (Value.str (PySem.Str.ofString "rlp.sedes.binary") 2324) Option.none (Value.ref 892) Value.none 0)) #[]
noncomputable def r894 (_ : Params) : Obj := Obj.mk (Value.type "tuple") Option.none (Data.seq #[Value.str (PySem.Str.ofString "allow_empty") 2413, Value.str (PySem.Str.ofString "max_length") 2414, Value.str (PySem.Str.ofString "min_length") 2415]) #[]
noncomputable def r895 (P : Params) : Obj := Obj.mk (Value.type "dict") Option.none (Data.dict #[DictEntry.mk (PyData.keyHash P (PySem.Str.ofString "__module__")) (Value.str (PySem.Str.ofString "__module__") 2333) (Value.str (PySem.Str.ofString "rlp.sedes.binary") 2324), DictEntry.mk (PyData.keyHash P (PySem.Str.ofString "__firstlineno__")) (Value.str (PySem.Str.ofString "__firstlineno__") 2337) (Value.int 523 2336), DictEntry.mk (PyData.keyHash P (PySem.Str.ofString "__init__")) (Value.str (PySem.Str.ofString "__init__") 2347) (Value.ref 851), DictEntry.mk (PyData.keyHash P (PySem.Str.ofString "fixed_length")) (Value.str (PySem.Str.ofString "fixed_length") 2368) (Value.ref 861), DictEntry.mk (PyData.keyHash P (PySem.Str.ofString "is_valid_type")) (Value.str (PySem.Str.ofString "is_valid_type") 2388) (Value.ref 871), DictEntry.mk (PyData.keyHash P (PySem.Str.ofString "is_valid_length")) (Value.str (PySem.Str.ofString "is_valid_length") 2396) (Value.ref 879), DictEntry.mk (PyData.keyHash P (PySem.Str.ofString "serialize")) (Value.str (PySem.Str.ofString "serialize") 2404) (Value.ref 886), DictEntry.mk (PyData.keyHash P (PySem.Str.ofString "deserialize")) (Value.str (PySem.Str.ofString "deserialize") 2412) (Value.ref 893), DictEntry.mk (PyData.keyHash P (PySem.Str.ofString "__static_attributes__")) (Value.str (PySem.Str.ofString "__static_attributes__") 2416) (Value.ref 894), DictEntry.mk (PyData.keyHash P (PySem.Str.ofString "__dict__")) (Value.str (PySem.Str.ofString "__dict__") 2418) (Value.ref 897), DictEntry.mk (PyData.keyHash P (PySem.Str.ofString "__weakref__")) (Value.str (PySem.Str.ofString "__weakref__") 2420) (Value.ref 898), DictEntry.mk (PyData.keyHash P (PySem.Str.ofString "__doc__")) (Value.str (PySem.Str.ofString "__doc__") 2421) Value.none] 4) #[]
noncomputable def r896 (_ : Params) : Obj := Obj.mk (Value.type "type") Option.none (Data.cls (ClassData.mk (PySem.Str.ofString "Binary") [Value.type "object"] [Value.ref 896, Value.type "object"] 895 (PySem.Str.ofString "Binary") Bool.true [] [] Bool.false Option.none Bool.false)) #[Option.none, Option.none, Option.some (Value.str (PySem.Str.ofString "Binary") 2326), Option.some (Value.str (PySem.Str.ofString "Binary") 2334), Option.some (Value.builtin "object.__new__"), Option.some (Value.bool Bool.true)]
noncomputable def r897 (_ : Params) : Obj := Obj.mk (Value.type "getset_descriptor") Option.none (Data.fields #[Value.str (PySem.Str.ofString "__dict__") 2417, Value.ref 896, Value.builtin "function.__dict__", Value.builtin "function.__dict__#set"]) #[]
noncomputable def r898 (_ : Params) : Obj := Obj.mk (Value.type "getset_descriptor") Option.none (Data.fields #[Value.str (PySem.Str.ofString "__weakref__") 2419, Value.ref 896, Value.builtin "ExceptionGroup.__weakref__", Value.none]) #[]
noncomputable def r899 (_ : Params) : Obj := Obj.mk (Value.type "super") Option.none (Data.fields #[Value.ref 896, Value.ref 896, Value.ref 896]) #[]
noncomputable def r900 (_ : Params) : Obj := Obj.mk (Value.type "builtin_function_or_method") Option.none (Data.fields #[Value.builtin "object.__init_subclass__", Value.ref 896]) #[]
noncomputable def r901 (P : Params) : Obj := Obj.mk (Value.type "dict") Option.none (Data.dict #[DictEntry.mk (PyData.keyHash P (PySem.Str.ofString "min_length")) (Value.str (PySem.Str.ofString "min_length") 2430) (Value.int 0 2428), DictEntry.mk (PyData.keyHash P (PySem.Str.ofString "max_length")) (Value.str (PySem.Str.ofString "max_length") 2434) (Value.float 9218868437227405312 2432), DictEntry.mk (PyData.keyHash P (PySem.Str.ofString "allow_empty")) (Value.str (PySem.Str.ofString "allow_empty") 2436) (Value.bool Bool.false)] 3) #[]
noncomputable def r902 (_ : Params) : Obj := Obj.mk (Value.ref 896) (Option.some 901) Data.plain #[]
noncomputable def r903 (P : Params) : Obj := Obj.mk (Value.type "frame") Option.none (Data.dict #[DictEntry.mk (PyData.keyHash P (PySem.Str.ofString "self")) (Value.str (PySem.Str.ofString "self") 2424) (Value.ref 902), DictEntry.mk (PyData.keyHash P (PySem.Str.ofString "min_length")) (Value.str (PySem.Str.ofString "min_length") 2425) Value.none, DictEntry.mk (PyData.keyHash P (PySem.Str.ofString "max_length")) (Value.str (PySem.Str.ofString "max_length") 2426) Value.none, DictEntry.mk (PyData.keyHash P (PySem.Str.ofString "allow_empty")) (Value.str (PySem.Str.ofString "allow_empty") 2427) (Value.bool Bool.false)] 4) #[]
noncomputable def r904 (_ : Params) : Obj := Obj.mk (Value.type "tuple") Option.none (Data.seq #[]) #[]
noncomputable def r905 (_ : Params) : Obj := Obj.mk (Value.type "builtin_function_or_method") Option.none (Data.fields #[Value.builtin "type.__prepare__", Value.type "type"]) #[]
noncomputable def r906 (P : Params) : Obj := Obj.mk (Value.type "dict") Option.none (Data.dict #[DictEntry.mk (PyData.keyHash P (PySem.Str.ofString "__module__")) (Value.str (PySem.Str.ofString "__module__") 2447) (Value.str (PySem.Str.ofString "rlp.sedes.boolean") 2438), DictEntry.mk (PyData.keyHash P (PySem.Str.ofString "__qualname__")) (Value.str (PySem.Str.ofString "__qualname__") 2449) (Value.str (PySem.Str.ofString "Boolean") 2448), DictEntry.mk (PyData.keyHash P (PySem.Str.ofString "__firstlineno__")) (Value.str (PySem.Str.ofString "__firstlineno__") 2451) (Value.int 560 2450), DictEntry.mk (PyData.keyHash P (PySem.Str.ofString "serialize")) (Value.str (PySem.Str.ofString "serialize") 2459) (Value.ref 917), DictEntry.mk (PyData.keyHash P (PySem.Str.ofString "deserialize")) (Value.str (PySem.Str.ofString "deserialize") 2467) (Value.ref 924), DictEntry.mk (PyData.keyHash P (PySem.Str.ofString "__static_attributes__")) (Value.str (PySem.Str.ofString "__static_attributes__") 2468) (Value.ref 925)] 6) #[]
noncomputable def r907 (_ : Params) : Obj := Obj.mk (Value.type "tuple") Option.none (Data.seq #[]) #[]
noncomputable def r908 (_ : Params) : Obj := Obj.mk Value.none Option.none (Data.fields #[Value.int 562 0, Value.int 4 0, Value.ref 916, Value.int 572 0, Value.int 4 0, Value.ref 923]) #[]
noncomputable def r909 (_ : Params) : Obj := Obj.mk (Value.type "code") Option.none (Data.fields #[Value.str (PySem.Str.ofString "Boolean") 2442, Value.str (PySem.Str.ofString "Boolean") 2443, Value.str (PySem.Str.ofString "/claim/cut.py") 2444, Value.int 560 0, Value.int 0 0, Value.int 0 0, Value.int 0 0, Value.int 0 0, Value.ref 907, Value.bool Bool.false, Value.int 313 0, Value.ref 908, Value.none, Value.none, Value.none, Value.none, Value.int 2445 0, Value.int 560 0, Value.str (PySem.Str.ofString "/claim/cut.py") 2446]) #[]
noncomputable def r910 (_ : Params) : Obj := Obj.mk (Value.type "frame") Option.none Data.plain #[Option.some (Value.ref 909), Option.some (Value.ref 3), Option.some (Value.ref 906), Option.none, Option.some (Value.str (PySem.Str.ofString "rlp.sedes.boolean") 2438), Option.none, Option.some (Value.ref 0)]
noncomputable def r911 (_ : Params) : Obj := Obj.mk (Value.type "tuple") Option.none (Data.seq #[]) #[]
noncomputable def r912 (_ : Params) : Obj := Obj.mk Value.none Option.none (Data.fields #[]) #[]
noncomputable def r913 (_ : Params) : Obj := Obj.mk (Value.type "tuple") Option.none (Data.seq #[Value.str (PySem.Str.ofString "self") 2455, Value.str (PySem.Str.ofString "obj") 2456]) #[]
noncomputable def r914 (_ : Params) : Obj := Obj.mk (Value.type "tuple") Option.none (Data.seq #[]) #[]
noncomputable def r915 (_ : Params) : Obj := Obj.mk Value.none Option.none (Data.func (FuncData.mk (PySem.Str.ofString "serialize") (PySem.Str.ofString "Boolean.serialize") (hqP (hqAt 37 0)) (FuncBody.stmts (hqB (hqAt 37 0))) (hqS (hqAt 37 0)) 0 [] Value.none Value.none Value.none Value.none Option.none Value.none Value.none 0)) #[]
noncomputable def r916 (_ : Params) : Obj := Obj.mk (Value.type "code") Option.none (Data.fields #[Value.str (PySem.Str.ofString "serialize") 2452, Value.str (PySem.Str.ofString "Boolean.serialize") 2453, Value.str (PySem.Str.ofString "/claim/cut.py") 2454, Value.int 562 0, Value.int 2 0, Value.int 0 0, Value.int 0 0, Value.int 3 0, Value.ref 911, Value.bool Bool.true, Value.int 313 0, Value.ref 912, Value.none, Value.ref 913, Value.ref 914, Value.ref 915, Value.int 2457 0, Value.int 562 0, Value.str (PySem.Str.ofString "/claim/cut.py") 2458]) #[]
noncomputable def r917 (_ : Params) : Obj := Obj.mk (Value.type "function") Option.none (Data.func (FuncData.mk (PySem.Str.ofString "serialize") (PySem.Str.ofString "Boolean.serialize") (hqP (hqAt 37 0)) (FuncBody.stmts (hqB (hqAt 37 0))) (hqS (hqAt 37 0)) 3 [] Value.none Value.none Value.none (Value.str (PySem.Str.ofString "rlp.sedes.boolean") 2438) Option.none (Value.ref 916) Value.none 0)) #[]
noncomputable def r918 (_ : Params) : Obj := Obj.mk (Value.type "tuple") Option.none (Data.seq #[]) #[]
noncomputable def r919 (_ : Params) : Obj := Obj.mk Value.none Option.none (Data.fields #[]) #[]
noncomputable def r920 (_ : Params) : Obj := Obj.mk (Value.type "tuple") Option.none (Data.seq #[Value.str (PySem.Str.ofString "self") 2463, Value.str (PySem.Str.ofString "serial") 2464]) #[]
noncomputable def r921 (_ : Params) : Obj := Obj.mk (Value.type "tuple") Option.none (Data.seq #[]) #[]
noncomputable def r922 (_ : Params) : Obj := Obj.mk Value.none Option.none (Data.func (FuncData.mk (PySem.Str.ofString "deserialize") (PySem.Str.ofString "Boolean.deserialize") (hqP (hqAt 37 1)) (FuncBody.stmts (hqB (hqAt 37 1))) (hqS (hqAt 37 1)) 0 [] Value.none Value.none Value.none Value.none Option.none Value.none Value.none 0)) #[]
noncomputable def r923 (_ : Params) : Obj := Obj.mk (Value.type "code") Option.none (Data.fields #[Value.str (PySem.Str.ofString "deserialize") 2460, Value.str (PySem.Str.ofString "Boolean.deserialize") 2461, Value.str (PySem.Str.ofString "/claim/cut.py") 2462, Value.int 572 0, Value.int 2 0, Value.int 0 0, Value.int 0 0, Value.int 3 0, Value.ref 918, Value.bool Bool.true, Value.int 313 0, Value.ref 919, Value.none, Value.ref 920, Value.ref 921, Value.ref 922, Value.int 2465 0, Value.int 572 0, Value.str (PySem.Str.ofString "/claim/cut.py") 2466]) #[]
noncomputable def r924 (_ : Params) : Obj := Obj.mk (Value.type "function") Option.none (Data.func (FuncData.mk (PySem.Str.ofString "deserialize") (PySem.Str.ofString "Boolean.deserialize") (hqP (hqAt 37 1)) (FuncBody.stmts (hqB (hqAt 37 1))) (hqS (hqAt 37 1)) 3 [] Value.none Value.none Value.none (Value.str (PySem.Str.ofString "rlp.sedes.boolean") 2438) Option.none (Value.ref 923) Value.none 0)) #[]
noncomputable def r925 (_ : Params) : Obj := Obj.mk (Value.type "tuple") Option.none (Data.seq #[]) #[]
noncomputable def r926 (P : Params) : Obj := Obj.mk (Value.type "dict") Option.none (Data.dict #[DictEntry.mk (PyData.keyHash P (PySem.Str.ofString "__module__")) (Value.str (PySem.Str.ofString "__module__") 2447) (Value.str (PySem.Str.ofString "rlp.sedes.boolean") 2438), DictEntry.mk (PyData.keyHash P (PySem.Str.ofString "__firstlineno__")) (Value.str (PySem.Str.ofString "__firstlineno__") 2451) (Value.int 560 2450), DictEntry.mk (PyData.keyHash P (PySem.Str.ofString "serialize")) (Value.str (PySem.Str.ofString "serialize") 2459) (Value.ref 917), DictEntry.mk (PyData.keyHash P (PySem.Str.ofString "deserialize")) (Value.str (PySem.Str.ofString "deserialize") 2467) (Value.ref 924), DictEntry.mk (PyData.keyHash P (PySem.Str.ofString "__static_attributes__")) (Value.str (PySem.Str.ofString "__static_attributes__") 2468) (Value.ref 925), DictEntry.mk (PyData.keyHash P (PySem.Str.ofString "__dict__")) (Value.str (PySem.Str.ofString "__dict__") 2470) (Value.ref 928), DictEntry.mk (PyData.keyHash P (PySem.Str.ofString "__weakref__")) (Value.str (PySem.Str.ofString "__weakref__") 2472) (Value.ref 929), DictEntry.mk (PyData.keyHash P (PySem.Str.ofString "__doc__")) (Value.str (PySem.Str.ofString "__doc__") 2473) Value.none] 4) #[]
noncomputable def r927 (_ : Params) : Obj := Obj.mk (Value.type "type") Option.none (Data.cls (ClassData.mk (PySem.Str.ofString "Boolean") [Value.type "object"] [Value.ref 927, Value.type "object"] 926 (PySem.Str.ofString "Boolean") Bool.true [] [] Bool.false Option.none Bool.false)) #[Option.none, Option.none, Option.some (Value.str (PySem.Str.ofString "Boolean") 2440), Option.some (Value.str (PySem.Str.ofString "Boolean") 2448), Option.some (Value.builtin "object.__new__"), Option.some (Value.bool Bool.true)]
noncomputable def r928 (_ : Params) : Obj := Obj.mk (Value.type "getset_descriptor") Option.none (Data.fields #[Value.str (PySem.Str.ofString "__dict__") 2469, Value.ref 927, Value.builtin "function.__dict__", Value.builtin "function.__dict__#set"]) #[]
noncomputable def r929 (_ : Params) : Obj := Obj.mk (Value.type "getset_descriptor") Option.none (Data.fields #[Value.str (PySem.Str.ofString "__weakref__") 2471, Value.ref 927, Value.builtin "ExceptionGroup.__weakref__", Value.none]) #[]
noncomputable def r930 (_ : Params) : Obj := Obj.mk (Value.type "super") Option.none (Data.fields #[Value.ref 927, Value.ref 927, Value.ref 927]) #[]
noncomputable def r931 (_ : Params) : Obj := Obj.mk (Value.type "builtin_function_or_method") Option.none (Data.fields #[Value.builtin "object.__init_subclass__", Value.ref 927]) #[]
noncomputable def r932 (_ : Params) : Obj := Obj.mk (Value.type "dict") Option.none (Data.dict #[]) #[]
noncomputable def r933 (_ : Params) : Obj := Obj.mk (Value.ref 927) (Option.some 932) Data.plain #[]
noncomputable def r934 (_ : Params) : Obj := Obj.mk (Value.type "tuple") Option.none (Data.seq #[]) #[]
noncomputable def r935 (_ : Params) : Obj := Obj.mk Value.none Option.none (Data.fields #[]) #[]
noncomputable def r936 (_ : Params) : Obj := Obj.mk (Value.type "tuple") Option.none (Data.seq #[Value.str (PySem.Str.ofString "obj") 2482]) #[]
noncomputable def r937 (_ : Params) : Obj := Obj.mk (Value.type "tuple") Option.none (Data.seq #[]) #[]
noncomputable def r938 (_ : Params) : Obj := Obj.mk Value.none Option.none (Data.func (FuncData.mk (PySem.Str.ofString "is_sedes") (PySem.Str.ofString "is_sedes") (hqP (hqSt 40)) (FuncBody.stmts (hqB (hqSt 40))) (hqS (hqSt 40)) 0 [] Value.none Value.none Value.none Value.none Option.none Value.none Value.none 0)) #[]
noncomputable def r939 (_ : Params) : Obj := Obj.mk (Value.type "code") Option.none (Data.fields #[Value.str (PySem.Str.ofString "is_sedes") 2479, Value.str (PySem.Str.ofString "is_sedes") 2480, Value.str (PySem.Str.ofString "/claim/cut.py") 2481, Value.int 581 0, Value.int 1 0, Value.int 0 0, Value.int 0 0, Value.int 3 0, Value.ref 934, Value.bool Bool.true, Value.int 313 0, Value.ref 935, Value.none, Value.ref 936, Value.ref 937, Value.ref 938, Value.int 2483 0, Value.int 581 0, Value.str (PySem.Str.ofString "/claim/cut.py") 2484]) #[]
noncomputable def r940 (_ : Params) : Obj := Obj.mk (Value.type "function") Option.none (Data.func (FuncData.mk (PySem.Str.ofString "is_sedes") (PySem.Str.ofString "is_sedes") (hqP (hqSt 40)) (FuncBody.stmts (hqB (hqSt 40))) (hqS (hqSt 40)) 3 [] Value.none Value.none Value.none (Value.str (PySem.Str.ofString "rlp.sedes.lists") 2477) Option.none (Value.ref 939) Value.none 0)) #[]
noncomputable def r941 (_ : Params) : Obj := Obj.mk (Value.type "tuple") Option.none (Data.seq #[]) #[]
noncomputable def r942 (_ : Params) : Obj := Obj.mk Value.none Option.none (Data.fields #[]) #[]
noncomputable def r943 (_ : Params) : Obj := Obj.mk (Value.type "tuple") Option.none (Data.seq #[Value.str (PySem.Str.ofString "obj") 2489]) #[]
noncomputable def r944 (_ : Params) : Obj := Obj.mk (Value.type "tuple") Option.none (Data.seq #[]) #[]
noncomputable def r945 (_ : Params) : Obj := Obj.mk Value.none Option.none (Data.func (FuncData.mk (PySem.Str.ofString "is_sequence") (PySem.Str.ofString "is_sequence") (hqP (hqSt 41)) (FuncBody.stmts (hqB (hqSt 41))) (hqS (hqSt 41)) 0 [] Value.none Value.none Value.none Value.none Option.none Value.none Value.none 0)) #[]
noncomputable def r946 (_ : Params) : Obj := Obj.mk (Value.type "code") Option.none (Data.fields #[Value.str (PySem.Str.ofString "is_sequence") 2486, Value.str (PySem.Str.ofString "is_sequence") 2487, Value.str (PySem.Str.ofString "/claim/cut.py") 2488, Value.int 583 0, Value.int 1 0, Value.int 0 0, Value.int 0 0, Value.int 3 0, Value.ref 941, Value.bool Bool.true, Value.int 313 0, Value.ref 942, Value.none, Value.ref 943, Value.ref 944, Value.ref 945, Value.int 2490 0, Value.int 583 0, Value.str (PySem.Str.ofString "/claim/cut.py") 2491]) #[]
noncomputable def r947 (_ : Params) : Obj := Obj.mk (Value.type "function") Option.none (Data.func (FuncData.mk (PySem.Str.ofString "is_sequence") (PySem.Str.ofString "is_sequence") (hqP (hqSt 41)) (FuncBody.stmts (hqB (hqSt 41))) (hqS (hqSt 41)) 3 [] Value.none Value.none Value.none (Value.str (PySem.Str.ofString "rlp.sedes.lists") 2477) Option.none (Value.ref 946) Value.none 0)) #[]
noncomputable def r948 (_ : Params) : Obj := Obj.mk (Value.type "tuple") Option.none (Data.seq #[Value.type "list"]) #[]
noncomputable def r949 (_ : Params) : Obj := Obj.mk (Value.type "builtin_function_or_method") Option.none (Data.fields #[Value.builtin "type.__prepare__", Value.type "type"]) #[]
noncomputable def r950 (P : Params) : Obj := Obj.mk (Value.type "dict") Option.none (Data.dict #[DictEntry.mk (PyData.keyHash P (PySem.Str.ofString "__module__")) (Value.str (PySem.Str.ofString "__module__") 2500) (Value.str (PySem.Str.ofString "rlp.sedes.lists") 2477), DictEntry.mk (PyData.keyHash P (PySem.Str.ofString "__qualname__")) (Value.str (PySem.Str.ofString "__qualname__") 2502) (Value.str (PySem.Str.ofString "List") 2501), DictEntry.mk (PyData.keyHash P (PySem.Str.ofString "__firstlineno__")) (Value.str (PySem.Str.ofString "__firstlineno__") 2504) (Value.int 585 2503), DictEntry.mk (PyData.keyHash P (PySem.Str.ofString "__init__")) (Value.str (PySem.Str.ofString "__init__") 2515) (Value.ref 964), DictEntry.mk (PyData.keyHash P (PySem.Str.ofString "serialize")) (Value.str (PySem.Str.ofString "serialize") 2528) (Value.ref 971), DictEntry.mk (PyData.keyHash P (PySem.Str.ofString "deserialize")) (Value.str (PySem.Str.ofString "deserialize") 2541) (Value.ref 978), DictEntry.mk (PyData.keyHash P (PySem.Str.ofString "__static_attributes__")) (Value.str (PySem.Str.ofString "__static_attributes__") 2543) (Value.ref 979), DictEntry.mk (PyData.keyHash P (PySem.Str.ofString "__classcell__")) (Value.str (PySem.Str.ofString "__classcell__") 2544) (Value.ref 951)] 8) #[]
noncomputable def r951 (_ : Params) : Obj := Obj.mk (Value.type "cell") Option.none (Data.cell (Option.some (Value.ref 981))) #[]
noncomputable def r952 (_ : Params) : Obj := Obj.mk (Value.type "tuple") Option.none (Data.seq #[]) #[]
noncomputable def r953 (_ : Params) : Obj := Obj.mk Value.none Option.none (Data.fields #[Value.int 587 0, Value.int 4 0, Value.ref 963, Value.int 599 0, Value.int 4 0, Value.ref 970, Value.int 612 0, Value.int 4 0, Value.ref 977]) #[]
noncomputable def r954 (_ : Params) : Obj := Obj.mk (Value.type "code") Option.none (Data.fields #[Value.str (PySem.Str.ofString "List") 2495, Value.str (PySem.Str.ofString "List") 2496, Value.str (PySem.Str.ofString "/claim/cut.py") 2497, Value.int 585 0, Value.int 0 0, Value.int 0 0, Value.int 0 0, Value.int 0 0, Value.ref 952, Value.bool Bool.false, Value.int 313 0, Value.ref 953, Value.none, Value.none, Value.none, Value.none, Value.int 2498 0, Value.int 585 0, Value.str (PySem.Str.ofString "/claim/cut.py") 2499]) #[]
noncomputable def r955 (_ : Params) : Obj := Obj.mk (Value.type "frame") Option.none Data.plain #[Option.some (Value.ref 954), Option.some (Value.ref 3), Option.some (Value.ref 950), Option.none, Option.some (Value.str (PySem.Str.ofString "rlp.sedes.lists") 2477), Option.none, Option.some (Value.ref 0)]
noncomputable def r956 (_ : Params) : Obj := Obj.mk (Value.type "tuple") Option.none (Data.seq #[Value.none, Value.bool Bool.true]) #[]
noncomputable def r957 (_ : Params) : Obj := Obj.mk (Value.type "tuple") Option.none (Data.seq #[Value.ref 951]) #[]
noncomputable def r958 (_ : Params) : Obj := Obj.mk (Value.type "tuple") Option.none (Data.seq #[Value.str (PySem.Str.ofString "__class__") 2508]) #[]
noncomputable def r959 (_ : Params) : Obj := Obj.mk Value.none Option.none (Data.fields #[]) #[]
noncomputable def r960 (_ : Params) : Obj := Obj.mk (Value.type "tuple") Option.none (Data.seq #[Value.str (PySem.Str.ofString "self") 2509, Value.str (PySem.Str.ofString "elements") 2510, Value.str (PySem.Str.ofString "strict") 2511, Value.str (PySem.Str.ofString "e") 2512]) #[]
noncomputable def r961 (_ : Params) : Obj := Obj.mk (Value.type "tuple") Option.none (Data.seq #[]) #[]
noncomputable def r962 (_ : Params) : Obj := Obj.mk Value.none Option.none (Data.func (FuncData.mk (PySem.Str.ofString "__init__") (PySem.Str.ofString "List.__init__") (hqP (hqAt 42 0)) (FuncBody.stmts (hqB (hqAt 42 0))) (hqS (hqAt 42 0)) 0 [] Value.none Value.none Value.none Value.none Option.none Value.none Value.none 0)) #[]
noncomputable def r963 (_ : Params) : Obj := Obj.mk (Value.type "code") Option.none (Data.fields #[Value.str (PySem.Str.ofString "__init__") 2505, Value.str (PySem.Str.ofString "List.__init__") 2506, Value.str (PySem.Str.ofString "/claim/cut.py") 2507, Value.int 587 0, Value.int 3 0, Value.int 0 0, Value.int 0 0, Value.int 3 0, Value.ref 958, Value.bool Bool.true, Value.int 313 0, Value.ref 959, Value.none, Value.ref 960, Value.ref 961, Value.ref 962, Value.int 2513 0, Value.int 587 0, Value.str (PySem.Str.ofString "/claim/cut.py") 2514]) #[]
noncomputable def r964 (_ : Params) : Obj := Obj.mk (Value.type "function") Option.none (Data.func (FuncData.mk (PySem.Str.ofString "__init__") (PySem.Str.ofString "List.__init__") (hqP (hqAt 42 0)) (FuncBody.stmts (hqB (hqAt 42 0))) (hqS (hqAt 42 0)) 3 [(PySem.Str.ofString "__class__", 951)] (Value.ref 956) Value.none Value.none (Value.str (PySem.Str.ofString "rlp.sedes.lists") 2477) Option.none (Value.ref 963) (Value.ref 957) 0)) #[]
noncomputable def r965 (_ : Params) : Obj := Obj.mk (Value.type "tuple") Option.none (Data.seq #[]) #[]
noncomputable def r966 (_ : Params) : Obj := Obj.mk Value.none Option.none (Data.fields #[]) #[]
noncomputable def r967 (_ : Params) : Obj := Obj.mk (Value.type "tuple") Option.none (Data.seq #[Value.str (PySem.Str.ofString "self") 2519, Value.str (PySem.Str.ofString "obj") 2520, Value.str (PySem.Str.ofString "found") 2521, Value.str (PySem.Str.ofString "index") 2522, Value.str (PySem.Str.ofString "element") 2523, Value.str (PySem.Str.ofString "sedes") 2524, Value.str (PySem.Str.ofString "e") 2525]) #[]
noncomputable def r968 (_ : Params) : Obj := Obj.mk (Value.type "tuple") Option.none (Data.seq #[]) #[]
noncomputable def r969 (_ : Params) : Obj := Obj.mk Value.none Option.none (Data.func (FuncData.mk (PySem.Str.ofString "serialize") (PySem.Str.ofString "List.serialize") (hqP (hqAt 42 1)) (FuncBody.stmts (hqB (hqAt 42 1))) (hqS (hqAt 42 1)) 0 [] Value.none Value.none Value.none Value.none Option.none Value.none Value.none 0)) #[]
noncomputable def r970 (_ : Params) : Obj := Obj.mk (Value.type "code") Option.none (Data.fields #[Value.str (PySem.Str.ofString "serialize") 2516, Value.str (PySem.Str.ofString "List.serialize") 2517, Value.str (PySem.Str.ofString "/claim/cut.py") 2518, Value.int 599 0, Value.int 2 0, Value.int 0 0, Value.int 0 0, Value.int 3 0, Value.ref 965, Value.bool Bool.true, Value.int 313 0, Value.ref 966, Value.none, Value.ref 967, Value.ref 968, Value.ref 969, Value.int 2526 0, Value.int 599 0, Value.str (PySem.Str.ofString "/claim/cut.py") 2527]) #[]
noncomputable def r971 (_ : Params) : Obj := Obj.mk (Value.type "function") Option.none (Data.func (FuncData.mk (PySem.Str.ofString "serialize") (PySem.Str.ofString "List.serialize") (hqP (hqAt 42 1)) (FuncBody.stmts (hqB (hqAt 42 1))) (hqS (hqAt 42 1)) 3 [] Value.none Value.none Value.none (Value.str (PySem.Str.ofString "rlp.sedes.lists") 2477) Option.none (Value.ref 970) Value.none 0)) #[]
noncomputable def r972 (_ : Params) : Obj := Obj.mk (Value.type "tuple") Option.none (Data.seq #[]) #[]
noncomputable def r973 (_ : Params) : Obj := Obj.mk Value.none Option.none (Data.fields #[]) #[]
noncomputable def r974 (_ : Params) : Obj := Obj.mk (Value.type "tuple") Option.none (Data.seq #[Value.str (PySem.Str.ofString "self") 2532, Value.str (PySem.Str.ofString "serial") 2533, Value.str (PySem.Str.ofString "found") 2534, Value.str (PySem.Str.ofString "idx") 2535, Value.str (PySem.Str.ofString "sedes") 2536, Value.str (PySem.Str.ofString "element") 2537, Value.str (PySem.Str.ofString "e") 2538]) #[]
noncomputable def r975 (_ : Params) : Obj := Obj.mk (Value.type "tuple") Option.none (Data.seq #[]) #[]
noncomputable def r976 (_ : Params) : Obj := Obj.mk Value.none Option.none (Data.func (FuncData.mk (PySem.Str.ofString "deserialize") (PySem.Str.ofString "List.deserialize") (hqP (hqAt 42 2)) (FuncBody.stmts (hqB (hqAt 42 2))) (hqS (hqAt 42 2)) 0 [] Value.none Value.none Value.none Value.none Option.none Value.none Value.none 0)) #[]
noncomputable def r977 (_ : Params) : Obj := Obj.mk (Value.type "code") Option.none (Data.fields #[Value.str (PySem.Str.ofString "deserialize") 2529, Value.str (PySem.Str.ofString "List.deserialize") 2530, Value.str (PySem.Str.ofString "/claim/cut.py") 2531, Value.int 612 0, Value.int 2 0, Value.int 0 0, Value.int 0 0, Value.int 3 0, Value.ref 972, Value.bool Bool.true, Value.int 313 0, Value.ref 973, Value.none, Value.ref 974, Value.ref 975, Value.ref 976, Value.int 2539 0, Value.int 612 0, Value.str (PySem.Str.ofString "/claim/cut.py") 2540]) #[]
noncomputable def r978 (_ : Params) : Obj := Obj.mk (Value.type "function") Option.none (Data.func (FuncData.mk (PySem.Str.ofString "deserialize") (PySem.Str.ofString "List.deserialize") (hqP (hqAt 42 2)) (FuncBody.stmts (hqB (hqAt 42 2))) (hqS (hqAt 42 2)) 3 [] Value.none Value.none Value.none (Value.str (PySem.Str.ofString "rlp.sedes.lists") 2477) Option.none (Value.ref 977) Value.none 0)) #[]
noncomputable def r979 (_ : Params) : Obj := Obj.mk (Value.type "tuple") Option.none (Data.seq #[Value.str (PySem.Str.ofString "strict") 2542]) #[]
noncomputable def r980 (P : Params) : Obj := Obj.mk (Value.type "dict") Option.none (Data.dict #[DictEntry.mk (PyData.keyHash P (PySem.Str.ofString "__module__")) (Value.str (PySem.Str.ofString "__module__") 2500) (Value.str (PySem.Str.ofString "rlp.sedes.lists") 2477), DictEntry.mk (PyData.keyHash P (PySem.Str.ofString "__firstlineno__")) (Value.str (PySem.Str.ofString "__firstlineno__") 2504) (Value.int 585 2503), DictEntry.mk (PyData.keyHash P (PySem.Str.ofString "__init__")) (Value.str (PySem.Str.ofString "__init__") 2515) (Value.ref 964), DictEntry.mk (PyData.keyHash P (PySem.Str.ofString "serialize")) (Value.str (PySem.Str.ofString "serialize") 2528) (Value.ref 971), DictEntry.mk (PyData.keyHash P (PySem.Str.ofString "deserialize")) (Value.str (PySem.Str.ofString "deserialize") 2541) (Value.ref 978), DictEntry.mk (PyData.keyHash P (PySem.Str.ofString "__static_attributes__")) (Value.str (PySem.Str.ofString "__static_attributes__") 2543) (Value.ref 979), DictEntry.mk (PyData.keyHash P (PySem.Str.ofString "__dict__")) (Value.str (PySem.Str.ofString "__dict__") 2546) (Value.ref 982), DictEntry.mk (PyData.keyHash P (PySem.Str.ofString "__weakref__")) (Value.str (PySem.Str.ofString "__weakref__") 2548) (Value.ref 983), DictEntry.mk (PyData.keyHash P (PySem.Str.ofString "__doc__")) (Value.str (PySem.Str.ofString "__doc__") 2549) Value.none] 5) #[]
noncomputable def r981 (_ : Params) : Obj := Obj.mk (Value.type "type") Option.none (Data.cls (ClassData.mk (PySem.Str.ofString "List") [Value.type "list"] [Value.ref 981, Value.type "list", Value.type "object"] 980 (PySem.Str.ofString "List") Bool.true [] [] Bool.false Option.none Bool.false)) #[Option.some (Value.ref 948), Option.none, Option.some (Value.str (PySem.Str.ofString "List") 2493), Option.some (Value.str (PySem.Str.ofString "List") 2501), Option.some (Value.builtin "list.__new__"), Option.some (Value.bool Bool.true)]
noncomputable def r982 (_ : Params) : Obj := Obj.mk (Value.type "getset_descriptor") Option.none (Data.fields #[Value.str (PySem.Str.ofString "__dict__") 2545, Value.ref 981, Value.builtin "function.__dict__", Value.builtin "function.__dict__#set"]) #[]
noncomputable def r983 (_ : Params) : Obj := Obj.mk (Value.type "getset_descriptor") Option.none (Data.fields #[Value.str (PySem.Str.ofString "__weakref__") 2547, Value.ref 981, Value.builtin "ExceptionGroup.__weakref__", Value.none]) #[]
noncomputable def r984 (_ : Params) : Obj := Obj.mk (Value.type "super") Option.none (Data.fields #[Value.ref 981, Value.ref 981, Value.ref 981]) #[]
noncomputable def r985 (_ : Params) : Obj := Obj.mk (Value.type "builtin_function_or_method") Option.none (Data.fields #[Value.builtin "object.__init_subclass__", Value.ref 981]) #[]
noncomputable def r986 (_ : Params) : Obj := Obj.mk (Value.type "tuple") Option.none (Data.seq #[]) #[]
noncomputable def r987 (_ : Params) : Obj := Obj.mk Value.none Option.none (Data.fields #[]) #[]
noncomputable def r988 (_ : Params) : Obj := Obj.mk (Value.type "tuple") Option.none (Data.seq #[Value.str (PySem.Str.ofString "item") 2557, Value.str (PySem.Str.ofString "payload") 2558, Value.str (PySem.Str.ofString "prefix_offset") 2559, Value.str (PySem.Str.ofString "msg") 2560, Value.str (PySem.Str.ofString "prefix") 2561]) #[]
noncomputable def r989 (_ : Params) : Obj := Obj.mk (Value.type "tuple") Option.none (Data.seq #[]) #[]
noncomputable def r990 (_ : Params) : Obj := Obj.mk Value.none Option.none (Data.func (FuncData.mk (PySem.Str.ofString "encode_raw") (PySem.Str.ofString "encode_raw") (hqP (hqSt 44)) (FuncBody.stmts (hqB (hqSt 44))) (hqS (hqSt 44)) 0 [] Value.none Value.none Value.none Value.none Option.none Value.none Value.none 0)) #[]
noncomputable def r991 (_ : Params) : Obj := Obj.mk (Value.type "code") Option.none (Data.fields #[Value.str (PySem.Str.ofString "encode_raw") 2554, Value.str (PySem.Str.ofString "encode_raw") 2555, Value.str (PySem.Str.ofString "/claim/cut.py") 2556, Value.int 625 0, Value.int 1 0, Value.int 0 0, Value.int 0 0, Value.int 3 0, Value.ref 986, Value.bool Bool.true, Value.int 313 0, Value.ref 987, Value.none, Value.ref 988, Value.ref 989, Value.ref 990, Value.int 2562 0, Value.int 625 0, Value.str (PySem.Str.ofString "/claim/cut.py") 2563]) #[]
noncomputable def r992 (_ : Params) : Obj := Obj.mk (Value.type "function") Option.none (Data.func (FuncData.mk (PySem.Str.ofString "encode_raw") (PySem.Str.ofString "encode_raw") (hqP (hqSt 44)) (FuncBody.stmts (hqB (hqSt 44))) (hqS (hqSt 44)) 3 [] Value.none Value.none Value.none (Value.str (PySem.Str.ofString "rlp.codec") 2552) Option.none (Value.ref 991) Value.none 0)) #[]
noncomputable def r993 (_ : Params) : Obj := Obj.mk (Value.type "tuple") Option.none (Data.seq #[]) #[]
noncomputable def r994 (_ : Params) : Obj := Obj.mk Value.none Option.none (Data.fields #[]) #[]
noncomputable def r995 (_ : Params) : Obj := Obj.mk (Value.type "tuple") Option.none (Data.seq #[Value.str (PySem.Str.ofString "item") 2568, Value.str (PySem.Str.ofString "strict") 2569, Value.str (PySem.Str.ofString "_") 2570, Value.str (PySem.Str.ofString "result") 2571, Value.str (PySem.Str.ofString "per_item_rlp") 2572, Value.str (PySem.Str.ofString "end") 2573, Value.str (PySem.Str.ofString "msg") 2574]) #[]
noncomputable def r996 (_ : Params) : Obj := Obj.mk (Value.type "tuple") Option.none (Data.seq #[]) #[]
noncomputable def r997 (_ : Params) : Obj := Obj.mk Value.none Option.none (Data.func (FuncData.mk (PySem.Str.ofString "decode_raw") (PySem.Str.ofString "decode_raw") (hqP (hqSt 45)) (FuncBody.stmts (hqB (hqSt 45))) (hqS (hqSt 45)) 0 [] Value.none Value.none Value.none Value.none Option.none Value.none Value.none 0)) #[]
noncomputable def r998 (_ : Params) : Obj := Obj.mk (Value.type "code") Option.none (Data.fields #[Value.str (PySem.Str.ofString "decode_raw") 2565, Value.str (PySem.Str.ofString "decode_raw") 2566, Value.str (PySem.Str.ofString "/claim/cut.py") 2567, Value.int 642 0, Value.int 3 0, Value.int 0 0, Value.int 0 0, Value.int 3 0, Value.ref 993, Value.bool Bool.true, Value.int 313 0, Value.ref 994, Value.none, Value.ref 995, Value.ref 996, Value.ref 997, Value.int 2575 0, Value.int 642 0, Value.str (PySem.Str.ofString "/claim/cut.py") 2576]) #[]
noncomputable def r999 (_ : Params) : Obj := Obj.mk (Value.type "function") Option.none (Data.func (FuncData.mk (PySem.Str.ofString "decode_raw") (PySem.Str.ofString "decode_raw") (hqP (hqSt 45)) (FuncBody.stmts (hqB (hqSt 45))) (hqS (hqSt 45)) 3 [] Value.none Value.none Value.none (Value.str (PySem.Str.ofString "rlp.codec") 2552) Option.none (Value.ref 998) Value.none 0)) #[]
noncomputable def r1000 (_ : Params) : Obj := Obj.mk (Value.type "tuple") Option.none (Data.seq #[Value.none, Value.bool Bool.true, Value.bool Bool.true]) #[]
noncomputable def r1001 (_ : Params) : Obj := Obj.mk (Value.type "tuple") Option.none (Data.seq #[]) #[]
noncomputable def r1002 (_ : Params) : Obj := Obj.mk Value.none Option.none (Data.fields #[]) #[]
noncomputable def r1003 (_ : Params) : Obj := Obj.mk (Value.type "tuple") Option.none (Data.seq #[Value.str (PySem.Str.ofString "obj") 2581, Value.str (PySem.Str.ofString "sedes") 2582, Value.str (PySem.Str.ofString "infer_serializer") 2583, Value.str (PySem.Str.ofString "cache") 2584, Value.str (PySem.Str.ofString "item") 2585, Value.str (PySem.Str.ofString "result") 2586]) #[]
noncomputable def r1004 (_ : Params) : Obj := Obj.mk (Value.type "tuple") Option.none (Data.seq #[]) #[]
noncomputable def r1005 (_ : Params) : Obj := Obj.mk Value.none Option.none (Data.func (FuncData.mk (PySem.Str.ofString "encode") (PySem.Str.ofString "encode") (hqP (hqSt 46)) (FuncBody.stmts (hqB (hqSt 46))) (hqS (hqSt 46)) 0 [] Value.none Value.none Value.none Value.none Option.none Value.none Value.none 0)) #[]
noncomputable def r1006 (_ : Params) : Obj := Obj.mk (Value.type "code") Option.none (Data.fields #[Value.str (PySem.Str.ofString "encode") 2578, Value.str (PySem.Str.ofString "encode") 2579, Value.str (PySem.Str.ofString "/claim/cut.py") 2580, Value.int 651 0, Value.int 4 0, Value.int 0 0, Value.int 0 0, Value.int 3 0, Value.ref 1001, Value.bool Bool.true, Value.int 313 0, Value.ref 1002, Value.none, Value.ref 1003, Value.ref 1004, Value.ref 1005, Value.int 2587 0, Value.int 651 0, Value.str (PySem.Str.ofString "/claim/cut.py") 2588]) #[]
noncomputable def r1007 (_ : Params) : Obj := Obj.mk (Value.type "function") Option.none (Data.func (FuncData.mk (PySem.Str.ofString "encode") (PySem.Str.ofString "encode") (hqP (hqSt 46)) (FuncBody.stmts (hqB (hqSt 46))) (hqS (hqSt 46)) 3 [] (Value.ref 1000) Value.none Value.none (Value.str (PySem.Str.ofString "rlp.codec") 2552) Option.none (Value.ref 1006) Value.none 0)) #[]
noncomputable def r1008 (_ : Params) : Obj := Obj.mk (Value.type "tuple") Option.none (Data.seq #[]) #[]
noncomputable def r1009 (_ : Params) : Obj := Obj.mk Value.none Option.none (Data.fields #[]) #[]
noncomputable def r1010 (_ : Params) : Obj := Obj.mk (Value.type "tuple") Option.none (Data.seq #[Value.str (PySem.Str.ofString "length") 2597, Value.str (PySem.Str.ofString "offset") 2598, Value.str (PySem.Str.ofString "length_string") 2599]) #[]
noncomputable def r1011 (_ : Params) : Obj := Obj.mk (Value.type "tuple") Option.none (Data.seq #[]) #[]
noncomputable def r1012 (_ : Params) : Obj := Obj.mk Value.none Option.none (Data.func (FuncData.mk (PySem.Str.ofString "length_prefix") (PySem.Str.ofString "length_prefix") (hqP (hqSt 48)) (FuncBody.stmts (hqB (hqSt 48))) (hqS (hqSt 48)) 0 [] Value.none Value.none Value.none Value.none Option.none Value.none Value.none 0)) #[]
noncomputable def r1013 (_ : Params) : Obj := Obj.mk (Value.type "code") Option.none (Data.fields #[Value.str (PySem.Str.ofString "length_prefix") 2594, Value.str (PySem.Str.ofString "length_prefix") 2595, Value.str (PySem.Str.ofString "/claim/cut.py") 2596, Value.int 661 0, Value.int 2 0, Value.int 0 0, Value.int 0 0, Value.int 3 0, Value.ref 1008, Value.bool Bool.true, Value.int 313 0, Value.ref 1009, Value.none, Value.ref 1010, Value.ref 1011, Value.ref 1012, Value.int 2600 0, Value.int 661 0, Value.str (PySem.Str.ofString "/claim/cut.py") 2601]) #[]
noncomputable def r1014 (_ : Params) : Obj := Obj.mk (Value.type "function") Option.none (Data.func (FuncData.mk (PySem.Str.ofString "length_prefix") (PySem.Str.ofString "length_prefix") (hqP (hqSt 48)) (FuncBody.stmts (hqB (hqSt 48))) (hqS (hqSt 48)) 3 [] Value.none Value.none Value.none (Value.str (PySem.Str.ofString "rlp.codec") 2552) Option.none (Value.ref 1013) Value.none 0)) #[]
noncomputable def r1015 (_ : Params) : Obj := Obj.mk (Value.type "tuple") Option.none (Data.seq #[]) #[]
noncomputable def r1016 (_ : Params) : Obj := Obj.mk Value.none Option.none (Data.fields #[]) #[]
noncomputable def r1017 (_ : Params) : Obj := Obj.mk (Value.type "tuple") Option.none (Data.seq #[Value.str (PySem.Str.ofString "rlp") 2610, Value.str (PySem.Str.ofString "start") 2611, Value.str (PySem.Str.ofString "b0") 2612, Value.str (PySem.Str.ofString "ll") 2613, Value.str (PySem.Str.ofString "len_prefix") 2614, Value.str (PySem.Str.ofString "l") 2615]) #[]
noncomputable def r1018 (_ : Params) : Obj := Obj.mk (Value.type "tuple") Option.none (Data.seq #[]) #[]
noncomputable def r1019 (_ : Params) : Obj := Obj.mk Value.none Option.none (Data.func (FuncData.mk (PySem.Str.ofString "consume_length_prefix") (PySem.Str.ofString "consume_length_prefix") (hqP (hqSt 50)) (FuncBody.stmts (hqB (hqSt 50))) (hqS (hqSt 50)) 0 [] Value.none Value.none Value.none Value.none Option.none Value.none Value.none 0)) #[]
noncomputable def r1020 (_ : Params) : Obj := Obj.mk (Value.type "code") Option.none (Data.fields #[Value.str (PySem.Str.ofString "consume_length_prefix") 2607, Value.str (PySem.Str.ofString "consume_length_prefix") 2608, Value.str (PySem.Str.ofString "/claim/cut.py") 2609, Value.int 670 0, Value.int 2 0, Value.int 0 0, Value.int 0 0, Value.int 3 0, Value.ref 1015, Value.bool Bool.true, Value.int 313 0, Value.ref 1016, Value.none, Value.ref 1017, Value.ref 1018, Value.ref 1019, Value.int 2616 0, Value.int 670 0, Value.str (PySem.Str.ofString "/claim/cut.py") 2617]) #[]
noncomputable def r1021 (_ : Params) : Obj := Obj.mk (Value.type "function") Option.none (Data.func (FuncData.mk (PySem.Str.ofString "consume_length_prefix") (PySem.Str.ofString "consume_length_prefix") (hqP (hqSt 50)) (FuncBody.stmts (hqB (hqSt 50))) (hqS (hqSt 50)) 3 [] Value.none Value.none Value.none (Value.str (PySem.Str.ofString "rlp.codec") 2552) Option.none (Value.ref 1020) Value.none 0)) #[]
noncomputable def r1022 (_ : Params) : Obj := Obj.mk (Value.type "tuple") Option.none (Data.seq #[]) #[]
noncomputable def r1023 (_ : Params) : Obj := Obj.mk Value.none Option.none (Data.fields #[]) #[]
noncomputable def r1024 (_ : Params) : Obj := Obj.mk (Value.type "tuple") Option.none (Data.seq #[Value.str (PySem.Str.ofString "rlp") 2622, Value.str (PySem.Str.ofString "prefix") 2623, Value.str (PySem.Str.ofString "start") 2624, Value.str (PySem.Str.ofString "type_") 2625, Value.str (PySem.Str.ofString "length") 2626, Value.str (PySem.Str.ofString "item") 2627, Value.str (PySem.Str.ofString "items") 2628, Value.str (PySem.Str.ofString "per_item_rlp") 2629, Value.str (PySem.Str.ofString "list_rlp") 2630, Value.str (PySem.Str.ofString "next_item_start") 2631, Value.str (PySem.Str.ofString "end") 2632, Value.str (PySem.Str.ofString "p") 2633, Value.str (PySem.Str.ofString "t") 2634, Value.str (PySem.Str.ofString "l") 2635, Value.str (PySem.Str.ofString "s") 2636, Value.str (PySem.Str.ofString "item_rlp") 2637]) #[]
noncomputable def r1025 (_ : Params) : Obj := Obj.mk (Value.type "tuple") Option.none (Data.seq #[]) #[]
noncomputable def r1026 (_ : Params) : Obj := Obj.mk Value.none Option.none (Data.func (FuncData.mk (PySem.Str.ofString "consume_payload") (PySem.Str.ofString "consume_payload") (hqP (hqSt 51)) (FuncBody.stmts (hqB (hqSt 51))) (hqS (hqSt 51)) 0 [] Value.none Value.none Value.none Value.none Option.none Value.none Value.none 0)) #[]
noncomputable def r1027 (_ : Params) : Obj := Obj.mk (Value.type "code") Option.none (Data.fields #[Value.str (PySem.Str.ofString "consume_payload") 2619, Value.str (PySem.Str.ofString "consume_payload") 2620, Value.str (PySem.Str.ofString "/claim/cut.py") 2621, Value.int 698 0, Value.int 5 0, Value.int 0 0, Value.int 0 0, Value.int 3 0, Value.ref 1022, Value.bool Bool.true, Value.int 313 0, Value.ref 1023, Value.none, Value.ref 1024, Value.ref 1025, Value.ref 1026, Value.int 2638 0, Value.int 698 0, Value.str (PySem.Str.ofString "/claim/cut.py") 2639]) #[]
noncomputable def r1028 (_ : Params) : Obj := Obj.mk (Value.type "function") Option.none (Data.func (FuncData.mk (PySem.Str.ofString "consume_payload") (PySem.Str.ofString "consume_payload") (hqP (hqSt 51)) (FuncBody.stmts (hqB (hqSt 51))) (hqS (hqSt 51)) 3 [] Value.none Value.none Value.none (Value.str (PySem.Str.ofString "rlp.codec") 2552) Option.none (Value.ref 1027) Value.none 0)) #[]
noncomputable def r1029 (_ : Params) : Obj := Obj.mk (Value.type "tuple") Option.none (Data.seq #[]) #[]
noncomputable def r1030 (_ : Params) : Obj := Obj.mk Value.none Option.none (Data.fields #[]) #[]
noncomputable def r1031 (_ : Params) : Obj := Obj.mk (Value.type "tuple") Option.none (Data.seq #[Value.str (PySem.Str.ofString "rlp") 2644, Value.str (PySem.Str.ofString "start") 2645, Value.str (PySem.Str.ofString "p") 2646, Value.str (PySem.Str.ofString "t") 2647, Value.str (PySem.Str.ofString "l") 2648, Value.str (PySem.Str.ofString "s") 2649]) #[]
noncomputable def r1032 (_ : Params) : Obj := Obj.mk (Value.type "tuple") Option.none (Data.seq #[]) #[]
noncomputable def r1033 (_ : Params) : Obj := Obj.mk Value.none Option.none (Data.func (FuncData.mk (PySem.Str.ofString "consume_item") (PySem.Str.ofString "consume_item") (hqP (hqSt 52)) (FuncBody.stmts (hqB (hqSt 52))) (hqS (hqSt 52)) 0 [] Value.none Value.none Value.none Value.none Option.none Value.none Value.none 0)) #[]
noncomputable def r1034 (_ : Params) : Obj := Obj.mk (Value.type "code") Option.none (Data.fields #[Value.str (PySem.Str.ofString "consume_item") 2641, Value.str (PySem.Str.ofString "consume_item") 2642, Value.str (PySem.Str.ofString "/claim/cut.py") 2643, Value.int 720 0, Value.int 2 0, Value.int 0 0, Value.int 0 0, Value.int 3 0, Value.ref 1029, Value.bool Bool.true, Value.int 313 0, Value.ref 1030, Value.none, Value.ref 1031, Value.ref 1032, Value.ref 1033, Value.int 2650 0, Value.int 720 0, Value.str (PySem.Str.ofString "/claim/cut.py") 2651]) #[]
noncomputable def r1035 (_ : Params) : Obj := Obj.mk (Value.type "function") Option.none (Data.func (FuncData.mk (PySem.Str.ofString "consume_item") (PySem.Str.ofString "consume_item") (hqP (hqSt 52)) (FuncBody.stmts (hqB (hqSt 52))) (hqS (hqSt 52)) 3 [] Value.none Value.none Value.none (Value.str (PySem.Str.ofString "rlp.codec") 2552) Option.none (Value.ref 1034) Value.none 0)) #[]
noncomputable def r1036 (_ : Params) : Obj := Obj.mk (Value.type "tuple") Option.none (Data.seq #[Value.none, Value.bool Bool.true, Value.bool Bool.false]) #[]
noncomputable def r1037 (_ : Params) : Obj := Obj.mk (Value.type "tuple") Option.none (Data.seq #[]) #[]
noncomputable def r1038 (_ : Params) : Obj := Obj.mk Value.none Option.none (Data.fields #[]) #[]
noncomputable def r1039 (_ : Params) : Obj := Obj.mk (Value.type "tuple") Option.none (Data.seq #[Value.str (PySem.Str.ofString "rlp") 2656, Value.str (PySem.Str.ofString "sedes") 2657, Value.str (PySem.Str.ofString "strict") 2658, Value.str (PySem.Str.ofString "recursive_cache") 2659, Value.str (PySem.Str.ofString "kwargs") 2660, Value.str (PySem.Str.ofString "item") 2661, Value.str (PySem.Str.ofString "per_item_rlp") 2662, Value.str (PySem.Str.ofString "obj") 2663]) #[]
noncomputable def r1040 (_ : Params) : Obj := Obj.mk (Value.type "tuple") Option.none (Data.seq #[]) #[]
noncomputable def r1041 (_ : Params) : Obj := Obj.mk Value.none Option.none (Data.func (FuncData.mk (PySem.Str.ofString "decode") (PySem.Str.ofString "decode") (hqP (hqSt 53)) (FuncBody.stmts (hqB (hqSt 53))) (hqS (hqSt 53)) 0 [] Value.none Value.none Value.none Value.none Option.none Value.none Value.none 0)) #[]
noncomputable def r1042 (_ : Params) : Obj := Obj.mk (Value.type "code") Option.none (Data.fields #[Value.str (PySem.Str.ofString "decode") 2653, Value.str (PySem.Str.ofString "decode") 2654, Value.str (PySem.Str.ofString "/claim/cut.py") 2655, Value.int 723 0, Value.int 4 0, Value.int 0 0, Value.int 0 0, Value.int 11 0, Value.ref 1037, Value.bool Bool.true, Value.int 313 0, Value.ref 1038, Value.none, Value.ref 1039, Value.ref 1040, Value.ref 1041, Value.int 2664 0, Value.int 723 0, Value.str (PySem.Str.ofString "/claim/cut.py") 2665]) #[]
noncomputable def r1043 (_ : Params) : Obj := Obj.mk (Value.type "function") Option.none (Data.func (FuncData.mk (PySem.Str.ofString "decode") (PySem.Str.ofString "decode") (hqP (hqSt 53)) (FuncBody.stmts (hqB (hqSt 53))) (hqS (hqSt 53)) 3 [] (Value.ref 1036) Value.none Value.none (Value.str (PySem.Str.ofString "rlp.codec") 2552) Option.none (Value.ref 1042) Value.none 0)) #[]
noncomputable def r1044 (_ : Params) : Obj := Obj.mk (Value.type "tuple") Option.none (Data.seq #[]) #[]
noncomputable def r1045 (_ : Params) : Obj := Obj.mk Value.none Option.none (Data.fields #[]) #[]
noncomputable def r1046 (_ : Params) : Obj := Obj.mk (Value.type "tuple") Option.none (Data.seq #[Value.str (PySem.Str.ofString "obj") 2670, Value.str (PySem.Str.ofString "msg") 2671]) #[]
noncomputable def r1047 (_ : Params) : Obj := Obj.mk (Value.type "tuple") Option.none (Data.seq #[]) #[]
noncomputable def r1048 (_ : Params) : Obj := Obj.mk Value.none Option.none (Data.func (FuncData.mk (PySem.Str.ofString "infer_sedes") (PySem.Str.ofString "infer_sedes") (hqP (hqSt 54)) (FuncBody.stmts (hqB (hqSt 54))) (hqS (hqSt 54)) 0 [] Value.none Value.none Value.none Value.none Option.none Value.none Value.none 0)) #[]
noncomputable def r1049 (_ : Params) : Obj := Obj.mk (Value.type "code") Option.none (Data.fields #[Value.str (PySem.Str.ofString "infer_sedes") 2667, Value.str (PySem.Str.ofString "infer_sedes") 2668, Value.str (PySem.Str.ofString "/claim/cut.py") 2669, Value.int 732 0, Value.int 1 0, Value.int 0 0, Value.int 0 0, Value.int 3 0, Value.ref 1044, Value.bool Bool.true, Value.int 313 0, Value.ref 1045, Value.none, Value.ref 1046, Value.ref 1047, Value.ref 1048, Value.int 2672 0, Value.int 732 0, Value.str (PySem.Str.ofString "/claim/cut.py") 2673]) #[]
noncomputable def r1050 (_ : Params) : Obj := Obj.mk (Value.type "function") Option.none (Data.func (FuncData.mk (PySem.Str.ofString "infer_sedes") (PySem.Str.ofString "infer_sedes") (hqP (hqSt 54)) (FuncBody.stmts (hqB (hqSt 54))) (hqS (hqSt 54)) 3 [] Value.none Value.none Value.none (Value.str (PySem.Str.ofString "rlp.codec") 2552) Option.none (Value.ref 1049) Value.none 0)) #[]
noncomputable def r1051 (_ : Params) : Obj := Obj.mk (Value.type "tuple") Option.none (Data.seq #[]) #[]
noncomputable def r1052 (_ : Params) : Obj := Obj.mk Value.none Option.none (Data.fields #[]) #[]
noncomputable def r1053 (_ : Params) : Obj := Obj.mk Value.none Option.none (Data.func (FuncData.mk (PySem.Str.ofString "_law_numbers") (PySem.Str.ofString "_law_numbers") (hqP (hqSt 56)) (FuncBody.stmts (hqB (hqSt 56))) (hqS (hqSt 56)) 0 [] Value.none Value.none Value.none Value.none Option.none Value.none Value.none 0)) #[]
noncomputable def r1054 (_ : Params) : Obj := Obj.mk (Value.type "code") Option.none (Data.fields #[Value.str (PySem.Str.ofString "_law_numbers") 2677, Value.str (PySem.Str.ofString "_law_numbers") 2678, Value.str (PySem.Str.ofString "/claim/cut.py") 2679, Value.int 746 0, Value.int 2 0, Value.int 0 0, Value.int 0 0, Value.int 3 0, Value.ref 1051, Value.bool Bool.true, Value.int 313 0, Value.ref 1052, Value.none, Value.none, Value.none, Value.ref 1053, Value.int 2680 0, Value.int 746 0, Value.str (PySem.Str.ofString "/claim/cut.py") 2681]) #[]
noncomputable def r1055 (_ : Params) : Obj := Obj.mk (Value.type "function") Option.none (Data.func (FuncData.mk (PySem.Str.ofString "_law_numbers") (PySem.Str.ofString "_law_numbers") (hqP (hqSt 56)) (FuncBody.stmts (hqB (hqSt 56))) (hqS (hqSt 56)) 3 [] Value.none Value.none Value.none (Value.str (PySem.Str.ofString "law_vn0014_01") 2675) Option.none (Value.ref 1054) Value.none 0)) #[]
noncomputable def r1056 (_ : Params) : Obj := Obj.mk (Value.type "tuple") Option.none (Data.seq #[]) #[]
noncomputable def r1057 (_ : Params) : Obj := Obj.mk Value.none Option.none (Data.fields #[]) #[]
noncomputable def r1058 (_ : Params) : Obj := Obj.mk (Value.type "tuple") Option.none (Data.seq #[Value.str (PySem.Str.ofString "n") 2686, Value.str (PySem.Str.ofString "edges") 2687]) #[]
noncomputable def r1059 (_ : Params) : Obj := Obj.mk (Value.type "tuple") Option.none (Data.seq #[]) #[]
noncomputable def r1060 (_ : Params) : Obj := Obj.mk Value.none Option.none (Data.func (FuncData.mk (PySem.Str.ofString "_law_number") (PySem.Str.ofString "_law_number") (hqP (hqSt 57)) (FuncBody.stmts (hqB (hqSt 57))) (hqS (hqSt 57)) 0 [] Value.none Value.none Value.none Value.none Option.none Value.none Value.none 0)) #[]
noncomputable def r1061 (_ : Params) : Obj := Obj.mk (Value.type "code") Option.none (Data.fields #[Value.str (PySem.Str.ofString "_law_number") 2683, Value.str (PySem.Str.ofString "_law_number") 2684, Value.str (PySem.Str.ofString "/claim/cut.py") 2685, Value.int 748 0, Value.int 1 0, Value.int 0 0, Value.int 0 0, Value.int 3 0, Value.ref 1056, Value.bool Bool.true, Value.int 313 0, Value.ref 1057, Value.none, Value.ref 1058, Value.ref 1059, Value.ref 1060, Value.int 2688 0, Value.int 748 0, Value.str (PySem.Str.ofString "/claim/cut.py") 2689]) #[]
noncomputable def r1062 (_ : Params) : Obj := Obj.mk (Value.type "function") Option.none (Data.func (FuncData.mk (PySem.Str.ofString "_law_number") (PySem.Str.ofString "_law_number") (hqP (hqSt 57)) (FuncBody.stmts (hqB (hqSt 57))) (hqS (hqSt 57)) 3 [] Value.none Value.none Value.none (Value.str (PySem.Str.ofString "law_vn0014_01") 2675) Option.none (Value.ref 1061) Value.none 0)) #[]
noncomputable def r1063 (_ : Params) : Obj := Obj.mk (Value.type "tuple") Option.none (Data.seq #[]) #[]
noncomputable def r1064 (_ : Params) : Obj := Obj.mk Value.none Option.none (Data.fields #[]) #[]
noncomputable def r1065 (_ : Params) : Obj := Obj.mk (Value.type "tuple") Option.none (Data.seq #[Value.str (PySem.Str.ofString "mark") 2694]) #[]
noncomputable def r1066 (_ : Params) : Obj := Obj.mk (Value.type "tuple") Option.none (Data.seq #[]) #[]
noncomputable def r1067 (_ : Params) : Obj := Obj.mk Value.none Option.none (Data.func (FuncData.mk (PySem.Str.ofString "_law_long") (PySem.Str.ofString "_law_long") (hqP (hqSt 58)) (FuncBody.stmts (hqB (hqSt 58))) (hqS (hqSt 58)) 0 [] Value.none Value.none Value.none Value.none Option.none Value.none Value.none 0)) #[]
noncomputable def r1068 (_ : Params) : Obj := Obj.mk (Value.type "code") Option.none (Data.fields #[Value.str (PySem.Str.ofString "_law_long") 2691, Value.str (PySem.Str.ofString "_law_long") 2692, Value.str (PySem.Str.ofString "/claim/cut.py") 2693, Value.int 753 0, Value.int 1 0, Value.int 0 0, Value.int 0 0, Value.int 3 0, Value.ref 1063, Value.bool Bool.true, Value.int 313 0, Value.ref 1064, Value.none, Value.ref 1065, Value.ref 1066, Value.ref 1067, Value.int 2695 0, Value.int 753 0, Value.str (PySem.Str.ofString "/claim/cut.py") 2696]) #[]
noncomputable def r1069 (_ : Params) : Obj := Obj.mk (Value.type "function") Option.none (Data.func (FuncData.mk (PySem.Str.ofString "_law_long") (PySem.Str.ofString "_law_long") (hqP (hqSt 58)) (FuncBody.stmts (hqB (hqSt 58))) (hqS (hqSt 58)) 3 [] Value.none Value.none Value.none (Value.str (PySem.Str.ofString "law_vn0014_01") 2675) Option.none (Value.ref 1068) Value.none 0)) #[]
noncomputable def r1070 (_ : Params) : Obj := Obj.mk (Value.type "tuple") Option.none (Data.seq #[]) #[]
noncomputable def r1071 (_ : Params) : Obj := Obj.mk Value.none Option.none (Data.fields #[]) #[]
noncomputable def r1072 (_ : Params) : Obj := Obj.mk Value.none Option.none (Data.func (FuncData.mk (PySem.Str.ofString "law") (PySem.Str.ofString "law") (hqP (hqSt 59)) (FuncBody.stmts (hqB (hqSt 59))) (hqS (hqSt 59)) 0 [] Value.none Value.none Value.none Value.none Option.none Value.none Value.none 0)) #[]
noncomputable def r1073 (_ : Params) : Obj := Obj.mk (Value.type "code") Option.none (Data.fields #[Value.str (PySem.Str.ofString "law") 2698, Value.str (PySem.Str.ofString "law") 2699, Value.str (PySem.Str.ofString "/claim/cut.py") 2700, Value.int 755 0, Value.int 1 0, Value.int 0 0, Value.int 0 0, Value.int 3 0, Value.ref 1070, Value.bool Bool.true, Value.int 313 0, Value.ref 1071, Value.none, Value.none, Value.none, Value.ref 1072, Value.int 2701 0, Value.int 755 0, Value.str (PySem.Str.ofString "/claim/cut.py") 2702]) #[]
noncomputable def r1074 (_ : Params) : Obj := Obj.mk (Value.type "function") Option.none (Data.func (FuncData.mk (PySem.Str.ofString "law") (PySem.Str.ofString "law") (hqP (hqSt 59)) (FuncBody.stmts (hqB (hqSt 59))) (hqS (hqSt 59)) 3 [] Value.none Value.none Value.none (Value.str (PySem.Str.ofString "law_vn0014_01") 2675) Option.none (Value.ref 1073) Value.none 0)) #[]
noncomputable def tr0 (P : Params) : BT := ((tree2 P).set 3 (fun _ => r3 P)).set 40 (fun _ => r40 P)
noncomputable def tr1 (P : Params) : BT := ((((((((((((((((tr0 P).ins 775 (r775 P)).ins 776 (r776 P)).ins 777 (r777 P)).ins 778 (r778 P)).ins 779 (r779 P)).ins 780 (r780 P)).ins 781 (r781 P)).ins 782 (r782 P)).ins 783 (r783 P)).ins 784 (r784 P)).ins 785 (r785 P)).ins 786 (r786 P)).ins 787 (r787 P)).ins 788 (r788 P)).ins 789 (r789 P)).ins 790 (r790 P)
noncomputable def tr2 (P : Params) : BT := ((((((((((((((((tr1 P).ins 791 (r791 P)).ins 792 (r792 P)).ins 793 (r793 P)).ins 794 (r794 P)).ins 795 (r795 P)).ins 796 (r796 P)).ins 797 (r797 P)).ins 798 (r798 P)).ins 799 (r799 P)).ins 800 (r800 P)).ins 801 (r801 P)).ins 802 (r802 P)).ins 803 (r803 P)).ins 804 (r804 P)).ins 805 (r805 P)).ins 806 (r806 P)
noncomputable def tr3 (P : Params) : BT := ((((((((((((((((tr2 P).ins 807 (r807 P)).ins 808 (r808 P)).ins 809 (r809 P)).ins 810 (r810 P)).ins 811 (r811 P)).ins 812 (r812 P)).ins 813 (r813 P)).ins 814 (r814 P)).ins 815 (r815 P)).ins 816 (r816 P)).ins 817 (r817 P)).ins 818 (r818 P)).ins 819 (r819 P)).ins 820 (r820 P)).ins 821 (r821 P)).ins 822 (r822 P)
noncomputable def tr4 (P : Params) : BT := ((((((((((((((((tr3 P).ins 823 (r823 P)).ins 824 (r824 P)).ins 825 (r825 P)).ins 826 (r826 P)).ins 827 (r827 P)).ins 828 (r828 P)).ins 829 (r829 P)).ins 830 (r830 P)).ins 831 (r831 P)).ins 832 (r832 P)).ins 833 (r833 P)).ins 834 (r834 P)).ins 835 (r835 P)).ins 836 (r836 P)).ins 837 (r837 P)).ins 838 (r838 P)
noncomputable def tr5 (P : Params) : BT := ((((((((((((((((tr4 P).ins 839 (r839 P)).ins 840 (r840 P)).ins 841 (r841 P)).ins 842 (r842 P)).ins 843 (r843 P)).ins 844 (r844 P)).ins 845 (r845 P)).ins 846 (r846 P)).ins 847 (r847 P)).ins 848 (r848 P)).ins 849 (r849 P)).ins 850 (r850 P)).ins 851 (r851 P)).ins 852 (r852 P)).ins 853 (r853 P)).ins 854 (r854 P)
noncomputable def tr6 (P : Params) : BT := ((((((((((((((((tr5 P).ins 855 (r855 P)).ins 856 (r856 P)).ins 857 (r857 P)).ins 858 (r858 P)).ins 859 (r859 P)).ins 860 (r860 P)).ins 861 (r861 P)).ins 862 (r862 P)).ins 863 (r863 P)).ins 864 (r864 P)).ins 865 (r865 P)).ins 866 (r866 P)).ins 867 (r867 P)).ins 868 (r868 P)).ins 869 (r869 P)).ins 870 (r870 P)
noncomputable def tr7 (P : Params) : BT := ((((((((((((((((tr6 P).ins 871 (r871 P)).ins 872 (r872 P)).ins 873 (r873 P)).ins 874 (r874 P)).ins 875 (r875 P)).ins 876 (r876 P)).ins 877 (r877 P)).ins 878 (r878 P)).ins 879 (r879 P)).ins 880 (r880 P)).ins 881 (r881 P)).ins 882 (r882 P)).ins 883 (r883 P)).ins 884 (r884 P)).ins 885 (r885 P)).ins 886 (r886 P)
noncomputable def tr8 (P : Params) : BT := ((((((((((((((((tr7 P).ins 887 (r887 P)).ins 888 (r888 P)).ins 889 (r889 P)).ins 890 (r890 P)).ins 891 (r891 P)).ins 892 (r892 P)).ins 893 (r893 P)).ins 894 (r894 P)).ins 895 (r895 P)).ins 896 (r896 P)).ins 897 (r897 P)).ins 898 (r898 P)).ins 899 (r899 P)).ins 900 (r900 P)).ins 901 (r901 P)).ins 902 (r902 P)
noncomputable def tr9 (P : Params) : BT := ((((((((((((((((tr8 P).ins 903 (r903 P)).ins 904 (r904 P)).ins 905 (r905 P)).ins 906 (r906 P)).ins 907 (r907 P)).ins 908 (r908 P)).ins 909 (r909 P)).ins 910 (r910 P)).ins 911 (r911 P)).ins 912 (r912 P)).ins 913 (r913 P)).ins 914 (r914 P)).ins 915 (r915 P)).ins 916 (r916 P)).ins 917 (r917 P)).ins 918 (r918 P)
noncomputable def tr10 (P : Params) : BT := ((((((((((((((((tr9 P).ins 919 (r919 P)).ins 920 (r920 P)).ins 921 (r921 P)).ins 922 (r922 P)).ins 923 (r923 P)).ins 924 (r924 P)).ins 925 (r925 P)).ins 926 (r926 P)).ins 927 (r927 P)).ins 928 (r928 P)).ins 929 (r929 P)).ins 930 (r930 P)).ins 931 (r931 P)).ins 932 (r932 P)).ins 933 (r933 P)).ins 934 (r934 P)
noncomputable def tr11 (P : Params) : BT := ((((((((((((((((tr10 P).ins 935 (r935 P)).ins 936 (r936 P)).ins 937 (r937 P)).ins 938 (r938 P)).ins 939 (r939 P)).ins 940 (r940 P)).ins 941 (r941 P)).ins 942 (r942 P)).ins 943 (r943 P)).ins 944 (r944 P)).ins 945 (r945 P)).ins 946 (r946 P)).ins 947 (r947 P)).ins 948 (r948 P)).ins 949 (r949 P)).ins 950 (r950 P)
noncomputable def tr12 (P : Params) : BT := ((((((((((((((((tr11 P).ins 951 (r951 P)).ins 952 (r952 P)).ins 953 (r953 P)).ins 954 (r954 P)).ins 955 (r955 P)).ins 956 (r956 P)).ins 957 (r957 P)).ins 958 (r958 P)).ins 959 (r959 P)).ins 960 (r960 P)).ins 961 (r961 P)).ins 962 (r962 P)).ins 963 (r963 P)).ins 964 (r964 P)).ins 965 (r965 P)).ins 966 (r966 P)
noncomputable def tr13 (P : Params) : BT := ((((((((((((((((tr12 P).ins 967 (r967 P)).ins 968 (r968 P)).ins 969 (r969 P)).ins 970 (r970 P)).ins 971 (r971 P)).ins 972 (r972 P)).ins 973 (r973 P)).ins 974 (r974 P)).ins 975 (r975 P)).ins 976 (r976 P)).ins 977 (r977 P)).ins 978 (r978 P)).ins 979 (r979 P)).ins 980 (r980 P)).ins 981 (r981 P)).ins 982 (r982 P)
noncomputable def tr14 (P : Params) : BT := ((((((((((((((((tr13 P).ins 983 (r983 P)).ins 984 (r984 P)).ins 985 (r985 P)).ins 986 (r986 P)).ins 987 (r987 P)).ins 988 (r988 P)).ins 989 (r989 P)).ins 990 (r990 P)).ins 991 (r991 P)).ins 992 (r992 P)).ins 993 (r993 P)).ins 994 (r994 P)).ins 995 (r995 P)).ins 996 (r996 P)).ins 997 (r997 P)).ins 998 (r998 P)
noncomputable def tr15 (P : Params) : BT := ((((((((((((((((tr14 P).ins 999 (r999 P)).ins 1000 (r1000 P)).ins 1001 (r1001 P)).ins 1002 (r1002 P)).ins 1003 (r1003 P)).ins 1004 (r1004 P)).ins 1005 (r1005 P)).ins 1006 (r1006 P)).ins 1007 (r1007 P)).ins 1008 (r1008 P)).ins 1009 (r1009 P)).ins 1010 (r1010 P)).ins 1011 (r1011 P)).ins 1012 (r1012 P)).ins 1013 (r1013 P)).ins 1014 (r1014 P)
noncomputable def tr16 (P : Params) : BT := ((((((((((((((((tr15 P).ins 1015 (r1015 P)).ins 1016 (r1016 P)).ins 1017 (r1017 P)).ins 1018 (r1018 P)).ins 1019 (r1019 P)).ins 1020 (r1020 P)).ins 1021 (r1021 P)).ins 1022 (r1022 P)).ins 1023 (r1023 P)).ins 1024 (r1024 P)).ins 1025 (r1025 P)).ins 1026 (r1026 P)).ins 1027 (r1027 P)).ins 1028 (r1028 P)).ins 1029 (r1029 P)).ins 1030 (r1030 P)
noncomputable def tr17 (P : Params) : BT := ((((((((((((((((tr16 P).ins 1031 (r1031 P)).ins 1032 (r1032 P)).ins 1033 (r1033 P)).ins 1034 (r1034 P)).ins 1035 (r1035 P)).ins 1036 (r1036 P)).ins 1037 (r1037 P)).ins 1038 (r1038 P)).ins 1039 (r1039 P)).ins 1040 (r1040 P)).ins 1041 (r1041 P)).ins 1042 (r1042 P)).ins 1043 (r1043 P)).ins 1044 (r1044 P)).ins 1045 (r1045 P)).ins 1046 (r1046 P)
noncomputable def tr18 (P : Params) : BT := ((((((((((((((((tr17 P).ins 1047 (r1047 P)).ins 1048 (r1048 P)).ins 1049 (r1049 P)).ins 1050 (r1050 P)).ins 1051 (r1051 P)).ins 1052 (r1052 P)).ins 1053 (r1053 P)).ins 1054 (r1054 P)).ins 1055 (r1055 P)).ins 1056 (r1056 P)).ins 1057 (r1057 P)).ins 1058 (r1058 P)).ins 1059 (r1059 P)).ins 1060 (r1060 P)).ins 1061 (r1061 P)).ins 1062 (r1062 P)
noncomputable def tr19 (P : Params) : BT := ((((((((((((tr18 P).ins 1063 (r1063 P)).ins 1064 (r1064 P)).ins 1065 (r1065 P)).ins 1066 (r1066 P)).ins 1067 (r1067 P)).ins 1068 (r1068 P)).ins 1069 (r1069 P)).ins 1070 (r1070 P)).ins 1071 (r1071 P)).ins 1072 (r1072 P)).ins 1073 (r1073 P)).ins 1074 (r1074 P)
noncomputable def tree60 (P : Params) : BT := tr19 P
noncomputable def Sfin (w : World) (os : OsState) : SharedT := { tree := tree60 w.params, n := 1075, life := { }, gens := #[.finished], drawn := { }, toks := 2704, os := os }
theorem warm3 : ((fun (_ : World → OsState → SharedT) => true) Sfin) = true := by k_qdec
end Mine
end

section
open PySem PySem.W PyProof.Rows
set_option maxRecDepth 100000
set_option maxHeartbeats 8000000
namespace Mine
local macro_rules | `(tactic| o_head $_) => `(tactic| assumption)
theorem kk (h : PySem.Challenge.rw_vn0014_01.row.Holds) : PySem.Challenge.rw_vn0014_01.row.Holds := by k_head
end Mine
end

section
open PySem PySem.W PyProof.Rows PySem.Calls
set_option maxRecDepth 100000
set_option maxHeartbeats 8000000
namespace Mine
noncomputable def H0 (P : Params) : Heap := ⟨#[Mine.Pre.o_1 P, Mine.Pre.o_2 P, Mine.Pre.o_3 P, Mine.Pre.o_4 P, Mine.Pre.o_5 P, Mine.Pre.o_6 P, Mine.Pre.o_7 P, Mine.Pre.o_8 P, Mine.Pre.o_9 P, Mine.Pre.o_10 P, Mine.Pre.o_11 P, Mine.Pre.o_12 P, Mine.Pre.o_13 P, Mine.Pre.o_14 P, Mine.Pre.o_15 P, Mine.Pre.o_16 P, Mine.Pre.o_17 P, Mine.Pre.o_18 P, Mine.Pre.o_19 P, Mine.Pre.o_20 P, Mine.Pre.o_21 P, Mine.Pre.o_22 P, Mine.Pre.o_23 P, Mine.Pre.o_24 P, Mine.Pre.o_25 P, Mine.Pre.o_26 P, Mine.Pre.o_27 P, Mine.Pre.o_28 P, Mine.Pre.o_29 P, Mine.Pre.o_30 P, Mine.Pre.o_31 P, Mine.Pre.o_32 P, Mine.Pre.o_33 P, Mine.Pre.o_34 P, Mine.Pre.o_35 P, Mine.Pre.o_36 P, Mine.Pre.o_37 P, Mine.Pre.o_38 P, Mine.Pre.o_39 P], {}⟩
noncomputable def blk (w : World) (os : OsState) : SharedT := { tree := Mine.Pre.tree_43 w.params, n := 43, life := { }, gens := #[], drawn := { }, toks := 319, os := os }
noncomputable def qq : Program := view PP [0,1,3,5,6,7,8,9,10,11,12,14,15,17,18,19,20,21,22,23,25,26,27,28,29,30,32,33,35,36,38,39,41,42,43,45,46,48,49,50,51,52,53,55,57,58,59,60]
def loo : List PySem.Str := [PySem.Str.ofString "UnsupportedOperation", PySem.Str.ofString "IOBase", PySem.Str.ofString "BufferedIOBase", PySem.Str.ofString "TextIOBase", PySem.Str.ofString "BytesIO", PySem.Str.ofString "StringIO", PySem.Str.ofString "ListSerializationError", PySem.Str.ofString "ListDeserializationError", PySem.Str.ofString "ALL_BYTES", PySem.Str.ofString "Atomic", PySem.Str.ofString "Sequence", PySem.Str.ofString "big_endian_int", PySem.Str.ofString "Binary", PySem.Str.ofString "binary", PySem.Str.ofString "boolean", PySem.Str.ofString "List", PySem.Str.ofString "encode", PySem.Str.ofString "LONG_LENGTH", PySem.Str.ofString "SHORT_STRING", PySem.Str.ofString "decode"]
def lvv : List (PySem.Str × WData) := []
def aks : List Addr := [2,3,43,45,46,48,49,50,52,53,55,56,57,59,60,62,63,64,66,67,69,70,71,78,79,80,81,91,93,94,96,97,98,99,100,101,102,103,106,113,114,115,118,125,126,127,130,137,138,140,141,143,144,145,147,148,150,151,152,154,155,157,158,159,161,162,164,165,166,167,169,170,172,173,174,176,177,179,180,181,183,184,186,187,188,190,191,193,194,195,197,198,200,201,202,204,205,207,208,209,211,212,214,215,216,218,219,221,222,223,225,226,228,229,230,232,233,235,236,237,239,240,242,243,244,246,247,249,250,251,253,254,256,257,258,259,261,262,264,265,266,267,269,270,272,273,274,275,277,278,280,281,282,283,285,286,288,289,290,292,293,295,296,297,299,300,302,303,304,305,307,308,310,311,312,313,315,316,318,319,320,322,323,325,326,327,329,330,332,333,334,336,337,339,340,341,343,344,346,347,348,350,351,353,354,355,356,357,360,367,368,370,371,373,374,375,377,378,380,381,382,384,385,387,388,389,391,392,394,395,396,398,399,401,402,403,405,406,408,409,410,411,413,414,416,417,418,419,421,422,424,425,426,427,429,430,432,433,434,435,437,438,440,441,442,443,445,446,448,449,450,452,453,455,456,457,459,460,462,463,464,466,467,469,470,471,473,474,476,477,478,480,481,483,484,485,487,488,490,491,492,494,495,497,498,499,501,502,504,505,506,508,509,511,512,513,515,516,518,519,520,522,523,525,526,527,528,530,531,533,534,535,536,538,539,541,542,543,544,546,547,549,550,551,552,554,555,557,558,559,560,562,563,565,566,567,569,570,572,573,574,576,577,579,580,581,583,584,586,587,588,590,591,593,594,595,597,598,600,601,602,603,604,607,609,610,612,613,614,616,617,619,620,621,628,629,630,631,634,637,642,643,645,646,648,649,650,651,652,655,658,663,664,666,667,669,670,671,672,673,676,679,684,685,687,688,690,691,692,693,694,697,700,705,706,707,709,710,712,713,714,715,716,719,722,727,728,730,731,733,734,735,736,737,740,743,748,749,750,752,753,755,756,757,758,759,774,775,776,777,779,780,782,783,784,786,787,789,790,791,793,794,796,797,805,806,808,809,811,812,813,815,816,818,819,820,822,823,825,826,827,828,829,830,831,834,835,844,845,847,848,850,851,852,853,855,856,858,859,860,861,862,863,865,866,868,869,870,871,872,873,875,876,878,879,880,882,883,885,886,887,889,890,892,893,894,895,896,897,898,901,902,911,913,914,916,917,918,920,921,923,924,925,926,927,928,929,932,933,934,936,937,939,940,941,943,944,946,947,948,951,956,957,958,960,961,963,964,965,967,968,970,971,972,974,975,977,978,979,980,981,982,983,986,988,989,991,992,993,995,996,998,999,1000,1001,1003,1004,1006,1007,1008,1010,1011,1013,1014,1015,1017,1018,1020,1021,1022,1024,1025,1027,1028,1029,1031,1032,1034,1035,1036,1037,1039,1040,1042,1043,1044,1046,1047,1049,1050,1051,1054,1055,1056,1058,1059,1061,1062,1063,1065,1066,1068,1069,1070,1073,1074]
theorem warm2 : ((fun (_ : World → OsState → SharedT) (_ : Params → Heap) (_ : World → OsState → SharedT) (_ : Program) (_ : List PySem.Str) => true) Sfin H0 blk qq loo) = true := by k_qdec
end Mine
end

section
open PySem PySem.W PyProof.Rows PySem.Calls
set_option maxRecDepth 100000
set_option maxHeartbeats 8000000
namespace Mine
theorem opn (w : World) : (fencedOpening treeTable PP w 42150).map (fun s => (s.heap, s.gens, s.drawn, s.toks)) = some (H0 w.params, #[], {}, 313) := by
  show (((importEnds treeTable (opening PySem.Challenge.pw_vn0014_01) w 42150 (start (opening PySem.Challenge.pw_vn0014_01)).1 (start (opening PySem.Challenge.pw_vn0014_01)).2).bind (fenceModules? PySem.Challenge.pw_vn0014_01)).map (fun s => (s.heap, s.gens, s.drawn, s.toks))) = _
  rw [PySem.W.Fast.te10274390034422433532, PySem.W.Fast.te1435165496053646825, PySem.W.Fast.te14289696077712309145, PySem.W.Fast.te14364793385576792824, PySem.W.Fast.te8076486315364915696, PySem.W.Fast.te8867958776103325878]
  kernel_rfl
end Mine
end

section
open PySem PySem.W PyProof.Rows PySem.Calls
set_option maxRecDepth 100000
set_option maxHeartbeats 8000000
namespace Mine
theorem sizes (w : World) : ((H0 w.params).isNs mainGlobals && (#[] : Array GenState).size == 0, (H0 w.params).objs.size, (H0 w.params).nsMap mainGlobals "__annotations__") = (true, 39, some (Value.ref 6)) := by
  rw [PySem.W.Fast.te8920871248978507458, PySem.W.Fast.te8867958776103325878]
  kernel_rfl
theorem preT (w : World) (os : OsState) : topGo treeTable PySem.Challenge.pw_vn0014_01 w 39 (some (.ref 6)) 12 ⟨H0 w.params, #[], {}, 313, os⟩ (topStub PySem.Challenge.pw_vn0014_01) = some ((blk w os).abs, ⟨denote treeTable cB, cB, q0, [topFrame q0]⟩) := by
  rw [PySem.W.Fast.te15667345088766844465, PySem.W.Fast.te11892475500146522536, PySem.W.Fast.te14364793385576792824, PySem.W.Fast.te8076486315364915696, PySem.W.Fast.te8867958776103325878, PySem.W.Fast.te9502397910865123165]
  kernel_rfl
theorem blkT (w : World) (os : OsState) : segRun treeTable PySem.Challenge.pw_vn0014_01 w 39 (some (.ref 6)) 1 1 (blk w os).abs (blockOf (behindTheImports PySem.Challenge.pw_vn0014_01) Mine.Pre.env_1 cB q0 [topFrame q0]) = some (.next, (blk w os).abs, cB, q0) := by
  kernel_rfl
theorem bodyT : behindTheImports PySem.Challenge.pw_vn0014_01 = Mine.Pre.sts_43 ++ (Mine.Pre.sts_89 ++ (Mine.Pre.sts_114 ++ (Mine.Pre.sts_130 ++ (exSt ++ (midSt ++ (sufSt ++ [])))))) := by
  kernel_rfl
theorem sufT (w : World) (os : OsState) : segRunT treeTable PySem.Challenge.pw_vn0014_01 w 39 (some (.ref 6)) 1 2700 (pre25 w os) sufTh = some (.next, Sfin w os, cB, posE) := by
  rw [PySem.W.Fast.te10110043849684766642, PySem.W.Fast.te14364793385576792824, PySem.W.Fast.te8076486315364915696, PySem.W.Fast.te6054564331659853566, PySem.W.Fast.te5266943992398218793, PySem.W.Fast.te3245087656668037464]
  kernel_rfl
theorem finT (w : World) (os : OsState) : topRun treeTable PySem.Challenge.pw_vn0014_01 w 39 (some (.ref 6)) 2 (Sfin w os).abs ⟨doneF .next, cB, posE, [topFrame q0]⟩ = some (Sfin w os).abs := by
  kernel_rfl
end Mine
end

section
open PySem PySem.W PyProof.Rows PySem.Calls
set_option maxRecDepth 100000
set_option maxHeartbeats 8000000
namespace Mine
theorem look1 (w : World) (os : OsState) : (staticsOk (importedModules PySem.Challenge.pw_vn0014_01.main.body) (H0 w.params) (Sfin w os).abs.heap && namesBound PySem.Challenge.pw_vn0014_01 (Sfin w os).abs.heap && gensDone (Sfin w os).abs && laidKept (H0 w.params) (Sfin w os).abs.heap) = true := by
  rw [PySem.W.Fast.te5923862056798008813, PySem.W.Fast.te8076486315364915696, PySem.W.Fast.te8867958776103325878, PySem.W.Fast.te3245087656668037464]
  kernel_rfl
end Mine
end

section
open PySem PySem.W PyProof.Rows PySem.Calls
set_option maxRecDepth 100000
set_option maxHeartbeats 8000000
namespace Mine
theorem abs_get_all (t : BT) (n : Nat) (life : Life) (a : Nat) : (absHeap t n life).get? a = if a < n then alive ((t.get a).getD default) else none := by
  unfold Heap.get? alive
  rw [absHeap_at]
  by_cases h : a < n
  · rw [if_pos h, if_pos h]
    rcases (t.get a).getD default with ⟨c, d, dt, sl⟩
    cases dt <;> rfl
  · rw [if_neg h, if_neg h]
theorem look3t (w : World) (os : OsState) : aks.map (fun a => if a < (Sfin w os).n then alive (((Sfin w os).tree.get a).getD default) else none) = (Mine.kk.heap_1 w.params).map fun p => some p.2 := by
  rw [PySem.W.Fast.te3245087656668037464]
  kernel_rfl
theorem look3 (w : World) (os : OsState) : aks.map (Sfin w os).abs.heap.get? = (Mine.kk.heap_1 w.params).map fun p => some p.2 := by
  rw [← look3t w os]
  refine List.map_congr_left fun a _ => ?_
  exact abs_get_all _ _ _ _
end Mine
end

section
open PySem PySem.W PyProof.Rows PySem.Calls
set_option maxRecDepth 100000
set_option maxHeartbeats 8000000
namespace Mine
theorem look2 (w : World) (os : OsState) : openSeen qq loo (importedModules PySem.Challenge.pw_vn0014_01.main.body) (fun s => xlAt qq lvv s && recOk (RowW.records PySem.Challenge.rw_vn0014_01.row.toRowW) s) false (Sfin w os).abs = openGood qq loo := by
  rw [PySem.W.Fast.te4187177175401517315, PySem.W.Fast.te5923862056798008813, PySem.W.Fast.te8076486315364915696, PySem.W.Fast.te3476812364962778060, PySem.W.Fast.te3712101160568296077, PySem.W.Fast.te3245087656668037464]
  kernel_rfl
end Mine
end

section
open PySem PySem.W PyProof.Rows PySem.Calls
set_option maxRecDepth 100000
set_option maxHeartbeats 8000000
namespace Mine

/-- a call that keeps all that stood: its answer is told by R -/
def Pure (w : World) (k u : Nat) (f : Addr) (vs : List Value) (R : Heap → Heap → Value → Prop) : Prop :=
  ∀ (p : Program) (loose : List PySem.Str) (mean : ExcName → Option Value) (mg mb : PySem.Str → Option Value) (dp un : Nat) (gd : Option (List Code)) (cn : PySem.Str) (cs : Scope) (a : Addr) (ccd : Value) (cl : List (PySem.Str × Addr)) (outer : List Env) (A₀ : Around)
    (base h₀ : Heap) (L : Addr) (m : PySem.Str → Option Value) (s : Shared) (Q E : Value → Shared → Prop),
    Below A₀ base outer h₀ → Fr h₀ L s.heap m → (Mine.kk.heap_1 w.params).In h₀ → Top p loose mean mg mb h₀ → cs.kind = .function → dp + k < recursionLimit → un + u < cLine →
    (∀ (r : Value) (h' : Heap) (tk' : Nat), (∀ b o, s.heap.get? b = some o → h'.get? b = some o) → R s.heap h' r → Q r { s with heap := h', toks := tk' }) →
    codeAny (model PySem.Challenge.rw_vn0014_01.prog w) (ktrTop dp un gd cn cs L a ccd cl outer) (.call (.ref f) ⟨vs, []⟩) (fun r s' => match r with | .ok (.ret v) => Q v s' | .ok _ => False | .error e => E e s') s

section
variable {prog : Program} {w : World} {A A₀ : Around} {s : Shared} {K : Frag} {L : Addr} {h₀ base : Heap} {m mg mb : PySem.Str → Option Value} {p : Program} {loose : List PySem.Str} {mean : ExcName → Option Value}
theorem code_pure {env : Env} {outer : List Env} {R : Result → Shared → Prop} {name qual : PySem.Str} {params : Arguments} {body : List Stmt} {scope : Scope} {dV kV doc pm cdv ct oc : Value} {an od : Option Addr} {osl : Array (Option Value)} {f : Addr} {args : Args} {binds : List (PySem.Str × Value)}
    (B : Below A₀ base outer h₀) (F : Fr h₀ L s.heap m) (X₀ : K.In h₀) (T : Top p loose mean mg mb h₀) (hA : A.frames = some (env :: outer)) (hf : env.frame = some L) (hke : env.scope.kind = .function)
    (ho : K.lookup f = some ⟨oc, od, .func (fnOf name qual params body scope dV kV doc pm an cdv ct), osl⟩) (hcd : codeIn K cdv qual = true) (hroom : A.depth < recursionLimit)
    (hbind : BindsTo s (fnOf name qual params body scope dV kV doc pm an cdv ct) args binds) (hloc : ∀ y ∈ binds, scope.names.lookup y.1 = some .local)
    (h : ∀ g L' h₁, g = s.heap → Fr h₀ L g m → Fr g L' h₁ (fun y => binds.reverse.lookup y) → News g L' h₁ [] → Below A base (env :: outer) g → K.In g → Top p loose mean mg mb g →
      wpAny (model prog w) (A.deeper (envOf qual scope L' f cdv)) (execs body (envOf qual scope L' f cdv))
        (fun fl s' => LeaveK h₀ L m g R (match fl with | .ret v => v | _ => .none) s')
        (fun e s' => wpAny (model prog w) (A.deeper (envOf qual scope L' f cdv)) («leaving» (envOf qual scope L' f cdv) e) (fun _ s'' => R (.error e) s'') (fun e' s'' => R (.error e') s'') s')
        { s with heap := h₁, toks := s.toks + binds.length })
    (hco : scope.isCoroutine = false) (hgen : scope.isGenerator = false) (hk : scope.kind = .function)
    (hcell : ∀ x ∈ scope.names, x.2 ≠ .cell) : codeAny (model prog w) A (.call (.ref f) args) R s := by
  obtain ⟨FG, BG, st, lv⟩ := groundX (R := R) B F (News.nil) hA hf hke
  refine codeAny_call_def (fd := fnOf name qual params body scope dV kV doc pm an cdv ct) (body := body) (binds := binds) hroom ((X₀.keeps F.keep) _ _ ho) rfl (T.nolimit.keeps F.keep) (codeRec_of (X₀.keeps F.keep) hcd) rfl hbind hcell hloc (fun h₁ hns hk₁ => ?_) hco hgen hk
  exact wpAny_mono (h s.heap s.heap.objs.size h₁ rfl FG ⟨hns, fun b o e => hk₁ b o e, Nat.le_refl _⟩ News.nil BG (X₀.keeps F.keep) (T.keeps F.keep)) (fun fl s' hl => lv _ _ hl) fun _ _ y => y
end
theorem pure_keep {g h h' : Heap} {L' : Addr} {m' : PySem.Str → Option Value} (hg : g = h) (F : Fr g L' h' m') : ∀ b o, h.get? b = some o → h'.get? b = some o := by
  subst hg
  exact F.keep
theorem Pure.use {w : World} {k u : Nat} {f : Addr} {vs : List Value} {R : Heap → Heap → Value → Prop} (C : Pure w k u f vs R)
    {p : Program} {loose : List PySem.Str} {mean : ExcName → Option Value} {mg mb : PySem.Str → Option Value} {dp un : Nat} {gd : Option (List Code)} {cn : PySem.Str} {cs : Scope} {a : Addr} {ccd : Value} {cl : List (PySem.Str × Addr)} {outer : List Env} {A₀ : Around}
    {base h₀ : Heap} {L : Addr} {m : PySem.Str → Option Value} {news : List (Addr × Obj)} {s : Shared} {Q E : Value → Shared → Prop}
    (B : Below A₀ base outer h₀) (F : Fr h₀ L s.heap m) (X : (Mine.kk.heap_1 w.params).In h₀) (N : News h₀ L s.heap news) (T : Top p loose mean mg mb h₀) (hk : cs.kind = .function) (hd : dp + k < recursionLimit) (hu : un + u < cLine)
    (ret : ∀ (r : Value) (h' : Heap) (tk' : Nat), Fr h₀ L h' m → News h₀ L h' news → R s.heap h' r → Q r { s with heap := h', toks := tk' }) :
    wpAny (model PySem.Challenge.rw_vn0014_01.prog w) (ktrTop dp un gd cn cs L a ccd cl outer) (call (.ref f) vs) Q E s :=
  wpAny_call (C p loose mean mg mb dp un gd cn cs a ccd cl outer A₀ base h₀ L m s Q E B F X T hk hd hu fun r h' tk' keep hr => ret r h' tk' (F.keeps keep) (N.grown keep) hr)
theorem Pure.useC {w : World} {k u : Nat} {f : Addr} {vs : List Value} {R : Heap → Heap → Value → Prop} (C : Pure w k u f vs R)
    {p : Program} {loose : List PySem.Str} {mean : ExcName → Option Value} {mg mb : PySem.Str → Option Value} {dp un : Nat} {gd : Option (List Code)} {cn : PySem.Str} {cs : Scope} {a : Addr} {ccd : Value} {cl : List (PySem.Str × Addr)} {outer : List Env} {A₀ : Around}
    {base h₀ : Heap} {L : Addr} {m : PySem.Str → Option Value} {news : List (Addr × Obj)} {s : Shared} {Q E : Value → Shared → Prop}
    (B : Below A₀ base outer h₀) (F : Fr h₀ L s.heap m) (X : (Mine.kk.heap_1 w.params).In h₀) (N : News h₀ L s.heap news) (T : Top p loose mean mg mb h₀) (hk : cs.kind = .function) (hd : dp + k < recursionLimit) (hu : un + u < cLine)
    (ret : ∀ (r : Value) (h' : Heap) (tk' : Nat), Fr h₀ L h' m → News h₀ L h' news → R s.heap h' r → Q r { s with heap := h', toks := tk' }) :
    codeAny (model PySem.Challenge.rw_vn0014_01.prog w) (ktrTop dp un gd cn cs L a ccd cl outer) (.call (.ref f) ⟨vs, []⟩) (fun r s' => match r with | .ok (.ret v) => Q v s' | .ok _ => False | .error e => E e s') s :=
  C p loose mean mg mb dp un gd cn cs a ccd cl outer A₀ base h₀ L m s Q E B F X T hk hd hu fun r h' tk' keep hr => ret r h' tk' (F.keeps keep) (N.grown keep) hr
/-- a call that keeps the frame and the ledger -/
def Calm (w : World) (k u : Nat) (f : Addr) (vs : List Value) (R : Heap → Value → Prop) : Prop :=
  ∀ (p : Program) (loose : List PySem.Str) (mean : ExcName → Option Value) (mg mb : PySem.Str → Option Value) (dp un : Nat) (gd : Option (List Code)) (cn : PySem.Str) (cs : Scope) (a : Addr) (ccd : Value) (cl : List (PySem.Str × Addr)) (outer : List Env) (A₀ : Around)
    (base h₀ : Heap) (L : Addr) (m : PySem.Str → Option Value) (news : List (Addr × Obj)) (s : Shared) (Q E : Value → Shared → Prop),
    Below A₀ base outer h₀ → Fr h₀ L s.heap m → (Mine.kk.heap_1 w.params).In h₀ → News h₀ L s.heap news → Top p loose mean mg mb h₀ → cs.kind = .function → dp + k < recursionLimit → un + u < cLine →
    (∀ (r : Value) (h' : Heap) (tk' : Nat), Fr h₀ L h' m → News h₀ L h' news → R h' r → Q r { s with heap := h', toks := tk' }) →
    wpAny (model PySem.Challenge.rw_vn0014_01.prog w) (ktrTop dp un gd cn cs L a ccd cl outer) (call (.ref f) vs) Q E s
theorem Calm.use {w : World} {k u : Nat} {f : Addr} {vs : List Value} {R : Heap → Value → Prop} (C : Calm w k u f vs R)
    {p : Program} {loose : List PySem.Str} {mean : ExcName → Option Value} {mg mb : PySem.Str → Option Value} {dp un : Nat} {gd : Option (List Code)} {cn : PySem.Str} {cs : Scope} {a : Addr} {ccd : Value} {cl : List (PySem.Str × Addr)} {outer : List Env} {A₀ : Around}
    {base h₀ : Heap} {L : Addr} {m : PySem.Str → Option Value} {news : List (Addr × Obj)} {s : Shared} {Q E : Value → Shared → Prop}
    (B : Below A₀ base outer h₀) (F : Fr h₀ L s.heap m) (X : (Mine.kk.heap_1 w.params).In h₀) (N : News h₀ L s.heap news) (T : Top p loose mean mg mb h₀) (hk : cs.kind = .function) (hd : dp + k < recursionLimit) (hu : un + u < cLine)
    (ret : ∀ (r : Value) (h' : Heap) (tk' : Nat), Fr h₀ L h' m → News h₀ L h' news → R h' r → Q r { s with heap := h', toks := tk' }) :
    wpAny (model PySem.Challenge.rw_vn0014_01.prog w) (ktrTop dp un gd cn cs L a ccd cl outer) (call (.ref f) vs) Q E s :=
  C p loose mean mg mb dp un gd cn cs a ccd cl outer A₀ base h₀ L m news s Q E B F X N T hk hd hu ret
end Mine
end

section
open PySem PySem.W PyProof.Rows PySem.Calls
set_option maxRecDepth 100000
set_option maxHeartbeats 4000000
namespace Mine
/-- the built-ins that hold a bytearray while they stand on the stack -/
def holders : List String := ["bytearray.__contains__", "bytearray.__mod__", "bytearray.__rmod__", "_struct.pack_into.held", "bytearray.find.held"] ++ Builtin.Bytes.decodersThatHold
def holds : Code → Bool
  | .builtin id _ => holders.contains id
  | _ => false
def TidyB (l : List (Code × Pos)) : Prop := ∀ x ∈ l, holds x.1 = false
/-- a walk below which no holder stands -/
def wpT {α : Type} (M : Model) (A : Around) (t : Sem α) (Q : α → Shared → Prop) (E : Value → Shared → Prop) (s : Shared) : Prop :=
  ∀ Γ p, Γ.In A → TidyB Γ.below → holds Γ.code = false → Sem.wp M Γ t (fun a _ s' => Q a s') (fun e _ s' => E e s') p s
def codeT (M : Model) (A : Around) (c : Code) (R : Result → Shared → Prop) (s : Shared) : Prop :=
  ∀ Γ p, Γ.code = c → Γ.Below A → TidyB Γ.below → wpCode M Γ R p s
section
variable {α β : Type} {M : Model} {A : Around} {E : Value → Shared → Prop} {s : Shared} {R : Result → Shared → Prop}
theorem wpT.of {t : Sem α} {Q : α → Shared → Prop} (h : wpAny M A t Q E s) : wpT M A t Q E s := fun Γ p i _ _ => h Γ p i
theorem codeT.of {c : Code} (h : codeAny M A c R s) : codeT M A c R s := fun Γ p e i _ => h Γ p e i
theorem wpT_pure {a : α} {Q : α → Shared → Prop} (h : Q a s) : wpT M A (pure a) Q E s := fun _ _ _ _ _ => h
theorem wpT_mono {t : Sem α} {Q Q' : α → Shared → Prop} {E' : Value → Shared → Prop} (h : wpT M A t Q E s) (hQ : ∀ a s, Q a s → Q' a s) (hE : ∀ e s, E e s → E' e s) : wpT M A t Q' E' s :=
  fun Γ p i y c => Sem.wp_mono M Γ t (fun a _ s => hQ a s) (fun e _ s => hE e s) p s (h Γ p i y c)
theorem wpT_bind {m : Sem α} {f : α → Sem β} {Q : β → Shared → Prop} (h : wpT M A m (fun a s' => wpT M A (f a) Q E s') E s) : wpT M A (m >>= f) Q E s := fun Γ p i y c => by
  rw [Sem.wp_bind']
  exact Sem.wp_mono M Γ m (fun a p' s' h' => h' Γ p' i y c) (fun _ _ _ h' => h') p s (h Γ p i y c)
/-- first what stays with the library, then the rest -/
theorem wpT_seq {m : Sem α} {f : α → Sem β} {Q : β → Shared → Prop} (h : wpAny M A m (fun a s' => wpT M A (f a) Q E s') E s) : wpT M A (m >>= f) Q E s := wpT_bind (wpT.of h)
/-- first what may reach it, then what stays with the library -/
theorem wpT_then {m : Sem α} {f : α → Sem β} {Q : β → Shared → Prop} (h : wpT M A m (fun a s' => wpAny M A (f a) Q E s') E s) : wpT M A (m >>= f) Q E s :=
  wpT_bind (wpT_mono h (fun _ _ x => wpT.of x) fun _ _ x => x)
theorem wpT_tryCatch {m : Sem α} {k : Value → Sem α} {Q : α → Shared → Prop} (h : wpT M A m Q (fun e s' => wpT M A (k e) Q E s') s) : wpT M A (tryCatch m k) Q E s := fun Γ p i y c => by
  rw [Sem.wp_tryCatch']
  exact Sem.wp_mono M Γ m (fun _ _ _ h' => h') (fun e p' s' h' => h' Γ p' i y c) p s (h Γ p i y c)
theorem wpT_onRaise {m : Sem α} {k : Value → Sem Unit} {Q : α → Shared → Prop} (h : wpT M A m Q (fun e s' => wpT M A (k e) (fun _ s'' => E e s'') E s') s) : wpT M A (m.onRaise k) Q E s := fun Γ p i y c => by
  rw [Sem.wp_onRaise]
  exact Sem.wp_mono M Γ m (fun _ _ _ h' => h') (fun e p' s' h' => h' Γ p' i y c) p s (h Γ p i y c)
theorem wpT_holding {vs : List Value} {m : Sem α} {Q : α → Shared → Prop} (h : wpT M A m Q E s) : wpT M A (holding vs m) Q E s := fun Γ p i y c => by
  rw [Sem.wp_holding]
  exact h Γ p i y c
theorem wpT_standAt {pos : Pos} {Q : Unit → Shared → Prop} (h : Q () s) : wpT M A (standAt pos) Q E s := wpT.of (wpAny_standAt h)
theorem wpT_of_eq {t : Sem α} {a : α} {Q : α → Shared → Prop} (e : t = pure a) (h : Q a s) : wpT M A t Q E s := by subst e; exact wpT_pure h
theorem TidyB.cons {c : Code} {p : Pos} {l : List (Code × Pos)} (h : holds c = false) (t : TidyB l) : TidyB ((c, p) :: l) := fun x hx => by
  rcases List.mem_cons.mp hx with rfl | hx
  · exact h
  · exact t x hx
theorem wpT_run {c : Code} {h : Option Value} {Q : Flow → Shared → Prop} (hc : codeT M (A.mark h) c (fun r s' => match r with | .ok f => Q f s' | .error e => E e s') s) (hnb : h ≠ some byPass := by intro x; cases x) :
    wpT M A (run c h) Q E s := fun Γ p i y d => by
  rw [Sem.wp_run]
  exact hc _ p rfl (i.enter c h p hnb) (y.cons d)
theorem wpT_runValue {c : Code} {Q : Value → Shared → Prop} (hc : codeT M A c (fun r s' => match r with | .ok (.ret v) => Q v s' | .ok _ => False | .error e => E e s') s) : wpT M A (runValue c) Q E s := fun Γ p i y d => by
  rw [Sem.wp_runValue]
  exact hc _ p rfl (i.enter c none p (by intro x; cases x)) (y.cons d)
theorem wpT_call {f : Value} {pos : List Value} {kw : List (PySem.Str × Value)} {Q : Value → Shared → Prop} (hc : codeT M A (.call f ⟨pos, kw⟩) (fun r s' => match r with | .ok (.ret v) => Q v s' | .ok _ => False | .error e => E e s') s) :
    wpT M A (call f pos kw) Q E s := wpT_runValue hc
theorem codeT_mono {c : Code} {R' : Result → Shared → Prop} (h : codeT M A c R s) (hR : ∀ r s, R r s → R' r s) : codeT M A c R' s := fun Γ p e i y => wpCode_mono hR (h Γ p e i y)
theorem codeT_of_tree {c : Code} (hd : holds c = false) (h : wpT M (A.under c) (M.den c) (fun fin s' => match fin with | .done f => R (.ok f) s' | .again c' => c'.quiet = true ∧ codeT M A c' R s') (fun e s' => R (.error e) s') s) : codeT M A c R s := fun Γ p hc hΓ y => by
  rw [wpCode_iff_wp, hc]
  refine Sem.wp_mono M Γ _ (fun fin p' s' h' => ?_) (fun _ _ _ h' => h') p s (h Γ p (hc ▸ hΓ.in) y (hc ▸ hd))
  cases fin with
  | done f => exact h'
  | again c' => exact ⟨h'.1, h'.2 (Γ.goto c') p' rfl (hΓ.goto c') y⟩
theorem wpT_askStack {f : Code × Pos → Bool} {Q : Bool → Shared → Prop} (hf : ∀ c p, holds c = false → f (c, p) = false) (h : Q false s) : wpT M A (do return (← stack).any f) Q E s := fun Γ p i y d => by
  show Q (((Γ.code, p) :: Γ.below).any f) s
  have e : ((Γ.code, p) :: Γ.below).any f = false := by
    rw [List.any_eq_false]
    intro x hx
    rw [hf x.1 x.2 (TidyB.cons (p := p) d y x hx)]
    decide
  rw [e]
  exact h
end
section
variable {prog : Program} {w : World} {A : Around} {R : Result → Shared → Prop} {s : Shared}
theorem codeT_func {body env}
    (h : wpT (model prog w) (A.deeper env) (execs body env) (fun f s' => R (.ok (.ret (match f with | .ret v => v | _ => .none))) s')
      (fun e s' => wpAny (model prog w) (A.deeper env) («leaving» env e) (fun _ s'' => R (.error e) s'') (fun e' s'' => R (.error e') s'') s') s) : codeT (model prog w) A (.func body env) R s := by
  refine codeT_of_tree rfl ?_
  show wpT _ (A.deeper env) (do point; match ← (execs body env).onRaise («leaving» env) with | .ret v => ret v | _ => ret .none) _ _ s
  refine wpT_seq (wpAny_point (wpT_bind (wpT_onRaise (wpT_mono h (fun f s' h' => ?_) fun _ _ h' => wpT.of h'))))
  cases f <;> exact wpT_pure h'
theorem codeT_call_def {a : Addr} {o : Obj} {fd : FuncData} {body : List Stmt} {args : Args} {binds : List (PySem.Str × Value)}
    (hroom : A.depth < recursionLimit) (ho : s.heap.get? a = some o) (hdata : o.data = .func fd) (hlim : s.heap.NoLimit) (hcd : s.heap.CodeRec fd.code fd.qualname)
    (hbody : fd.body = .stmts body) (hbind : BindsTo s fd args binds) (hcell : ∀ x ∈ fd.scope.names, x.2 ≠ .cell) (hloc : ∀ x ∈ binds, fd.scope.names.lookup x.1 = some .local)
    (h : ∀ h₀, h₀.Ns s.heap.objs.size (fun x => binds.reverse.lookup x) → (∀ b o, s.heap.get? b = some o → h₀.get? b = some o) →
      wpT (model prog w) (A.deeper (callEnv fd s.heap.objs.size a)) (execs body (callEnv fd s.heap.objs.size a)) (fun f s' => R (.ok (.ret (match f with | .ret v => v | _ => .none))) s')
        (fun e s' => wpAny (model prog w) (A.deeper (callEnv fd s.heap.objs.size a)) («leaving» (callEnv fd s.heap.objs.size a) e) (fun _ s'' => R (.error e) s'') (fun e' s'' => R (.error e') s'') s')
        { s with heap := h₀, toks := s.toks + binds.length })
    (hco : fd.scope.isCoroutine = false) (hgen : fd.scope.isGenerator = false) (hk : fd.scope.kind = .function) : codeT (model prog w) A (.call (.ref a) args) R s := by
  refine codeT_of_tree rfl ?_
  show wpT _ A.in1 (callAny (.ref a) args) _ _ s
  simp only [callAny]
  refine wpT_seq (wpAny_load ho ?_)
  obtain ⟨c, oc, vs, tq, hc, hoc, hdc, hq⟩ := id hcd
  simp only [hdata, callFunction, hco, hgen, hbody, hc]
  refine wpT_seq (m := field (.ref c) 1) (wpAny_field hoc hdc hq ?_)
  dsimp only
  refine wpT_seq (wpAny_pure ?_)
  refine wpT_seq (hbind _ _ _ _ ?_)
  rw [← hc]
  refine wpT_seq (wpAny_newFunctionEnv hcell hloc (fun h₀ hns₀ hsb₀ => ?_) hk)
  have k : ∀ b o, s.heap.get? b = some o → h₀.get? b = some o := fun b o e => hsb₀.extBut b o (Nat.ne_of_lt (Heap.lt_size e)) (Heap.get?_push_of_some _ e)
  refine wpT_seq (wpAny_enterFrame (hlim.fresh _ hsb₀) hroom ?_)
  exact wpT_pure ⟨rfl, codeT_func (h h₀ hns₀ k)⟩
end
end Mine
end

section
open PySem PySem.W PyProof.Rows PySem.Calls
set_option maxRecDepth 100000
set_option maxHeartbeats 4000000
namespace Mine
/-- the caller's own place: nothing stands below it -/
theorem caller_tidy {prog : Program} {w : World} {t : Sem Fin} {s : Shared} {R : Result → Shared → Prop} (h : wpT (model prog w) callerA t (fun fin s' => ∃ f, fin = .done f ∧ R (.ok f) s') (fun e s' => R (.error e) s') s) :
    Sem.wp (model prog w) ⟨.builtin "claim.caller" {}, none, none, [], none⟩ t (Sem.finPost (model prog w) ⟨.builtin "claim.caller" {}, none, none, [], none⟩ R) (fun e _ s' => R (.error e) s') default s := by
  refine Sem.wp_mono _ _ t (fun fin _ s' x => ?_) (fun _ _ _ x => x) _ _ (h _ default caller_in (fun _ hx => nomatch hx) (by decide +kernel))
  obtain ⟨f, rfl, y⟩ := x
  exact y
theorem thread_T {prog : Program} {w : World} {t : Sem Fin} {s : Shared} {R : Result → Shared → Prop} (hz : s.asleep) (hG : leftWithCleanup s.gens = false)
    (h : wpT (model prog w) callerA t (fun fin s' => ∃ f, fin = .done f ∧ R (.ok f) s' ∧ s'.gens = #[]) (fun e s' => R (.error e) s' ∧ s'.gens = #[]) { s with gens := #[] }) :
    ∃ n r s', schedN (denote table) prog w n (.single s ⟨t, .builtin "claim.caller" {}, default, []⟩) = .halted (outcomeOf r) { s' with gens := s.gens } ∧ s'.heap.life = s.heap.life ∧ R r s' := by
  have bare : ∀ s' : Shared, s'.gens = #[] → leftWithCleanup s'.gens = false := fun s' e => by rw [e]; simp [leftWithCleanup]
  have k := caller_tidy (R := fun r s' => (R r s' ∧ s'.gens = #[]) ∧ leftWithCleanup s'.gens = false) (wpT_mono h (fun _ _ ⟨f, e, a, b⟩ => ⟨f, e, ⟨a, b⟩, bare _ b⟩) fun _ _ ⟨a, b⟩ => ⟨⟨a, b⟩, bare _ b⟩)
  obtain ⟨n, r, s₁, hn, hR, hg⟩ := (wp_iff_halts (M := model prog w) (R := fun r s' => R r s' ∧ s'.gens = #[]) ..).mp k
  obtain ⟨s₂, hr, hf, hc⟩ := runNI_real _ _ _ hn (outcomeOf_ends r)
  cases Shared.eq_of_forget_eq hf hg
  exact ⟨n, r, s₁, sched_gens (s := { s with gens := #[] }) hG hr (outcomeOf_ends r) hg rfl hc hz, runN_life (s := { s with gens := #[] }) _ _ _ hr, hR⟩
/-- the row, when what is asked of the call is shown for a tidy stack -/
theorem law_row {r : OpenRow} {q : Program} {loose : List PySem.Str} {Xt : Shared → Bool} {XP : (PySem.Str → Option Value) → Heap → Prop} {α : Type} {Yf : Shared → α} {Ya : World → α} {YP : World → Heap → Prop} {d : DefRec} {kwd : List (PySem.Str × Expr)} {N : Nat}
    (left : LeftO r.prog q loose Xt Yf Ya N false) (hY : ∀ w s, Yf s = Ya w → YP w s.heap) (hYk : ∀ w h h', YP w h → (∀ b o, h.get? b = some o → h'.get? b = some o) → YP w h')
    (hX : ∀ s, Xt s = true → XP (s.heap.nsMap mainGlobals) s.heap) (hXk : ∀ mg h h', XP mg h → (∀ b o, h.get? b = some o → h'.get? b = some o) → XP mg h')
    (hdef : defOf q r.name = some (d, kwd)) (hp : r.prog.theDef r.name = some (d.params, d.body, d.scope)) (hk : kwWritten? d.params.kwonlyargs d.params.kw_defaults = some kwd) (hRf : ∀ s, Xt s = true → RecFacts r.records s.heap) (hwr : (!r.writes || r.records.isEmpty) = true)
    (k1 : r.wellSaid = true) (ok : (chainsOk q && opensWell r.prog && (frees r.toRowW && r.within.isEmpty)) = true) (hb : r.prog.bare) (hw : r.toRowW.promised)
    (go : ∀ (w : World) (s₀ s₁ : Shared) (mg mb : PySem.Str → Option Value), Ground q loose r.records XP w s₀ mg mb s₁.heap → YP w s₁.heap → ∀ (a : Addr) (o : Obj) (pm cd doc dV kV : Value), s₁.heap.get? a = some o →
      o.data = .func { docDef d.name d.params d.body d.scope pm cd doc with defaults := dV, kwdefaults := kV } → s₁.heap.CodeRec cd d.name → Dflts mg s₁.heap d.params kwd dV kV → mg d.name = some (.ref a) → s₁.gens = #[] →
      ∀ (args : List WData) (vals : List Value) (as : List Addr), r.claim.pre args = true → WData.layableAll args = true → ReadsAllW r.records (classAt s₀.heap) s₁.heap vals args as → WellAll w.params s₁.heap vals args → (∀ a ∈ as, (a == sysModules) = false) →
        wpT (model r.prog w) callerA (PySem.call (.ref a) vals) (fun v s' => GoodW r.claim (classAt s₀.heap) (ExcName.means s₀.heap) args s₁ (.ok (.ret v)) s')
          (fun e s' => GoodW r.claim (classAt s₀.heap) (ExcName.means s₀.heap) args s₁ (.error e) s') s₁) : r.Holds := by
  obtain ⟨ok, fr⟩ := Bool.and_eq_true_iff.mp ok
  obtain ⟨hch, ho⟩ := Bool.and_eq_true_iff.mp ok
  obtain ⟨fr, hwn⟩ := Bool.and_eq_true_iff.mp fr
  obtain ⟨hsame, hun, hal, hap, hmk⟩ := frees_parts fr
  refine ⟨k1, hw, ⟨hb, ho, show r.makers.map _ = [] by rw [hmk]; rfl⟩, hw.witness, fun w => ⟨(left.behind hX hch w).1, fun s' hs' => ?_⟩⟩
  obtain ⟨s₀, hf, hg0, s, hT, hz, hgens, hg, G0, y⟩ := (left.behind (XP := fun mg h => XP mg h ∧ RecFacts r.records h) (fun s hs => ⟨hX s hs, hRf s hs⟩) hch w).2 s' hs'
  have RF := G0.X.2
  have G1 : Ground q loose [] XP w s (s.heap.nsMap mainGlobals) (s.heap.nsMap builtinsNs) s.heap := ⟨G0.T, G0.B, G0.D, G0.TE, G0.TD, G0.W, G0.X.1, G0.cls, G0.has, G0.apart, G0.once, G0.K⟩
  refine ⟨s₀, hf, hg0, s, hT, fun n hn => ?_, RF.1, RF.2.1, fun args hpre hlay ord hord => ?_⟩
  · have e : n = r.name := by split at hn <;> simp_all
    subst e
    exact pinned_of_view hg G1 hdef hp hk
  have G : Ground q loose r.records XP w s _ _ s.heap := RF.ground G1
  obtain ⟨⟨vs, s₁⟩, hlaid⟩ := Option.isSome_iff_exists.mp (layAllW_isSome (P := w.params) (ord := ord) G.has args r.args s (pre_splitW hpre).1)
  have keeps := layAllW_keeps _ _ _ hlaid
  have rest := layAllW_rest _ _ _ hlaid
  obtain ⟨as, hrd, hin, hold⟩ := reads_layAllW hord _ _ _ hlaid hlay s₁.heap (fun _ _ e => e)
  have G₁ := G.keeps hXk keeps
  obtain ⟨a, o, pm, cd, doc, dV, kV, h1, h2, h3, h4, h5⟩ := G₁.fn hdef
  have nm := defOf_name hdef
  have walk := go w s { s₁ with gens := #[] } _ _ G₁ (hYk _ _ _ (hY w s y) keeps) a o pm cd doc dV kV h2 h3 h4 h5 (nm ▸ h1) rfl args vs as hpre hlay hrd (well_layAllW hord args s _ hlaid _ fun _ _ e => e)
    (fun a ha => beq_eq_false_iff_ne.mpr fun e => by have := (hin.2.2 a ha).1; subst e; exact absurd G.low (Nat.not_lt.mpr this))
  have ends : ∀ {x : Result} {s' : Shared}, GoodW r.claim (classAt s.heap) (ExcName.means s.heap) args { s₁ with gens := #[] } x s' → (r.claim.Ends s args vs s₁ x s' ∧ s'.os = s.os ∧ (r.writes = true → namesKept r.claim.prog r.keeps s.heap s'.heap ∧ ∀ x ∈ r.claim.records, ∀ a, classAt s.heap x.1 = some a → recordClass s'.heap a x.1 (x.2.map (·.1)) = true)) ∧ s'.gens = #[] := fun g => by
    have z := g.endsN (c := r.claim) hsame (List.isEmpty_iff.mp hwn) (ident_freeW hun hal hap) hrd hold rest.2.2.1
    exact ⟨⟨z.1, z.2.1, fun q => ⟨namesKept_of hT hg r.keeps keeps fun b o e => .inl (g.2.1 b o e), noTable hwr q⟩⟩, z.2.2⟩
  refine ⟨vs, s₁, hlaid, ?_⟩
  obtain ⟨k, x, s', sched, life, ⟨case_, os, kept⟩⟩ := thread_T (R := fun x s' => r.claim.Ends s args vs s₁ x s' ∧ s'.os = s.os ∧ (r.writes = true → namesKept r.claim.prog r.keeps s.heap s'.heap ∧ ∀ x ∈ r.claim.records, ∀ a, classAt s.heap x.1 = some a → recordClass s'.heap a x.1 (x.2.map (·.1)) = true))
    (t := (callStub r.name vs).cur) (Shared.asleep_of_life rest.2.2.2 hz) (by rw [show s₁.gens = s.gens from rest.1]; simpa using hgens)
    (wpT_seq (wpAny_nsGet G₁.T.g (by rw [h1]; exact wpT_bind (wpT_mono walk (fun v _ g => wpT_pure ⟨_, rfl, ends g⟩) fun _ _ g => ends g))))
  refine ⟨k, _, _, sched, ?_, (fun _ i x hx => by rw [← hx]; exact congrArg (·[i]?) rest.1), kept, congrArg Life.seen (life.trans rest.2.2.2), Shared.rest_eq os⟩
  rcases case_ with ⟨v, rfl, d1, d2, d3, d4, d5⟩ | ⟨e, ob, cls, rfl, d1, d2, d3, d4, d5⟩
  · exact .inl ⟨v, rfl, d1, d2, d3, fun b o y _ => d4 b o y, d5⟩
  · exact .inr ⟨e, ob, cls, rfl, d1, d2, d3, d4, fun b o y _ => d5 b o y⟩
end Mine
end

section
open PySem PySem.W PyProof.Rows PySem.Calls
set_option maxRecDepth 100000
set_option maxHeartbeats 8000000
namespace Mine
noncomputable section
/-- the def law as it lies in the heap -/
def lawFd (w : World) : Option FuncData := match (Mine.kk.heap_1 w.params).lookup 1074 with
  | some ⟨_, _, .func fd, _⟩ => some fd
  | _ => none
def lawBody (w : World) : List Stmt := match lawFd w with
  | some fd => (match fd.body with | .stmts b => b | _ => [])
  | none => []
def lawScope (w : World) : Scope := match lawFd w with
  | some fd => fd.scope
  | none => default
def lawSt (w : World) (i : Nat) : Stmt := (lawBody w).getD i (.Pass default)
def forTgt : Stmt → Expr
  | .For t _ _ _ _ => t
  | _ => default
def forIter : Stmt → Expr
  | .For _ i _ _ _ => i
  | _ => default
def forPos : Stmt → Pos
  | .For _ _ _ _ p => p
  | _ => default
def forBody : Stmt → List Stmt
  | .For _ _ body _ _ => body
  | _ => []
end
theorem m_form {m : PySem.Str → Option Value} {x : PySem.Str} {v : Value} (h : m x = some v) : m = fun y => if y = x then some v else m y := by
  funext y
  by_cases e : y = x
  · rw [if_pos e, e, h]
  · rw [if_neg e]
theorem fr_form {h₀ h : Heap} {L : Addr} {m : PySem.Str → Option Value} {x : PySem.Str} {v : Value} (F : Fr h₀ L h m) (e : m x = some v) : Fr h₀ L h (fun y => if y = x then some v else m y) := m_form e ▸ F
theorem law_len (w : World) : (lawBody w).length = 11 := by rfl
theorem law_split (w : World) : lawBody w = [lawSt w 0, lawSt w 1, lawSt w 2, lawSt w 3, lawSt w 4, lawSt w 5, lawSt w 6, lawSt w 7, lawSt w 8, lawSt w 9, lawSt w 10] := by rfl
theorem law_cells (w : World) (L : Addr) : cellsFrom (L + 1) (lawScope w).names [] = [(PySem.Str.ofString "rows", L + 1 + 1 + 1), (PySem.Str.ofString "plain", L + 1 + 1), (PySem.Str.ofString "shorts", L + 1)] := by
  rfl
end Mine
end

section
open PySem PySem.W PyProof.Rows PySem.Calls
set_option maxRecDepth 100000
set_option maxHeartbeats 4000000
namespace Mine
section
variable {prog : Program} {w : World} {A A₀ : Around} {s : Shared} {L : Addr} {h₀ base : Heap} {m : PySem.Str → Option Value} {news : List (Addr × Obj)} {env : Env} {outer : List Env}
/-- a plain function is entered, the ledger stays in sight: T -/
theorem code_defT {K : Frag} {p : Program} {loose : List PySem.Str} {mean : ExcName → Option Value} {mg mb : PySem.Str → Option Value} {R : Result → Shared → Prop} {name qual : PySem.Str} {params : Arguments} {body : List Stmt} {scope : Scope} {dV kV doc pm cdv ct oc : Value} {an od : Option Addr} {osl : Array (Option Value)} {f : Addr} {args : Args} {binds : List (PySem.Str × Value)}
    (B : Below A₀ base outer h₀) (F : Fr h₀ L s.heap m) (X₀ : K.In h₀) (N : News h₀ L s.heap news) (T : Top p loose mean mg mb h₀) (hA : A.frames = some (env :: outer)) (hf : env.frame = some L) (hke : env.scope.kind = .function)
    (ho : K.lookup f = some ⟨oc, od, .func (fnOf name qual params body scope dV kV doc pm an cdv ct), osl⟩) (hcd : codeIn K cdv qual = true) (hroom : A.depth < recursionLimit)
    (hbind : BindsTo s (fnOf name qual params body scope dV kV doc pm an cdv ct) args binds) (hloc : ∀ y ∈ binds, scope.names.lookup y.1 = some .local)
    (h : ∀ g L' h₁, Fr h₀ L g m → Fr g L' h₁ (fun y => binds.reverse.lookup y) → News g L' h₁ news → Below A base (env :: outer) g → K.In g → Top p loose mean mg mb g → (∀ b o, s.heap.get? b = some o → b ∉ news.map (·.1) → g.get? b = some o) →
      wpT (model prog w) (A.deeper (envOf qual scope L' f cdv)) (execs body (envOf qual scope L' f cdv))
        (fun fl s' => LeaveK h₀ L m g R (match fl with | .ret v => v | _ => .none) s')
        (fun e s' => wpAny (model prog w) (A.deeper (envOf qual scope L' f cdv)) («leaving» (envOf qual scope L' f cdv) e) (fun _ s'' => R (.error e) s'') (fun e' s'' => R (.error e') s'') s')
        { s with heap := h₁, toks := s.toks + binds.length })
    (hco : scope.isCoroutine = false) (hgen : scope.isGenerator = false) (hk : scope.kind = .function)
    (hcell : ∀ x ∈ scope.names, x.2 ≠ .cell) : codeT (model prog w) A (.call (.ref f) args) R s := by
  obtain ⟨FG, BG, st, lv⟩ := groundX (R := R) B F N hA hf hke
  refine codeT_call_def (fd := fnOf name qual params body scope dV kV doc pm an cdv ct) (body := body) (binds := binds) hroom ((X₀.keeps F.keep) _ _ ho) rfl (T.nolimit.keeps F.keep) (codeRec_of (X₀.keeps F.keep) hcd) rfl hbind hcell hloc (fun h₁ hns hk₁ => ?_) hco hgen hk
  refine wpT_mono (h _ s.heap.objs.size h₁ FG ⟨hns, fun b o e => hk₁ b o (of_hideAll _ e), Nat.le_of_eq (hideAll_size _ _)⟩ (fun p hp => ⟨hk₁ _ _ (N p hp).1, Nat.ne_of_lt (Heap.lt_size (N p hp).1), hideAll_none _ (List.mem_map_of_mem hp)⟩) BG (X₀.keeps st) (T.keeps st)
    (fun b o e n => hideAll_get _ e n)) (fun fl s' hl => lv _ _ hl) fun _ _ y => y
end
section
variable {M : Model} {A : Around} {E : Value → Shared → Prop} {s : Shared} {env : Env}
theorem wpT_execs {st : Stmt} {rest : List Stmt} {Q : Flow → Shared → Prop} (h : wpT M A (exec st env) (fun f s' => match f with | .next => wpT M A (execs rest env) Q E s' | f => Q f s') E s) : wpT M A (execs (st :: rest) env) Q E s := by
  rw [execs_cons]
  refine wpT_bind (wpT_mono h (fun f s' h' => ?_) fun _ _ x => x)
  cases f <;> first | exact h' | exact wpT_pure h'
/-- a statement that stays with the library, then the rest -/
theorem wpT_execs1 {st : Stmt} {rest : List Stmt} {Q : Flow → Shared → Prop} (h : wpAny M A (exec st env) (fun f s' => match f with | .next => wpT M A (execs rest env) Q E s' | f => Q f s') E s) : wpT M A (execs (st :: rest) env) Q E s := wpT_execs (wpT.of h)
theorem wpT_AssignName {x : PySem.Str} {pos' pos : Pos} {value : Expr} {Q : Flow → Shared → Prop} (h : wpT M A (eval value env) (fun v s₁ => wpAny M A (storeName env x v) (fun _ s' => Q .next s') E s₁) E s)
    (hs : swapsWith value (some (.Name x pos')) pos.line env = pure false := by rfl) : wpT M A (exec (.Assign [.Name x pos'] value pos) env) Q E s := by
  rw [exec_Assign_Name env x pos' value pos hs]
  exact wpT_bind (wpT_standAt (wpT_then (wpT_mono h (fun v s₁ h₁ => wpAny_bind (wpAny_standAt (wpAny_bind (wpAny_bindName (wpAny_mono h₁ (fun _ _ q => wpAny_pure q) fun _ _ x => x))))) fun _ _ x => x)))
theorem wpT_If {test : Expr} {body orelse : List Stmt} {pos : Pos} {Q : Flow → Shared → Prop}
    (h : wpT M A (isTrue test env (eval test env)) (fun b s₂ => if b then wpT M A (execs body env) Q E s₂ else wpT M A (execs orelse env) Q E s₂) E s) : wpT M A (exec (.If test body orelse pos) env) Q E s := by
  rw [exec_If]
  refine wpT_bind (wpT_standAt (wpT_bind (wpT_mono h (fun b s₂ h₂ => ?_) fun _ _ x => x)))
  cases b <;> exact h₂
theorem wpT_Compare1 {l r : Expr} {op : CmpOp} {pos : Pos} {whole : Sem Value} {Q : Bool → Shared → Prop}
    (h : wpT M A (eval l env) (fun a s₁ => wpAny M A (eval r env) (fun b s₂ => wpAny M A (compareOp op a b) (fun c s₃ => wpAny M A (truthy c) Q E s₃) E s₂) E s₁) E s)
    (hm : behindInMarks op r = false := by with_unfolding_all rfl) : wpT M A (isTrue (.Compare l [op] [r] pos) env whole) Q E s := by
  rw [isTrue_Compare1]
  refine wpT_then (wpT_mono h (fun a s₁ h₁ => ?_) fun _ _ x => x)
  refine wpAny_bind (wpAny_holding ?_)
  rw [markedBehindIn_of_false hm]
  exact wpAny_mono h₁ (fun b s₂ h₂ => wpAny_bind (wpAny_standAt (wpAny_bind (wpAny_operating (wpAny_mono h₂ (fun c s₃ h₃ => wpAny_holding h₃) fun _ _ x => x))))) fun _ _ x => x
end
end Mine
end

section
open PySem PySem.W PyProof.Rows PySem.Calls
set_option maxRecDepth 100000
set_option maxHeartbeats 4000000
namespace Mine
section
variable {M : Model} {A : Around} {E : Value → Shared → Prop} {s : Shared} {env : Env}
theorem wpT_keep {α : Type} {vs : List Value} {m : Sem α} {Q : α → Shared → Prop} (h : wpT M A m Q E s) : wpT M A (m.keep vs) Q E s := fun Γ p i y c => by
  rw [Sem.wp_keep]
  exact h Γ p i y c
theorem wpT_operate {vs : List Value} {m : Sem Value} {Q : Value → Shared → Prop} (h : wpT M A m Q E s) : wpT M A (operate vs m) Q E s := fun Γ p i y c => by
  rw [Sem.wp_operate]
  exact h Γ p i y c
theorem wpT_callWith {P : Heap → Prop} {f : Value} {first : List Value} {pos : Pos} {args : List (Bool × Sem Value)} {Q : Value → Shared → Prop} (hplain : args.any (·.1) = false)
    (hk : ∀ h, P h → ∃ k, (k = Keeper.frame ∨ k = Keeper.machine ∨ k = Keeper.boundFrame) ∧ Looks M h (keeperOf f) k)
    (h : wpAny M A (evalArgs f true args []) (fun a s₁ => P s₁.heap ∧ wpT M A (call f (first ++ a.pos) a.kw) Q E s₁) E s) : wpT M A (callWith pos f first args []) Q E s := by
  unfold callWith
  refine wpT_bind (wpT_holding (wpT_mono (wpT.of h) (fun a s₁ h₁ => wpT_bind (wpT_standAt ?_)) fun _ _ x => x))
  obtain ⟨k, hk', L⟩ := hk _ h₁.1
  simp only [hplain, List.any_nil, Bool.or_false]
  refine wpT_seq (L.here ?_)
  have tail : ∀ {t : Sem Value}, wpT M A t Q E s₁ → wpT M A (t >>= fun r => holding [r] point >>= fun _ => pure r) Q E s₁ :=
    fun ht => wpT_bind (wpT_mono ht (fun r s₂ hr => wpT_bind (wpT_holding (wpT.of (wpAny_point (wpT_pure hr))))) fun _ _ x => x)
  have marked (mk : Value) : wpT M A (callMarked mk f (first ++ a.pos) a.kw) Q E s₁ := by unfold callMarked; exact wpT_keep h₁.2
  rcases hk' with rfl | rfl | rfl <;> dsimp only <;> first | exact tail h₁.2 | (split <;> first | exact tail h₁.2 | exact tail (marked _))
theorem eval_CallName (f : PySem.Str) (fp pos : Pos) (args : List Expr) : eval (.Call (.Name f fp) args [] pos) env = (do callWith pos (← eval (.Name f fp) env) [] (backTo pos (starEach args env)) (backToKw pos (keywordEach [] env))) := by rfl
/-- two things at a place where the walk is to stop -/
def Then (a b : Prop) : Prop := a ∧ b
/-- a call of a name, one plain argument: the arguments stay with the library, the call is T -/
theorem wpT_CallName1 {K : Frag} {fv : Value} {f : PySem.Str} {fp pos : Pos} {e : Expr} {Q : Value → Shared → Prop}
    (he : starEach [e] env = [(false, eval e env)]) (hf : keepIn K fv = true)
    (h : wpAny M A (eval (.Name f fp) env) (fun x s₀ => Then (x = fv) (wpAny M A (eval e env) (fun v s₁ => Then (K.In s₁.heap) (wpT M A (call fv [v]) Q E s₁)) E s₀)) E s) : wpT M A (eval (.Call (.Name f fp) [e] [] pos) env) Q E s := by
  rw [eval_CallName, he]
  refine wpT_seq (wpAny_mono h (fun x s₀ h₀ => ?_) fun _ _ x => x)
  obtain ⟨rfl, h₀⟩ := h₀
  refine wpT_callWith rfl (keeps_K hf) (Calls.evalArgs_plain ?_)
  refine Calls.spliced_cons (wpAny_mono h₀ (fun v s₁ h₁ => Calls.spliced_nil h₁) fun _ _ x => x)
end
end Mine
end

section
open PySem PySem.W PyProof.Rows PySem.Calls
set_option maxRecDepth 100000
set_option maxHeartbeats 4000000
namespace Mine
section
variable {M : Model} {A : Around} {E : Value → Shared → Prop} {s : Shared} {env : Env}
theorem exec_AssignAttr (o : Expr) (a : PySem.Str) (pos' : Pos) (value : Expr) (pos : Pos) (hs : swapsWith value (some (.Attribute o a pos')) pos.line env = pure false) : exec (.Assign [.Attribute o a pos'] value pos) env =
    (do standAt pos; let v ← eval value env; assign (.Attribute o a pos') env v; pure .next) := by
  have e : exec (.Assign [.Attribute o a pos'] value pos) env = (do
      standAt pos
      if ← swapsWith value (some (.Attribute o a pos')) pos.line env then
        evalThenUse value env (assign (.Attribute o a pos') env)
        return .next
      let v ← eval value env
      assign (.Attribute o a pos') env v
      pure .next) := rfl
  rw [e, hs]
  rfl
theorem wpT_AssignAttr {o value : Expr} {a : PySem.Str} {pos' pos : Pos} {Q : Flow → Shared → Prop} (hs : swapsWith value (some (.Attribute o a pos')) pos.line env = pure false)
    (h : wpT M A (eval value env) (fun v s₁ => wpAny M A (assign (.Attribute o a pos') env v) (fun _ s' => Q .next s') E s₁) E s) : wpT M A (exec (.Assign [.Attribute o a pos'] value pos) env) Q E s := by
  rw [exec_AssignAttr o a pos' value pos hs]
  exact wpT_bind (wpT_standAt (wpT_then (wpT_mono h (fun v s₁ h₁ => wpAny_bind (wpAny_mono h₁ (fun _ _ q => wpAny_pure q) fun _ _ x => x)) fun _ _ x => x)))
theorem wpT_AssignAttr2 {o value : Expr} {attr : PySem.Str} {pos' pos : Pos} {Q : Flow → Shared → Prop}
    (h : wpT M A (eval value env) (fun v s₁ => wpAny M A (eval o env) (fun ov s₂ => wpAny M A (setAttr ov attr v) (fun _ s₃ => Q .next s₃) E s₂) E s₁) E s)
    (hs : swapsWith value (some (.Attribute o attr pos')) pos.line env = pure false := by rfl) : wpT M A (exec (.Assign [.Attribute o attr pos'] value pos) env) Q E s := fun Γ p i y c => by
  simp only [exec_AssignAttr o attr pos' value pos hs, assign_Attribute, Sem.wp_bind', Sem.wp_holding, Sem.wp_cmd_standAt, Sem.wp_release, Sem.wp_pure']
  exact Sem.wp_mono M Γ _ (fun v p₁ s₁ h₁ => Sem.wp_mono M Γ _ (fun ov _ s₂ h₂ => h₂ Γ _ i) (fun _ _ _ x => x) _ _ (h₁ Γ p₁ i)) (fun _ _ _ x => x) _ _ (h Γ _ i y c)
theorem eval_IfExp' (test body orelse : Expr) (pos : Pos) : eval (.IfExp test body orelse pos) env = (do if ← isTrue test env (eval test env) then eval body env else eval orelse env) := by rfl
/-- a choice whose test gives c -/
theorem wpT_IfExp {c : Bool} {test body orelse : Expr} {pos : Pos} {Q : Value → Shared → Prop} (h : wpAny M A (isTrue test env (eval test env)) (fun x s₁ => Then (x = c) (if c then wpT M A (eval body env) Q E s₁ else wpT M A (eval orelse env) Q E s₁)) E s) :
    wpT M A (eval (.IfExp test body orelse pos) env) Q E s := by
  rw [eval_IfExp']
  refine wpT_seq (wpAny_mono h (fun x s₁ h₁ => ?_) fun _ _ x => x)
  obtain ⟨rfl, h₁⟩ := h₁
  cases x <;> exact h₁
theorem keeps_type (n : String) (hn : keeperOf (.type n) = pure .machine) (h : Heap) : True → ∃ k, (k = Keeper.frame ∨ k = Keeper.machine ∨ k = Keeper.boundFrame) ∧ Looks M h (keeperOf (.type n)) k :=
  fun _ => ⟨_, .inr (.inl rfl), Looks.of_pure hn⟩
theorem wpT_CallType1 {n : String} {f : PySem.Str} {fp pos : Pos} {e : Expr} {Q : Value → Shared → Prop} (hn : keeperOf (.type n) = pure .machine)
    (he : starEach [e] env = [(false, eval e env)])
    (h : wpAny M A (eval (.Name f fp) env) (fun x s₀ => Then (x = .type n) (wpAny M A (eval e env) (fun v s₁ => Then True (wpT M A (call (.type n) [v]) Q E s₁)) E s₀)) E s) : wpT M A (eval (.Call (.Name f fp) [e] [] pos) env) Q E s := by
  rw [eval_CallName, he]
  refine wpT_seq (wpAny_mono h (fun x s₀ h₀ => ?_) fun _ _ x => x)
  obtain ⟨rfl, h₀⟩ := h₀
  refine wpT_callWith (P := fun _ => True) rfl (keeps_type n hn) (Calls.evalArgs_plain ?_)
  refine Calls.spliced_cons (wpAny_mono h₀ (fun v s₁ h₁ => Calls.spliced_nil h₁) fun _ _ x => x)
/-- a statement that stays with the library and goes on to the next -/
theorem wpT_execsN {st : Stmt} {rest : List Stmt} {Q : Flow → Shared → Prop} (h : wpAny M A (exec st env) (fun f s' => Then (f = .next) (wpT M A (execs rest env) Q E s')) E s) : wpT M A (execs (st :: rest) env) Q E s := by
  refine wpT_execs (wpT.of (wpAny_mono h (fun f s' h' => ?_) fun _ _ x => x))
  obtain ⟨rfl, h'⟩ := h'
  exact h'
theorem keeper_bytearray : keeperOf (.type "bytearray") = pure .machine := by
  first
    | rfl
    | kernel_rfl
end
end Mine
end

section
open PySem PySem.W PyProof.Rows PySem.Calls
set_option maxRecDepth 100000
set_option maxHeartbeats 4000000
namespace Mine
theorem wpT_attempt {α : Type} {M : Model} {A : Around} {E : Value → Shared → Prop} {s : Shared} {m : Sem α} {Q : Except Value α → Shared → Prop} (h : wpT M A m (fun a => Q (.ok a)) (fun e => Q (.error e)) s) :
    wpT M A m.attempt Q E s := fun Γ p i y c => by rw [Sem.wp_attempt]; exact h Γ p i y c
/-- nothing is raised -/
def NoE : Value → Shared → Prop := fun _ _ => False
section
variable {prog : Program} {w : World} {A : Around} {s : Shared} {env : Env}
theorem codeT_loop {M : Model} {c : Code} {R : Result → Shared → Prop} (hd : holds c = false) (hq : c.quiet = true) (I : Nat → Shared → Prop)
    (turn : ∀ n s, I n s → wpT M (A.under c) (M.den c)
      (fun fin s' => match fin with
        | .done f => R (.ok f) s'
        | .again c' => (c' = c ∧ ∃ m, m < n ∧ I m s') ∨ (c'.quiet = true ∧ codeT M A c' R s')) (fun e s' => R (.error e) s') s)
    (n : Nat) (h : I n s) : codeT M A c R s := by
  induction n using Nat.strongRecOn generalizing s with
  | ind n ih =>
    refine codeT_of_tree hd (wpT_mono (turn n s h) (fun fin s' hf => ?_) fun _ _ h' => h')
    cases fin with
    | done f => exact hf
    | again c' =>
      rcases hf with ⟨rfl, m, hm, hI⟩ | hf
      · exact ⟨hq, ih m hm hI⟩
      · exact hf
theorem codeT_forLoop {R : Result → Shared → Prop} {target : Expr} {it : Value} {body : List Stmt} (I : Nat → Shared → Prop)
    (turn : ∀ n s, I n s → wpAny (model prog w) A (pyNext it) (fun r s₁ => match r with
      | none => R (.ok .next) s₁
      | some v => wpAny (model prog w) A (letOwnedTupleGo target it v) (fun _ s₁' =>
          wpAny (model prog w) A (assign target env v) (fun _ s₂ => wpT (model prog w) A (execs body env) (fun f s₃ => match f with
            | .next | .cont => ∃ m, m < n ∧ I m s₃
            | .brk => R (.ok .next) s₃
            | .ret v => R (.ok (.ret v)) s₃) NoE s₂) NoE s₁') NoE s₁) NoE s)
    (n : Nat) (h : I n s) : codeT (model prog w) A (.forLoop target it body [] env) R s := by
  refine codeT_loop rfl rfl I (fun n s hI => ?_) n h
  show wpT _ A ((forTurn target it body [] env).onRaise (fun x => do noteFrame x env; theTreesLotGoes x)) _ _ s
  have no : ∀ {s' : Shared} {e : Value} {P : Prop}, NoE e s' → P := fun h => h.elim
  refine wpT_onRaise (wpT_mono (E := NoE) ?_ (fun _ _ q => q) fun _ _ h => no h)
  simp only [forTurn]
  refine wpT_bind (wpT_standAt (wpT_bind (wpT.of (wpAny_onRaise (wpAny_mono (turn n s hI) (fun r s₁ h₁ => ?_) fun _ _ h' => no h')))))
  cases r with
  | none => exact wpT_pure (.inr ⟨rfl, codeT.of (codeAny_block (wpAny_execs_nil h₁))⟩)
  | some v =>
    refine wpT_bind (wpT.of (wpAny_mono h₁ (fun _ s₁' h₁' => ?_) fun _ _ h' => h'))
    refine wpT_bind (wpT.of (wpAny_mono h₁' (fun _ s₂ h₂ => wpT_bind (wpT_mono h₂ (fun f s₃ h₃ => ?_) fun _ _ h' => h')) fun _ _ h' => h'))
    cases f with
    | next => exact wpT_pure (.inl ⟨rfl, h₃⟩)
    | cont => exact wpT_pure (.inl ⟨rfl, h₃⟩)
    | brk => exact wpT_pure h₃
    | ret v => exact wpT_pure h₃
theorem wpT_For {target iter : Expr} {body : List Stmt} {pos : Pos} {Q : Flow → Shared → Prop} {E : Value → Shared → Prop}
    (h : wpAny (model prog w) A (eval iter env) (fun x s₁ => wpAny (model prog w) A (pyIter x) (fun it s₂ =>
      codeT (model prog w) A (.forLoop target it body [] env) (fun r s' => match r with | .ok f => Q f s' | .error _ => False) s₂) E s₁) E s)
    (hs : ∀ x, foldedSetIterable iter env x = pure x := by intro _; rfl) :
    wpT (model prog w) A (exec (.For target iter body [] pos) env) Q E s := by
  rw [exec_For]
  refine wpT_bind (wpT_standAt (wpT_seq (wpAny_mono h (fun x s₁ h₁ => ?_) fun _ _ x => x)))
  rw [hs x]
  refine wpT_bind (wpT_pure (wpT_bind (wpT_standAt ?_)))
  refine wpT_seq (wpAny_holding (wpAny_mono h₁ (fun it s₂ h₂ => ?_) fun _ _ x => x))
  unfold runOwn
  refine wpT_onRaise (wpT_run (codeT_mono h₂ fun r s' hr => ?_))
  cases r with
  | ok f => exact hr
  | error e => exact False.elim hr
theorem wpT_isTrue_or {x : Expr} {rest : List Expr} {pos : Pos} {whole : Sem Value} {Q : Bool → Shared → Prop} {E : Value → Shared → Prop}
    (h : wpT (model prog w) A (isTrue x env (eval x env)) (fun c s' => if c then Q true s' else wpAny (model prog w) A (isTrue (.BoolOp .Or rest pos) env whole) Q E s') E s) :
    wpT (model prog w) A (isTrue (.BoolOp .Or (x :: rest) pos) env whole) Q E s := by
  show wpT (model prog w) A (do
    match BoolOp.Or, ← isTrue x env (eval x env) with
    | .And, false => pure false
    | .Or, true => pure true
    | _, _ => allTrue .Or rest env) Q E s
  refine wpT_bind (wpT_mono h (fun c s' h' => ?_) fun _ _ x => x)
  cases c with
  | true => exact wpT_pure h'
  | false => exact wpT.of h'
theorem wpT_Try {body : List Stmt} {h₀ : ExceptHandler} {hs : List ExceptHandler} {pos : Pos} {Q : Flow → Shared → Prop} {E : Value → Shared → Prop}
    (h : wpT (model prog w) A (execs body env) (fun _ _ => False)
      (fun e s₁ => wpAny (model prog w) A (noteFrame e env) (fun _ s₂ => wpAny (model prog w) A (setFlight e none) (fun _ s₃ => wpAny (model prog w) A (handleBy e env (h₀ :: hs)) Q E s₃) E s₂) E s₁) s) :
    wpT (model prog w) A (exec (.Try body (h₀ :: hs) [] [] pos) env) Q E s := by
  have e1 : exec (.Try body (h₀ :: hs) [] [] pos) env = (do standAt pos; tryStmt false (execs body env) (h₀ :: hs) (execs [] env) [] env) := rfl
  rw [e1]
  refine wpT_bind (wpT_standAt ?_)
  unfold tryStmt
  simp only [List.isEmpty_nil, if_true, List.isEmpty_cons, Bool.false_and, Bool.false_eq_true, if_false]
  refine wpT_bind (wpT_attempt (wpT_mono h (fun f s₁ h₁ => h₁.elim) fun e s₁ h₁ => ?_))
  exact wpT_bind (wpT.of (wpAny_mono h₁ (fun _ _ h₂ => wpT.of (wpAny_bind h₂)) fun _ _ x => x))
end
section
variable {M : Model} {A : Around} {E : Value → Shared → Prop} {s : Shared} {env : Env}
theorem wpT_Expr {e : Expr} {pos : Pos} {Q : Flow → Shared → Prop} (h : wpT M A (eval e env) (fun v s' => v = .none ∧ Q .next s') E s)
    (hi : interactive env = false := by rfl) (hs : swapsWith e none pos.line env = pure false := by rfl) : wpT M A (exec (.Expr e pos) env) Q E s := by
  rw [exec_Expr env e pos hi hs]
  refine wpT_bind (wpT_standAt (wpT_bind (wpT_mono h (fun v s' h' => ?_) fun _ _ x => x)))
  obtain ⟨rfl, h'⟩ := h'
  rw [dropValue_plain (fun a ha => by cases ha)]
  exact wpT_pure h'
theorem wpT_spliced1 {x : Sem Value} {Q : List Value → Shared → Prop} (h : wpT M A x (fun v s₁ => Q [v] s₁) E s) : wpT M A (spliced [(false, x)]) Q E s := by
  rw [spliced]
  refine wpT_bind (wpT_mono h (fun v s₁ h₁ => ?_) fun _ _ x => x)
  simp only [Bool.false_eq_true, if_false]
  exact wpT_bind (wpT_pure (wpT_bind (wpT_holding (wpT.of (Calls.spliced_nil (wpT_pure h₁))))))
theorem wpT_evalArgs1 {f : Value} {x : Sem Value} {Q : Args → Shared → Prop} (h : wpT M A x (fun v s' => Q ⟨[v], []⟩ s') E s) : wpT M A (evalArgs f true [(false, x)] []) Q E s := by
  unfold evalArgs
  show wpT M A (spliced [(false, x)] >>= _) Q E s
  refine wpT_bind (wpT_spliced1 (wpT_mono h (fun v s' h' => ?_) fun _ _ x => x))
  refine wpT_holding ?_
  exact wpT_bind (wpT_pure (wpT_bind (wpT_pure (wpT_pure h'))))
theorem wpT_callWithT {P : Heap → Prop} {f : Value} {first : List Value} {pos : Pos} {args : List (Bool × Sem Value)} {Q : Value → Shared → Prop} (hplain : args.any (·.1) = false)
    (hk : ∀ h, P h → ∃ k, (k = Keeper.frame ∨ k = Keeper.machine ∨ k = Keeper.boundFrame) ∧ Looks M h (keeperOf f) k)
    (h : wpT M A (evalArgs f true args []) (fun a s₁ => P s₁.heap ∧ wpT M A (call f (first ++ a.pos) a.kw) Q E s₁) E s) : wpT M A (callWith pos f first args []) Q E s := by
  unfold callWith
  refine wpT_bind (wpT_holding (wpT_mono h (fun a s₁ h₁ => wpT_bind (wpT_standAt ?_)) fun _ _ x => x))
  obtain ⟨k, hk', L⟩ := hk _ h₁.1
  simp only [hplain, List.any_nil, Bool.or_false]
  refine wpT_seq (L.here ?_)
  have tail : ∀ {t : Sem Value}, wpT M A t Q E s₁ → wpT M A (t >>= fun r => holding [r] point >>= fun _ => pure r) Q E s₁ :=
    fun ht => wpT_bind (wpT_mono ht (fun r s₂ hr => wpT_bind (wpT_holding (wpT.of (wpAny_point (wpT_pure hr))))) fun _ _ x => x)
  have marked (mk : Value) : wpT M A (callMarked mk f (first ++ a.pos) a.kw) Q E s₁ := by unfold callMarked; exact wpT_keep h₁.2
  rcases hk' with rfl | rfl | rfl <;> dsimp only <;> first | exact tail h₁.2 | (split <;> first | exact tail h₁.2 | exact tail (marked _))
/-- obj.name(e), the argument T, the rest with the library -/
theorem wpT_CallAttr1 {o e : Expr} {name : PySem.Str} {apos pos : Pos} {pl : Sem Bool} {id : String} {Q : Value → Shared → Prop} {x : Value}
    (hk : ∀ h, True → ∃ k, (k = Keeper.frame ∨ k = Keeper.machine ∨ k = Keeper.boundFrame) ∧ Looks M h (keeperOf (.builtin id)) k)
    (h : wpAny M A (eval o env) (fun ov s₁ => wpAny M A (getMethod ov name pl) (fun fx s₂ => Then (fx = (.builtin id, [x])) (wpT M A (eval e env) (fun v s₃ => wpAny M A (call (.builtin id) [x, v]) Q E s₃) E s₂)) E s₁) E s)
    (hs : starEach [e] env = [(false, eval e env)])
    (he : eval (.Call (.Attribute o name apos) [e] [] pos) env = (do
      let ov ← eval o env
      standAt apos.atName
      let (f, first) ← holding [ov] (getMethod ov name pl)
      callWith pos f first (backTo pos (starEach [e] env)) (backToKw pos (keywordEach [] env))) := by rfl) :
    wpT M A (eval (.Call (.Attribute o name apos) [e] [] pos) env) Q E s := by
  rw [he, hs]
  refine wpT_seq (wpAny_mono h (fun ov s₁ h₁ => wpT_bind (wpT_standAt (wpT_seq (wpAny_holding (wpAny_mono h₁ (fun fx s₂ h₂ => ?_) fun _ _ x => x))))) fun _ _ x => x)
  obtain ⟨rfl, h₂⟩ := h₂
  exact wpT_callWithT (P := fun _ => True) rfl hk (wpT_evalArgs1 (wpT_mono h₂ (fun v s₃ h₃ => ⟨trivial, wpT.of h₃⟩) fun _ _ x => x))
end
/-- the end of a turn of a while -/
def WNext (I : Nat → Shared → Prop) (n : Nat) (f : Flow) (s : Shared) : Prop := f = .next ∧ ∃ k, k < n ∧ I k s
theorem whileN {prog : Program} {w : World} {A : Around} {s : Shared} {env : Env} {test : Expr} {body : List Stmt} {pos : Pos} {Q : Flow → Shared → Prop} {E : Value → Shared → Prop} (I : Nat → Shared → Prop)
    (turn : ∀ n s, I n s → wpAny (model prog w) A (isTrue test env (eval test env)) (fun b s₂ => if b then wpAny (model prog w) A (execs body env) (WNext I n) NoE s₂ else Q .next s₂) NoE s)
    (n : Nat) (h : I n s) : wpAny (model prog w) A (exec (.While test body [] pos) env) Q E s := by
  have no : ∀ {s' : Shared} {e : Value} {P : Prop}, NoE e s' → P := fun h => h.elim
  refine wpAny_While (codeAny_whileLoop I (fun n s hI => ?_) n h)
  refine wpAny_mono (turn n s hI) (fun b s₂ h₂ => ?_) fun _ _ h => no h
  cases b with
  | true =>
    simp only [if_true] at h₂ ⊢
    refine wpAny_mono h₂ (fun f s₃ h₃ => ?_) fun _ _ h => no h
    obtain ⟨rfl, h₃⟩ := h₃
    exact h₃
  | false =>
    simp only [Bool.false_eq_true, if_false] at h₂ ⊢
    exact wpAny_execs_nil h₂
end Mine
end

section
open PySem PySem.W PyProof.Rows PySem.Calls
set_option maxRecDepth 100000
set_option maxHeartbeats 8000000
namespace Mine
/-- a def with cells of its own is entered: T -/
theorem codeT_call_cells {prog : Program} {w : World} {A : Around} {R : Result → Shared → Prop} {s : Shared} {a : Addr} {o : Obj} {fd : FuncData} {body : List Stmt} {args : Args} {binds : List (PySem.Str × Value)}
    (hroom : A.depth < recursionLimit) (ho : s.heap.get? a = some o) (hdata : o.data = .func fd) (hlim : s.heap.NoLimit) (hcd : s.heap.CodeRec fd.code fd.qualname) (hbody : fd.body = .stmts body) (hbind : bindArgs fd args = pure binds) (hclo : fd.closure = [])
    (hkind : ∀ x ∈ binds, fd.scope.names.lookup x.1 = some .local ∨ (fd.scope.names.lookup x.1 = some .cell ∧ ((cellsFrom (s.heap.objs.size + 1) fd.scope.names []).lookup x.1).isSome = true))
    (h : ∀ s₁, InCallC s (callEnvC fd s.heap.objs.size a).locals (bindL (callEnvC fd s.heap.objs.size a).kindOf binds fun _ => none) (callEnvC fd s.heap.objs.size a).cells (bindC (callEnvC fd s.heap.objs.size a).kindOf binds fun _ => none) s₁ →
      wpT (model prog w) (A.deeper (callEnvC fd s.heap.objs.size a)) (execs body (callEnvC fd s.heap.objs.size a)) (fun f s' => R (.ok (.ret (match f with | .ret v => v | _ => .none))) s') NoE s₁)
    (hco : fd.scope.isCoroutine = false) (hgen : fd.scope.isGenerator = false) (hk : fd.scope.kind = .function) : codeT (model prog w) A (.call (.ref a) args) R s := by
  refine codeT_of_tree rfl ?_
  show wpT _ A.in1 (callAny (.ref a) args) _ _ s
  simp only [callAny]
  refine wpT_seq (wpAny_load ho ?_)
  obtain ⟨c, oc, vs, tq, hc, hoc, hdc, hq⟩ := id hcd
  simp only [hdata, callFunction, hco, hgen, hbody, hc]
  refine wpT_seq (m := field (.ref c) 1) (wpAny_field hoc hdc hq ?_)
  dsimp only
  refine wpT_seq (wpAny_pure ?_)
  refine wpT_seq (wpAny_of_eq hbind ?_)
  rw [← hc, hclo]
  refine wpT_seq (wpAny_newFunctionEnv_cells hk hkind fun env he s' x => ?_)
  subst he
  obtain ⟨h₁, tk, rfl⟩ := x.toInCall.same
  refine wpT_seq (wpAny_enterFrame (hlim.keeps x.toInCall.keep) hroom ?_)
  exact wpT_pure ⟨rfl, codeT_func (wpT_mono (h _ x) (fun _ _ z => z) fun _ _ z => z.elim)⟩
theorem law_enter (w : World) (s : Shared) (X : (Mine.kk.heap_1 w.params).In s.heap) (hlim : s.heap.NoLimit) (sl : Addr) (R : Result → Shared → Prop)
    (h : ∀ (ccd : Value) (h₁ : Heap) (tk : Nat) (m : PySem.Str → Option Value) (oR oP oS : Obj) (uR uP uS : Option Value) (cR cP cS : Addr), Fr s.heap s.heap.objs.size h₁ m → News s.heap s.heap.objs.size h₁ [(cR, oR), (cP, oP), (cS, oS)] →
      @Ne Nat cS cP → @Ne Nat cP cR → @Ne Nat cS cR → oR.data = .cell uR → oP.data = .cell uP → oS.data = .cell uS → m (PySem.Str.ofString "script") = some (.ref sl) →
      wpT (model PySem.Challenge.rw_vn0014_01.prog w) (callerA.deeper (envX (PySem.Str.ofString "law") (lawScope w) s.heap.objs.size 1074 ccd [(PySem.Str.ofString "rows", cR), (PySem.Str.ofString "plain", cP), (PySem.Str.ofString "shorts", cS)]))
        (execs (lawBody w) (envX (PySem.Str.ofString "law") (lawScope w) s.heap.objs.size 1074 ccd [(PySem.Str.ofString "rows", cR), (PySem.Str.ofString "plain", cP), (PySem.Str.ofString "shorts", cS)]))
        (fun f s' => R (.ok (.ret (match f with | .ret v => v | _ => .none))) s') NoE { s with heap := h₁, toks := tk }) :
    codeT (model PySem.Challenge.rw_vn0014_01.prog w) callerA (.call (.ref 1074) ⟨[.ref sl], []⟩) R s := by
  have e0 := X 1074 _ rfl
  refine codeT_call_cells (binds := [(PySem.Str.ofString "script", .ref sl)]) (by decide) e0 rfl hlim (codeRec_of X (by kernel_rfl)) rfl (by rfl) rfl (by intro x hx; rw [List.mem_singleton.mp hx]; exact .inl (by rfl)) ?go rfl rfl rfl
  case go =>
    intro s₁ x
    obtain ⟨h₁, tk, rfl⟩ := x.toInCall.same
    change InCallC s s.heap.objs.size _ [(PySem.Str.ofString "rows", s.heap.objs.size + 1 + 1 + 1), (PySem.Str.ofString "plain", s.heap.objs.size + 1 + 1), (PySem.Str.ofString "shorts", s.heap.objs.size + 1)] _ _ at x
    obtain ⟨oR, gR, dR⟩ := x.cell (PySem.Str.ofString "rows") (s.heap.objs.size + 1 + 1 + 1) rfl
    obtain ⟨oP, gP, dP⟩ := x.cell (PySem.Str.ofString "plain") (s.heap.objs.size + 1 + 1) rfl
    obtain ⟨oS, gS, dS⟩ := x.cell (PySem.Str.ofString "shorts") (s.heap.objs.size + 1) rfl
    have fresh : ∀ c : Nat, s.heap.objs.size ≤ c → s.heap.get? c = none := fun c hc => by
      cases e : s.heap.get? c with
      | none => rfl
      | some o => exact absurd (Heap.lt_size e) (by show ¬ c < _; omega)
    refine h _ h₁ tk _ oR oP oS _ _ _ (s.heap.objs.size + 1 + 1 + 1 : Nat) (s.heap.objs.size + 1 + 1 : Nat) (s.heap.objs.size + 1 : Nat) ⟨x.toInCall.ns, x.toInCall.keep, Nat.le_refl _⟩ ?_ (by omega) (by omega) (by omega) dR dP dS (by rfl)
    intro p hp
    simp only [List.mem_cons, List.not_mem_nil, or_false] at hp
    rcases hp with rfl | rfl | rfl
    · exact ⟨gR, (by show (s.heap.objs.size + 1 + 1 + 1 : Nat) ≠ s.heap.objs.size; omega), fresh _ (by omega)⟩
    · exact ⟨gP, (by show (s.heap.objs.size + 1 + 1 : Nat) ≠ s.heap.objs.size; omega), fresh _ (by omega)⟩
    · exact ⟨gS, (by show (s.heap.objs.size + 1 : Nat) ≠ s.heap.objs.size; omega), fresh _ (by omega)⟩
end Mine
end

section
open PySem PySem.W PyProof.Rows PySem.Calls
set_option maxRecDepth 100000
namespace Mine
open Builtin.Int (intBits)
/-- the number of octets -/
def nb (i : Int) : Nat := (intBits i + 7) / 8
theorem e28 : (2 : Nat) ^ 8 = 256 := by decide
theorem nb_lt {i : Int} (h0 : 0 ≤ i) : i < 256 ^ nb i := by
  have h : intBits i ≤ 8 * nb i := by unfold nb; omega
  have h2 := intBits_le_iff.mp h
  rw [Nat.pow_mul, e28] at h2
  rw [KTBy.p256]
  generalize 256 ^ nb i = z at h2 ⊢
  omega
theorem nb_le {i : Int} {k : Nat} (h0 : 0 ≤ i) (h1 : i < 256 ^ k) : nb i ≤ k := by
  have h : intBits i ≤ 8 * k := by
    refine intBits_le_iff.mpr ?_
    rw [Nat.pow_mul, e28]
    rw [KTBy.p256] at h1
    generalize 256 ^ k = z at h1 ⊢
    omega
  unfold nb
  omega
theorem nb_ge {i : Int} {k : Nat} (h1 : (256 : Int) ^ k ≤ i) : k < nb i := by
  rw [KTBy.p256] at h1
  have h0 : 0 ≤ i := by
    generalize 256 ^ k = z at h1
    omega
  have h2 := nb_lt h0
  rw [KTBy.p256] at h2
  have h3 : 256 ^ k < 256 ^ nb i := Int.ofNat_lt.mp (Int.lt_of_le_of_lt h1 h2)
  exact (Nat.pow_lt_pow_iff_right (by decide)).mp h3
theorem nb_zero : nb 0 = 0 := by decide
theorem nb_pos {i : Int} (h : 0 < i) : 0 < nb i := nb_ge (k := 0) (by rw [Int.pow_zero]; omega)
theorem nb_le8 {i : Int} (h0 : 0 ≤ i) (h1 : i < 18446744073709551616) : nb i ≤ 8 := nb_le h0 (by simpa using h1)
theorem nb_fdiv (i : Int) : ((intBits i : Nat) + 7 : Int).fdiv 8 = ((nb i : Nat) : Int) := by
  rw [Int.fdiv_eq_ediv_of_nonneg _ (by decide)]
  unfold nb
  omega
/-- the greatest octet first, no nought ahead -/
def be (i : Int) : List Int := (KTBy.little (nb i) i).reverse
theorem be_len (i : Int) : (be i).length = nb i := by rw [be, List.length_reverse, KTBy.little_length]
theorem be_zero : be 0 = [] := by decide
/-- RLP of a number -/
def rlpOf (l : List Int) : List Int := if l.length = 1 ∧ l.getD 0 0 < 128 then l else (128 + (l.length : Int)) :: l
theorem clip_in {n : Nat} {i : Int} (h0 : 0 ≤ i) (h1 : i ≤ n) : clipAt n i = i.toNat := by
  unfold clipAt
  rw [if_neg (by omega)]
  omega
theorem clip_over {n : Nat} {i : Int} (h1 : (n : Int) ≤ i) : clipAt n i = n := by
  unfold clipAt
  rw [if_neg (by omega)]
  omega
theorem cut_ints {b : Array UInt8} {ks : List Int} (hk : KBw.bInts b = ks) {i j : Int} (h0 : 0 ≤ i) (h1 : i ≤ j) (h2 : j ≤ ks.length) :
    KBw.bInts (KBy.picked b (some i) (some j)) = (ks.drop i.toNat).take (j - i).toNat := by
  rw [KBc.ints_picked hk]
  simp only [Option.elim]
  rw [clip_in h0 (by omega), clip_in (by omega) h2]
  congr 1
  omega
theorem cut_one {ks : List Int} {i : Nat} (h : i < ks.length) : (ks.drop i).take 1 = [ks.getD i 0] := by
  rw [List.drop_eq_getElem_cons h]
  show [ks[i]] = _
  rw [List.getD_eq_getElem?_getD, List.getElem?_eq_getElem h]
  rfl
theorem cut_at {b : Array UInt8} {ks : List Int} (hk : KBw.bInts b = ks) {i j : Int} (h0 : 0 ≤ i) (h1 : i < ks.length) (hj : j = i + 1) : KBw.bInts (KBy.picked b (some i) (some j)) = [ks.getD i.toNat 0] := by
  subst hj
  rw [cut_ints hk h0 (by omega) (by omega), ← cut_one (by omega)]
  congr 1
  omega
theorem pure_new {g h h' : Heap} {L' : Addr} {news : List (Addr × Obj)} {a : Addr} {o : Obj} (hg : g = h) (N : News g L' h' news) (hm : (a, o) ∈ news) : h.get? a = none ∧ h'.get? a = some o := by
  subst hg
  exact ⟨(N _ hm).2.2, (N _ hm).1⟩
theorem news_add {h₀ h h' : Heap} {L x : Addr} {m : PySem.Str → Option Value} {news : List (Addr × Obj)} {o : Obj} (F : Fr h₀ L h m) (N' : News h₀ L h' news) (hx : h.get? x = none) (hx' : h'.get? x = some o) : News h₀ L h' ((x, o) :: news) := by
  intro p hp
  rcases List.mem_cons.mp hp with rfl | hp
  · refine ⟨hx', fun e => ?_, ?_⟩
    · obtain ⟨oL, _, _, hL, _⟩ := F.ns
      rw [show x = L from e, hL] at hx
      cases hx
    · cases q : h₀.get? x with
      | none => rfl
      | some o' => rw [F.keep _ _ q] at hx; cases hx
  · exact N' p hp
theorem news_ne {h₀ h : Heap} {L x : Addr} {news : List (Addr × Obj)} (N : News h₀ L h news) (hx : h.get? x = none) : ∀ p ∈ news, p.1 ≠ x := fun p hp e => by
  have := (N p hp).1
  rw [e, hx] at this
  cases this
theorem len_one {ks : List Int} (h : ks.length = 1) : [ks.getD (Int.toNat 0) 0] = ks := by
  match ks, h with
  | [x], _ => rfl
end Mine
end

section
open PySem PySem.W PyProof.Rows PySem.Calls
set_option maxRecDepth 100000
set_option maxHeartbeats 8000000
namespace Mine
section
variable {prog : Program} {w : World} {A : Around} {h₀ : Heap} {L : Addr} {m : PySem.Str → Option Value} {env : Env} {s : Shared}
/-- a list built by a comprehension: each item by a rule of its own -/
theorem compRest_rel {elt : Expr} {x : PySem.Str} {scope : Scope} {cl : List (PySem.Str × Addr)} {S : List (Addr × Obj) → Prop} {P : Nat → Value → Prop} {Fin : List Value → List (Addr × Obj) → Prop} {news : List (Addr × Obj)} {n : Nat} (Rel : Nat → Value → Prop) (hS : S news)
    (step : ∀ (i : Nat) (v : Value) (I : Addr) (oI : Obj) (C : Addr) (oC : Obj) (D : Addr) (m₂ : PySem.Str → Option Value) (h : Heap) (tk : Nat) (ys : List Value) (Q' E' : Value → Shared → Prop), i < n → P i v → LCg.NsObj oC m₂ → m₂ x = some v → Fr h₀ L h m →
      News h₀ L h ((I, oI) :: (C, oC) :: (D, LCg.lst ys) :: news) → LCg.Off3 I C D news → ((@Ne Nat I C) ∧ (@Ne Nat I D) ∧ (@Ne Nat C D)) →
      (∀ (y : Value) (h' : Heap) (tk' : Nat), Fr h₀ L h' m → News h₀ L h' ((I, oI) :: (C, oC) :: (D, LCg.lst ys) :: news) → Rel i y → Q' y { s with heap := h', toks := tk' }) →
      wpAny (model prog w) A (eval elt (compEnvC scope cl C env)) Q' E' { s with heap := h, toks := tk })
    (fin : ∀ ys, ys.length = n → (∀ j y, ys[j]? = some y → Rel j y) → Fin ys news) :
    ∀ (k i : Nat) (ys : List Value), i + k = n → ys.length = i → (∀ j y, ys[j]? = some y → Rel j y) → LCg.CompRest prog w A h₀ L m env elt x scope cl s S P Fin k i ys news
  | 0, i, ys, hk, hl, hr => LCg.CompRest.zero (fin ys (by omega) hr)
  | k + 1, i, ys, hk, hl, hr => by
    refine LCg.CompRest.succ fun v I oI C oC D m₂ h tk E' hP hC hx F N off ne => ?_
    refine step i v I oI C oC D m₂ h tk ys _ E' (by omega) hP hC hx F N off ne fun y h' tk' F' N' hy => ?_
    refine ⟨h', tk', news, rfl, F', N', off, hS, ?_⟩
    refine compRest_rel Rel hS step fin k (i + 1) (ys ++ [y]) (by omega) (by rw [List.length_append, List.length_singleton, hl]) fun j z hz => ?_
    by_cases hj : j < ys.length
    · rw [List.getElem?_append_left hj] at hz
      exact hr j z hz
    · rw [List.getElem?_append_right (by omega)] at hz
      have : j - ys.length = 0 := by
        have := (List.getElem?_eq_some_iff.mp hz).1
        simp at this
        omega
      rw [this] at hz
      have e : y = z := by simpa using hz
      rw [← e, show j = i by omega]
      exact hy
end
theorem rel_ints {R : Int → Prop} : ∀ {ys : List Value}, (∀ (j : Nat) (y : Value), ys[j]? = some y → ∃ v t, y = .int v t ∧ R v) → ∃ ds : List Int, IntsAre ys ds ∧ ds.length = ys.length ∧ ∀ x ∈ ds, R x
  | [], _ => ⟨[], .nil, rfl, fun _ h => nomatch h⟩
  | y :: ys, h => by
    obtain ⟨v, t, rfl, hv⟩ := h 0 y rfl
    obtain ⟨ds, hI, hl, hr⟩ := rel_ints (ys := ys) fun j z hz => h (j + 1) z hz
    exact ⟨v :: ds, .cons v t hI, by rw [List.length_cons, hl, List.length_cons], fun x hx => by
      rcases List.mem_cons.mp hx with rfl | hx
      · exact hv
      · exact hr x hx⟩
theorem ints_at : ∀ {vs : List Value} {ns : List Int}, IntsAre vs ns → ∀ {i : Nat} {v : Value}, vs[i]? = some v → ∃ t, v = .int (ns.getD i 0) t ∧ i < ns.length
  | _, _, .nil, i, v, h => by simp at h
  | _, _, .cons n t hI, 0, v, h => ⟨t, by simpa using h.symm, by simp⟩
  | _, _, .cons n t hI, i + 1, v, h => by
    obtain ⟨u, hu, hl⟩ := ints_at hI (i := i) (v := v) (by simpa using h)
    exact ⟨u, by simpa using hu, by simpa using hl⟩
theorem news_skip1 {h₀ h : Heap} {L : Addr} {x y : Addr × Obj} {l : List (Addr × Obj)} (N : News h₀ L h (x :: y :: l)) : News h₀ L h (x :: l) := fun p hp => by
  rcases List.mem_cons.mp hp with rfl | hp
  · exact N _ List.mem_cons_self
  · exact N p (List.mem_cons_of_mem _ (List.mem_cons_of_mem _ hp))
theorem keep_form {m : PySem.Str → Option Value} {x z : PySem.Str} {v v' : Value} (h : m x = some v) (y : PySem.Str) (hy : y ≠ z) : (fun y => if y = z then some v' else if y = x then some v else m y) y = m y := by
  show (if y = z then some v' else if y = x then some v else m y) = m y
  rw [if_neg hy]
  exact (congrFun (m_form h) y).symm
theorem ints_len : ∀ {vs : List Value} {ns : List Int}, IntsAre vs ns → vs.length = ns.length
  | _, _, .nil => rfl
  | _, _, .cons n t hI => congrArg Nat.succ (ints_len hI)
/-- a list of bytes, each told by its number -/
structure BA (f : Int → List Int) (ys : List Value) (ds : List Int) : Prop where
  len : ys.length = ds.length
  get : ∀ i y, ys[i]? = some y → ∃ b t, y = .bytes b t ∧ KBw.bInts b = f (ds.getD i 0)
theorem fr_back {h₀ h : Heap} {L : Addr} {m : PySem.Str → Option Value} {x : PySem.Str} {v : Value} (e : m x = some v) (F : Fr h₀ L h (fun y => if y = x then some v else m y)) : Fr h₀ L h m := by
  rw [m_form e]
  exact F
theorem news_t1 {h₀ h : Heap} {L : Addr} {x : Addr × Obj} {l : List (Addr × Obj)} (N : News h₀ L h (x :: l)) : News h₀ L h l := fun p hp => N p (List.mem_cons_of_mem _ hp)
theorem form3_eq {m : PySem.Str → Option Value} {x1 x2 x3 : PySem.Str} {v1 v2 v3 : Value} (e1 : m x1 = some v1) (e2 : m x2 = some v2) (e3 : m x3 = some v3) :
    (fun y => if y = x1 then some v1 else if y = x2 then some v2 else if y = x3 then some v3 else m y) = m := by
  funext y
  by_cases h1 : y = x1
  · rw [if_pos h1, h1, e1]
  · rw [if_neg h1]
    by_cases h2 : y = x2
    · rw [if_pos h2, h2, e2]
    · rw [if_neg h2]
      by_cases h3 : y = x3
      · rw [if_pos h3, h3, e3]
      · rw [if_neg h3]
theorem fr_form3 {h₀ h : Heap} {L : Addr} {m : PySem.Str → Option Value} {x1 x2 x3 : PySem.Str} {v1 v2 v3 : Value} (F : Fr h₀ L h m) (e1 : m x1 = some v1) (e2 : m x2 = some v2) (e3 : m x3 = some v3) :
    Fr h₀ L h (fun y => if y = x1 then some v1 else if y = x2 then some v2 else if y = x3 then some v3 else m y) := by
  rw [form3_eq e1 e2 e3]
  exact F
section
variable {prog : Program} {w : World} {A : Around} {E : Value → Shared → Prop} {s : Shared}
theorem pow16 {t u : Tok} {Q : Value → Shared → Prop} (h : Q (.int 65536 s.toks) { s with toks := s.toks + 1 }) : wpAny (model prog w) A (binaryOp .Pow (.int 2 t) (.int 16 u)) Q E s := pow_int_small (by decide) (by decide) (by decide) h
theorem pow32 {t u : Tok} {Q : Value → Shared → Prop} (h : Q (.int 4294967296 s.toks) { s with toks := s.toks + 1 }) : wpAny (model prog w) A (binaryOp .Pow (.int 2 t) (.int 32 u)) Q E s := pow_int_small (by decide) (by decide) (by decide) h
end
/-- embit's size of a number -/
def szOf (d : Int) : Int := if d < 253 then 0 else if d < 65536 then 2 else if d < 4294967296 then 4 else 8
theorem sz0 {d : Int} (h : d < 253) : szOf d = 0 := if_pos h
theorem sz2 {d : Int} (h : ¬ d < 253) (h2 : d < 65536) : szOf d = 2 := by rw [szOf, if_neg h, if_pos h2]
theorem sz4 {d : Int} (h : ¬ d < 253) (h2 : ¬ d < 65536) (h3 : d < 4294967296) : szOf d = 4 := by rw [szOf, if_neg h, if_neg h2, if_pos h3]
theorem sz8 {d : Int} (h : ¬ d < 253) (h2 : ¬ d < 65536) (h3 : ¬ d < 4294967296) : szOf d = 8 := by rw [szOf, if_neg h, if_neg h2, if_neg h3]
theorem sz_ne {d : Int} (h : ¬ d < 253) : szOf d ≠ 0 := by
  rw [szOf, if_neg h]
  split
  · decide
  · split <;> decide
section
variable {prog : Program} {w : World} {A : Around} {E : Value → Shared → Prop} {s : Shared}
theorem ba_item2 {f : Int → List Int} {value slice : Expr} {l : Addr} {vs : List Value} {ds : List Int} {k : Int} {u : Tok} {Q : Value → Shared → Prop}
    (hl : s.heap.IsList l vs.toArray) (hb : BA f vs ds) (h0 : 0 ≤ k) (hhi : k < ds.length) (hz : ds.length < 1000) (h : ∀ b t, KBw.bInts b = f (ds.getD k.toNat 0) → Q (.bytes b t) s)
    (hs : subscripted slice false (.ref l) (.int k u) = operate [.ref l, .int k u] (getItem (.ref l) (.int k u)) := by with_unfolding_all rfl) :
    wpAny (model prog w) A (subscriptTail value slice (.ref l) (.int k u)) Q E s := by
  have hk : k.toNat < vs.length := by rw [hb.len]; omega
  obtain ⟨b, t, e, hbb⟩ := hb.get k.toNat vs[k.toNat] (List.getElem?_eq_getElem hk)
  have e2 : vs[k.toNat]? = some (.bytes b t) := by rw [List.getElem?_eq_getElem hk, e]
  exact tail_any hl.typeIs slot_list_getitem.lookup (wpAny_getItem_list hl h0 (by omega) (by simpa using e2) (h b t hbb)) hs
end
end Mine
end

section
open PySem PySem.W PyProof.Rows PySem.Calls
set_option maxRecDepth 100000
set_option maxHeartbeats 8000000
namespace Mine
local macro_rules | `(tactic| wp_step) => `(tactic| first
  | with_reducible (first
      | refine wpAny_pure ?_ | refine wpAny_bind ?_ | refine wpAny_holding ?_ | refine wpAny_standAt ?_ | refine wpAny_point ?_ | refine wpAny_rule ?_ | refine wpAny_letGo ?_ | refine wpAny_mkInt' ?_ | refine wpAny_fresh' ?_
      | refine wpAny_alloc' ?_ | refine wpAny_attempt ?_ | refine wpAny_throw ?_ | refine wpAny_of_eq (by assumption) ?_ | refine wpAny_typeOf (by assumption) ?_ | refine wpAny_specialOf_val (by assumption) (by assumption) ?_ | refine wpAny_specialOf (by assumption) (by assumption) ?_
      | refine wpAny_isInstance_val (by assumption) (by assumption) ?_ | refine wpAny_isInstance (by assumption) (by assumption) ?_ | refine wpAny_call ?_ | refine wpAny_runValue ?_ | refine wpAny_run ?_)
  | ((with_reducible refine' wpAny_mkStr' ?hw2 ?hw1); (case hw1 => size_fits))
  | ((with_reducible refine' PySem.wpAny_load' ?hw1 ?hw2); (case hw1 => (heap_get; done)))
  | ((with_reducible refine' PySem.wpAny_update' ?hw1 ?hw2); (case hw1 => (heap_get; done)))
  | ((with_reducible refine' PySem.wpAny_loadPart' ?hw1 ?hw2); (case hw1 => (heap_get; done)))
  | ((with_reducible refine' PySem.wpAny_updatePart' ?hw1 ?hw2); (case hw1 => (heap_get; done)))
  | ((with_reducible refine' wpAny_handled_none ?hw1 ?hw2); (case hw1 => assumption))
  | ((with_reducible refine' wpAny_ite_false ?hw1 ?hw2); (case hw1 => rfl))
  | ((with_reducible refine' wpAny_ite_true ?hw1 ?hw2); (case hw1 => rfl))
  | ((with_reducible refine' wpAny_ite_false ?hw1 ?hw2); (case hw1 => (simp [*]; done)))
  | ((with_reducible refine' wpAny_ite_true ?hw1 ?hw2); (case hw1 => (simp [*]; done)))
  | wp_delta
  | with_reducible_and_instances refine wpAny_pure ?_
  | with_reducible_and_instances refine wpAny_bind ?_)
section
variable {prog : Program} {w : World} {A : Around} {E : Value → Shared → Prop}
theorem tga_lookup : typeLookup (.type "type") "__getattribute__" = pure (some (.builtin "type.__getattribute__")) := by rw [PySem.W.Fast.te1381439984260040727]; kernel_rfl
theorem tga_noget : typeLookup (.type "type") "__getattr__" = pure none := by rw [PySem.W.Fast.te1381439984260040727]; kernel_rfl
theorem ty_int : typeOf (.type "int") = pure (.type "type") := by first | rfl | kernel_rfl
theorem opq_int : opaqueClassAbove (.type "int") = pure none := by kernel_rfl
theorem miss_type_ser : typeLookup (.type "type") "serialize" = pure none := by rw [PySem.W.Fast.te1381439984260040727]; kernel_rfl
theorem miss_int_ser : typeLookup (.type "int") "serialize" = pure none := by rw [PySem.W.Fast.te1381439984260040727]; kernel_rfl
def MissErr (h h' : Heap) (e : Addr) : Prop := (∀ b o, h.get? b = some o → h'.get? b = some o) ∧ ∃ o, h'.get? e = some o ∧ o.cls = .type "AttributeError"
theorem miss_two {h : Heap} {o1 o2 : Obj} (hc : o2.cls = .type "AttributeError") (hf : o2.isFreed = false) : MissErr h ((h.push o1).push o2) (h.push o1).objs.size :=
  ⟨fun _ _ e => Heap.get?_push_of_some _ (Heap.get?_push_of_some _ e), _, Heap.get?_push_size _ hf, hc⟩
theorem tga_run_int {s : Shared} {u : Tok} {R : Fin → Shared → Prop} (hh : A.handled = none) (h : ∀ h' tk e, MissErr s.heap h' e → E (.ref e) { s with heap := h', toks := tk }) :
    wpAny (model prog w) A (Builtin.«type.__getattribute__» ⟨[.type "int", .str "serialize" u], []⟩) R E s := by
  obtain ⟨hp, g, d, tk, os⟩ := s
  have f1 := ty_int
  have f2 := opq_int
  have f3 := miss_type_ser
  have f4 := miss_int_ser
  unfold Builtin.«type.__getattribute__»
  repeat (any_goals (first | with_reducible assumption | wp_step))
  unfold raiseNew
  refine wpAny_bind (wpAny_handled ?_)
  rw [hh]
  first
    | refine wpAny_throw ?_
    | refine wpAny_bind (wpAny_pure (wpAny_throw ?_))
  exact h _ _ _ (miss_two rfl rfl)
theorem entry_hasattr : entryFor table "hasattr" = some Builtin.«hasattr» := by first | exact entryFor_of_tree (by kernel_rfl) | exact entryFor_of_fast (by kernel_rfl)
theorem hasattr_int {s : Shared} {u : Tok} {Q : Value → Shared → Prop} (hh : A.handled = none) (h : ∀ h' tk, (∀ b o, s.heap.get? b = some o → h'.get? b = some o) → Q (.bool false) { s with heap := h', toks := tk }) :
    wpAny (model prog w) A (call (.builtin "hasattr") [.type "int", .str "serialize" u]) Q E s := by
  obtain ⟨hp, g, d, tk, os⟩ := s
  refine Calls.call_function_entry (by decide +kernel) (by decide +kernel) entry_hasattr (by unfold argsOk; rw [PySem.W.Fast.signatureY_eq, PySem.W.Fast.te16078263539434579649]; kernel_rfl) ?_
  have f1 := ty_int
  have f2 := tga_lookup
  have f3 := tga_noget
  have f5 := sub_AttributeError
  have f6 := miss_type_ser
  have f7 := KF.slot_tga.bind (.type "int")
  have hT : ∀ s' : Shared, s'.TypeIs (.type "int") "type" := fun _ => ty_int
  unfold Builtin.«hasattr»
  repeat (any_goals (first | with_reducible assumption | ((with_reducible show wpAny _ _ (call (Value.builtin "type.__getattribute__") _ _) _ _ _); refine wpAny_call (codeAny_call_builtin KF.slot_tga.plain KF.entry_tga (KF.slot_tga.check _ _ _ _ _ _ _ _ (hT _) (KF.args_tga _ _) (tga_run_int hh fun h' tk' e hx => ?_)))) | wp_step))
  obtain ⟨hk, ⟨c, dd, dt, sl⟩, ho, hc⟩ := hx
  dsimp only at hc
  subst hc
  repeat (any_goals (first | with_reducible assumption | wp_step))
  all_goals first
    | exact ⟨_, rfl, h _ _ hk⟩
theorem class_of_int {s : Shared} {n : Int} {u : Tok} {ex : Bool} {Q : Value → Shared → Prop} (h : Q (.type "int") { s with toks := s.toks + 1 }) : wpAny (model prog w) A (getAttr (.int n u) "__class__" ex) Q E s := by
  obtain ⟨hp, g, d, tk, os⟩ := s
  have hT : ∀ s' : Shared, s'.TypeIs (.int n u) "int" := fun _ => rfl
  have f2 := F.slot_int_getattribute.lookup
  have f3 := F.slot_int_getattribute.bind (.int n u)
  unfold getAttr getAttrBy
  repeat (any_goals (first | with_reducible assumption | ((with_reducible show wpAny _ _ (call (Value.builtin "int.__getattribute__") _ _) _ _ _); refine wpAny_call (class_call_int ?_)) | wp_step))
  rw [if_neg (by rw [show onTheHeap (Value.builtin "int.__getattribute__") = false from rfl, Bool.and_false]; decide)]
  unfold boundAndCalled
  repeat (any_goals (first | with_reducible assumption | ((with_reducible show wpAny _ _ (call (Value.builtin "int.__getattribute__") _ _) _ _ _); refine wpAny_call (class_call_int ?_)) | wp_step))
end
end Mine
end

section
open PySem PySem.W PyProof.Rows PySem.Calls
set_option maxRecDepth 100000
set_option maxHeartbeats 4000000
namespace Mine
local macro_rules | `(tactic| wp_step) => `(tactic| first
  | with_reducible (first
      | refine wpAny_pure ?_ | refine wpAny_bind ?_ | refine wpAny_holding ?_ | refine wpAny_standAt ?_ | refine wpAny_point ?_ | refine wpAny_rule ?_ | refine wpAny_letGo ?_ | refine wpAny_mkInt' ?_ | refine wpAny_fresh' ?_
      | refine wpAny_alloc' ?_ | refine wpAny_attempt ?_ | refine wpAny_throw ?_ | refine wpAny_of_eq (by assumption) ?_ | refine wpAny_typeOf (by assumption) ?_ | refine wpAny_specialOf_val (by assumption) (by assumption) ?_ | refine wpAny_specialOf (by assumption) (by assumption) ?_
      | refine wpAny_isInstance_val (by assumption) (by assumption) ?_ | refine wpAny_isInstance (by assumption) (by assumption) ?_ | refine wpAny_call ?_ | refine wpAny_runValue ?_ | refine wpAny_run ?_)
  | ((with_reducible refine' wpAny_mkStr' ?hw2 ?hw1); (case hw1 => size_fits))
  | ((with_reducible refine' PySem.wpAny_load' ?hw1 ?hw2); (case hw1 => (heap_get; done)))
  | ((with_reducible refine' PySem.wpAny_update' ?hw1 ?hw2); (case hw1 => (heap_get; done)))
  | ((with_reducible refine' PySem.wpAny_loadPart' ?hw1 ?hw2); (case hw1 => (heap_get; done)))
  | ((with_reducible refine' PySem.wpAny_updatePart' ?hw1 ?hw2); (case hw1 => (heap_get; done)))
  | ((with_reducible refine' wpAny_handled_none ?hw1 ?hw2); (case hw1 => assumption))
  | ((with_reducible refine' wpAny_ite_false ?hw1 ?hw2); (case hw1 => rfl))
  | ((with_reducible refine' wpAny_ite_true ?hw1 ?hw2); (case hw1 => rfl))
  | ((with_reducible refine' wpAny_ite_false ?hw1 ?hw2); (case hw1 => (simp [*]; done)))
  | ((with_reducible refine' wpAny_ite_true ?hw1 ?hw2); (case hw1 => (simp [*]; done)))
  | wp_delta
  | with_reducible_and_instances refine wpAny_pure ?_
  | with_reducible_and_instances refine wpAny_bind ?_)
abbrev IsTri (h : Heap) (T : Addr) (a b c : Value) : Prop := h.get? T = some { cls := .type "tuple", data := .seq #[a, b, c] }
/-- zip over three lists: its iterators stand at N, N+1, N+2, its tuples at N+3, N+4, itself at N+5 -/
structure Z3 (h : Heap) (N : Nat) (l1 l2 l3 : Nat) (k : Nat) (f0 : Value) (xs ys zs : Array Value) : Prop where
  z : IsZip h (N + 5) (N + 3) (N + 4) f0
  ti : IsTri h (N + 3) (.ref N) (.ref (N + 1)) (.ref (N + 2))
  to : ∃ a b c, IsTri h (N + 4) a b c
  i1 : h.IsListIter N l1 k
  i2 : h.IsListIter (N + 1) l2 k
  i3 : h.IsListIter (N + 2) l3 k
  a1 : h.IsList l1 xs
  a2 : h.IsList l2 ys
  a3 : h.IsList l3 zs
section
variable {prog : Program} {w : World} {A : Around} {E : Value → Shared → Prop} {s : Shared}
theorem upd_tri {T : Addr} {a b c x : Value} {k : Nat} {Q : Unit → Shared → Prop} (hT : IsTri s.heap T a b c)
    (h : ∀ h', h'.get? T = some { cls := .type "tuple", data := .seq ((#[a, b, c] : Array Value).setIfInBounds k x) } → Heap.SameBut T s.heap h' → Q () { s with heap := h' }) :
    wpAny (model prog w) A (updateSeq T (·.setIfInBounds k x)) Q E s := by
  refine wpAny_updateSeq hT rfl (h _ ?_ (Heap.SameBut.update ..))
  rw [Heap.get?_update_self _ hT rfl]
  simp [Obj.mapSeq]
theorem zip3_item {N l1 l2 l3 k : Nat} {xs ys zs : Array Value} {x y v : Value} {Q : Value → Shared → Prop} (Z : Z3 s.heap N l1 l2 l3 k .none xs ys zs) (h1 : l1 < N) (h2 : l2 < N) (h3 : l3 < N)
    (hx : xs[k]? = some x) (hy : ys[k]? = some y) (hv : zs[k]? = some v)
    (hQ : ∀ h', Z3 h' N l1 l2 l3 (k + 1) (rawInt s.heap.objs.size) xs ys zs → IsTri h' s.heap.objs.size x y v → h'.objs.size = s.heap.objs.size + 1 →
      (∀ c o, (c : Nat) < N ∨ N + 6 ≤ c → s.heap.get? c = some o → h'.get? c = some o) → Q (.ref s.heap.objs.size) { s with heap := h' }) :
    wpAny (model prog w) A (Builtin.«zip.__next__» ⟨[.ref (N + 5)], []⟩) (fun fin s' => ∃ u, fin = .done (.ret u) ∧ Q u s') E s := by
  obtain ⟨hz, hTI, ⟨a, b, c, hTO⟩, hi1, hi2, hi3, ha1, ha2, ha3⟩ := Z
  show wpAny _ _ (field (.ref (N + 5)) 2 >>= _) _ _ _
  refine wpAny_bind (wpAny_field hz rfl (x := .bool false) rfl ?_)
  show wpAny _ _ (field (.ref (N + 5)) 3 >>= _) _ _ _
  refine wpAny_bind (wpAny_field hz rfl (x := .ref (N + 3)) rfl ?_)
  refine wpAny_bind (wpAny_seqItems hTI rfl ?_)
  show wpAny _ _ (Builtin.SmallTypes.ownedTupleIsFree (.ref (N + 5)) >>= _) _ _ _
  refine wpAny_bind ?_
  unfold Builtin.SmallTypes.ownedTupleIsFree
  refine wpAny_bind (wpAny_field hz rfl (x := .none) rfl (wpAny_pure ?_))
  simp only [if_true]
  refine wpAny_bind (wpAny_rule ?_)
  refine wpAny_bind (wpAny_field hz rfl (x := .ref (N + 4)) rfl ?_)
  refine wpAny_bind (wpAny_setField_rec hz (by simp) fun g₁ hz₁ s₁ => ?_)
  replace hz₁ : IsZip g₁ (N + 5) (N + 3) (N + 4) .ellipsis := hz₁
  have k₁ : ∀ c o, (c : Nat) ≠ N + 5 → s.heap.get? c = some o → g₁.get? c = some o := fun c o n e => s₁.extBut c o n e
  refine wpAny_bind ?_
  simp only [List.zipIdx_cons, List.zipIdx_nil, List.forIn_cons, List.forIn_nil]
  refine wpAny_bind (wpAny_bind (wpAny_onRaise ?_))
  show wpAny _ _ (Builtin.SmallTypes.nextOf (.ref N) >>= _) _ _ _
  refine wpAny_bind (wpAny_nextOf_list_item (hi1.at fun o e => k₁ _ o (by show (N : Nat) ≠ N + 5; omega) e) (ha1.at fun o e => k₁ _ o (by omega) e) hx fun g₂ i1₂ s₂ => wpAny_pure ?_)
  have k₂ : ∀ c o, (c : Nat) ≠ N → g₁.get? c = some o → g₂.get? c = some o := fun c o n e => s₂.extBut c o n e
  have hTO₂ : IsTri g₂ (N + 4) a b c := k₂ _ _ (by omega) (k₁ _ _ (by omega) hTO)
  refine wpAny_bind (wpAny_seqItems hTO₂ rfl ?_)
  refine wpAny_bind (upd_tri hTO₂ fun g₃ hTO₃ s₃ => ?_)
  replace hTO₃ : IsTri g₃ (N + 4) x b c := hTO₃
  have k₃ : ∀ c o, (c : Nat) ≠ N + 4 → g₂.get? c = some o → g₃.get? c = some o := fun c o n e => s₃.extBut c o n e
  refine wpAny_bind (wpAny_letGo (wpAny_pure ?_))
  refine wpAny_bind (wpAny_bind (wpAny_onRaise ?_))
  show wpAny _ _ (Builtin.SmallTypes.nextOf (.ref (N + 1)) >>= _) _ _ _
  refine wpAny_bind (wpAny_nextOf_list_item (hi2.at fun o e => k₃ _ o (by omega) (k₂ _ o (by omega) (k₁ _ o (by omega) e)))
    (ha2.at fun o e => k₃ _ o (by omega) (k₂ _ o (by omega) (k₁ _ o (by omega) e))) hy fun g₄ i2₄ s₄ => wpAny_pure ?_)
  have k₄ : ∀ c o, (c : Nat) ≠ N + 1 → g₃.get? c = some o → g₄.get? c = some o := fun c o n e => s₄.extBut c o n e
  have hTO₄ : IsTri g₄ (N + 4) x b c := k₄ _ _ (by omega) hTO₃
  refine wpAny_bind (wpAny_seqItems hTO₄ rfl ?_)
  refine wpAny_bind (upd_tri hTO₄ fun g₅ hTO₅ s₅ => ?_)
  replace hTO₅ : IsTri g₅ (N + 4) x y c := hTO₅
  have k₅ : ∀ c o, (c : Nat) ≠ N + 4 → g₄.get? c = some o → g₅.get? c = some o := fun c o n e => s₅.extBut c o n e
  refine wpAny_bind (wpAny_letGo (wpAny_pure ?_))
  refine wpAny_bind (wpAny_bind (wpAny_onRaise ?_))
  show wpAny _ _ (Builtin.SmallTypes.nextOf (.ref (N + 2)) >>= _) _ _ _
  refine wpAny_bind (wpAny_nextOf_list_item (hi3.at fun o e => k₅ _ o (by omega) (k₄ _ o (by omega) (k₃ _ o (by omega) (k₂ _ o (by omega) (k₁ _ o (by omega) e)))))
    (ha3.at fun o e => k₅ _ o (by omega) (k₄ _ o (by omega) (k₃ _ o (by omega) (k₂ _ o (by omega) (k₁ _ o (by omega) e))))) hv fun g₆ i3₆ s₆ => wpAny_pure ?_)
  have k₆ : ∀ c o, (c : Nat) ≠ N + 2 → g₅.get? c = some o → g₆.get? c = some o := fun c o n e => s₆.extBut c o n e
  have hTO₆ : IsTri g₆ (N + 4) x y c := k₆ _ _ (by omega) hTO₅
  refine wpAny_bind (wpAny_seqItems hTO₆ rfl ?_)
  refine wpAny_bind (upd_tri hTO₆ fun g₇ hTO₇ s₇ => ?_)
  replace hTO₇ : IsTri g₇ (N + 4) x y v := hTO₇
  have k₇ : ∀ c o, (c : Nat) ≠ N + 4 → g₆.get? c = some o → g₇.get? c = some o := fun c o n e => s₇.extBut c o n e
  refine wpAny_bind (wpAny_letGo (wpAny_pure (wpAny_pure ?_)))
  refine wpAny_bind (wpAny_seqItems hTO₇ rfl ?_)
  refine wpAny_bind (wpAny_newTuple ?_)
  have hsz : g₇.objs.size = s.heap.objs.size := by rw [s₇.1, s₆.1, s₅.1, s₄.1, s₃.1, s₂.1, s₁.1]
  have kk : ∀ c o, (c : Nat) ≠ N + 5 → (c : Nat) ≠ N + 4 → (c : Nat) ≠ N → (c : Nat) ≠ N + 1 → (c : Nat) ≠ N + 2 → s.heap.get? c = some o → g₇.get? c = some o := fun c o n5 n4 n0 n1 n2 e =>
    k₇ c o n4 (k₆ c o n2 (k₅ c o n4 (k₄ c o n1 (k₃ c o n4 (k₂ c o n0 (k₁ c o n5 e))))))
  have hz₇ : IsZip g₇ (N + 5) (N + 3) (N + 4) .ellipsis := k₇ _ _ (by omega) (k₆ _ _ (by omega) (k₅ _ _ (by omega) (k₄ _ _ (by omega) (k₃ _ _ (by omega) (k₂ _ _ (by omega) hz₁)))))
  have j1 : g₇.IsListIter N l1 (k + 1) := i1₂.at fun o e => k₇ _ o (by omega) (k₆ _ o (by omega) (k₅ _ o (by omega) (k₄ _ o (by omega) (k₃ _ o (by omega) e))))
  have j2 : g₇.IsListIter (N + 1) l2 (k + 1) := i2₄.at fun o e => k₇ _ o (by omega) (k₆ _ o (by omega) (k₅ _ o (by omega) e))
  have j3 : g₇.IsListIter (N + 2) l3 (k + 1) := i3₆.at fun o e => k₇ _ o (by omega) e
  have hlt : (N + 5 : Nat) < g₇.objs.size := Heap.lt_size hz₇
  show wpAny _ _ (Builtin.SmallTypes.ownedTupleHandOut (.ref (N + 5)) (.ref g₇.objs.size) >>= _) _ _ _
  refine wpAny_bind ?_
  unfold Builtin.SmallTypes.ownedTupleHandOut
  have hz₈ : IsZip (g₇.push { cls := .type "tuple", data := .seq #[x, y, v] }) (N + 5) (N + 3) (N + 4) .ellipsis := Heap.get?_push_of_some _ hz₇
  refine wpAny_bind (wpAny_setField_rec hz₈ (by simp) fun g₈ hz₉ s₈ => ?_)
  replace hz₉ : IsZip g₈ (N + 5) (N + 3) (N + 4) (rawInt g₇.objs.size) := hz₉
  refine wpAny_setField_rec hz₉ (by simp) fun g₉ hz₁₀ s₉ => ?_
  replace hz₁₀ : IsZip g₉ (N + 5) (N + 3) (N + 4) (rawInt g₇.objs.size) := hz₁₀
  have up : ∀ c o, (c : Nat) ≠ N + 5 → g₇.get? c = some o → g₉.get? c = some o := fun c o n e => s₉.extBut _ _ n (s₈.extBut _ _ n (Heap.get?_push_of_some _ e))
  have hT : IsTri g₉ g₇.objs.size x y v := s₉.extBut _ _ (Nat.ne_of_gt hlt) (s₈.extBut _ _ (Nat.ne_of_gt hlt) (Heap.get?_push_size _ rfl))
  have hs9 : g₉.objs.size = g₇.objs.size + 1 := by rw [s₉.1, s₈.1, Heap.size_push]
  rw [hsz] at hz₁₀ hT hs9
  refine wpAny_pure ⟨_, rfl, ?_⟩
  show Q (.ref g₇.objs.size) _
  rw [hsz]
  exact hQ g₉ ⟨hz₁₀, up _ _ (by omega) (kk _ _ (by omega) (by omega) (by omega) (by omega) (by omega) hTI), ⟨_, _, _, up _ _ (by omega) hTO₇⟩, j1.at fun o e => up _ o (by omega) e, j2.at fun o e => up _ o (by omega) e, j3.at fun o e => up _ o (by omega) e,
    ha1.at fun o e => up _ o (by omega) (kk _ o (by omega) (by omega) (by omega) (by omega) (by omega) e), ha2.at fun o e => up _ o (by omega) (kk _ o (by omega) (by omega) (by omega) (by omega) (by omega) e), ha3.at fun o e => up _ o (by omega) (kk _ o (by omega) (by omega) (by omega) (by omega) (by omega) e)⟩
    hT hs9 fun c o hc e => up c o (by omega) (kk c o (by omega) (by omega) (by omega) (by omega) (by omega) e)
theorem zip3_end {N l1 l2 l3 k : Nat} {xs ys zs : Array Value} {Q : Fin → Shared → Prop} (hh : A.handled = none) (Z : Z3 s.heap N l1 l2 l3 k .none xs ys zs) (h1 : l1 < N) (hx : xs[k]? = none)
    (hE : ∀ h' e, (∀ c o, (c : Nat) < N ∨ N + 6 ≤ c → s.heap.get? c = some o → h'.get? c = some o) → (∃ o, h'.get? e = some o ∧ o.cls = .type "StopIteration") → E (.ref e) { s with heap := h' }) :
    wpAny (model prog w) A (Builtin.«zip.__next__» ⟨[.ref (N + 5)], []⟩) Q E s := by
  obtain ⟨hz, hTI, ⟨a, b, c, hTO⟩, hi1, hi2, hi3, ha1, ha2, ha3⟩ := Z
  show wpAny _ _ (field (.ref (N + 5)) 2 >>= _) _ _ _
  refine wpAny_bind (wpAny_field hz rfl (x := .bool false) rfl ?_)
  show wpAny _ _ (field (.ref (N + 5)) 3 >>= _) _ _ _
  refine wpAny_bind (wpAny_field hz rfl (x := .ref (N + 3)) rfl ?_)
  refine wpAny_bind (wpAny_seqItems hTI rfl ?_)
  show wpAny _ _ (Builtin.SmallTypes.ownedTupleIsFree (.ref (N + 5)) >>= _) _ _ _
  refine wpAny_bind ?_
  unfold Builtin.SmallTypes.ownedTupleIsFree
  refine wpAny_bind (wpAny_field hz rfl (x := .none) rfl (wpAny_pure ?_))
  simp only [if_true]
  refine wpAny_bind (wpAny_rule ?_)
  refine wpAny_bind (wpAny_field hz rfl (x := .ref (N + 4)) rfl ?_)
  refine wpAny_bind (wpAny_setField_rec hz (by simp) fun g₁ hz₁ s₁ => ?_)
  replace hz₁ : IsZip g₁ (N + 5) (N + 3) (N + 4) .ellipsis := hz₁
  have k₁ : ∀ c o, (c : Nat) ≠ N + 5 → s.heap.get? c = some o → g₁.get? c = some o := fun c o n e => s₁.extBut c o n e
  refine wpAny_bind ?_
  simp only [List.zipIdx_cons, List.zipIdx_nil, List.forIn_cons, List.forIn_nil]
  refine wpAny_bind (wpAny_bind (wpAny_onRaise ?_))
  show wpAny _ _ (Builtin.SmallTypes.nextOf (.ref N) >>= _) _ _ _
  refine wpAny_bind (wpAny_nextOf_list_end hh (hi1.at fun o e => k₁ _ o (by show (N : Nat) ≠ N + 5; omega) e) (ha1.at fun o e => k₁ _ o (by omega) e) hx fun g₂ e s₂ he => ?_)
  obtain ⟨oe, hoe, hce⟩ := he
  have k₂ : ∀ c o, (c : Nat) ≠ N → g₁.get? c = some o → g₂.get? c = some o := fun c o n e => s₂ c o n e
  have hz₂ : IsZip g₂ (N + 5) (N + 3) (N + 4) .ellipsis := k₂ _ _ (by omega) hz₁
  have hez : e ≠ N + 5 := fun x => by subst x; rw [hz₂] at hoe; cases hoe; simp at hce
  refine wpAny_setField_rec hz₂ (by simp) fun g₃ _ s₃ => hE g₃ e (fun c o hc x => s₃.extBut c o (show (c : Nat) ≠ N + 5 by omega) (k₂ c o (by omega) (k₁ c o (by omega) x))) ⟨oe, s₃.extBut _ _ hez hoe, hce⟩
theorem next3_item {N l1 l2 l3 k : Nat} {xs ys zs : Array Value} {x y v : Value} {Q : Option Value → Shared → Prop} (Z : Z3 s.heap N l1 l2 l3 k .none xs ys zs) (h1 : l1 < N) (h2 : l2 < N) (h3 : l3 < N)
    (hx : xs[k]? = some x) (hy : ys[k]? = some y) (hv : zs[k]? = some v)
    (hQ : ∀ h', Z3 h' N l1 l2 l3 (k + 1) (rawInt s.heap.objs.size) xs ys zs → IsTri h' s.heap.objs.size x y v → h'.objs.size = s.heap.objs.size + 1 →
      (∀ c o, (c : Nat) < N ∨ N + 6 ≤ c → s.heap.get? c = some o → h'.get? c = some o) → Q (some (.ref s.heap.objs.size)) { s with heap := h' }) :
    wpAny (model prog w) A (pyNext (.ref (N + 5))) Q E s := by
  have hT : s.TypeIs (.ref (N + 5)) "zip" := ⟨_, Z.z, rfl⟩
  unfold pyNext
  exact wpAny_bind (wpAny_attempt (wpAny_callSpecial?_slot (name := PySem.Str.ofString "__next__") hT F.slot_zip_next
    (wpAny_call_entry F.slot_zip_next hT F.entry_zip_next
      (zip3_item Z h1 h2 h3 hx hy hv fun h' a1 a2 a3 a4 => wpAny_pure (hQ h' a1 a2 a3 a4)) (F.args_zip_next_1 _))))
theorem next3_end {N l1 l2 l3 k : Nat} {xs ys zs : Array Value} {Q : Option Value → Shared → Prop} (hh : A.handled = none) (Z : Z3 s.heap N l1 l2 l3 k .none xs ys zs) (h1 : l1 < N) (hx : xs[k]? = none)
    (hQ : ∀ h', (∀ c o, (c : Nat) < N ∨ N + 6 ≤ c → s.heap.get? c = some o → h'.get? c = some o) → Q none { s with heap := h' }) : wpAny (model prog w) A (pyNext (.ref (N + 5))) Q E s := by
  have hT : s.TypeIs (.ref (N + 5)) "zip" := ⟨_, Z.z, rfl⟩
  unfold pyNext
  refine wpAny_bind (wpAny_attempt (wpAny_callSpecial?_slot (name := PySem.Str.ofString "__next__") hT F.slot_zip_next
    (wpAny_call_entry F.slot_zip_next hT F.entry_zip_next (zip3_end hh Z h1 hx fun h' e hk he => ?_) (F.args_zip_next_1 _))))
  obtain ⟨o, ho, hc⟩ := he
  refine wpAny_bind (wpAny_isInstance (T := "StopIteration") (b := true) ⟨o, ho, hc⟩ isSubtype_stop ?_)
  exact wpAny_pure (hQ _ hk)
theorem let3 {elts : List Expr} {x1} {pos : Pos} {N l1 l2 l3 k : Nat} {T : Addr} {xs ys zs : Array Value} {Q : Unit → Shared → Prop} (Z : Z3 s.heap N l1 l2 l3 k (rawInt T) xs ys zs) (h1 : l1 < N) (h2 : l2 < N) (h3 : l3 < N)
    (hQ : ∀ h', Z3 h' N l1 l2 l3 k .none xs ys zs → Heap.SameBut (N + 5) s.heap h' → Q () { s with heap := h' }) :
    wpAny (model prog w) A (letOwnedTupleGo (.Tuple elts x1 pos) (.ref (N + 5)) (.ref T)) Q E s := by
  obtain ⟨hz, hTI, ⟨a, b, c, hTO⟩, hi1, hi2, hi3, ha1, ha2, ha3⟩ := Z
  refine wpAny_letOwnedTupleGo_zip hz fun h' hz' hs' => hQ h' ?_ hs'
  have k₁ : ∀ c o, (c : Nat) ≠ N + 5 → s.heap.get? c = some o → h'.get? c = some o := fun c o n e => hs'.extBut c o n e
  exact ⟨hz', k₁ _ _ (by omega) hTI, ⟨a, b, c, k₁ _ _ (by omega) hTO⟩, hi1.at fun o e => k₁ _ o (by omega) e, hi2.at fun o e => k₁ _ o (by omega) e, hi3.at fun o e => k₁ _ o (by omega) e,
    ha1.at fun o e => k₁ _ o (by omega) e, ha2.at fun o e => k₁ _ o (by omega) e, ha3.at fun o e => k₁ _ o (by omega) e⟩
end
abbrev li (l : Addr) : Obj := { cls := .type "list_iterator", data := .fields #[.ref l, .int 0 0] }
abbrev zh (h : Heap) (l1 l2 l3 : Addr) : Heap := (((((h.push (li l1)).push (li l2)).push (li l3)).push { cls := .type "tuple", data := .seq #[.ref h.objs.size, .ref (h.push (li l1)).objs.size, .ref ((h.push (li l1)).push (li l2)).objs.size] }).push
  { cls := .type "tuple", data := .seq #[.none, .none, .none] })
theorem zip3_new (l1 l2 l3 : Addr) (xs ys zs : Array Value) :
    Meets (Builtin.«zip.__new__» ⟨[.type "zip", .ref l1, .ref l2, .ref l3], []⟩) (fun _ R s => s.heap.IsList l1 xs ∧ s.heap.IsList l2 ys ∧ s.heap.IsList l3 zs ∧
      R (.ok (.ret (.ref (zh s.heap l1 l2 l3).objs.size))) { s with heap := (zh s.heap l1 l2 l3).push { cls := .type "zip", data := .fields #[.none, .bool false, .bool false, .ref (((s.heap.push (li l1)).push (li l2)).push (li l3)).objs.size, .ref ((((s.heap.push (li l1)).push (li l2)).push (li l3)).push { cls := .type "tuple", data := .seq #[.ref s.heap.objs.size, .ref (s.heap.push (li l1)).objs.size, .ref ((s.heap.push (li l1)).push (li l2)).objs.size] }).objs.size] } }) :=
  .of_wp fun prog w A R s h => by
    obtain ⟨hp, g, d, tk, os⟩ := s; obtain ⟨hl1, hl2, hl3, h⟩ := h
    have hsub := sub_zip
    have hL1 : Heap.IsList (Shared.heap ⟨hp, g, d, tk, os⟩) l1 xs := hl1
    have hL2 : Heap.IsList (Shared.heap ⟨hp.push (li l1), g, d, tk, os⟩) l2 ys := Heap.IsList.push hl2 _
    have hL3 : Heap.IsList (Shared.heap ⟨(hp.push (li l1)).push (li l2), g, d, tk, os⟩) l3 zs := Heap.IsList.push (Heap.IsList.push hl3 _) _
    wp_walk using wpAny_pyIter_list hL1, wpAny_pyIter_list hL2, wpAny_pyIter_list hL3
    exact ⟨_, rfl, h⟩
section
variable {prog : Program} {w : World} {A : Around} {E : Value → Shared → Prop} {s : Shared}
theorem typeCall_zip_3 (a b c : Value) : checkTypeCall "zip" ⟨[a, b, c], []⟩ = pure () := by rw [PySem.W.Fast.te11612656972197000677]; kernel_rfl
theorem newCall_zip_3 (a b c : Value) : checkBuiltinCall "zip.__new__" ⟨[.type "zip", a, b, c], []⟩ = pure () := by rw [PySem.W.Fast.te10254737850608025244]; kernel_rfl
theorem args_object_init_4 (a b c d : Value) : argsOk "object.__init__" ⟨[a, b, c, d], []⟩ := by
  unfold argsOk; rw [signature?_of (id := "object.__init__") (n := ['_', '_', 't', 'i', 'n', 'i', '_', '_']) (o := ['t', 'c', 'e', 'j', 'b', 'o']) (by kernel_rfl) F.owner_object]; kernel_rfl
theorem call_zip3 {l1 l2 l3 : Addr} {xs ys zs : Array Value} {Q : Value → Shared → Prop} (hl1 : s.heap.IsList l1 xs) (hl2 : s.heap.IsList l2 ys) (hl3 : s.heap.IsList l3 zs)
    (h : ∀ h', Z3 h' s.heap.objs.size l1 l2 l3 0 .none xs ys zs → h'.objs.size = s.heap.objs.size + 6 → (∀ c o, s.heap.get? c = some o → h'.get? c = some o) → Q (.ref (s.heap.objs.size + 5)) { s with heap := h' }) :
    wpAny (model prog w) A (call (.type "zip") [.ref l1, .ref l2, .ref l3]) Q E s := by
  refine callType_new F.called_zip (by decide) (typeCall_zip_3 _ _ _) (newCall_zip_3 _ _ _) (fun obj => args_object_init_4 obj _ _ _) F.entry_zip_new
    (zip3_new l1 l2 l3 xs ys zs) ⟨hl1, hl2, hl3, ?_⟩
  have up : ∀ c o, s.heap.get? c = some o → ((zh s.heap l1 l2 l3).push { cls := .type "zip", data := .fields #[.none, .bool false, .bool false, .ref (((s.heap.push (li l1)).push (li l2)).push (li l3)).objs.size, .ref ((((s.heap.push (li l1)).push (li l2)).push (li l3)).push { cls := .type "tuple", data := .seq #[.ref s.heap.objs.size, .ref (s.heap.push (li l1)).objs.size, .ref ((s.heap.push (li l1)).push (li l2)).objs.size] }).objs.size] }).get? c = some o :=
    fun c o x => Heap.get?_push_of_some _ (Heap.get?_push_of_some _ (Heap.get?_push_of_some _ (Heap.get?_push_of_some _ (Heap.get?_push_of_some _ (Heap.get?_push_of_some _ x)))))
  have g1 : ((zh s.heap l1 l2 l3).push { cls := .type "zip", data := .fields #[.none, .bool false, .bool false, .ref (((s.heap.push (li l1)).push (li l2)).push (li l3)).objs.size, .ref ((((s.heap.push (li l1)).push (li l2)).push (li l3)).push { cls := .type "tuple", data := .seq #[.ref s.heap.objs.size, .ref (s.heap.push (li l1)).objs.size, .ref ((s.heap.push (li l1)).push (li l2)).objs.size] }).objs.size] }).get? s.heap.objs.size = some (li l1) :=
    Heap.get?_push_of_some _ (Heap.get?_push_of_some _ (Heap.get?_push_of_some _ (Heap.get?_push_of_some _ (Heap.get?_push_of_some _ (Heap.get?_push_size _ rfl)))))
  have g2 : ((zh s.heap l1 l2 l3).push { cls := .type "zip", data := .fields #[.none, .bool false, .bool false, .ref (((s.heap.push (li l1)).push (li l2)).push (li l3)).objs.size, .ref ((((s.heap.push (li l1)).push (li l2)).push (li l3)).push { cls := .type "tuple", data := .seq #[.ref s.heap.objs.size, .ref (s.heap.push (li l1)).objs.size, .ref ((s.heap.push (li l1)).push (li l2)).objs.size] }).objs.size] }).get? (s.heap.push (li l1)).objs.size = some (li l2) :=
    Heap.get?_push_of_some _ (Heap.get?_push_of_some _ (Heap.get?_push_of_some _ (Heap.get?_push_of_some _ (Heap.get?_push_size _ rfl))))
  have g3 : ((zh s.heap l1 l2 l3).push { cls := .type "zip", data := .fields #[.none, .bool false, .bool false, .ref (((s.heap.push (li l1)).push (li l2)).push (li l3)).objs.size, .ref ((((s.heap.push (li l1)).push (li l2)).push (li l3)).push { cls := .type "tuple", data := .seq #[.ref s.heap.objs.size, .ref (s.heap.push (li l1)).objs.size, .ref ((s.heap.push (li l1)).push (li l2)).objs.size] }).objs.size] }).get? ((s.heap.push (li l1)).push (li l2)).objs.size = some (li l3) :=
    Heap.get?_push_of_some _ (Heap.get?_push_of_some _ (Heap.get?_push_of_some _ (Heap.get?_push_size _ rfl)))
  have g4 : ((zh s.heap l1 l2 l3).push { cls := .type "zip", data := .fields #[.none, .bool false, .bool false, .ref (((s.heap.push (li l1)).push (li l2)).push (li l3)).objs.size, .ref ((((s.heap.push (li l1)).push (li l2)).push (li l3)).push { cls := .type "tuple", data := .seq #[.ref s.heap.objs.size, .ref (s.heap.push (li l1)).objs.size, .ref ((s.heap.push (li l1)).push (li l2)).objs.size] }).objs.size] }).get? (((s.heap.push (li l1)).push (li l2)).push (li l3)).objs.size = some { cls := .type "tuple", data := .seq #[.ref s.heap.objs.size, .ref (s.heap.push (li l1)).objs.size, .ref ((s.heap.push (li l1)).push (li l2)).objs.size] } :=
    Heap.get?_push_of_some _ (Heap.get?_push_of_some _ (Heap.get?_push_size _ rfl))
  have g5 : ((zh s.heap l1 l2 l3).push { cls := .type "zip", data := .fields #[.none, .bool false, .bool false, .ref (((s.heap.push (li l1)).push (li l2)).push (li l3)).objs.size, .ref ((((s.heap.push (li l1)).push (li l2)).push (li l3)).push { cls := .type "tuple", data := .seq #[.ref s.heap.objs.size, .ref (s.heap.push (li l1)).objs.size, .ref ((s.heap.push (li l1)).push (li l2)).objs.size] }).objs.size] }).get? ((((s.heap.push (li l1)).push (li l2)).push (li l3)).push { cls := .type "tuple", data := .seq #[.ref s.heap.objs.size, .ref (s.heap.push (li l1)).objs.size, .ref ((s.heap.push (li l1)).push (li l2)).objs.size] }).objs.size = some { cls := .type "tuple", data := .seq #[.none, .none, .none] } :=
    Heap.get?_push_of_some _ (Heap.get?_push_size _ rfl)
  have g6 : ((zh s.heap l1 l2 l3).push { cls := .type "zip", data := .fields #[.none, .bool false, .bool false, .ref (((s.heap.push (li l1)).push (li l2)).push (li l3)).objs.size, .ref ((((s.heap.push (li l1)).push (li l2)).push (li l3)).push { cls := .type "tuple", data := .seq #[.ref s.heap.objs.size, .ref (s.heap.push (li l1)).objs.size, .ref ((s.heap.push (li l1)).push (li l2)).objs.size] }).objs.size] }).get? (zh s.heap l1 l2 l3).objs.size = some _ := Heap.get?_push_size _ rfl
  have sz : ((zh s.heap l1 l2 l3).push { cls := .type "zip", data := .fields #[.none, .bool false, .bool false, .ref (((s.heap.push (li l1)).push (li l2)).push (li l3)).objs.size, .ref ((((s.heap.push (li l1)).push (li l2)).push (li l3)).push { cls := .type "tuple", data := .seq #[.ref s.heap.objs.size, .ref (s.heap.push (li l1)).objs.size, .ref ((s.heap.push (li l1)).push (li l2)).objs.size] }).objs.size] }).objs.size = s.heap.objs.size + 6 := by simp only [zh, Heap.size_push]
  generalize ((zh s.heap l1 l2 l3).push { cls := .type "zip", data := .fields #[.none, .bool false, .bool false, .ref (((s.heap.push (li l1)).push (li l2)).push (li l3)).objs.size, .ref ((((s.heap.push (li l1)).push (li l2)).push (li l3)).push { cls := .type "tuple", data := .seq #[.ref s.heap.objs.size, .ref (s.heap.push (li l1)).objs.size, .ref ((s.heap.push (li l1)).push (li l2)).objs.size] }).objs.size] }) = H at up g1 g2 g3 g4 g5 g6 sz ⊢
  simp only [zh, Heap.size_push] at g2 g3 g4 g5 g6 ⊢
  exact ⟨⟨_, g6, rfl⟩, h H ⟨g6, g4, ⟨_, _, _, g5⟩, ⟨_, g1, rfl, rfl⟩, ⟨_, g2, rfl, rfl⟩, ⟨_, g3, rfl, rfl⟩, hl1.at fun o e => up _ o e, hl2.at fun o e => up _ o e, hl3.at fun o e => up _ o e⟩ sz up⟩
end
end Mine
end

section
open PySem PySem.W PyProof.Rows PySem.Calls
set_option maxRecDepth 100000
set_option maxHeartbeats 4000000
namespace Mine
/-- the local names but those that a loop stores stay -/
def Kept (stored : List PySem.Str) (m₀ m : PySem.Str → Option Value) : Prop := ∀ z, stored.contains z = false → m z = m₀ z
/-- what a turn of a loop leaves behind -/
def TurnT (h₀ : Heap) (L : Addr) (stored : List PySem.Str) (m₀ : PySem.Str → Option Value) (led : List (Addr × Obj)) (s : Shared) (s₂ : Shared) : Prop :=
  ∃ h' tk' m'', s₂ = { s with heap := h', toks := tk' } ∧ Fr h₀ L h' m'' ∧ News h₀ L h' led ∧ Kept stored m₀ m''
/-- what a zip over three lists holds -/
def zOwn (N : Nat) (q1 q2 q3 : Obj) (ta tb tc : Value) : List (Addr × Obj) := [(N, q1), (N + 1, q2), (N + 2, q3), (N + 3, { cls := .type "tuple", data := .seq #[.ref N, .ref (N + 1), .ref (N + 2)] }), (N + 4, { cls := .type "tuple", data := .seq #[ta, tb, tc] }),
  (N + 5, { cls := .type "zip", dict := none, data := .fields #[.none, .bool false, .bool false, .ref (N + 3), .ref (N + 4)], slots := #[] })]
section
variable {prog : Program} {w : World} {A : Around} {s : Shared} {env : Env} {h₀ : Heap} {L : Addr} {m₀ : PySem.Str → Option Value} {news : List (Addr × Obj)}
theorem kept_set {stored : List PySem.Str} {m : PySem.Str → Option Value} {x : PySem.Str} {v : Option Value} (k : Kept stored m₀ m) (hx : stored.contains x = true) : Kept stored m₀ (fun y => if y = x then v else m y) := fun z hz => by
  show (if z = x then v else m z) = m₀ z
  rw [if_neg (fun e => by rw [e, hx] at hz; cases hz)]
  exact k z hz
theorem zip3_loop {R : Result → Shared → Prop} {nx ny nv : PySem.Str} {p1 p2 p3 pt : Pos} {c : Nat} {body : List Stmt} {N l1 l2 l3 n : Nat} {vx vy vz : List Value} (stored : List PySem.Str)
    (hh : A.handled = none) (hkx : env.kindOf nx = some .local) (hky : env.kindOf ny = some .local) (hkv : env.kindOf nv = some .local)
    (hp : (env.scope.kind == .class || (env.scope.kind == .module && env.locals != env.globals)) = false) (hL : env.locals = L)
    (hsx : stored.contains nx = true) (hsy : stored.contains ny = true) (hsv : stored.contains nv = true)
    (hnx : vx.length = n) (hny : vy.length = n) (hnz : vz.length = n)
    (F : Fr h₀ L s.heap m₀) (W : News h₀ L s.heap news) (m1 : (l1, LCg.lst vx) ∈ news) (m2 : (l2, LCg.lst vy) ∈ news) (m3 : (l3, LCg.lst vz) ∈ news)
    (Z : Z3 s.heap N l1 l2 l3 0 .none vx.toArray vy.toArray vz.toArray) (hLN : (L : Nat) < N) (hh₀ : h₀.objs.size ≤ N) (hnw : ∀ p ∈ news, (p.1 : Nat) < N)
    (turn : ∀ (i : Nat) (x y v : Value) (m' : PySem.Str → Option Value) (h : Heap) (tk : Nat) (own : List (Addr × Obj)), i < n → vx[i]? = some x → vy[i]? = some y → vz[i]? = some v → Kept stored m₀ m' →
      Fr h₀ L h (fun z => if z = nv then some v else if z = ny then some y else if z = nx then some x else m' z) → News h₀ L h (news ++ own) →
      wpT (model prog w) A (execs body env) (fun f s₂ => match f with
        | .next => TurnT h₀ L stored m₀ (news ++ own) s s₂
        | .ret r => R (.ok (.ret r)) s₂
        | _ => False) NoE { s with heap := h, toks := tk })
    (done : ∀ h tk m', Fr h₀ L h m' → News h₀ L h news → Kept stored m₀ m' → R (.ok .next) { s with heap := h, toks := tk }) :
    codeT (model prog w) A (.forLoop (.Tuple [.Name nx p1, .Name ny p2, .Name nv p3] c pt) (.ref (N + 5)) body [] env) R s := by
  subst hL
  have g1 := hnw _ m1
  have g2 := hnw _ m2
  have g3 := hnw _ m3
  have fresh : ∀ c : Nat, N ≤ c → h₀.get? c = none := fun c hc => by
    cases e : h₀.get? c with
    | none => rfl
    | some o => exact absurd (Heap.lt_size e) (by show ¬ c < _; omega)
  refine codeT_forLoop (fun k s' => ∃ i h tk m', s' = { s with heap := h, toks := tk } ∧ k = n - i ∧ i ≤ n ∧ Fr h₀ env.locals h m' ∧ News h₀ env.locals h news ∧ Z3 h N l1 l2 l3 i .none vx.toArray vy.toArray vz.toArray ∧ Kept stored m₀ m') ?_ n
    ⟨0, s.heap, s.toks, m₀, rfl, rfl, Nat.zero_le _, F, W, Z, fun _ _ => rfl⟩
  rintro k s' ⟨i, h, tk, m', rfl, rfl, hi, F', W', Z', K'⟩
  by_cases hlt : i < n
  · have ex : vx[i]? = some vx[i] := List.getElem?_eq_getElem (by omega)
    have ey : vy[i]? = some vy[i] := List.getElem?_eq_getElem (by omega)
    have ez : vz[i]? = some vz[i] := List.getElem?_eq_getElem (by omega)
    refine next3_item Z' g1 g2 g3 (by rw [List.getElem?_toArray]; exact ex) (by rw [List.getElem?_toArray]; exact ey) (by rw [List.getElem?_toArray]; exact ez) fun h₁ Z₁ hT₁ sz₁ up₁ => ?_
    refine let3 Z₁ g1 g2 g3 fun h₂ Z₂ hs₂ => ?_
    have up₂ : ∀ c o, (c : Nat) < N ∨ N + 6 ≤ c → h.get? c = some o → h₂.get? c = some o := fun c o hc e => hs₂.extBut c o (show (c : Nat) ≠ N + 5 by omega) (up₁ c o hc e)
    have hNh : N + 6 ≤ h.objs.size := by
      have := Heap.lt_size Z'.z
      exact this
    have hT₂ : h₂.IsTuple h.objs.size #[vx[i], vy[i], vz[i]] := ⟨_, hs₂.extBut _ _ (show (h.objs.size : Nat) ≠ N + 5 by omega) hT₁, rfl, _, rfl⟩
    refine wpAny_assign_Tuple hh hT₂ rfl rfl fun h₃ hx₃ => ?_
    have hz₂ : h₂.objs.size = h.objs.size + 1 := hs₂.1.trans sz₁
    have up₃ : ∀ c o, (c : Nat) < h.objs.size → h₂.get? c = some o → h₃.get? c = some o := fun c o hc e => hx₃ c o (by rw [hz₂]; exact Nat.ne_of_lt (Nat.lt_succ_of_lt hc)) e
    have up : ∀ c o, (c : Nat) < N → h.get? c = some o → h₃.get? c = some o := fun c o hc e => up₃ c o (by omega) (up₂ c o (.inl hc) e)
    have F₃ : Fr h₀ env.locals h₃ m' := ⟨F'.ns.at' fun o e => up _ o hLN e, fun b o e => up b o (Nat.lt_of_lt_of_le (Heap.lt_size e) hh₀) (F'.keep b o e), F'.above⟩
    have W₃ : News h₀ env.locals h₃ news := fun p hp => ⟨up _ _ (hnw p hp) (W' p hp).1, (W' p hp).2⟩
    obtain ⟨q1, qo1, qd1⟩ := Z₂.i1
    obtain ⟨q2, qo2, qd2⟩ := Z₂.i2
    obtain ⟨q3, qo3, qd3⟩ := Z₂.i3
    obtain ⟨ta, tb, tc, hTO⟩ := Z₂.to
    have nl : ∀ c : Nat, N ≤ c → c ≠ env.locals := fun c hc e => by
      have e' : @Eq Nat c env.locals := e
      have h' : @LT.lt Nat _ env.locals N := hLN
      omega
    have O₃ : News h₀ env.locals h₃ (zOwn N q1 q2 q3 ta tb tc) := fun p hp => by
      simp only [zOwn, List.mem_cons, List.not_mem_nil, or_false] at hp
      rcases hp with rfl | rfl | rfl | rfl | rfl | rfl
      · exact ⟨up₃ _ _ (by show (N : Nat) < _; omega) qo1, nl _ (by omega), fresh _ (by omega)⟩
      · exact ⟨up₃ _ _ (by show (N + 1 : Nat) < _; omega) qo2, nl _ (by omega), fresh _ (by omega)⟩
      · exact ⟨up₃ _ _ (by show (N + 2 : Nat) < _; omega) qo3, nl _ (by omega), fresh _ (by omega)⟩
      · exact ⟨up₃ _ _ (by show (N + 3 : Nat) < _; omega) Z₂.ti, nl _ (by omega), fresh _ (by omega)⟩
      · exact ⟨up₃ _ _ (by show (N + 4 : Nat) < _; omega) hTO, nl _ (by omega), fresh _ (by omega)⟩
      · exact ⟨up₃ _ _ (by show (N + 5 : Nat) < _; omega) Z₂.z, nl _ (by omega), fresh _ (by omega)⟩
    have A₃ : News h₀ env.locals h₃ (news ++ zOwn N q1 q2 q3 ta tb tc) := fun p hp => by
      rcases List.mem_append.mp hp with hp | hp
      · exact W₃ p hp
      · exact O₃ p hp
    show wpAny _ A (do holding [vy[i], vz[i]] (assign (.Name nx p1) env vx[i]); do holding [vz[i]] (assign (.Name ny p2) env vy[i]); do holding [] (assign (.Name nv p3) env vz[i]); pure ()) _ _ _
    refine wpAny_bind (wpAny_holding (wpAny_assign_Name (wpAny_storeName_local hkx F₃.ns (fun h₄ hn₄ hs₄ => ?_) hp)))
    have F₄ := F₃.set hn₄ hs₄
    have A₄ := A₃.set hs₄
    refine wpAny_bind (wpAny_holding (wpAny_assign_Name (wpAny_storeName_local hky F₄.ns (fun h₅ hn₅ hs₅ => ?_) hp)))
    have F₅ := F₄.set hn₅ hs₅
    have A₅ := A₄.set hs₅
    refine wpAny_bind (wpAny_holding (wpAny_assign_Name (wpAny_storeName_local hkv F₅.ns (fun h₆ hn₆ hs₆ => wpAny_pure ?_) hp)))
    have F₆ := F₅.set hn₆ hs₆
    have A₆ := A₅.set hs₆
    refine wpT_mono (turn i _ _ _ m' h₆ _ _ hlt ex ey ez K' F₆ A₆) (fun f s₃ hf => ?_) fun _ _ x => x
    have fin : TurnT h₀ env.locals stored m₀ (news ++ zOwn N q1 q2 q3 ta tb tc) s s₃ → ∃ m, m < n - i ∧ ∃ i h tk m', s₃ = { s with heap := h, toks := tk } ∧ m = n - i ∧ i ≤ n ∧ Fr h₀ env.locals h m' ∧ News h₀ env.locals h news ∧ Z3 h N l1 l2 l3 i .none vx.toArray vy.toArray vz.toArray ∧ Kept stored m₀ m' := by
      rintro ⟨h₇, tk₇, m₇, rfl, F₇, A₇, K₇⟩
      have W₇ : News h₀ env.locals h₇ news := fun p hp => A₇ p (List.mem_append_left _ hp)
      have at₇ : ∀ p, p ∈ zOwn N q1 q2 q3 ta tb tc → h₇.get? p.1 = some p.2 := fun p hp => (A₇ p (List.mem_append_right _ hp)).1
      refine ⟨n - (i + 1), by omega, i + 1, h₇, tk₇, m₇, rfl, rfl, hlt, F₇, W₇, ⟨at₇ _ (.tail _ (.tail _ (.tail _ (.tail _ (.tail _ (.head _)))))), at₇ _ (.tail _ (.tail _ (.tail _ (.head _)))), ⟨ta, tb, tc, at₇ _ (.tail _ (.tail _ (.tail _ (.tail _ (.head _)))))⟩, ⟨q1, at₇ _ (.head _), qd1⟩, ⟨q2, at₇ _ (.tail _ (.head _)), qd2⟩, ⟨q3, at₇ _ (.tail _ (.tail _ (.head _))), qd3⟩, W₇.isList m1, W₇.isList m2, W₇.isList m3⟩, K₇⟩
    cases f with
    | next => exact fin hf
    | ret r => exact hf
    | brk => exact hf.elim
    | cont => exact hf.elim
  · obtain rfl : i = n := Nat.le_antisymm hi (Nat.not_lt.mp hlt)
    refine next3_end hh Z' g1 (by simp [hnx]) fun h₁ up => ?_
    exact done h₁ tk m' ⟨F'.ns.at' fun o e => up _ o (.inl hLN) e, fun b o e => up b o (.inl (Nat.lt_of_lt_of_le (Heap.lt_size e) hh₀)) (F'.keep b o e), F'.above⟩ (fun p hp => ⟨up _ _ (.inl (hnw p hp)) (W' p hp).1, (W' p hp).2⟩) K'
end
end Mine
end

section
open PySem PySem.W PyProof.Rows PySem.Calls
set_option maxRecDepth 100000
set_option maxHeartbeats 4000000
namespace Mine
/-- how a turn of seq_loop ends -/
def SeqEnd (h₀ : Heap) (L I : Addr) (oI : Obj) (J : (PySem.Str → Option Value) → List (Addr × Obj) → Prop) (ret : Value → Shared → Prop) (s : Shared) (f : Flow) (s₃ : Shared) : Prop :=
  match f with
  | .ret r => ret r s₃
  | .brk => False
  | _ => ∃ h' tk' m' nw', s₃ = { s with heap := h', toks := tk' } ∧ Fr h₀ L h' m' ∧ News h₀ L h' (nw' ++ [(I, oI)]) ∧ (∀ p ∈ nw', p.1 ≠ I) ∧ J m' nw'
section
variable {prog : Program} {w : World} {A : Around} {s : Shared} {env : Env} {h₀ : Heap} {L : Addr} {m₀ : PySem.Str → Option Value} {news : List (Addr × Obj)}
theorem seq_loop {R : Result → Shared → Prop} {tgt : Expr} {body : List Stmt} {I ax : Addr} {oax : Obj} {n : Nat} {P : Nat → Value → Prop} {St : Nat → Heap → Prop} (J : Nat → (PySem.Str → Option Value) → List (Addr × Obj) → Prop)
    (W : Walks prog w A I [I, ax] [I] n P St) (hob : ∀ i h, St i h → ∃ o, h.get? I = some o)
    (hgo : ∀ i (s' : Shared) v (Q' : Unit → Shared → Prop), St i s'.heap → Q' () s' → wpAny (model prog w) A (letOwnedTupleGo tgt (.ref I) v) Q' NoE s')
    (hax : ∀ i m nw, J i m nw → (ax, oax) ∈ nw) (hI : I ≠ L) (hI₀ : h₀.get? I = none)
    (F : Fr h₀ L s.heap m₀) (Nw : News h₀ L s.heap news) (hst : St 0 s.heap) (hoff : ∀ p ∈ news, p.1 ≠ I) (h0 : J 0 m₀ news)
    (turn : ∀ (i : Nat) (v : Value) (m : PySem.Str → Option Value) (nw : List (Addr × Obj)) (h : Heap) (tk : Nat) (oI : Obj), i < n → P i v → J i m nw → (∀ p ∈ nw, p.1 ≠ I) → Fr h₀ L h m → News h₀ L h (nw ++ [(I, oI)]) →
      wpAny (model prog w) A (assign tgt env v) (fun _ s₂ => wpT (model prog w) A (execs body env) (SeqEnd h₀ L I oI (J (i + 1)) (fun r s₃ => R (.ok (.ret r)) s₃) s) NoE s₂) NoE { s with heap := h, toks := tk })
    (done : ∀ h tk m nw, Fr h₀ L h m → News h₀ L h nw → J n m nw → R (.ok .next) { s with heap := h, toks := tk }) :
    codeT (model prog w) A (.forLoop tgt (.ref I) body [] env) R s := by
  have old : ∀ {h : Heap} {m}, Fr h₀ L h m → ∀ h' : Heap, (∀ b o, b ∉ [I] → h.get? b = some o → h'.get? b = some o) → Fr h₀ L h' m := fun F' h' hk =>
    ⟨F'.ns.at' fun o e => hk L o (by simpa using Ne.symm hI) e, fun b o e => hk b o (fun hb => by rw [List.mem_singleton.mp hb, hI₀] at e; cases e) (F'.keep b o e), F'.above⟩
  refine codeT_forLoop (fun k s' => ∃ i h tk m nw, s' = { s with heap := h, toks := tk } ∧ k = n - i ∧ i ≤ n ∧ Fr h₀ L h m ∧ News h₀ L h nw ∧ St i h ∧ (∀ p ∈ nw, p.1 ≠ I) ∧ J i m nw) ?_ n
    ⟨0, s.heap, s.toks, m₀, news, rfl, rfl, Nat.zero_le _, F, Nw, hst, hoff, h0⟩
  rintro k s' ⟨i, h, tk, m, nw, rfl, rfl, hi, F', W', S', off, hJ⟩
  by_cases hlt : i < n
  · refine W.item i _ _ _ hlt S' fun v h₁ tk₁ hP S₁ hk₁ => ?_
    refine hgo (i + 1) _ v _ S₁ ?_
    have F₁ := old F' h₁ hk₁
    have W₁ : News h₀ L h₁ nw := fun p hp => ⟨hk₁ _ _ (by simpa using off p hp) (W' p hp).1, (W' p hp).2⟩
    obtain ⟨oI, hoI⟩ := hob _ _ S₁
    have A₁ : News h₀ L h₁ (nw ++ [(I, oI)]) := fun p hp => by
      rcases List.mem_append.mp hp with hp | hp
      · exact W₁ p hp
      · rw [List.mem_singleton.mp hp]; exact ⟨hoI, hI, hI₀⟩
    refine wpAny_mono (turn i v m nw h₁ tk₁ oI hlt hP hJ off F₁ A₁) (fun _ s₂ h₂ => ?_) fun _ _ x => x
    refine wpT_mono h₂ (fun f s₃ hf => ?_) fun _ _ x => x
    have fin : (∃ h' tk' m' nw', s₃ = { s with heap := h', toks := tk' } ∧ Fr h₀ L h' m' ∧ News h₀ L h' (nw' ++ [(I, oI)]) ∧ (∀ p ∈ nw', p.1 ≠ I) ∧ J (i + 1) m' nw') →
        ∃ m, m < n - i ∧ ∃ i h tk m' nw, s₃ = { s with heap := h, toks := tk } ∧ m = n - i ∧ i ≤ n ∧ Fr h₀ L h m' ∧ News h₀ L h nw ∧ St i h ∧ (∀ p ∈ nw, p.1 ≠ I) ∧ J i m' nw := by
      rintro ⟨h', tk', m', nw', rfl, F₂, A₂, off₂, J₂⟩
      refine ⟨n - (i + 1), by omega, i + 1, h', tk', m', nw', rfl, rfl, hlt, F₂, fun p hp => A₂ p (List.mem_append_left _ hp), W.frame _ _ _ S₁ fun b hb o e => ?_, off₂, J₂⟩
      rcases List.mem_cons.mp hb with rfl | hb
      · rw [hoI] at e
        cases e
        exact (A₂ (_, oI) (List.mem_append_right _ (.head _))).1
      · rw [List.mem_singleton.mp hb] at e ⊢
        have e1 := (W₁ _ (hax _ _ _ hJ)).1
        rw [show h₁.get? ax = some oax from e1] at e
        cases e
        exact (A₂ _ (List.mem_append_left _ (hax _ _ _ J₂))).1
    cases f with
    | next => exact fin hf
    | cont => exact fin hf
    | ret r => exact hf
    | brk => exact hf.elim
  · obtain rfl : i = n := Nat.le_antisymm hi (Nat.not_lt.mp hlt)
    refine W.done _ _ _ S' fun h₁ tk₁ hk₁ => ?_
    exact done h₁ tk₁ m nw (old F' h₁ hk₁) (fun p hp => ⟨hk₁ _ _ (by simpa using off p hp) (W' p hp).1, (W' p hp).2⟩) hJ
end
theorem form4_eq {m : PySem.Str → Option Value} {x1 x2 x3 x4 : PySem.Str} {v1 v2 v3 v4 : Value} (e1 : m x1 = some v1) (e2 : m x2 = some v2) (e3 : m x3 = some v3) (e4 : m x4 = some v4) :
    (fun y => if y = x1 then some v1 else if y = x2 then some v2 else if y = x3 then some v3 else if y = x4 then some v4 else m y) = m := by
  funext y
  by_cases h1 : y = x1
  · rw [if_pos h1, h1, e1]
  · rw [if_neg h1]
    exact congrFun (form3_eq e2 e3 e4) y
theorem fr_form4 {h₀ h : Heap} {L : Addr} {m : PySem.Str → Option Value} {x1 x2 x3 x4 : PySem.Str} {v1 v2 v3 v4 : Value} (F : Fr h₀ L h m) (e1 : m x1 = some v1) (e2 : m x2 = some v2) (e3 : m x3 = some v3) (e4 : m x4 = some v4) :
    Fr h₀ L h (fun y => if y = x1 then some v1 else if y = x2 then some v2 else if y = x3 then some v3 else if y = x4 then some v4 else m y) := by
  rw [form4_eq e1 e2 e3 e4]
  exact F
end Mine
end

section
open PySem PySem.W PyProof.Rows PySem.Calls
set_option maxRecDepth 100000
set_option maxHeartbeats 4000000
namespace Mine
/-- two clauses, the second with a test -/
abbrev two (elt tx ty i1 i2 c : Expr) (scope : Scope) (pos : Pos) : Expr := .ListComp elt [⟨tx, i1, [], 0⟩, ⟨ty, i2, [c], 0⟩] scope pos
section
variable {prog : Program} {w : World} {A : Around} {s : Shared} {h₀ : Heap} {L : Addr} {m : PySem.Str → Option Value} {env : Env}
theorem turn_0 (elt tx ty i1 i2 c : Expr) (scope : Scope) (pos : Pos) (it acc : Value) (env : Env) : compTurn (two elt tx ty i1 i2 c scope pos) 0 it acc env = (do
    standAt i1.pos
    match ← pyNext it with
    | none => pure (.done .next)
    | some v =>
      letOwnedTupleGo tx it v
      assign tx env v
      let x ← eval i2 env
      standAt i2.pos
      let x ← foldedSetIterable i2 env x
      let _ ← runOwn (.compStart (two elt tx ty i1 i2 c scope pos) 1 (← holding [x] (pyIter x)) acc env) env
      again (.compLoop (two elt tx ty i1 i2 c scope pos) 0 it acc env)) := by rfl
theorem turn_1 (elt tx ty i1 i2 c : Expr) (scope : Scope) (pos : Pos) (it acc : Value) (env : Env) : compTurn (two elt tx ty i1 i2 c scope pos) 1 it acc env = (do
    standAt i2.pos
    match ← pyNext it with
    | none => pure (.done .next)
    | some v =>
      letOwnedTupleGo ty it v
      assign ty env v
      let ok ← forIn [c] true fun c r => if r = true then do let ok ← isTrue c env (eval c env); pure (ForInStep.yield ok) else pure (ForInStep.yield r)
      if ok then (do let _ ← call (.builtin "list.append") [acc, ← eval elt env])
      again (.compLoop (two elt tx ty i1 i2 c scope pos) 1 it acc env)) := by rfl
/-- what the inner loop leaves -/
def In2 (h₀ : Heap) (L C : Addr) (m : PySem.Str → Option Value) (led : List (Addr × Obj)) (s s' : Shared) : Prop :=
  ∃ h' tk' m2, s' = { s with heap := h', toks := tk' } ∧ Fr h₀ L h' m ∧ News h₀ L h' led ∧ h'.Ns C m2
theorem inner2 {elt i1 i2 c : Expr} {x y : PySem.Str} {px py : Pos} {scope : Scope} {pos : Pos} {cl : List (PySem.Str × Addr)} {C D ax : Addr} {vs : List Value} {led : List (Addr × Obj)} {vx : Value}
    (hh : A.handled = none) (hkind : scope.kind = .function) (hy : scope.names.lookup y = some .local) (hxy : x ≠ y)
    (hax : (ax, LCg.lst vs) ∈ led) (hC : ∀ p ∈ led, p.1 ≠ C) (hCL : C ≠ L) (hC₀ : h₀.get? C = none)
    (test : ∀ (I2 : Addr) (o oC : Obj) (v : Value) (m2 : PySem.Str → Option Value) (h : Heap) (tk : Nat), v ∈ vs → m2 x = some vx → m2 y = some v → LCg.NsObj oC m2 → Fr h₀ L h m → News h₀ L h ((I2, o) :: (C, oC) :: led) →
      wpAny (model prog w) A (isTrue c (compEnvC scope cl C env) (eval c (compEnvC scope cl C env))) (fun b s' => b = false ∧ ∃ h' tk', s' = { s with heap := h', toks := tk' } ∧ Fr h₀ L h' m ∧ News h₀ L h' ((I2, o) :: (C, oC) :: led)) NoE { s with heap := h, toks := tk })
    {I2 : Addr} {h : Heap} {tk : Nat} {m1 : PySem.Str → Option Value} (hI2 : I2 ≠ C) (hI2L : I2 ≠ L) (hI2₀ : h₀.get? I2 = none) (hI2l : ∀ p ∈ led, p.1 ≠ I2) (hit : h.IsListIter I2 ax 0)
    (F : Fr h₀ L h m) (N : News h₀ L h led) (hns : h.Ns C m1) (hmx : m1 x = some vx) :
    codeAny (model prog w) A (.compLoop (two elt (.Name x px) (.Name y py) i1 i2 c scope pos) 1 (.ref I2) (.ref D) (compEnvC scope cl C env)) (fun r s' => r = .ok .next ∧ In2 h₀ L C m led s s') { s with heap := h, toks := tk } := by
  refine codeAny_loop' rfl (fun k s' => ∃ i h tk m1, s' = { s with heap := h, toks := tk } ∧ k = vs.length - i ∧ i ≤ vs.length ∧ h.IsListIter I2 ax i ∧ Fr h₀ L h m ∧ News h₀ L h led ∧ h.Ns C m1 ∧ m1 x = some vx) (fun n s' hI => ?_) vs.length
    ⟨0, h, tk, m1, rfl, rfl, Nat.zero_le _, hit, F, N, hns, hmx⟩
  obtain ⟨i, h, tk, m1, rfl, rfl, hi, hit, F, N, hns, hmx⟩ := hI
  show wpAny _ A ((compTurn (two elt (.Name x px) (.Name y py) i1 i2 c scope pos) 1 (.ref I2) (.ref D) (compEnvC scope cl C env)).onRaise (fun x => do noteFrame x (compEnvC scope cl C env); theTreesLotGoes x)) _ _ _
  refine wpAny_onRaise (wpAny_mono (E := NoE) ?_ (fun _ _ q => q) fun _ _ h => h.elim)
  rw [turn_1]
  refine wpAny_bind (wpAny_standAt (wpAny_bind ?_))
  have hl := N.isList hax
  cases hv : vs[i]? with
  | none =>
    have hsz : i = vs.length := by
      have := List.getElem?_eq_none_iff.mp hv
      omega
    refine wpAny_pyNext_list_end hh hit hl (by rw [List.getElem?_toArray]; exact hv) fun h' he => ?_
    exact wpAny_pure ⟨rfl, h', _, m1, rfl, ⟨F.ns.at' fun o e => he _ o (Ne.symm hI2L) e, fun b o e => he b o (fun q => by rw [q, hI2₀] at e; cases e) (F.keep b o e), F.above⟩, fun p hp => ⟨he _ _ (hI2l p hp) (N p hp).1, (N p hp).2⟩, hns.at' fun o e => he _ o (Ne.symm hI2) e⟩
  | some v =>
    have hlt : i < vs.length := (List.getElem?_eq_some_iff.mp hv).1
    have hvm : v ∈ vs := List.mem_of_getElem? hv
    refine wpAny_pyNext_list_item hit hl (x := v) (by rw [List.getElem?_toArray]; exact hv) fun h₁ hit₁ hs₁ => ?_
    have k₁ : ∀ b o, b ≠ I2 → h.get? b = some o → h₁.get? b = some o := fun b o n e => hs₁.extBut b o n e
    refine wpAny_bind (wpAny_of_eq (a := ()) rfl ?_)
    have hns₁ : h₁.Ns C m1 := hns.at' fun o e => k₁ _ o (Ne.symm hI2) e
    refine wpAny_bind (wpAny_assign_Name (wpAny_storeName_local (lookup_relabel_local hy) hns₁ (fun h₂ hn₂ hs₂ => ?_) (by simp [compEnvC, relabel, hkind])))
    have k₂ : ∀ b o, b ≠ C → h₁.get? b = some o → h₂.get? b = some o := fun b o n e => hs₂.extBut b o n e
    obtain ⟨oC, heC, hoC⟩ := LCg.ns_obj hn₂
    obtain ⟨oI, hoI, hoI2⟩ := id hit₁
    have F₂ : Fr h₀ L h₂ m := ⟨F.ns.at' fun o e => k₂ _ o (Ne.symm hCL) (k₁ _ o (Ne.symm hI2L) e), fun b o e => k₂ b o (fun q => by rw [q, hC₀] at e; cases e) (k₁ b o (fun q => by rw [q, hI2₀] at e; cases e) (F.keep b o e)), F.above⟩
    have N₂ : News h₀ L h₂ ((I2, oI) :: (C, oC) :: led) := fun p hp => by
      rcases List.mem_cons.mp hp with rfl | hp
      · exact ⟨k₂ _ _ hI2 hoI, hI2L, hI2₀⟩
      · rcases List.mem_cons.mp hp with rfl | hp
        · exact ⟨heC, hCL, hC₀⟩
        · exact ⟨k₂ _ _ (hC p hp) (k₁ _ _ (hI2l p hp) (N p hp).1), (N p hp).2⟩
    have hx2 : (fun z => if z = y then some v else m1 z) x = some vx := by show (if x = y then _ else _) = _; rw [if_neg hxy, hmx]
    have hy2 : (fun z => if z = y then some v else m1 z) y = some v := if_pos rfl
    simp only [List.forIn_cons, List.forIn_nil]
    refine wpAny_bind (wpAny_bind ?_)
    rw [if_pos trivial]
    refine wpAny_bind (wpAny_mono (test I2 oI oC v _ h₂ _ hvm hx2 hy2 hoC F₂ N₂) (fun b s₃ h₃ => ?_) fun _ _ h => h)
    obtain ⟨rfl, h₃, tk₃, rfl, F₃, N₃⟩ := h₃
    refine wpAny_pure (wpAny_pure ?_)
    rw [if_neg (by decide)]
    refine wpAny_pure (.inl ⟨rfl, vs.length - (i + 1), by omega, i + 1, h₃, tk₃, _, rfl, rfl, hlt, ⟨oI, (N₃ _ List.mem_cons_self).1, hoI2⟩, F₃, fun p hp => N₃ p (List.mem_cons_of_mem _ (List.mem_cons_of_mem _ hp)), hoC.ns (N₃ _ (List.mem_cons_of_mem _ List.mem_cons_self)).1, hx2⟩)
theorem start1 {elt tx ty i1 i2 c : Expr} {scope : Scope} {pos : Pos} {acc : Value} {cenv : Env} {I2 ax : Addr} {k : Nat} {R : Result → Shared → Prop} {s : Shared} (hit : s.heap.IsListIter I2 ax k)
    (h0 : codeAny (model prog w) A (.compLoop (two elt tx ty i1 i2 c scope pos) 1 (.ref I2) acc cenv) R s) : codeAny (model prog w) A (.compStart (two elt tx ty i1 i2 c scope pos) 1 (.ref I2) acc cenv) R s := by
  refine codeAny_of_tree ?_
  show wpAny _ _ ((compStart (two elt tx ty i1 i2 c scope pos) 1 (.ref I2) acc cenv).onRaise (fun x => do noteFrame x cenv; standAt theWindowsPlace)) _ _ s
  refine wpAny_onRaise (wpAny_mono (E := NoE) ?_ (fun _ _ q => q) fun _ _ h => h.elim)
  unfold compStart
  show wpAny _ _ (ask >>= _) _ _ s
  refine wpAny_bind (wpAny_askSetting (wpAny_ite ?_))
  split
  · first
      | exact wpAny_bind (wpAny_pure (wpAny_pure (And.intro rfl h0)))
      | exact wpAny_pure (And.intro rfl h0)
  · refine wpAny_bind (wpAny_rule ?_)
    show wpAny _ _ (standAt i2.pos >>= _) _ _ s
    exact wpAny_bind (wpAny_standAt (wpAny_bind (wpAny_pyIter_listiter hit (wpAny_pure (And.intro rfl h0)))))
theorem outer2 {elt i1 i2 c : Expr} {x y : PySem.Str} {px py : Pos} {scope : Scope} {pos : Pos} {cl : List (PySem.Str × Addr)} {C D ax : Addr} {vs : List Value} {led : List (Addr × Obj)}
    (hh : A.handled = none) (hkind : scope.kind = .function) (hx : scope.names.lookup x = some .local) (hy : scope.names.lookup y = some .local) (hxy : x ≠ y)
    (hf : ∀ v, foldedSetIterable i2 (compEnvC scope cl C env) v = pure v)
    (hax : (ax, LCg.lst vs) ∈ led) (hC : ∀ p ∈ led, p.1 ≠ C) (hCL : C ≠ L) (hC₀ : h₀.get? C = none)
    (rows : ∀ (I : Addr) (o oC : Obj) (m2 : PySem.Str → Option Value) (h : Heap) (tk : Nat) (Q : Value → Shared → Prop), LCg.NsObj oC m2 → Fr h₀ L h m → News h₀ L h ((I, o) :: (C, oC) :: led) →
      (∀ h' tk', Fr h₀ L h' m → News h₀ L h' ((I, o) :: (C, oC) :: led) → Q (.ref ax) { s with heap := h', toks := tk' }) → wpAny (model prog w) A (eval i2 (compEnvC scope cl C env)) Q NoE { s with heap := h, toks := tk })
    (test : ∀ (I I2 : Addr) (o1 o oC : Obj) (vx v : Value) (m2 : PySem.Str → Option Value) (h : Heap) (tk : Nat), vx ∈ vs → v ∈ vs → m2 x = some vx → m2 y = some v → LCg.NsObj oC m2 → Fr h₀ L h m → News h₀ L h ((I2, o) :: (C, oC) :: (I, o1) :: led) →
      wpAny (model prog w) A (isTrue c (compEnvC scope cl C env) (eval c (compEnvC scope cl C env))) (fun b s' => b = false ∧ ∃ h' tk', s' = { s with heap := h', toks := tk' } ∧ Fr h₀ L h' m ∧ News h₀ L h' ((I2, o) :: (C, oC) :: (I, o1) :: led)) NoE { s with heap := h, toks := tk })
    {I : Addr} {h : Heap} {tk : Nat} {m1 : PySem.Str → Option Value} (hI : I ≠ C) (hIL : I ≠ L) (hI₀ : h₀.get? I = none) (hIl : ∀ p ∈ led, p.1 ≠ I) (hit : h.IsListIter I ax 0)
    (F : Fr h₀ L h m) (N : News h₀ L h led) (hns : h.Ns C m1) :
    codeAny (model prog w) A (.compLoop (two elt (.Name x px) (.Name y py) i1 i2 c scope pos) 0 (.ref I) (.ref D) (compEnvC scope cl C env)) (fun r s' => r = .ok .next ∧ In2 h₀ L C m led s s') { s with heap := h, toks := tk } := by
  refine codeAny_loop' rfl (fun k s' => ∃ i h tk m1, s' = { s with heap := h, toks := tk } ∧ k = vs.length - i ∧ i ≤ vs.length ∧ h.IsListIter I ax i ∧ Fr h₀ L h m ∧ News h₀ L h led ∧ h.Ns C m1) (fun n s' hI' => ?_) vs.length
    ⟨0, h, tk, m1, rfl, rfl, Nat.zero_le _, hit, F, N, hns⟩
  obtain ⟨i, h, tk, m1, rfl, rfl, hi, hit, F, N, hns⟩ := hI'
  show wpAny _ A ((compTurn (two elt (.Name x px) (.Name y py) i1 i2 c scope pos) 0 (.ref I) (.ref D) (compEnvC scope cl C env)).onRaise (fun x => do noteFrame x (compEnvC scope cl C env); theTreesLotGoes x)) _ _ _
  refine wpAny_onRaise (wpAny_mono (E := NoE) ?_ (fun _ _ q => q) fun _ _ h => h.elim)
  rw [turn_0]
  refine wpAny_bind (wpAny_standAt (wpAny_bind ?_))
  have hl := N.isList hax
  cases hv : vs[i]? with
  | none =>
    refine wpAny_pyNext_list_end hh hit hl (by rw [List.getElem?_toArray]; exact hv) fun h' he => ?_
    exact wpAny_pure ⟨rfl, h', _, m1, rfl, ⟨F.ns.at' fun o e => he _ o (Ne.symm hIL) e, fun b o e => he b o (fun q => by rw [q, hI₀] at e; cases e) (F.keep b o e), F.above⟩, fun p hp => ⟨he _ _ (hIl p hp) (N p hp).1, (N p hp).2⟩, hns.at' fun o e => he _ o (Ne.symm hI) e⟩
  | some vx =>
    have hlt : i < vs.length := (List.getElem?_eq_some_iff.mp hv).1
    have hvm : vx ∈ vs := List.mem_of_getElem? hv
    refine wpAny_pyNext_list_item hit hl (x := vx) (by rw [List.getElem?_toArray]; exact hv) fun h₁ hit₁ hs₁ => ?_
    have k₁ : ∀ b o, b ≠ I → h.get? b = some o → h₁.get? b = some o := fun b o n e => hs₁.extBut b o n e
    refine wpAny_bind (wpAny_of_eq (a := ()) rfl ?_)
    have hns₁ : h₁.Ns C m1 := hns.at' fun o e => k₁ _ o (Ne.symm hI) e
    refine wpAny_bind (wpAny_assign_Name (wpAny_storeName_local (lookup_relabel_local hx) hns₁ (fun h₂ hn₂ hs₂ => ?_) (by simp [compEnvC, relabel, hkind])))
    have k₂ : ∀ b o, b ≠ C → h₁.get? b = some o → h₂.get? b = some o := fun b o n e => hs₂.extBut b o n e
    obtain ⟨oC, heC, hoC⟩ := LCg.ns_obj hn₂
    obtain ⟨oI, hoI, hoI2⟩ := id hit₁
    have F₂ : Fr h₀ L h₂ m := ⟨F.ns.at' fun o e => k₂ _ o (Ne.symm hCL) (k₁ _ o (Ne.symm hIL) e), fun b o e => k₂ b o (fun q => by rw [q, hC₀] at e; cases e) (k₁ b o (fun q => by rw [q, hI₀] at e; cases e) (F.keep b o e)), F.above⟩
    have N₂ : News h₀ L h₂ ((I, oI) :: (C, oC) :: led) := fun p hp => by
      rcases List.mem_cons.mp hp with rfl | hp
      · exact ⟨k₂ _ _ hI hoI, hIL, hI₀⟩
      · rcases List.mem_cons.mp hp with rfl | hp
        · exact ⟨heC, hCL, hC₀⟩
        · exact ⟨k₂ _ _ (hC p hp) (k₁ _ _ (hIl p hp) (N p hp).1), (N p hp).2⟩
    refine wpAny_bind (rows I oI oC _ h₂ _ _ hoC F₂ N₂ fun h₃ tk₃ F₃ N₃ => ?_)
    refine wpAny_bind (wpAny_standAt (wpAny_bind (wpAny_of_eq (hf _) (wpAny_bind (wpAny_holding ?_)))))
    have hl₃ : h₃.IsList ax vs.toArray := News.isList N₃ (.tail _ (.tail _ hax))
    refine wpAny_pyIter_list hl₃ ?_
    have N₄ := N₃.grown (h' := h₃.push { cls := .type "list_iterator", data := .fields #[.ref ax, .int 0 0] }) fun _ _ e => Heap.get?_push_of_some _ e
    have F₄ := F₃.push { cls := .type "list_iterator", data := .fields #[.ref ax, .int 0 0] }
    have hC₃ := (N₃ (C, oC) (.tail _ (.head _))).1
    have hI₃ := (N₃ (I, oI) (.head _)).1
    have lt : ∀ {b : Addr} {o : Obj}, h₃.get? b = some o → h₃.objs.size ≠ b := fun e => Nat.ne_of_gt (Heap.lt_size e)
    have fr : h₀.get? h₃.objs.size = none := next_is_new F₃
    have hLL : h₃.objs.size ≠ L := Nat.ne_of_gt F₃.ns.lt
    have hit₄ : (h₃.push { cls := .type "list_iterator", data := .fields #[.ref ax, .int 0 0] }).IsListIter h₃.objs.size ax 0 := ⟨_, Heap.get?_push_size _ rfl, rfl, rfl⟩
    have led4 : News h₀ L (h₃.push { cls := .type "list_iterator", data := .fields #[.ref ax, .int 0 0] }) ((I, oI) :: led) := fun p hp => by
      rcases List.mem_cons.mp hp with rfl | hp
      · exact N₄ _ (.head _)
      · exact N₄ _ (.tail _ (.tail _ hp))
    have go := inner2 (prog := prog) (w := w) (A := A) (s := s) (h₀ := h₀) (L := L) (m := m) (env := env) (elt := elt) (i1 := i1) (i2 := i2) (c := c) (x := x) (y := y) (px := px) (py := py) (scope := scope) (pos := pos) (cl := cl) (C := C) (D := D) (ax := ax) (vs := vs) (led := (I, oI) :: led) (vx := vx)
      hh hkind hy hxy (.tail _ hax) (fun p hp => by
        rcases List.mem_cons.mp hp with rfl | hp
        · exact hI
        · exact hC p hp) hCL hC₀ (fun I2 o oC' v m2 h tk hv e1 e2 hn F N => test I I2 oI o oC' vx v m2 h tk hvm hv e1 e2 hn F N)
      (I2 := h₃.objs.size) (h := h₃.push { cls := .type "list_iterator", data := .fields #[.ref ax, .int 0 0] }) (tk := tk₃) (lt hC₃) hLL fr (fun p hp => by
        rcases List.mem_cons.mp hp with rfl | hp
        · exact Ne.symm (lt hI₃)
        · exact Ne.symm (lt (N₃ p (.tail _ (.tail _ hp))).1)) hit₄ F₄ led4 (hoC.ns (N₄ (C, oC) (.tail _ (.head _))).1) (if_pos rfl)
    refine wpAny_bind (wpAny_runOwn (E := NoE) (codeAny_mono (start1 hit₄ go) fun r s' hr => ?_))
    obtain ⟨rfl, h₅, tk₅, m5, rfl, F₅, N₅, hn₅⟩ := hr
    exact wpAny_pure (.inl ⟨rfl, vs.length - (i + 1), by omega, i + 1, h₅, tk₅, m5, rfl, rfl, hlt, ⟨oI, (N₅ _ (.head _)).1, hoI2⟩, F₅, fun p hp => N₅ p (.tail _ hp), hn₅⟩)
theorem comp2_empty {elt i1 i2 c : Expr} {x y : PySem.Str} {px py : Pos} {scope : Scope} {pos : Pos} {cl : List (PySem.Str × Addr)} {ax : Addr} {vs : List Value} {news : List (Addr × Obj)} {Q : Value → Shared → Prop} {E : Value → Shared → Prop}
    (hh : A.handled = none) (hclos : closureFor scope env = pure cl) (hcell : ∀ z ∈ scope.names, z.2 ≠ .cell) (hkind : scope.kind = .function) (hnames : ∀ z ∈ scope.names, z.2 = .local → scope.names.lookup z.1 = some .local)
    (hx : scope.names.lookup x = some .local) (hy : scope.names.lookup y = some .local) (hxy : x ≠ y)
    (hs : ∀ v, foldedSetIterable i1 env v = pure v) (hf : ∀ C v, foldedSetIterable i2 (compEnvC scope cl C env) v = pure v) (hax : (ax, LCg.lst vs) ∈ news)
    (src : ∀ Q' : Value → Shared → Prop, (∀ h1 tk1, Fr h₀ L h1 m → News h₀ L h1 news → Q' (.ref ax) { s with heap := h1, toks := tk1 }) → wpAny (model prog w) A (eval i1 env) Q' E s)
    (rows : ∀ (I C D : Addr) (o oC : Obj) (m2 : PySem.Str → Option Value) (h : Heap) (tk : Nat) (Q : Value → Shared → Prop), LCg.NsObj oC m2 → Fr h₀ L h m → News h₀ L h ((I, o) :: (C, oC) :: (D, LCg.lst []) :: news) →
      (∀ h' tk', Fr h₀ L h' m → News h₀ L h' ((I, o) :: (C, oC) :: (D, LCg.lst []) :: news) → Q (.ref ax) { s with heap := h', toks := tk' }) → wpAny (model prog w) A (eval i2 (compEnvC scope cl C env)) Q NoE { s with heap := h, toks := tk })
    (test : ∀ (I I2 C D : Addr) (o1 o oC : Obj) (vx v : Value) (m2 : PySem.Str → Option Value) (h : Heap) (tk : Nat), vx ∈ vs → v ∈ vs → m2 x = some vx → m2 y = some v → LCg.NsObj oC m2 → Fr h₀ L h m → News h₀ L h ((I2, o) :: (C, oC) :: (I, o1) :: (D, LCg.lst []) :: news) →
      wpAny (model prog w) A (isTrue c (compEnvC scope cl C env) (eval c (compEnvC scope cl C env))) (fun b s' => b = false ∧ ∃ h' tk', s' = { s with heap := h', toks := tk' } ∧ Fr h₀ L h' m ∧ News h₀ L h' ((I2, o) :: (C, oC) :: (I, o1) :: (D, LCg.lst []) :: news)) NoE { s with heap := h, toks := tk })
    (fin : ∀ D h' tk', Fr h₀ L h' m → News h₀ L h' ((D, LCg.lst []) :: news) → Q (.ref D) { s with heap := h', toks := tk' }) :
    wpAny (model prog w) A (eval (two elt (.Name x px) (.Name y py) i1 i2 c scope pos) env) Q E s := by
  rw [eval_ListComp]
  refine wpAny_comprehension_free (use := none) rfl hs hclos hkind hnames (src _ fun h1 tk1 F N => ?_)
  refine wpAny_pyIter_list (N.isList hax) ?_
  refine wpAny_newObj_type (wpAny_newFunctionEnv hcell (by intro y hy; simp at hy) (fun h₂ hns₂ hsb₂ => ?_) hkind)
  dsimp only at hns₂ hsb₂ ⊢
  have F0 := F.push { cls := .type "list_iterator", data := .fields #[.ref ax, .int 0 0] }
  have N0 := N.push F { cls := .type "list_iterator", data := .fields #[.ref ax, .int 0 0] }
  have F1 := F0.push { cls := .type "list", dict := none, data := .seq ([] : List Value).toArray }
  have N1 := N0.push F0 { cls := .type "list", dict := none, data := .seq ([] : List Value).toArray }
  generalize hH : (h1.push { cls := .type "list_iterator", data := .fields #[.ref ax, .int 0 0] }) = H1 at *
  have hI : H1.get? h1.objs.size = some { cls := .type "list_iterator", data := .fields #[.ref ax, .int 0 0] } := hH ▸ Heap.get?_push_size _ rfl
  generalize hH2 : H1.push { cls := .type "list", dict := none, data := .seq ([] : List Value).toArray } = H2 at *
  have old : ∀ b o, H2.get? b = some o → h₂.get? b = some o := fun b o e => hsb₂.extBut b o (Nat.ne_of_lt (Heap.lt_size e)) (Heap.get?_push_of_some _ e)
  have F2 : Fr h₀ L h₂ m := F1.keeps old
  have N2 := N1.grown old
  have lt : ∀ {b : Addr} {o : Obj}, H2.get? b = some o → b ≠ H2.objs.size := fun e => Nat.ne_of_lt (Heap.lt_size e)
  have fr : h₀.get? H2.objs.size = none := next_is_new F1
  have hLL : H2.objs.size ≠ L := Nat.ne_of_gt F1.ns.lt
  have hIn := N2 (h1.objs.size, _) (.tail _ (.head _))
  have ledC : ∀ p ∈ (H1.objs.size, LCg.lst []) :: news, p.1 ≠ H2.objs.size := fun p hp => by
    rcases List.mem_cons.mp hp with rfl | hp
    · exact lt (N1 _ (.head _)).1
    · exact lt (N1 p (.tail _ (.tail _ hp))).1
  have ledI : ∀ p ∈ (H1.objs.size, LCg.lst []) :: news, p.1 ≠ h1.objs.size := fun p hp => by
    rcases List.mem_cons.mp hp with rfl | hp
    · exact Nat.ne_of_gt (Heap.lt_size hI)
    · exact Nat.ne_of_lt (Heap.lt_size (N p hp).1)
  have led2 : News h₀ L h₂ ((H1.objs.size, LCg.lst []) :: news) := fun p hp => by
    rcases List.mem_cons.mp hp with rfl | hp
    · exact N2 _ (.head _)
    · exact N2 p (.tail _ (.tail _ hp))
  have loop := outer2 (prog := prog) (w := w) (A := A) (s := s) (h₀ := h₀) (L := L) (m := m) (env := env) (elt := elt) (i1 := i1) (i2 := i2) (c := c) (x := x) (y := y) (px := px) (py := py) (scope := scope) (pos := pos) (cl := cl) (C := H2.objs.size) (D := H1.objs.size) (ax := ax) (vs := vs) (led := (H1.objs.size, LCg.lst []) :: news)
    hh hkind hx hy hxy (hf _) (.tail _ hax) ledC hLL fr (fun I o oC m2 h tk Q hn F N hq => rows I _ _ o oC m2 h tk Q hn F N hq) (fun I I2 o1 o oC vx v m2 h tk hvx hv e1 e2 hn F N => test I I2 _ _ o1 o oC vx v m2 h tk hvx hv e1 e2 hn F N)
    (I := h1.objs.size) (h := h₂) (tk := tk1) (lt (N1 _ (.tail _ (.head _))).1) hIn.2.1 hIn.2.2 ledI ⟨_, hIn.1, rfl, rfl⟩ F2 led2 hns₂
  have post := codeAny_mono loop (R' := compPost (model prog w) A E none Q (.ref H1.objs.size) H2.objs.size) fun r s' hr => by
    obtain ⟨rfl, h₅, tk₅, m5, rfl, F₅, N₅, hn₅⟩ := hr
    refine ⟨m5, hn₅, fun h'' hs'' => fin _ h'' tk₅ (F₅.change hs'' hLL fr) fun p hp => ⟨hs''.extBut _ _ (ledC p hp) (N₅ p hp).1, (N₅ p hp).2⟩⟩
  exact codeAny_compStart_list post (wpAny_pyIter_listiter (l := ax) (i := 0) ⟨_, hIn.1, rfl, rfl⟩ post)
end
end Mine
end

section
open PySem PySem.W PyProof.Rows PySem.Calls
set_option maxRecDepth 100000
set_option maxHeartbeats 4000000
namespace Mine
local macro_rules | `(tactic| wp_step) => `(tactic| first
  | with_reducible (first
      | refine wpAny_pure ?_ | refine wpAny_bind ?_ | refine wpAny_holding ?_ | refine wpAny_standAt ?_ | refine wpAny_point ?_ | refine wpAny_rule ?_ | refine wpAny_letGo ?_ | refine wpAny_mkInt' ?_ | refine wpAny_fresh' ?_
      | refine wpAny_alloc' ?_ | refine wpAny_attempt ?_ | refine wpAny_throw ?_ | refine wpAny_of_eq (by assumption) ?_ | refine wpAny_typeOf (by assumption) ?_ | refine wpAny_specialOf_val (by assumption) (by assumption) ?_ | refine wpAny_specialOf (by assumption) (by assumption) ?_
      | refine wpAny_isInstance_val (by assumption) (by assumption) ?_ | refine wpAny_isInstance (by assumption) (by assumption) ?_ | refine wpAny_call ?_ | refine wpAny_runValue ?_ | refine wpAny_run ?_)
  | ((with_reducible refine' wpAny_mkStr' ?hw2 ?hw1); (case hw1 => size_fits))
  | ((with_reducible refine' PySem.wpAny_load' ?hw1 ?hw2); (case hw1 => (heap_get; done)))
  | ((with_reducible refine' PySem.wpAny_update' ?hw1 ?hw2); (case hw1 => (heap_get; done)))
  | ((with_reducible refine' PySem.wpAny_loadPart' ?hw1 ?hw2); (case hw1 => (heap_get; done)))
  | ((with_reducible refine' PySem.wpAny_updatePart' ?hw1 ?hw2); (case hw1 => (heap_get; done)))
  | ((with_reducible refine' wpAny_handled_none ?hw1 ?hw2); (case hw1 => assumption))
  | ((with_reducible refine' wpAny_ite_false ?hw1 ?hw2); (case hw1 => rfl))
  | ((with_reducible refine' wpAny_ite_true ?hw1 ?hw2); (case hw1 => rfl))
  | ((with_reducible refine' wpAny_ite_false ?hw1 ?hw2); (case hw1 => (simp [*]; done)))
  | ((with_reducible refine' wpAny_ite_true ?hw1 ?hw2); (case hw1 => (simp [*]; done)))
  | wp_delta
  | with_reducible_and_instances refine wpAny_pure ?_
  | with_reducible_and_instances refine wpAny_bind ?_)
section
variable {prog : Program} {w : World} {A : Around} {E : Value → Shared → Prop} {s : Shared}
theorem dict_iter_slot : typeLookup (.type "dict") "__iter__" = pure (some (.builtin "dict.__iter__")) := by rw [PySem.W.Fast.te1381439984260040727]; kernel_rfl
theorem sub_dict : isSubtype (.type "dict") (.type "dict") = pure true := by rw [PySem.W.Fast.te16098473122060591676]; kernel_rfl
theorem merge_empty {N D : Addr} {c1 c2 : Option Addr} {sl1 sl2 : Array (Option Value)} {n k : Nat} {Q : Unit → Shared → Prop} (hN : s.heap.get? N = some ⟨.type "dict", c1, .dict #[] n, sl1⟩) (hD : s.heap.get? D = some ⟨.type "dict", c2, .dict #[] k, sl2⟩) (hm : (D == sysModules) = false) (h : Q () s) :
    wpAny (model prog w) A (mergeMapping N (.ref D) true) Q E s := by
  obtain ⟨hp, g, d, tk, os⟩ := s
  have hT : (⟨hp, g, d, tk, os⟩ : Shared).TypeIs (.ref D) "dict" := ⟨_, hD, rfl⟩
  have f1 := sub_dict
  have f2 := dict_iter_slot
  unfold mergeMapping
  repeat (any_goals (first | with_reducible assumption | wp_step))
theorem dict_empty {o : Obj} (h : o.IsDictOf (strKind prog w) []) : ∃ c sl k, o = ⟨.type "dict", c, .dict #[] k, sl⟩ := by
  obtain ⟨es, ep, ⟨hc, hx⟩, hd, _, hp, _⟩ := h
  obtain ⟨c, dd, dt, sl⟩ := o
  have he : es = #[] := by
    obtain ⟨l⟩ := es
    cases hp
    rfl
  dsimp only at hc hd
  subst hc hd he
  exact ⟨dd, sl, ep, rfl⟩
theorem evalArgs_ss {f : Value} {y x : Sem Value} {Q : Args → Shared → Prop}
    (h : wpAny (model prog w) A (spliced [(false, y)]) (fun vs s₁ => wpAny (model prog w) A x (fun v s₂ => ∃ D o, v = .ref D ∧ s₂.heap.get? D = some o ∧ (D == sysModules) = false ∧ o.IsDictOf (strKind prog w) [] ∧ s₂.heap.get? s₁.heap.objs.size = some { cls := .type "dict", data := .dict #[] } ∧ Q ⟨vs, []⟩ s₂) E { s₁ with heap := s₁.heap.push { cls := .type "dict", data := .dict #[] } }) E s) :
    wpAny (model prog w) A (evalArgs f true [(false, y)] [(none, x)]) Q E s := by
  unfold evalArgs
  dsimp only
  refine wpAny_bind (wpAny_mono h (fun vs s₁ h₁ => ?_) fun _ _ e => e)
  refine wpAny_bind (wpAny_pure ?_)
  refine wpAny_holding ?_
  dsimp only
  rw [if_neg (by simp)]
  refine wpAny_bind ?_
  unfold mergedKeywords
  refine wpAny_bind (wpAny_alloc ?_)
  refine wpAny_bind (wpAny_holding ?_)
  dsimp only
  rw [List.forIn_cons]
  dsimp only
  refine wpAny_bind (wpAny_bind (wpAny_bind ?_))
  refine wpAny_ite_true rfl ?_
  refine wpAny_pure (wpAny_bind (wpAny_mono h₁ (fun v s₂ h₂ => ?_) fun _ _ e => e))
  obtain ⟨D, o, rfl, hD, hm, hI, hN, hq⟩ := h₂
  obtain ⟨c, sl, k, rfl⟩ := dict_empty hI
  refine wpAny_bind (wpAny_onRaise (wpAny_holding (wpAny_tryCatch (wpAny_onRaise (merge_empty hN hD hm ?_)))))
  refine wpAny_pure ?_
  dsimp only
  rw [List.forIn_nil]
  repeat (any_goals (first | with_reducible assumption | wp_step))
theorem callWith_ss {pos : Pos} {q g : Addr} {self : Value} {K : Frag} {y x : Sem Value} {Q : Value → Shared → Prop} (hf : fnIn K g = true)
    (h : wpAny (model prog w) A (spliced [(false, y)]) (fun vs s₁ => wpAny (model prog w) A x (fun v s₂ => ∃ D o, v = .ref D ∧ s₂.heap.get? D = some o ∧ (D == sysModules) = false ∧ o.IsDictOf (strKind prog w) [] ∧ s₂.heap.get? s₁.heap.objs.size = some { cls := .type "dict", data := .dict #[] } ∧ MethP K q g self s₂.heap ∧ wpAny (model prog w) A (call (.ref q) ([] ++ vs) []) Q E s₂) E { s₁ with heap := s₁.heap.push { cls := .type "dict", data := .dict #[] } }) E s) :
    wpAny (model prog w) A (callWith pos (.ref q) [] [(false, y)] [(none, x)]) Q E s := by
  unfold callWith
  refine wpAny_bind (wpAny_holding (wpAny_mono (evalArgs_ss (Q := fun a s₂ => MethP K q g self s₂.heap ∧ wpAny (model prog w) A (call (.ref q) ([] ++ a.pos) a.kw) Q E s₂) h) (fun a s₁ h₁ => wpAny_bind (wpAny_standAt ?_)) fun _ _ e => e))
  obtain ⟨k, hk', L⟩ := keeps_M (M := model prog w) hf _ h₁.1
  dsimp only
  refine wpAny_bind (L.here ?_)
  have tail : ∀ {t : Sem Value}, wpAny (model prog w) A t Q E s₁ → wpAny (model prog w) A (t >>= fun r => holding [r] point >>= fun _ => pure r) Q E s₁ :=
    fun ht => wpAny_bind (wpAny_mono ht (fun r s₂ hr => wpAny_bind (wpAny_holding (wpAny_point (wpAny_pure hr)))) fun _ _ x => x)
  have marked (mk : Value) : wpAny (model prog w) A (callMarked mk (.ref q) ([] ++ a.pos) a.kw) Q E s₁ := by unfold callMarked; exact Calls.wpAny_keep h₁.2
  simp only [List.any_cons, List.any_nil, Option.isNone_none, Bool.or_true, Bool.true_or, Bool.or_false]
  rcases hk' with rfl | rfl | rfl <;> dsimp only <;> first | exact tail (marked _) | exact tail (wpAny_operating h₁.2) | (split <;> first | exact tail (marked _) | exact tail (wpAny_operating h₁.2))
theorem methodCall_ss {env : Env} {o : Expr} {apos pos : Pos} {e x : Expr} {p : Pos} {name : PySem.Str} {Q : Value → Shared → Prop}
    (h : wpAny (model prog w) A (eval o env) (fun ov s₁ => wpAny (model prog w) A (getAttr ov name true) (fun f s₂ => wpAny (model prog w) A (callWith pos f [] (backTo pos (starEach [e] env)) (backToKw pos (keywordEach [⟨none, x, p⟩] env))) Q E s₂) E s₁) E s)
    (he : eval (.Call (.Attribute o name apos) [e] [⟨none, x, p⟩] pos) env = (do
      let ov ← eval o env
      standAt apos.atName
      let (f, first) ← holding [ov] (do pure (← getAttr ov name true, []))
      callWith pos f first (backTo pos (starEach [e] env)) (backToKw pos (keywordEach [⟨none, x, p⟩] env))) := by rfl) :
    wpAny (model prog w) A (eval (.Call (.Attribute o name apos) [e] [⟨none, x, p⟩] pos) env) Q E s := by
  rw [he]
  exact wpAny_bind (wpAny_mono h (fun ov s₁ h₁ => wpAny_bind (wpAny_standAt (wpAny_bind (wpAny_holding (wpAny_bind (wpAny_mono h₁ (fun fx s₂ h₂ => wpAny_pure h₂) fun _ _ x => x)))))) fun _ _ x => x)
theorem callWith_ssN {h₀ : Heap} {L a q g D : Addr} {m : PySem.Str → Option Value} {news : List (Addr × Obj)} {K : Frag} {cn : PySem.Str} {cs : Scope} {ccd v self : Value} {o : Obj} {pos p0 p1 p2 : Pos} {x y : PySem.Str} {Q : Value → Shared → Prop}
    (F : Fr h₀ L s.heap m) (N : News h₀ L s.heap news) (X : K.In h₀) (hf : fnIn K g = true) (hy : m y = some v) (hx : m x = some (.ref D)) (hD : (D, o) ∈ news) (hs : (D == sysModules) = false) (hI : o.IsDictOf (strKind prog w) []) (hq : (q, methodObj (.ref g) self) ∈ news)
    (h : ∀ h', Fr h₀ L h' m → News h₀ L h' news → wpAny (model prog w) A (call (.ref q) [v] []) Q E { s with heap := h' })
    (hk : cs.kind = .function := by rfl) (hl1 : (envOf cn cs L a ccd).kindOf x = some .local := by rfl) (hl2 : (envOf cn cs L a ccd).kindOf y = some .local := by rfl)
    (hd1 : (x == ("__debug__" : PySem.Str)) = false := by decide) (hd2 : (y == ("__debug__" : PySem.Str)) = false := by decide) :
    wpAny (model prog w) A (callWith pos (.ref q) [] (backTo pos (starEach [.Name y p0] (envOf cn cs L a ccd))) (backToKw pos (keywordEach [⟨none, .Name x p1, p2⟩] (envOf cn cs L a ccd)))) Q E s := by
  refine callWith_ss (K := K) (g := g) (self := self) hf ?_
  have Fp := F.push ⟨.type "dict", none, .dict #[] 0, #[]⟩
  have Np := N.pushKeep ⟨.type "dict", none, .dict #[] 0, #[]⟩
  have Xp : K.In (s.heap.push ⟨.type "dict", none, .dict #[] 0, #[]⟩) := fun _ _ e => Fp.keep _ _ (X _ _ e)
  obtain ⟨hp, g1, d1, tk, os⟩ := s
  refine Calls.spliced_cons ?_
  show wpAny _ _ (eval (.Name y p0) _) _ _ _
  refine ld F hy (Calls.spliced_nil ?_) hk hl2 hd2
  refine wpAny_bind ?_
  refine ld Fp hx (wpAny_bind (wpAny_standAt (wpAny_pure ⟨D, o, rfl, (Np _ hD).1, hs, hI, Heap.get?_push_size _ rfl, ⟨(Np _ hq).1, Xp⟩, h _ Fp Np⟩))) hk hl1 hd1
end
end Mine
end

section
open PySem PySem.W PyProof.Rows PySem.Calls
set_option maxRecDepth 100000
set_option maxHeartbeats 4000000
namespace Mine
section
variable {M : Model} {P : Params} {h : Heap}
theorem made_none {C : Addr} {oc : Value} {od : Option Addr} {cd : ClassData} {sl : Array (Option Value)} {c : Value} {rest : List Value} (hC : h.get? C = some ⟨oc, od, .cls cd, sl⟩) (hm : cd.mro = c :: rest) (hs : sl[4]? = some (some .none)) : Looks M h (Bind.madeBy (.ref C)) none := by
  have L1 : Looks M h (mroOf (.ref C)) cd.mro := ((Looks.ld (part := none) hC).andThen .now).andThen .now
  intro A Q E s k q
  unfold Bind.madeBy
  refine wpAny_bind (L1 A _ E s k ?_)
  rw [hm, List.forIn_cons]
  refine wpAny_bind (wpAny_bind (wpAny_bind (wpAny_bind (wpAny_loadPart (k _ _ hC) (wpAny_pure ?_)))))
  dsimp only
  rw [hs]
  exact wpAny_pure (wpAny_pure (wpAny_pure q))
theorem made_object : Bind.madeBy (.type "object") = pure (some "object.__new__") := by
  first
    | kernel_rfl
    | exact madeBy_type (by rw [mroOf_type]; kernel_rfl) (by rw [PySem.W.Fast.te1381439984260040727]; kernel_rfl) (by decide +kernel)
theorem h357 (X : (Mine.kk.heap_1 P).In h) : ∃ cd sl, h.get? 357 = some ⟨.type "type", none, .cls cd, sl⟩ ∧ cd.mro = [.ref 357, .ref 115, .ref 100, .type "object"] ∧ cd.bases = [.ref 115] ∧ cd.abstract = false ∧ cd.hasDel = false ∧ cd.slotNames = [] ∧ sl[4]? = some (some .none) :=
  ⟨_, _, X 357 _ rfl, rfl, rfl, rfl, rfl, rfl, rfl⟩
theorem h115 (X : (Mine.kk.heap_1 P).In h) : ∃ cd sl, h.get? 115 = some ⟨.type "type", none, .cls cd, sl⟩ ∧ cd.mro = [.ref 115, .ref 100, .type "object"] ∧ cd.bases = [.ref 100] ∧ cd.slotNames = [] ∧ sl[4]? = some (some .none) :=
  ⟨_, _, X 115 _ rfl, rfl, rfl, rfl, rfl⟩
theorem h100 (X : (Mine.kk.heap_1 P).In h) : ∃ cd sl, h.get? 100 = some ⟨.type "type", none, .cls cd, sl⟩ ∧ cd.mro = [.ref 100, .type "object"] ∧ cd.bases = [.type "object"] ∧ cd.slotNames = [] ∧ sl[4]? = some (some .none) :=
  ⟨_, _, X 100 _ rfl, rfl, rfl, rfl, rfl⟩
theorem static357 (X : (Mine.kk.heap_1 P).In h) : Looks M h (Bind.staticBase (.ref 357)) (.type "object") := by
  have e1 := X 357 _ rfl
  have e2 := X 115 _ rfl
  have e3 := X 100 _ rfl
  have m1 := made_none (M := M) e1 rfl rfl
  have m2 := made_none (M := M) e2 rfl rfl
  have m3 := made_none (M := M) e3 rfl rfl
  have m4 : Looks M h (Bind.madeBy (.type "object")) (some "object.__new__") := Looks.of_pure made_object
  intro A Q E s k q
  replace e1 := k _ _ e1
  replace e2 := k _ _ e2
  replace e3 := k _ _ e3
  have n1 := m1.keeps k
  have n2 := m2.keeps k
  have n3 := m3.keeps k
  have n4 := m4.keeps k
  clear m1 m2 m3 m4
  unfold Bind.staticBase
  repeat lk
  all_goals first | exact q
end
end Mine

namespace Mine
section
variable {prog : Program} {w : World} {A : Around} {P : Params} {R : Result → Shared → Prop} {s : Shared}
theorem new_own (X : (Mine.kk.heap_1 P).In s.heap) (hq : R (.ok (.ret (.ref (s.heap.objs.size + 1)))) { s with heap := (s.heap.push emptyDict).push (instObj 357 s.heap.objs.size) }) :
    codeAny (model prog w) A (.call (.builtin "object.__new__") ⟨[.ref 357], []⟩) R s := by
  obtain ⟨h, g, d, t, os⟩ := s
  have hC := X 357 _ rfl
  have base := static357 (M := model prog w) X
  have made : Looks (model prog w) h (Bind.madeBy (.type "object")) (some "object.__new__") := Looks.of_pure made_object
  have top : Looks (model prog w) h (isSubtype (.ref 357) (.type "object")) true := looks_mroIn X rfl
  have typ : Looks (model prog w) h (isInstance (.ref 357) (.type "type")) true := looks_instIn X rfl
  have F := PySem.F.objNew
  refine codeAny_call_builtin_code (Code.quiet_builtin _ F.quiet) ?_
  simp only [checkBuiltinCall, F.kind, F.split, F.row]
  have here : Looks (model prog w) h (Bind.madeHere "object.__new__" (.ref 357)) () := base.andThen (made.andThen (Looks.of_pure (by simp only [Option.map_some, bne_self_eq_false, Bool.false_eq_true, if_false])))
  have args : Bind.checkArgs "object.__new__" ⟨.hand, "object.__new__", "__new__", .cls, []⟩ ⟨[.ref 357], []⟩ = pure () := by kernel_rfl
  rw [args]
  repeat (first | simp only [bne_self_eq_false, Bool.false_eq_true, if_false] | lk)
  refine codeAny_builtin F.entry ?_
  unfold Builtin.«object.__new__»
  repeat lk
  refine nd_load (Heap.get?_push_of_some _ (Heap.get?_push_of_some _ hC)) ?_
  refine wpAny_pure ?_
  dsimp only
  refine wpAny_pure ?_
  rw [if_neg (by decide)]
  refine wpAny_pure (wpAny_pure ?_)
  show R _ _
  rw [Heap.size_push]
  exact hq
theorem new_ownN {h₀ : Heap} {L : Addr} {m : PySem.Str → Option Value} {news : List (Addr × Obj)} {E : Value → Shared → Prop} {Q : Value → Shared → Prop} (F : Fr h₀ L s.heap m) (N : News h₀ L s.heap news) (X₀ : (Mine.kk.heap_1 P).In h₀)
    (h : ∀ x dx h', Fr h₀ L h' m → News h₀ L h' ((x, instObj 357 dx) :: (dx, emptyDict) :: news) → (∀ p ∈ news, p.1 < dx) → dx < x → Q (.ref x) { s with heap := h' }) :
    wpAny (model prog w) A (call (.builtin "object.__new__") [.ref 357]) Q E s := by
  refine wpAny_call (new_own (X₀.keeps F.keep) ?_)
  have N' := (N.push F emptyDict).push (F.push _) (instObj 357 s.heap.objs.size)
  rw [Heap.size_push] at N'
  exact h _ _ _ ((F.push _).push _) N' (fun p hp => Heap.lt_size (N p hp).1) (Nat.lt_succ_self _)
end
end Mine
end

section
open PySem PySem.W PyProof.Rows PySem.Calls
set_option maxRecDepth 100000
set_option maxHeartbeats 4000000
namespace Mine
local macro_rules | `(tactic| wp_step) => `(tactic| first
  | with_reducible (first
      | refine wpAny_pure ?_ | refine wpAny_bind ?_ | refine wpAny_holding ?_ | refine wpAny_standAt ?_ | refine wpAny_point ?_ | refine wpAny_rule ?_ | refine wpAny_letGo ?_ | refine wpAny_mkInt' ?_ | refine wpAny_fresh' ?_
      | refine wpAny_alloc' ?_ | refine wpAny_attempt ?_ | refine wpAny_throw ?_ | refine wpAny_of_eq (by assumption) ?_ | refine wpAny_typeOf (by assumption) ?_ | refine wpAny_specialOf_val (by assumption) (by assumption) ?_ | refine wpAny_specialOf (by assumption) (by assumption) ?_
      | refine wpAny_isInstance_val (by assumption) (by assumption) ?_ | refine wpAny_isInstance (by assumption) (by assumption) ?_ | refine wpAny_call ?_ | refine wpAny_runValue ?_ | refine wpAny_run ?_)
  | ((with_reducible refine' wpAny_mkStr' ?hw2 ?hw1); (case hw1 => size_fits))
  | ((with_reducible refine' PySem.wpAny_load' ?hw1 ?hw2); (case hw1 => (heap_get; done)))
  | ((with_reducible refine' PySem.wpAny_update' ?hw1 ?hw2); (case hw1 => (heap_get; done)))
  | ((with_reducible refine' PySem.wpAny_loadPart' ?hw1 ?hw2); (case hw1 => (heap_get; done)))
  | ((with_reducible refine' PySem.wpAny_updatePart' ?hw1 ?hw2); (case hw1 => (heap_get; done)))
  | ((with_reducible refine' wpAny_handled_none ?hw1 ?hw2); (case hw1 => assumption))
  | ((with_reducible refine' wpAny_ite_false ?hw1 ?hw2); (case hw1 => rfl))
  | ((with_reducible refine' wpAny_ite_true ?hw1 ?hw2); (case hw1 => rfl))
  | ((with_reducible refine' wpAny_ite_false ?hw1 ?hw2); (case hw1 => (simp [*]; done)))
  | ((with_reducible refine' wpAny_ite_true ?hw1 ?hw2); (case hw1 => (simp [*]; done)))
  | wp_delta
  | with_reducible_and_instances refine wpAny_pure ?_
  | with_reducible_and_instances refine wpAny_bind ?_)
abbrev baObj (b : Array UInt8) : Obj := { cls := .type "bytearray", data := .bytearray b }
theorem ba_mro : mroOf (.type "bytearray") = pure [.type "bytearray", .type "object"] := by rw [mroOf_type]; kernel_rfl
theorem ba_lookup_new : typeLookup (.type "bytearray") "__new__" = pure (some (.builtin "bytearray.__new__")) := by rw [PySem.W.Fast.te1381439984260040727]; kernel_rfl
theorem ba_slot_init : Slot "bytearray" "__init__" "bytearray.__init__" :=
  .of (owner := "bytearray") (n := "__init__") (by rw [PySem.W.Fast.te1381439984260040727]; kernel_rfl) (by decide +kernel) (by decide +kernel) (by decide +kernel)
    (by first | exact .inl (by decide +kernel) | exact .inr (by decide +kernel)) (by rw [PySem.W.Fast.te16098473122060591676]; kernel_rfl)
theorem ba_made : Bind.madeBy (.type "bytearray") = pure (some "bytearray.__new__") := madeBy_type ba_mro ba_lookup_new (by decide +kernel)
theorem ba_called : TypeCalled "bytearray" "bytearray.__new__" "bytearray.__init__" :=
  ⟨by decide +kernel, by decide +kernel, ⟨_, _, ba_mro⟩, ba_made, by decide +kernel, by rw [PySem.W.Fast.te16098473122060591676]; kernel_rfl, ba_slot_init⟩
theorem ba_typeCall (a : Value) : checkTypeCall "bytearray" ⟨[a], []⟩ = pure () := by rw [PySem.W.Fast.te11612656972197000677]; kernel_rfl
theorem ba_newCall (a : Value) : checkBuiltinCall "bytearray.__new__" ⟨[.type "bytearray", a], []⟩ = pure () := by rw [PySem.W.Fast.te10254737850608025244]; kernel_rfl
theorem ba_entry_new : entryFor table "bytearray.__new__" = some Builtin.«list.__new__» := entryFor_alias (id' := "list.__new__") (by rw [fastTable_eq_tree]; kernel_rfl) (by first | rfl | decide +kernel) (by rw [PySem.W.Fast.canonicalY_eq]; decide +kernel) (by rw [fastTable_eq_tree]; kernel_rfl)
theorem ba_entry_init : entryFor table "bytearray.__init__" = some Builtin.«bytearray.__init__» := by first | exact entryFor_of_tree (by kernel_rfl) | exact entryFor_of_fast (by kernel_rfl)
theorem ba_plain_new : plainId "bytearray.__new__" = true := by decide +kernel
theorem ba_plain_init : plainId "bytearray.__init__" = true := by decide +kernel
set_option maxRecDepth 1000000 in
theorem owner_ba_new : ("bytearray.__new__".splitOn ".__new__").headD "" = "bytearray" := by simp +decide [String.splitOn, String.splitOnAux]
section
variable {prog : Program} {w : World} {A : Around} {E : Value → Shared → Prop} {s : Shared}
theorem code_ba_new (a : Value) {Q₁ : Value → Shared → Prop} (h : Q₁ (.ref s.heap.objs.size) { s with heap := s.heap.push (baObj #[]) }) :
    codeAny (model prog w) A (.call (.builtin "bytearray.__new__") ⟨[.type "bytearray", a], []⟩) (wants Q₁ E) s := by
  refine codeAny_of_tree ?_
  show wpAny _ A.in1 (do checkBuiltinCall "bytearray.__new__" ⟨[.type "bytearray", a], []⟩; again (.builtin "bytearray.__new__" ⟨[.type "bytearray", a], []⟩)) _ _ s
  refine wpAny_bind (wpAny_of_eq (ba_newCall a) (wpAny_pure ⟨plainId_quiet ba_plain_new _, codeAny_builtin_stack ba_entry_new rfl fun p st => ?_⟩))
  rw [Around.under_plainId ba_plain_new _]
  have hsub : isSubtype (.type "bytearray") (.type "bytearray") = pure true := by rw [PySem.W.Fast.te16098473122060591676]; kernel_rfl
  have hown := owner_ba_new
  obtain ⟨hp, g, d, tk, os⟩ := s
  simp only [hown]
  wp_walk
  exact h
theorem ba_norelease : typeLookup (.type "bytearray") "__release_buffer__" = pure (some (.builtin "bytearray.__release_buffer__")) := by rw [PySem.W.Fast.te1381439984260040727]; kernel_rfl
theorem ba_sub : isSubtype (.type "bytearray") (.type "bytearray") = pure true := by rw [PySem.W.Fast.te16098473122060591676]; kernel_rfl
theorem by_noindex : typeLookup (.type "bytes") "__index__" = pure none := by rw [PySem.W.Fast.te1381439984260040727]; kernel_rfl
theorem by_buffer : typeLookup (.type "bytes") "__buffer__" = pure (some (.builtin "bytes.__buffer__")) := by rw [PySem.W.Fast.te1381439984260040727]; kernel_rfl
theorem by_norelease : typeLookup (.type "bytes") "__release_buffer__" = pure none := by rw [PySem.W.Fast.te1381439984260040727]; kernel_rfl
theorem by_sub : isSubtype (.type "bytes") (.type "bytes") = pure true := by rw [PySem.W.Fast.te16098473122060591676]; kernel_rfl
theorem nohold {id : String} (h : holders.contains id = false) : Builtin.Bytes.decodersThatHold.contains id = false := by
  cases q : Builtin.Bytes.decodersThatHold.contains id with
  | false => rfl
  | true =>
    rw [List.contains_iff_mem] at q
    have : holders.contains id = true := by
      rw [List.contains_iff_mem]
      exact List.mem_append_right _ q
    rw [this] at h
    cases h
theorem ba_bind (v : Value) : Builtin.Bytes.bindOptional "bytearray.__init__" "bytearray" ["source", "encoding", "errors"] [v] [] = pure [some v, none, none] := by kernel_rfl
/-- bytearray.__init__ of bytes, where no holder stands below -/
theorem ba_init {D : Addr} {b : Array UInt8} {t : Tok} {Q : Fin → Shared → Prop} (hD : s.heap.get? D = some (baObj #[])) (hb : b.size ≤ 1000)
    (h : Q (.done (.ret .none)) { s with heap := (s.heap.update D (Obj.mapBytearray fun _ => #[])).update D (Obj.mapBytearray fun _ => b) }) :
    wpT (model prog w) A (Builtin.«bytearray.__init__» ⟨[.ref D, .bytes b t], []⟩) Q E s := by
  obtain ⟨hp, g, d, tk, os⟩ := s
  have f1 := ba_norelease
  have hT : (⟨hp, g, d, tk, os⟩ : Shared).TypeIs (.ref D) "bytearray" := ⟨_, hD, rfl⟩
  unfold Builtin.«bytearray.__init__»
  dsimp only
  refine wpT_seq ?_
  unfold Builtin.Bytes.ownRelease Builtin.Bytes.slotIsOwn
  have e1 : (!("bytearray.__release_buffer__").endsWith ("." ++ "__release_buffer__")) = false := by decide +kernel
  have e2 : ("bytearray.__release_buffer__").dropRight ("__release_buffer__".length + 1) = "bytearray" := by decide +kernel
  have f2 := ba_sub
  have f3 := ba_bind (.bytes b t)
  repeat (any_goals (first | with_reducible assumption | wp_step))
  rw [if_neg (by rw [e1]; decide), e2]
  repeat (any_goals (first | with_reducible assumption | wp_step))
  rw [if_neg (by decide)]
  refine wpT_seq (wpAny_of_eq f3 ?_)
  dsimp only
  refine wpT_seq (wpAny_of_eq (a := ()) rfl ?_)
  refine wpT_seq (wpAny_of_eq (a := ()) rfl ?_)
  refine wpT_bind ?_
  refine wpT_bind (m := Builtin.Bytes.exported (Value.ref D)) ?_
  unfold Builtin.Bytes.exported
  refine wpT_askStack (fun c p hc => ?_) ?_
  · cases c with
    | builtin id args =>
      have hc' : holders.contains id = false := hc
      clear hc
      obtain ⟨ps, kw⟩ := args
      split
      all_goals first
        | rfl
        | (rename_i heq; cases heq; exact absurd hc' (by decide +kernel))
        | (rename_i heq; cases heq; exact Bool.and_eq_false_iff.mpr (.inr (nohold hc')))
    | _ => rfl
  · show wpT _ _ (Builtin.Bytes.exportsOf (.ref D) >>= fun x => pure (decide (x > 0))) _ _ _
    refine wpT.of ?_
    unfold Builtin.Bytes.exportsOf
    refine wpAny_bind (wpAny_bind (wpAny_load hD ?_))
    dsimp only
    refine wpAny_pure (wpAny_pure ?_)
    rw [if_neg (by decide)]
    refine wpT.of ?_
    have g1 := by_noindex
    have g2 := by_buffer
    have hU : (hp.update D (Obj.mapBytearray fun _ => #[])).get? D = some (baObj #[]) := Heap.get?_update_self (Obj.mapBytearray fun _ => #[]) hD rfl
    unfold Builtin.Bytes.write updateBytearray
    refine wpAny_bind (wpAny_bind (wpAny_load hD ?_))
    dsimp only
    refine wpAny_bind (wpAny_update hD ?_)
    refine wpAny_lookBehind hU rfl ?_
    repeat (any_goals (first | with_reducible assumption | wp_step))
    have e3 : (!("bytes.__buffer__").endsWith ("." ++ "__buffer__")) = false := by decide +kernel
    have e4 : ("bytes.__buffer__").dropRight ("__buffer__".length + 1) = "bytes" := by decide +kernel
    have g3 := by_sub
    have g4 := by_norelease
    rw [if_neg (by rw [e3]; decide), e4]
    repeat (any_goals (first | with_reducible assumption | wp_step))
    have hp2 : (Obj.mapBytearray (fun _ => b) (baObj #[])).data.pastItsLine = none := by
      show (if b.size > sizeLine then some "bytearray:memory" else none) = none
      rw [if_neg (by rw [sizeLine_eq]; omega)]
    rw [hp2]
    exact wpAny_pure (wpAny_pure h)
end
end Mine
end

section
open PySem PySem.W PyProof.Rows PySem.Calls
set_option maxRecDepth 100000
set_option maxHeartbeats 4000000
namespace Mine
section
variable {prog : Program} {w : World} {A : Around} {E : Value → Shared → Prop} {s : Shared} {R : Result → Shared → Prop}
theorem codeT_builtin {id : String} {args : Args} {b : Builtin} (hb : entryFor table id = some b) (hn : holders.contains id = false)
    (h : wpT (model prog w) (A.under (.builtin id args)) (b args) (fun fin s' => match fin with | .done f => R (.ok f) s' | .again c' => c'.quiet = true ∧ codeT (model prog w) A c' R s') (fun e s' => R (.error e) s') s) :
    codeT (model prog w) A (.builtin id args) R s := by
  refine codeT_of_tree hn ?_
  show wpT _ _ (match entryFor table id with | some b => b args | none => unsupported ((withoutEnding? id "#data").getD id)) _ _ _
  rw [hb]
  exact h
theorem ba_typeIs {h : Heap} {g : Array GenState} {d : Drawn} {tk : Nat} {os : OsState} {D : Addr} {b : Array UInt8} (hD : h.get? D = some (baObj b)) : (⟨h, g, d, tk, os⟩ : Shared).TypeIs (.ref D) "bytearray" := ⟨_, hD, rfl⟩
theorem ba_args (D : Value) (b : Value) : argsOk "bytearray.__init__" ⟨[D, b], []⟩ := by unfold argsOk; rw [PySem.W.Fast.signatureY_eq, PySem.W.Fast.te16078263539434579649]; kernel_rfl
theorem ba_make {b : Array UInt8} {t : Tok} {Q : Value → Shared → Prop} (hb : b.size ≤ 1000) (h : ∀ h', h' = ((s.heap.push (baObj #[])).update s.heap.objs.size (Obj.mapBytearray fun _ => #[])).update s.heap.objs.size (Obj.mapBytearray fun _ => b) → Q (.ref s.heap.objs.size) { s with heap := h' }) :
    wpT (model prog w) A (call (.type "bytearray") [.bytes b t]) Q E s := by
  have ft := ba_called
  obtain ⟨c, tl, hmro⟩ := ft.mro
  have hmade := ft.made
  have hsub := ft.sub
  refine wpT_call (codeT_of_tree rfl ?_)
  show wpT _ _ (callAny (.type "bytearray") _) _ _ _
  refine wpT_pure ⟨Code.quiet_builtin _ (by decide +kernel), codeT_builtin F.entry_type_call (by decide +kernel) ?_⟩
  rw [Around.under_plain (weight_type_call_type "bytearray" [.bytes b t] []) rfl]
  have h1 := ft.notType
  have h2 := ft.canCreate
  have h3 := ba_typeCall (.bytes b t)
  unfold Builtin.«type.__call__»
  dsimp only
  rw [if_neg (by rw [h1]; decide)]
  rw [if_neg (by rw [h2]; decide)]
  refine wpT_seq (wpAny_of_eq h3 ?_)
  refine wpT_seq (wpAny_of_eq hmro ?_)
  rw [if_neg (by simp)]
  refine wpT_seq (wpAny_of_eq hmade ?_)
  dsimp only
  refine wpT_seq (wpAny_pure ?_)
  refine wpT_seq (wpAny_holding (wpAny_call (codeAny_mono (code_ba_new (E := fun e s' => E e s') (Q₁ := fun obj s₁ => obj = .ref s.heap.objs.size ∧ s₁ = { s with heap := s.heap.push (baObj #[]) }) _ ⟨rfl, rfl⟩) ?_)))
  intro r s₁ hr
  cases r with
  | error e => exact hr
  | ok fl =>
    cases fl with
    | ret obj =>
      obtain ⟨rfl, rfl⟩ := hr
      have hD : (s.heap.push (baObj #[])).get? s.heap.objs.size = some (baObj #[]) := Heap.get?_push_size _ rfl
      have hT : ({ s with heap := s.heap.push (baObj #[]) } : Shared).TypeIs (.ref s.heap.objs.size) "bytearray" := ⟨_, hD, rfl⟩
      refine wpT_seq (wpAny_isInstance hT hsub ?_)
      rw [if_neg (by decide)]
      refine wpT_bind (wpT_holding ?_)
      unfold callSpecial?
      refine wpT_seq (wpAny_specialOf hT ft.init.lookup ?_)
      dsimp only
      refine wpT_holding ?_
      rw [ft.init.bind]
      refine wpT_seq (wpAny_pure ?_)
      dsimp only
      refine wpT_bind (wpT_call ?_)
      refine codeT_of_tree rfl ?_
      show wpT _ A.in1.in1 (do checkBuiltinCall "bytearray.__init__" ⟨[.ref s.heap.objs.size, .bytes b t], []⟩; again (.builtin "bytearray.__init__" ⟨[.ref s.heap.objs.size, .bytes b t], []⟩)) _ _ _
      refine wpT_seq (ft.init.check _ _ _ _ _ _ _ _ hT (ba_args _ _) ?_)
      refine wpT_pure ⟨plainId_quiet ba_plain_init _, codeT_builtin ba_entry_init (by decide +kernel) ?_⟩
      rw [Around.under_plainId ba_plain_init _]
      refine ba_init hD hb ?_
      dsimp only
      refine wpT_pure (wpT_pure ?_)
      exact h _ rfl
    | _ => exact hr.elim
theorem ba_makeN {h₀ : Heap} {L : Addr} {m : PySem.Str → Option Value} {news : List (Addr × Obj)} {b : Array UInt8} {t : Tok} {Q : Value → Shared → Prop} (F : Fr h₀ L s.heap m) (N : News h₀ L s.heap news) (hb : b.size ≤ 1000)
    (h : ∀ D h', (∀ p ∈ news, p.1 < D) → Fr h₀ L h' m → News h₀ L h' ((D, baObj b) :: news) → Q (.ref D) { s with heap := h' }) : wpT (model prog w) A (call (.type "bytearray") [.bytes b t]) Q E s := by
  refine ba_make hb fun h' e => ?_
  have lt : ∀ p ∈ news, p.1 < s.heap.objs.size := fun p hp => Heap.lt_size (N p hp).1
  have ne : ∀ p ∈ news, p.1 ≠ s.heap.objs.size := fun p hp => Nat.ne_of_lt (lt p hp)
  have F1 := F.push (baObj #[])
  have N1 := N.push F (baObj #[])
  obtain ⟨F2, N2⟩ := news_upd (pre := []) (post := news) (f := Obj.mapBytearray fun _ => #[]) (o' := baObj #[]) F1 N1 (by simp) ne rfl rfl
  obtain ⟨F3, N3⟩ := news_upd (pre := []) (post := news) (f := Obj.mapBytearray fun _ => b) (o' := baObj b) F2 N2 (by simp) ne rfl rfl
  subst e
  exact h _ _ lt F3 N3
end
end Mine
end

section
open PySem PySem.W PyProof.Rows PySem.Calls
set_option maxRecDepth 100000
set_option maxHeartbeats 4000000
namespace Mine
local macro_rules | `(tactic| wp_step) => `(tactic| first
  | with_reducible (first
      | refine wpAny_pure ?_ | refine wpAny_bind ?_ | refine wpAny_holding ?_ | refine wpAny_standAt ?_ | refine wpAny_point ?_ | refine wpAny_rule ?_ | refine wpAny_letGo ?_ | refine wpAny_mkInt' ?_ | refine wpAny_fresh' ?_
      | refine wpAny_alloc' ?_ | refine wpAny_attempt ?_ | refine wpAny_throw ?_ | refine wpAny_of_eq (by assumption) ?_ | refine wpAny_typeOf (by assumption) ?_ | refine wpAny_specialOf_val (by assumption) (by assumption) ?_ | refine wpAny_specialOf (by assumption) (by assumption) ?_
      | refine wpAny_isInstance_val (by assumption) (by assumption) ?_ | refine wpAny_isInstance (by assumption) (by assumption) ?_ | refine wpAny_call ?_ | refine wpAny_runValue ?_ | refine wpAny_run ?_)
  | ((with_reducible refine' wpAny_mkStr' ?hw2 ?hw1); (case hw1 => size_fits))
  | ((with_reducible refine' PySem.wpAny_load' ?hw1 ?hw2); (case hw1 => (heap_get; done)))
  | ((with_reducible refine' PySem.wpAny_update' ?hw1 ?hw2); (case hw1 => (heap_get; done)))
  | ((with_reducible refine' PySem.wpAny_loadPart' ?hw1 ?hw2); (case hw1 => (heap_get; done)))
  | ((with_reducible refine' PySem.wpAny_updatePart' ?hw1 ?hw2); (case hw1 => (heap_get; done)))
  | ((with_reducible refine' wpAny_handled_none ?hw1 ?hw2); (case hw1 => assumption))
  | ((with_reducible refine' wpAny_ite_false ?hw1 ?hw2); (case hw1 => rfl))
  | ((with_reducible refine' wpAny_ite_true ?hw1 ?hw2); (case hw1 => rfl))
  | ((with_reducible refine' wpAny_ite_false ?hw1 ?hw2); (case hw1 => (simp [*]; done)))
  | ((with_reducible refine' wpAny_ite_true ?hw1 ?hw2); (case hw1 => (simp [*]; done)))
  | wp_delta
  | with_reducible_and_instances refine wpAny_pure ?_
  | with_reducible_and_instances refine wpAny_bind ?_)
theorem ba_slot_len : Slot "bytearray" "__len__" "bytearray.__len__" :=
  .of (owner := "bytearray") (n := "__len__") (by rw [PySem.W.Fast.te1381439984260040727]; kernel_rfl) (by decide +kernel) (by decide +kernel) (by decide +kernel)
    (by first | exact .inl (by decide +kernel) | exact .inr (by decide +kernel)) (by rw [PySem.W.Fast.te16098473122060591676]; kernel_rfl)
theorem ba_entry_len : entryFor table "bytearray.__len__" = some Builtin.«bytearray.__len__» := by first | exact entryFor_of_tree (by kernel_rfl) | exact entryFor_of_fast (by kernel_rfl)
theorem ba_args_len (v : Value) : argsOk "bytearray.__len__" ⟨[v], []⟩ := by unfold argsOk; rw [PySem.W.Fast.signatureY_eq, PySem.W.Fast.te16078263539434579649]; kernel_rfl
theorem ba_by_slot : Slot "bytearray" "__getitem__" "bytearray.__getitem__" :=
  .of (owner := "bytearray") (n := "__getitem__") (by rw [PySem.W.Fast.te1381439984260040727]; kernel_rfl) (by decide +kernel) (by decide +kernel) (by decide +kernel)
    (by first | exact .inl (by decide +kernel) | exact .inr (by decide +kernel)) (by rw [PySem.W.Fast.te16098473122060591676]; kernel_rfl)
theorem ba_entry_get : entryFor table "bytearray.__getitem__" = some Builtin.«bytearray.__getitem__» := by first | exact entryFor_of_tree (by kernel_rfl) | exact entryFor_of_fast (by kernel_rfl)
theorem ba_args_get (v i : Value) : argsOk "bytearray.__getitem__" ⟨[v, i], []⟩ := by unfold argsOk; rw [PySem.W.Fast.signatureY_eq, PySem.W.Fast.te16078263539434579649]; kernel_rfl
section
variable {prog : Program} {w : World} {A : Around} {E : Value → Shared → Prop} {s : Shared}
theorem ba_len {D : Addr} {b : Array UInt8} {Q : Value → Shared → Prop} (hD : s.heap.get? D = some (baObj b)) (hb : b.size ≤ 1000) (h : Q (.int b.size (s.toks + 1)) { s with toks := s.toks + 1 + 1 }) :
    wpAny (model prog w) A (call (.builtin "len") [.ref D]) Q E s := by
  have hT : s.TypeIs (.ref D) "bytearray" := ⟨_, hD, rfl⟩
  refine call_function_entry kind_len plain_len entry_len (args_len1 _) ?_
  unfold Builtin.«len»
  refine wpAny_bind (m := oneArg "len" _) (wpAny_pure ?_)
  refine wpAny_bind (m := callSpecial? (.ref D) (PySem.Str.ofString "__len__")) (wpAny_callSpecial?_slot (name := PySem.Str.ofString "__len__") hT ba_slot_len
    (wpAny_call_entry ba_slot_len hT ba_entry_len ?_ (ba_args_len _)))
  show wpAny _ _ (do retInt (← Builtin.Bytes.payload (.ref D)).size) _ _ s
  unfold Builtin.Bytes.payload Builtin.Bytes.payload?
  refine wpAny_bind (wpAny_bind (wpAny_bind (wpAny_load hD ?_)))
  dsimp only
  refine wpAny_pure (wpAny_pure ?_)
  refine wpAny_bind (wpAny_mkInt (wpAny_pure ⟨_, rfl, ?_⟩))
  refine wpAny_bind (wpAny_holding (wpAny_pure ?_))
  refine wpAny_bind (wpAny_letGo ?_)
  rw [if_neg (by omega), if_neg (by omega)]
  exact wpAny_bind (wpAny_mkInt (wpAny_pure ⟨_, rfl, h⟩))
/-- bytes(bytearray) -/
theorem ba_bytes {D : Addr} {b : Array UInt8} {Q : Value → Shared → Prop} (hh : A.handled = none) (hD : s.heap.get? D = some (baObj b)) (hb : b.size ≤ 1000) (h : ∀ t k, Q (.bytes b t) { s with toks := k }) :
    wpAny (model prog w) A (call (.type "bytes") [.ref D]) Q E s := by
  refine callType_codes (Q₁ := fun obj s₁ => s₁.TypeIs obj "bytes" ∧ Q obj s₁) F.bm_called (F.bm_typeCall _) F.entry_object_init ?_ fun obj s₁ h₁ => ?_
  · have hT : s.TypeIs (.ref D) "bytearray" := ⟨_, hD, rfl⟩
    have g1 : typeLookup (.type "bytearray") "__bytes__" = pure none := by rw [PySem.W.Fast.te1381439984260040727]; kernel_rfl
    have g2 : typeLookup (.type "bytearray") "__index__" = pure none := by rw [PySem.W.Fast.te1381439984260040727]; kernel_rfl
    have g3 : typeLookup (.type "bytearray") "__buffer__" = pure (some (.builtin "bytearray.__buffer__")) := by rw [PySem.W.Fast.te1381439984260040727]; kernel_rfl
    refine codeAny_of_tree ?_
    show wpAny _ A.in1.in1 (do checkBuiltinCall "bytes.__new__" ⟨[.type "bytes", .ref D], []⟩; again (.builtin "bytes.__new__" ⟨[.type "bytes", .ref D], []⟩)) _ _ s
    refine wpAny_bind (wpAny_of_eq (F.bm_newCall _) (wpAny_pure ⟨plainId_quiet F.bm_plain _, codeAny_builtin F.bm_entry ?_⟩))
    rw [Around.under_plainId F.bm_plain _]
    unfold Builtin.«bytes.__new__»
    refine wpAny_bind (wpAny_of_eq (a := true) rfl ?_)
    refine bm_if_false rfl ?_
    refine wpAny_bind (wpAny_of_eq F.bm_sub ?_)
    refine bm_if_false rfl ?_
    refine wpAny_bind (wpAny_of_eq (F.bm_bind _) ?_)
    refine wpAny_bind (wpAny_of_eq (a := ()) rfl ?_)
    refine wpAny_bind (wpAny_of_eq (a := ()) rfl ?_)
    refine bm_if_false rfl ?_
    refine wpAny_bind (wpAny_specialOf hT g1 ?_)
    refine wpAny_bind (wpAny_bind ?_)
    show wpAny _ _ (load D >>= _) _ _ _
    refine wpAny_bind (wpAny_load hD ?_)
    dsimp only
    refine wpAny_pure (wpAny_pure ?_)
    refine bm_if_false rfl ?_
    refine wpAny_bind (wpAny_specialOf hT g2 ?_)
    refine bm_if_true rfl ?_
    have e1 : (!("bytearray.__buffer__").endsWith ("." ++ "__buffer__")) = false := by decide +kernel
    have e2 : ("bytearray.__buffer__").dropRight ("__buffer__".length + 1) = "bytearray" := by decide +kernel
    have e3 : (!("bytearray.__release_buffer__").endsWith ("." ++ "__release_buffer__")) = false := by decide +kernel
    have e4 : ("bytearray.__release_buffer__").dropRight ("__release_buffer__".length + 1) = "bytearray" := by decide +kernel
    have f1 := ba_norelease
    have f2 := ba_sub
    obtain ⟨hp, g, d, tk, os⟩ := s
    repeat (any_goals (first | with_reducible assumption | wp_step))
    rw [if_neg (by rw [e1]; decide), e2]
    repeat (any_goals (first | with_reducible assumption | wp_step))
    rw [if_neg (by rw [e3]; decide), e4]
    repeat (any_goals (first | with_reducible assumption | wp_step))
    rw [if_neg (by rw [sizeLine_eq]; omega)]
    refine wpAny_bind (wpAny_fresh (wpAny_pure ?_))
    show wpAny _ _ (if (Value.type "bytes" == Value.type "bytes") = true then _ else _) _ _ _
    refine bm_if_true (by decide) ?_
    first
      | exact wpAny_pure ⟨PySem.W.typeIs_bytes _ _ _, h _ _⟩
      | exact wpAny_bind (wpAny_pure (wpAny_pure ⟨PySem.W.typeIs_bytes _ _ _, h _ _⟩))
  · exact ⟨h₁.1, F.args_object_init_2 obj _, object_init_meets F.bm_called.init.lookup F.bm_called.made (by decide) prog w A.in1 _ s₁ ⟨h₁.1, rfl, h₁.2⟩⟩
/-- a piece of a bytearray -/
theorem ba_cut {D : Addr} {b : Array UInt8} {i j : Int} {ti tj : Tok} {Q : Value → Shared → Prop} (hD : s.heap.get? D = some (baObj b)) (hb : b.size ≤ 1000) (h0 : 0 ≤ i) (h1 : i ≤ j) (h2 : j ≤ 1000) {S : Addr} (hS : s.heap.get? S = some { cls := .type "slice", data := .fields #[.int i ti, .int j tj, .none] })
    (h : Q (.ref s.heap.objs.size) { s with heap := s.heap.push (baObj (KBy.picked b (some i) (some j))) }) : wpAny (model prog w) A (getItem (.ref D) (.ref S)) Q E s := by
  have hT : s.TypeIs (.ref D) "bytearray" := ⟨_, hD, rfl⟩
  have hTS : s.TypeIs (.ref S) "slice" := ⟨_, hS, rfl⟩
  obtain ⟨hp, g, d, tk, os⟩ := s
  have q1 := ba_by_slot.lookup
  have q2 := ba_by_slot.bind (.ref D)
  have q3 : typeLookup (.type "slice") "__index__" = pure none := by rw [PySem.W.Fast.te1381439984260040727]; kernel_rfl
  have q4 : typeLookup (.type "int") "__index__" = pure (some (.builtin "int.__index__")) := by rw [PySem.W.Fast.te1381439984260040727]; kernel_rfl
  unfold getItem
  repeat (any_goals (first | with_reducible assumption | ((with_reducible show wpAny _ _ (call (Value.builtin "bytearray.__getitem__") _ _) _ _ _); refine wpAny_call (codeAny_call_builtin ba_by_slot.plain ba_entry_get (ba_by_slot.check _ _ _ _ _ _ _ _ hT (ba_args_get _ _) ?_))) | wp_step))
  have hsz : (KBy.picked b (some i) (some j)).size ≤ 1000 := by
    rw [← KBw.ints_length, KBc.ints_picked rfl, List.length_take, List.length_drop, KBw.ints_length]
    omega
  show wpAny _ _ (if (KBy.picked b (some i) (some j)).size > sizeLine then _ else _) _ _ _
  rw [if_neg (by rw [sizeLine_eq]; omega)]
  repeat (any_goals (first | with_reducible assumption | wp_step))
  all_goals first
    | exact h
end
end Mine
end

section
open PySem PySem.W PyProof.Rows PySem.Calls
set_option maxRecDepth 100000
set_option maxHeartbeats 4000000
namespace Mine
section
variable {prog : Program} {w : World} {A : Around} {E : Value → Shared → Prop} {s : Shared}
theorem ba_tail {value slice : Expr} {D S : Addr} {b : Array UInt8} {i j : Int} {ti tj : Tok} {Q : Value → Shared → Prop} (hD : s.heap.get? D = some (baObj b)) (hb : b.size ≤ 1000) (h0 : 0 ≤ i) (h1 : i ≤ j) (h2 : j ≤ 1000)
    (hS : s.heap.get? S = some { cls := .type "slice", data := .fields #[.int i ti, .int j tj, .none] })
    (h : Q (.ref s.heap.objs.size) { s with heap := s.heap.push (baObj (KBy.picked b (some i) (some j))) })
    (hs : subscripted slice false (.ref D) (.ref S) = operate [.ref S, .ref D] (getItem (.ref D) (.ref S)) := by with_unfolding_all rfl) : wpAny (model prog w) A (subscriptTail value slice (.ref D) (.ref S)) Q E s := by
  have hT : s.TypeIs (.ref D) "bytearray" := ⟨_, hD, rfl⟩
  unfold subscriptTail
  refine wpAny_bind ?_
  rw [getitemInPython_of_ne hT.not_modules]
  refine wpAny_bind (wpAny_specialOf hT ba_by_slot.lookup ?_)
  have fin : wpAny (model prog w) A (subscripted slice false (.ref D) (.ref S)) (fun r s₃ => wpAny (model prog w) A (letTemporaryGo value (.ref D) r >>= fun _ => pure r) Q E s₃) E s := by
    rw [hs]
    exact wpAny_operating (ba_cut hD hb h0 h1 h2 hS (wpAny_bind (wpAny_letTemporaryGo (wpAny_pure h))))
  first
    | exact wpAny_pure (wpAny_bind fin)
    | exact wpAny_bind (wpAny_pure (wpAny_bind fin))
    | exact wpAny_bind fin
theorem ba_tailN {value slice : Expr} {D : Addr} {b : Array UInt8} {i j : Int} {ti tj : Tok} {h₀ : Heap} {L : Addr} {m : PySem.Str → Option Value} {news : List (Addr × Obj)} {Q : Value → Shared → Prop} (F : Fr h₀ L s.heap m) (N : News h₀ L s.heap news)
    (hm : (D, baObj b) ∈ news) (hb : b.size ≤ 1000) (h0 : 0 ≤ i) (h1 : i ≤ j) (h2 : j ≤ 1000)
    (h : ∀ D' h', Fr h₀ L h' m → News h₀ L h' ((D', baObj (KBy.picked b (some i) (some j))) :: news) → (∀ p ∈ news, p.1 < D') → Q (.ref D') { s with heap := h' })
    (hs : subscripted slice false (.ref D) (.ref s.heap.objs.size) = operate [.ref s.heap.objs.size, .ref D] (getItem (.ref D) (.ref s.heap.objs.size)) := by with_unfolding_all rfl) :
    wpAny (model prog w) A (subscriptTail value slice (.ref D) (.ref s.heap.objs.size)) Q E { s with heap := s.heap.push { cls := .type "slice", data := .fields #[.int i ti, .int j tj, .none] } } := by
  have N1 := N.pushKeep { cls := .type "slice", data := .fields #[.int i ti, .int j tj, .none] }
  have F1 := F.push { cls := .type "slice", data := .fields #[.int i ti, .int j tj, .none] }
  refine ba_tail (N1 _ hm).1 hb h0 h1 h2 (Heap.get?_push_size _ rfl) ?_ hs
  exact h _ _ (F1.push _) (N1.push F1 _) fun p hp => Heap.lt_size (N1 p hp).1
end
end Mine
end

section
open PySem PySem.W PyProof.Rows PySem.Calls
set_option maxRecDepth 100000
set_option maxHeartbeats 4000000
namespace Mine
theorem jn_slot : Slot "bytes" "join" "bytes.join" :=
  .of (owner := "bytes") (n := "join") (by rw [PySem.W.Fast.te1381439984260040727]; kernel_rfl) (by decide +kernel) (by decide +kernel) (by decide +kernel)
    (by first | exact .inl (by decide +kernel) | exact .inr (by decide +kernel)) (by rw [PySem.W.Fast.te16098473122060591676]; kernel_rfl)
theorem jn_entry : entryFor table "bytes.join" = some Builtin.«bytes.join» := by first | exact entryFor_of_tree (by kernel_rfl) | exact entryFor_of_fast (by kernel_rfl)
theorem jn_args (a b : Value) : argsOk "bytes.join" ⟨[a, b], []⟩ := by unfold argsOk; rw [PySem.W.Fast.signatureY_eq, PySem.W.Fast.te16078263539434579649]; kernel_rfl
/-- the octets of a value -/
def octs : Value → List Int
  | .bytes b _ => KBw.bInts b
  | _ => []
def octA : Value → Array UInt8
  | .bytes b _ => b
  | _ => #[]
theorem jn_take {b : Array UInt8} {t : Tok} {id : String} : Builtin.Bytes.takeBufferQuiet? id (.bytes b t) 0 = pure (some (b, none)) := by
  unfold Builtin.Bytes.takeBufferQuiet? Builtin.Bytes.takeBuffer?
  rw [KBy.special_eq KBy.look_buffer]
  simp only [pure_bind]
  rw [KBy.own_buffer]
  simp only [pure_bind, Bool.not_true, Bool.false_eq_true, if_false]
  rw [show ((0 : Int) == Builtin.Bytes.fullReadOnly) = false from by decide +kernel, KBy.buffer_eq]
  rfl
theorem jn_fold : ∀ (parts : List (Array UInt8)) (k : Nat) (acc : Array UInt8), KBw.bInts ((parts.zipIdx k).foldl (fun out (p, i) => (if i > 0 then out ++ #[] else out) ++ p) acc) = KBw.bInts acc ++ (parts.map KBw.bInts).flatten
  | [], k, acc => by simp
  | p :: parts, k, acc => by
    rw [List.zipIdx_cons, List.foldl_cons, jn_fold parts (k + 1)]
    have e : KBw.bInts ((if k > 0 then acc ++ #[] else acc) ++ p) = KBw.bInts acc ++ KBw.bInts p := by
      unfold KBw.bInts
      split <;> simp
    show KBw.bInts ((if k > 0 then acc ++ #[] else acc) ++ p) ++ _ = _
    rw [e, List.map_cons, List.flatten_cons, List.append_assoc]
theorem jn_joined (parts : List (Array UInt8)) : KBw.bInts (Builtin.Bytes.joined #[] parts) = (parts.map KBw.bInts).flatten := by
  unfold Builtin.Bytes.joined
  have := jn_fold parts 0 #[]
  exact this.trans (by rfl)
theorem jn_sum : ∀ (us : List Value), (∀ v ∈ us, ∃ b t, v = .bytes b t ∧ b.size ≤ 1000) → ∀ k, (us.map octA).foldl (fun x1 x2 => x1 + x2.size) k ≤ k + 1000 * us.length
  | [], _, k => by simp
  | v :: us, h, k => by
    obtain ⟨b, t, rfl, hb⟩ := h v (.head _)
    have := jn_sum us (fun v hv => h v (.tail _ hv)) (k + b.size)
    simp only [List.map_cons, List.foldl_cons, List.length_cons, octA] at this ⊢
    omega
theorem jn_flat : ∀ (us : List Value), (∀ v ∈ us, ∃ b t, v = .bytes b t ∧ b.size ≤ 1000) → (((us.map octA).map KBw.bInts).flatten).length ≤ 1000 * us.length
  | [], _ => by simp
  | v :: us, h => by
    obtain ⟨b, t, rfl, hb⟩ := h v (.head _)
    have := jn_flat us fun v hv => h v (.tail _ hv)
    simp only [List.map_cons, List.flatten_cons, List.length_append, List.length_cons, octA, KBw.ints_length] at this ⊢
    omega
theorem jn_size {us : List Value} (h : ∀ v ∈ us, ∃ b t, v = .bytes b t ∧ b.size ≤ 1000) : (Builtin.Bytes.joined #[] (us.map octA)).size ≤ 1000 * us.length := by
  rw [← KBw.ints_length, jn_joined]
  exact jn_flat us h
section
variable {prog : Program} {w : World} {A : Around} {E : Value → Shared → Prop} {s : Shared}
theorem jn_letgo : ∀ (us : List Value) (keep : List Value) {Q : Unit → Shared → Prop}, Q () s → wpAny (model prog w) A (Builtin.Bytes.joinLetGo (us.map fun v => (v, none)) keep) Q E s
  | [], keep, Q, h => wpAny_pure h
  | v :: us, keep, Q, h => by
    rw [List.map_cons]
    unfold Builtin.Bytes.joinLetGo
    dsimp only
    refine wpAny_bind (wpAny_letGo ?_)
    exact jn_letgo us keep h
theorem join_call {l : Addr} {vs : List Value} {t : Tok} {Q : Value → Shared → Prop} (hl : s.heap.IsList l vs.toArray) (hb : ∀ v ∈ vs, ∃ b t, v = .bytes b t ∧ b.size ≤ 1000) (hn : vs.length ≤ 8)
    (h : ∀ c t' k, KBw.bInts c = (vs.map octs).flatten → Q (.bytes c t') { s with toks := k }) : wpAny (model prog w) A (call (.builtin "bytes.join") [.bytes #[] t, .ref l]) Q E s := by
  have hT : s.TypeIs (.bytes #[] t) "bytes" := PySem.W.typeIs_bytes _ _ _
  obtain ⟨ol, hol, hoc, nl, hod⟩ := id hl
  refine wpAny_call_entry jn_slot hT jn_entry ?_ (jn_args _ _)
  show wpAny _ _ (Builtin.Bytes.joinM .bytes ⟨[.bytes #[] t, .ref l], []⟩) _ _ _
  unfold Builtin.Bytes.joinM
  try dsimp only
  refine wpAny_bind (wpAny_of_eq (a := (Value.bytes #[] t, Value.ref l)) (by first | rfl | kernel_rfl) ?_)
  try dsimp only
  rw [if_pos (by decide)]
  refine wpAny_bind ?_
  unfold Builtin.Bytes.joinItems
  refine wpAny_bind (wpAny_typeOf hl.typeIs ?_)
  rw [if_pos (by decide)]
  refine wpAny_pure ?_
  refine wpAny_bind (wpAny_seqItems hol hod ?_)
  try dsimp only
  rw [if_pos (by rfl)]
  by_cases h1 : ∃ x, vs = [x]
  · obtain ⟨x, rfl⟩ := h1
    obtain ⟨b, u, rfl, _⟩ := hb x (.head _)
    show wpAny _ _ (typeOf (.bytes b u) >>= _) _ _ _
    refine wpAny_bind (wpAny_typeOf (PySem.W.typeIs_bytes _ _ _) ?_)
    rw [if_pos (by rfl)]
    first
      | refine wpAny_bind (wpAny_rule ?_)
      | skip
    refine wpAny_pure ⟨_, rfl, ?_⟩
    exact h b u s.toks (by simp [octs])
  · have hbh : ∀ v ∈ vs, v.onHeap = false := fun v hv => by obtain ⟨b, u, rfl, _⟩ := hb v hv; rfl
    obtain ⟨us, hus⟩ : ∃ us, us = vs := ⟨_, rfl⟩
    have hb' := hb
    have hn' := hn
    have h' := h
    have hod' := hod
    have hbh' := hbh
    rw [← hus] at hb' hn' h' hod' hbh'
    clear hb hn h hod hbh hl
    rcases vs with _ | ⟨x, _ | ⟨y, r⟩⟩
    rotate_left 1
    · exact absurd ⟨_, rfl⟩ h1
    all_goals
      refine wpAny_bind ?_
      rw [Std.Legacy.Range.forIn_eq_forIn_range']
      rw [← hus]
      clear hus h1
      refine wpAny_forIn_list _ (fun rest b s' => ∃ i, rest = List.range' i (us.length - i) ∧ i ≤ us.length ∧ b = (((us.take i).map octA).toArray, (us.take i).map fun v => (v, none)) ∧ s' = s) _ ?turn ?fin _ _ ?start
      case start =>
        refine ⟨0, ?_, Nat.zero_le _, rfl, rfl⟩
        simp [Std.Legacy.Range.size]
      case turn =>
        rintro k rest ⟨parts, taken⟩ s' ⟨i, e1, e2, e3, e4⟩
        subst e4
        have hlt : i < us.length := by
          rcases Nat.lt_or_ge i us.length with q | q
          · exact q
          · rw [show us.length - i = 0 by omega] at e1; simp at e1
        rw [show us.length - i = (us.length - (i + 1)) + 1 by omega, List.range'_succ] at e1
        obtain ⟨rfl, rfl⟩ := List.cons.inj e1
        obtain ⟨rfl, rfl⟩ := Prod.mk.inj e3
        obtain ⟨b, u, hbu, hbz⟩ := hb' us[k] (List.getElem_mem hlt)
        have hget : (us.toArray).getD k Value.none = .bytes b u := by
          rw [← hbu]
          simp [Array.getD, hlt]
        refine wpAny_bind (wpAny_seqItems hol hod' ?_)
        dsimp only
        rw [if_neg (by
          rw [Bool.or_eq_true]
          rintro (q | q)
          · exact absurd q (by decide)
          · rw [List.any_map, List.any_eq_true] at q
            obtain ⟨v, hv, q⟩ := q
            have := hbh' v (List.mem_of_mem_take hv)
            simp only [Function.comp] at q
            rw [this] at q
            cases q)]
        rw [hget, jn_take]
        refine wpAny_bind (wpAny_holding (wpAny_pure ?_))
        dsimp only
        refine wpAny_bind (wpAny_seqItems hol hod' ?_)
        dsimp only
        rw [if_neg (by simp)]
        refine wpAny_pure ⟨k + 1, rfl, hlt, ?_, rfl⟩
        have ht : us.take (k + 1) = us.take k ++ [.bytes b u] := by
          rw [List.take_succ, List.getElem?_eq_getElem hlt, hbu]
          rfl
        rw [ht]
        simp [octA]
      case fin =>
        rintro ⟨parts, taken⟩ s' ⟨i, e1, e2, e3, e4⟩
        subst e4
        have hi : i = us.length := by
          rcases Nat.lt_or_ge i us.length with q | q
          · rw [show us.length - i = (us.length - (i + 1)) + 1 by omega, List.range'_succ] at e1; cases e1
          · omega
        subst hi
        rw [List.take_length] at e3
        obtain ⟨rfl, rfl⟩ := Prod.mk.inj e3
        refine wpAny_bind (wpAny_pure ?_)
        have hz := jn_size hb'
        have q0 := jn_sum us hb' ((#[] : Array UInt8).size * ((List.map octA us).toArray.size - 1))
        have e : (List.map octA us).toArray.foldl (fun x1 x2 => x1 + x2.size) ((#[] : Array UInt8).size * ((List.map octA us).toArray.size - 1)) = (us.map octA).foldl (fun x1 x2 => x1 + x2.size) ((#[] : Array UInt8).size * ((List.map octA us).toArray.size - 1)) := by simp
        have z : (10000 : Nat) ≤ sizeLine := by decide
        have zz : (#[] : Array UInt8).size * ((List.map octA us).toArray.size - 1) = 0 := Nat.zero_mul _
        rw [← e] at q0
        have q1 : ¬ (Builtin.Bytes.tooLong ((List.map octA us).toArray.foldl (fun x1 x2 => x1 + x2.size) ((#[] : Array UInt8).size * ((List.map octA us).toArray.size - 1))) = true) := by
          simp only [Builtin.Bytes.tooLong, decide_eq_true_eq, Nat.not_lt]
          omega
        rw [if_neg q1]
        refine wpAny_bind ?_
        show wpAny _ _ (mkBytes (Builtin.Bytes.joined #[] (List.map octA us))) _ _ _
        refine wpAny_mkBytes ?_ (Nat.le_trans hz (Nat.le_trans (by omega) (by decide : (10000 : Nat) ≤ sizeLine)))
        refine wpAny_bind (wpAny_holding (wpAny_point ?_))
        refine wpAny_bind (jn_letgo us _ ?_)
        refine wpAny_pure ⟨_, rfl, ?_⟩
        exact h' _ _ _ (by
          rw [jn_joined, List.map_map]
          congr 1
          refine List.map_congr_left fun v hv => ?_
          obtain ⟨b, u, rfl, _⟩ := hb' v hv
          rfl)
end
end Mine
end

section
open PySem PySem.W PyProof.Rows PySem.Calls
set_option maxRecDepth 100000
set_option maxHeartbeats 4000000
namespace Mine
theorem jn_type : typeOf (.builtin "bytes.join") = pure (.type "method_descriptor") := by
  first
    | kernel_rfl
    | rfl
theorem gm_join {M : Model} {A : Around} {E : Value → Shared → Prop} {s : Shared} {b : Array UInt8} {t : Tok} {pl : Sem Bool} {Q : Value × List Value → Shared → Prop} (h : Q (.builtin "bytes.join", [.bytes b t]) s) : wpAny M A (getMethod (.bytes b t) (PySem.Str.ofString "join") pl) Q E s := by
  have h1 := PySem.W.typeIs_bytes s b t
  with_reducible refine KBd.method_of (.bytes b t) ?h1 jn_slot jn_type ?h2 h
  case h1 => exact h1
  case h2 => exact KBd.noRef
end Mine
end

section
open PySem PySem.W PyProof.Rows PySem.Calls
set_option maxRecDepth 100000
set_option maxHeartbeats 4000000
namespace Mine
theorem rv_called : ∃ x, Slot "reversed" "__init__" x ∧ x = "object.__init__" := ⟨_, .of (owner := "object") (n := "__init__") (by rw [PySem.W.Fast.te1381439984260040727]; kernel_rfl) (by decide +kernel) (by decide +kernel) (by decide +kernel)
    (by first | exact .inl (by decide +kernel) | exact .inr (by decide +kernel)) (by rw [PySem.W.Fast.te16098473122060591676]; kernel_rfl), rfl⟩
theorem rv_init : Slot "reversed" "__init__" "object.__init__" := by
  obtain ⟨x, h, rfl⟩ := rv_called
  exact h
theorem rv_type : TypeCalled "reversed" "reversed.__new__" "object.__init__" :=
  ⟨by decide +kernel, by decide +kernel, ⟨_, _, F.mro_reversed⟩, F.made_reversed, by decide +kernel, by rw [PySem.W.Fast.te16098473122060591676]; kernel_rfl, rv_init⟩
theorem rv_next_slot : Slot "reversed" "__next__" "reversed.__next__" :=
  .of (owner := "reversed") (n := "__next__") (by rw [PySem.W.Fast.te1381439984260040727]; kernel_rfl) (by decide +kernel) (by decide +kernel) (by decide +kernel)
    (by first | exact .inl (by decide +kernel) | exact .inr (by decide +kernel)) (by rw [PySem.W.Fast.te16098473122060591676]; kernel_rfl)
theorem rv_next_entry : entryFor table "reversed.__next__" = some Builtin.«reversed.__next__» := by first | exact entryFor_of_tree (by kernel_rfl) | exact entryFor_of_fast (by kernel_rfl)
theorem rv_next_args (a : Value) : argsOk "reversed.__next__" ⟨[a], []⟩ := by unfold argsOk; rw [PySem.W.Fast.signatureY_eq, PySem.W.Fast.te16078263539434579649]; kernel_rfl
theorem rv_iter_slot : Slot "reversed" "__iter__" "reversed.__iter__" :=
  .of (owner := "reversed") (n := "__iter__") (by rw [PySem.W.Fast.te1381439984260040727]; kernel_rfl) (by decide +kernel) (by decide +kernel) (by decide +kernel)
    (by first | exact .inl (by decide +kernel) | exact .inr (by decide +kernel)) (by rw [PySem.W.Fast.te16098473122060591676]; kernel_rfl)
theorem rv_iter_entry : entryFor table "reversed.__iter__" = some Builtin.«dict_keyiterator.__iter__» :=
  entryFor_alias (id' := "dict_keyiterator.__iter__") (by rw [fastTable_eq_tree]; kernel_rfl) (by first | rfl | decide +kernel | (unfold String.splitOn; simp +decide [String.splitOnAux])) (by rw [PySem.W.Fast.canonicalY_eq]; decide +kernel) (by rw [fastTable_eq_tree]; kernel_rfl)
theorem rv_iter_args (a : Value) : argsOk "reversed.__iter__" ⟨[a], []⟩ := by unfold argsOk; rw [PySem.W.Fast.signatureY_eq, PySem.W.Fast.te16078263539434579649]; kernel_rfl
def rvObj (b : Array UInt8) (t : Tok) (i : Int) : Obj := { cls := .type "reversed", dict := none, data := .fields #[.bytes b t, rawInt i], slots := #[] }
section
variable {prog : Program} {w : World} {A : Around} {E : Value → Shared → Prop} {s : Shared}
theorem rv_new {b : Array UInt8} {t : Tok} {Q₁ : Value → Shared → Prop} (hb : b.size ≤ 1000)
    (h : ∀ k, Q₁ (.ref s.heap.objs.size) { s with heap := s.heap.push (rvObj b t ((b.size : Int) - 1)), toks := k }) :
    codeAny (model prog w) A (.call (.builtin "reversed.__new__") ⟨[.type "reversed", .bytes b t], []⟩) (wants Q₁ E) s := by
  refine codeAny_of_tree ?_
  show wpAny _ A.in1 (do checkBuiltinCall "reversed.__new__" ⟨[.type "reversed", .bytes b t], []⟩; again (.builtin "reversed.__new__" ⟨[.type "reversed", .bytes b t], []⟩)) _ _ s
  refine wpAny_bind (wpAny_of_eq (F.newCall_reversed_1 _) (wpAny_pure ⟨plainId_quiet F.plain_reversed_new _, codeAny_builtin F.entry_reversed_new ?_⟩))
  rw [Around.under_plainId F.plain_reversed_new _]
  have hT : s.TypeIs (.bytes b t) "bytes" := PySem.W.typeIs_bytes _ _ _
  have n1 : typeLookup (.type "bytes") "__reversed__" = pure none := by rw [PySem.W.Fast.te1381439984260040727]; kernel_rfl
  have n2 : isSubtype (.type "bytes") (.type "dict") = pure false := by rw [PySem.W.Fast.te16098473122060591676]; kernel_rfl
  unfold Builtin.«reversed.__new__»
  refine wpAny_bind (wpAny_of_eq (newClass_reversed _) ?_)
  try dsimp only
  refine wpAny_bind (wpAny_of_eq (a := ()) (by first | rfl | kernel_rfl) ?_)
  refine wpAny_bind (wpAny_of_eq (a := ()) (by first | rfl | kernel_rfl) ?_)
  try dsimp only
  refine wpAny_bind (wpAny_specialOf hT n1 ?_)
  try dsimp only
  refine wpAny_bind ?_
  refine wpAny_bind (wpAny_isInstance hT n2 ?_)
  rw [if_neg (by decide)]
  refine wpAny_bind (wpAny_specialOf hT FB.slot_bytes_getitem.lookup ?_)
  try dsimp only
  rw [if_pos (by decide +kernel)]
  refine wpAny_pure ?_
  rw [if_neg (by decide)]
  refine wpAny_bind (m := call (.builtin "len") [.bytes b t]) (KBw.len_K (E := E) (ks := KBw.bInts b) rfl (by rw [KBw.ints_length]; omega) ?_)
  refine wpAny_bind (wpAny_of_eq (a := some ((KBw.bInts b).length : Int)) rfl ?_)
  try dsimp only
  rw [KBw.ints_length]
  unfold Builtin.SmallTypes.newRecord
  refine wpAny_bind ?_
  refine wpAny_newObj_type ?_ (by show (2 : Nat) ≤ sizeLine + 2; exact Nat.le_add_left _ _)
  exact wpAny_pure (h _)
end
end Mine
end

section
open PySem PySem.W PyProof.Rows PySem.Calls
set_option maxRecDepth 100000
set_option maxHeartbeats 4000000
namespace Mine
section
variable {prog : Program} {w : World} {A : Around} {E : Value → Shared → Prop} {s : Shared}
theorem rv_call {b : Array UInt8} {t : Tok} {Q : Value → Shared → Prop} (hb : b.size ≤ 1000)
    (h : ∀ k, Q (.ref s.heap.objs.size) { s with heap := s.heap.push (rvObj b t ((b.size : Int) - 1)), toks := k }) : wpAny (model prog w) A (call (.type "reversed") [.bytes b t]) Q E s := by
  refine callType_codes (Q₁ := fun obj s₁ => s₁.TypeIs obj "reversed" ∧ Q obj s₁) rv_type (F.typeCall_reversed_1 _) F.entry_object_init ?_ fun obj s₁ h₁ => ?_
  · exact rv_new hb fun k => ⟨⟨_, Heap.get?_push_size _ rfl, rfl⟩, h k⟩
  · exact ⟨h₁.1, F.args_object_init_2 obj _, object_init_meets rv_type.init.lookup rv_type.made (by decide) prog w A.in1 _ s₁ ⟨h₁.1, rfl, h₁.2⟩⟩
theorem rv_item {I : Addr} {b : Array UInt8} {t : Tok} {ks : List Int} {i : Nat} {Q : Option Value → Shared → Prop} (hb : KBw.bInts b = ks) (hz : b.size ≤ 1000) (hI : s.heap.get? I = some (rvObj b t i)) (hi : i < ks.length)
    (h : ∀ h' tk u, h'.get? I = some (rvObj b t ((i : Int) - 1)) → Heap.SameBut I s.heap h' → Q (some (.int (ks.getD i 0) u)) { s with heap := h', toks := tk }) : wpAny (model prog w) A (pyNext (.ref I)) Q E s := by
  have hT : s.TypeIs (.ref I) "reversed" := ⟨_, hI, rfl⟩
  have hlen : ks.length ≤ 1000 := by rw [← hb, KBw.ints_length]; exact hz
  unfold pyNext
  refine wpAny_bind (wpAny_attempt (wpAny_callSpecial?_slot (name := PySem.Str.ofString "__next__") hT rv_next_slot
    (wpAny_call_entry rv_next_slot hT rv_next_entry ?_ (rv_next_args _))))
  unfold Builtin.«reversed.__next__»
  refine wpAny_bind (wpAny_of_eq (a := (Value.ref I, [])) rfl ?_)
  try dsimp only
  refine wpAny_bind (wpAny_field hI rfl (x := .bytes b t) rfl ?_)
  refine wpAny_bind (wpAny_field hI rfl (x := rawInt (i : Int)) rfl ?_)
  show wpAny _ _ (if (i : Int) < 0 then _ else _) _ _ s
  rw [if_neg (by omega)]
  refine wpAny_bind (wpAny_specialOf (PySem.W.typeIs_bytes _ _ _) FB.slot_bytes_getitem.lookup ?_)
  rw [if_neg (by decide)]
  refine wpAny_bind (wpAny_mkInt (wpAny_bind ?_))
  refine wpAny_attempt ?_
  have e : b.toList.toArray = b := Array.toArray_toList
  have hl : b.toList.length = ks.length := by rw [← hb, KBw.ints_length]; simp
  have g := getItem_bytes (prog := prog) (w := w) (A := A.in1) (E := fun e s' => False) (s := { s with toks := s.toks + 1 }) (l := b.toList) (i := (i : Int)) (u := s.toks) (t := t) (Q := fun v s' => v = .int (ks.getD i 0) (s.toks + 1) ∧ s' = { s with toks := s.toks + 1 + 1 }) (by omega) (by omega) (by omega) ⟨by rw [Int.toNat_natCast, KBw.getD_ints, ← hb]; rfl, rfl⟩
  rw [e] at g
  refine wpAny_mono g (fun v s' hv => ?_) fun _ _ x => x.elim
  obtain ⟨rfl, rfl⟩ := hv
  dsimp only
  refine wpAny_bind (wpAny_field (s := { s with toks := s.toks + 1 + 1 }) hI rfl (x := rawInt (i : Int)) rfl ?_)
  try dsimp only [rawInt]
  refine wpAny_bind (wpAny_setField_rec (s := { s with toks := s.toks + 1 + 1 }) hI (by simp) fun h₁ h1 hs => ?_)
  exact wpAny_pure ⟨_, rfl, wpAny_pure (h h₁ _ _ h1 hs)⟩
theorem rv_end {I : Addr} {b : Array UInt8} {t : Tok} {Q : Option Value → Shared → Prop} (hh : A.handled = none) (hI : s.heap.get? I = some (rvObj b t (-1)))
    (h : ∀ h', (∀ c o, c ≠ I → s.heap.get? c = some o → h'.get? c = some o) → Q none { s with heap := h' }) : wpAny (model prog w) A (pyNext (.ref I)) Q E s := by
  have hT : s.TypeIs (.ref I) "reversed" := ⟨_, hI, rfl⟩
  unfold pyNext
  refine wpAny_bind (wpAny_attempt (wpAny_callSpecial?_slot (name := PySem.Str.ofString "__next__") hT rv_next_slot
    (wpAny_call_entry rv_next_slot hT rv_next_entry ?_ (rv_next_args _))))
  unfold Builtin.«reversed.__next__»
  refine wpAny_bind (wpAny_of_eq (a := (Value.ref I, [])) rfl ?_)
  try dsimp only
  refine wpAny_bind (wpAny_field hI rfl (x := .bytes b t) rfl ?_)
  refine wpAny_bind (wpAny_field hI rfl (x := rawInt (-1)) rfl ?_)
  show wpAny _ _ (if (-1 : Int) < 0 then _ else _) _ _ s
  rw [if_pos (by decide)]
  refine wpAny_bind (wpAny_rule ?_)
  refine wpAny_bind (m := (do setField (.ref I) 1 (rawInt (-1)); setField (.ref I) 0 .none)) ?_
  refine wpAny_bind (wpAny_setField_rec hI (by simp) fun h₁ e₁ s₁ => ?_)
  refine wpAny_setField_rec e₁ (by simp) fun h₂ e₂ s₂ => ?_
  refine wpAny_bind (m := Builtin.SmallTypes.stopIteration) ?_
  unfold Builtin.SmallTypes.stopIteration
  first
    | show wpAny _ _ (newExc (.type "StopIteration") [] >>= _) _ _ _
    | (refine wpAny_bind ?_; show wpAny _ _ (newExc (.type "StopIteration") [] >>= _) _ _ _)
  refine wpAny_bind ?_
  simp only [newExc, newTuple]
  refine wpAny_bind (wpAny_newObj_type ?_ (by size_fits))
  refine wpAny_bind (m := firstArgMember _ _) (wpAny_of_eq (a := Value.none) (by first | rfl | (simp only [firstArgMember]; rfl)) ?_)
  refine wpAny_newObj_type ?_ (by size_fits)
  simp only [raiseNew]
  refine wpAny_bind (wpAny_handled ?_)
  first | rw [show A.in1.handled = none from hh] | rw [hh]
  refine wpAny_bind (wpAny_pure (wpAny_throw ?_))
  refine wpAny_bind (wpAny_isInstance (T := "StopIteration") (b := true) ⟨_, Heap.get?_push_size _ rfl, rfl⟩ isSubtype_stop ?_)
  exact wpAny_pure (h _ fun c o n e => Heap.get?_push_of_some _ (Heap.get?_push_of_some _ (s₂.extBut c o n (s₁.extBut c o n e))))
theorem rv_iter {I : Addr} {b : Array UInt8} {t : Tok} {i : Int} {Q : Value → Shared → Prop} (hI : s.heap.get? I = some (rvObj b t i)) (h : Q (.ref I) s) : wpAny (model prog w) A (pyIter (.ref I)) Q E s := by
  have hT : s.TypeIs (.ref I) "reversed" := ⟨_, hI, rfl⟩
  refine wpAny_pyIter_slot hT rv_iter_slot (wpAny_call_entry rv_iter_slot hT rv_iter_entry ?_ (rv_iter_args _))
  show wpAny _ _ (ret (.ref I)) _ _ s
  exact wpAny_pure ⟨_, rfl, "reversed", _, hT, rv_next_slot.lookup, h⟩
end
end Mine
end

section
open PySem PySem.W PyProof.Rows PySem.Calls
set_option maxRecDepth 100000
set_option maxHeartbeats 4000000
namespace Mine
section
variable {prog : Program} {w : World} {A : Around} {E : Value → Shared → Prop} {s : Shared}
theorem rev_get {ks : List Int} {i k : Nat} (hk : k + 1 + i = ks.length) : (ks.reverse)[i]? = some (ks.getD k 0) := by
  have hi : i < ks.length := by omega
  rw [List.getElem?_reverse hi]
  rw [List.getD_eq_getElem?_getD, show ks.length - 1 - i = k by omega, List.getElem?_eq_getElem (by omega)]
  rfl
theorem rv_loop {R : Result → Shared → Prop} {b : Array UInt8} {t : Tok} {ks : List Int} {I S : Addr} (hh : A.handled = none) (hb : KBw.bInts b = ks) (hz : b.size ≤ 1000) (hIS : I ≠ S) :
    ∀ (k i : Nat) (s : Shared), k + i = ks.length → s.heap.get? I = some (rvObj b t ((k : Int) - 1)) → s.heap.get? S = some { cls := .type "bytearray", data := .bytearray (byteArr (ks.reverse.take i)) } →
      (∀ h' t' k', (∀ c o, c ≠ I → c ≠ S → s.heap.get? c = some o → h'.get? c = some o) → R (.ok (.ret (.bytes (byteArr ks.reverse) t'))) { s with heap := h', toks := k' }) →
      codeAny (model prog w) A (.builtin "bytes.__new__.loop" ⟨[.type "bytes", .ref I, .ref S], []⟩) R s := by
  have hlen : ks.length ≤ 1000 := by rw [← hb, KBw.ints_length]; exact hz
  intro k
  induction k with
  | zero =>
    intro i s hk hI hS hR
    refine codeAny_builtin F.bm_entry_loop ?_
    rw [Around.under_plainId F.bm_plain_loop _]
    show wpAny _ A.in1 (pyNext (.ref I) >>= _) _ _ s
    refine wpAny_bind (rv_end hh (by rw [hI]; rfl) fun h' he => ?_)
    have hS' : h'.get? S = some { cls := .type "bytearray", data := .bytearray (byteArr (ks.reverse.take i)) } := he S _ (Ne.symm hIS) hS
    refine wpAny_bind ?_
    unfold Builtin.Bytes.payload Builtin.Bytes.payload?
    refine wpAny_bind (wpAny_bind (wpAny_load hS' ?_))
    refine wpAny_pure (wpAny_pure ?_)
    rw [List.take_of_length_le (by rw [List.length_reverse]; omega)]
    refine wpAny_bind (wpAny_mkBytes ?_ (by rw [byteArr_size, List.length_reverse]; exact Nat.le_trans hlen (by decide)))
    show wpAny _ _ (if (Value.type "bytes" == Value.type "bytes") = true then _ else _) _ _ _
    refine bm_if_true (by decide) ?_
    first
      | exact wpAny_pure (hR h' _ _ fun c o hc _ e => he c o hc e)
      | exact wpAny_bind (wpAny_pure (wpAny_pure (hR h' _ _ fun c o hc _ e => he c o hc e)))
  | succ k ih =>
    intro i s hk hI hS hR
    have hr := KBw.getD_in (ks := ks) (j := k) (fun x hx => by rw [← hb] at hx; exact KBw.ints_in hx)
    obtain ⟨h0, h1⟩ := hr
    refine codeAny_builtin F.bm_entry_loop ?_
    rw [Around.under_plainId F.bm_plain_loop _]
    show wpAny _ A.in1 (pyNext (.ref I) >>= _) _ _ s
    refine wpAny_bind (rv_item (i := k) hb hz (t := t) (by rw [hI]; congr 2; omega) (by omega) fun h' tk u hI' hs => ?_)
    have hS' : h'.get? S = some { cls := .type "bytearray", data := .bytearray (byteArr (ks.reverse.take i)) } := hs.extBut S _ (Ne.symm hIS) hS
    refine wpAny_bind (wpAny_holding (wpAny_of_eq (rfl : asIndex (.int (ks.getD k 0) u) = pure (ks.getD k 0)) ?_))
    refine wpAny_bind (wpAny_letGo ?_)
    refine bm_if_false (by simp only [Bool.or_eq_false_iff, decide_eq_false_iff_not]; omega) ?_
    refine wpAny_bind ?_
    show wpAny _ _ (updateBytearray S (·.push (ks.getD k 0).toNat.toUInt8)) _ _ _
    unfold updateBytearray
    refine wpAny_bind (wpAny_load hS' ?_)
    show wpAny _ _ (update S (Obj.mapBytearray (·.push (ks.getD k 0).toNat.toUInt8)) >>= fun _ => lookBehind S) _ _ _
    refine wpAny_bind (wpAny_update hS' ?_)
    have hS₂ : (h'.update S (Obj.mapBytearray (·.push (ks.getD k 0).toNat.toUInt8))).get? S = some { cls := .type "bytearray", data := .bytearray (byteArr (ks.reverse.take (i + 1))) } := by
      rw [byteArr_take (rev_get (by omega))]
      exact Heap.get?_update_self (Obj.mapBytearray (·.push (ks.getD k 0).toNat.toUInt8)) hS' rfl
    refine wpAny_lookBehind hS₂ ?_ ?_
    · show (if (byteArr (ks.reverse.take (i + 1))).size > sizeLine then some "bytearray:memory" else none) = none
      rw [if_neg]
      rw [byteArr_size, List.length_take, List.length_reverse]
      have : (1000 : Nat) ≤ sizeLine := by decide
      omega
    · refine wpAny_pure ⟨plainId_quiet F.bm_plain_loop _, ih (i + 1) { s with heap := h'.update S (Obj.mapBytearray (·.push (ks.getD k 0).toNat.toUInt8)), toks := tk } (by omega) ?_ hS₂ fun h3 t' k' hk3 => ?_⟩
      · exact (Heap.SameBut.update ..).extBut I _ hIS hI'
      · exact hR h3 t' k' fun c o hcI hcS e => hk3 c o hcI hcS ((Heap.get?_update_other _ _ (Ne.symm hcS)).trans (hs.extBut c o hcI e))
theorem rv_hint_split : splitId "reversed.__length_hint__" = some ("reversed", "__length_hint__") := by decide +kernel
theorem rv_hint_slot : Slot "reversed" "__length_hint__" "reversed.__length_hint__" :=
  .of (owner := "reversed") (n := "__length_hint__") (by rw [PySem.W.Fast.te1381439984260040727]; kernel_rfl) (by decide +kernel) (by decide +kernel) (by decide +kernel)
    (by first | exact .inl (by decide +kernel) | exact .inr (by decide +kernel)) (by rw [PySem.W.Fast.te16098473122060591676]; kernel_rfl)
theorem rv_hint_entry : entryFor table "reversed.__length_hint__" = some Builtin.«reversed.__length_hint__» := by first | exact entryFor_of_tree (by kernel_rfl) | exact entryFor_of_fast (by kernel_rfl)
theorem rv_hint_args (a : Value) : argsOk "reversed.__length_hint__" ⟨[a], []⟩ := by unfold argsOk; rw [PySem.W.Fast.signatureY_eq, PySem.W.Fast.te16078263539434579649]; kernel_rfl
theorem rv_bytes {I : Addr} {b : Array UInt8} {t : Tok} {ks : List Int} {Q : Value → Shared → Prop} (hh : A.handled = none) (hb : KBw.bInts b = ks) (hz : b.size ≤ 1000) (hI : s.heap.get? I = some (rvObj b t ((b.size : Int) - 1)))
    (h : ∀ h' t' k', (∀ c o, c ≠ I → s.heap.get? c = some o → h'.get? c = some o) → Q (.bytes (byteArr ks.reverse) t') { s with heap := h', toks := k' }) : wpAny (model prog w) A (call (.type "bytes") [.ref I]) Q E s := by
  refine callType_codes (Q₁ := fun obj s₁ => s₁.TypeIs obj "bytes" ∧ Q obj s₁) F.bm_called (F.bm_typeCall _) F.entry_object_init ?_ fun obj s₁ h₁ => ?_
  · have hT : s.TypeIs (.ref I) "reversed" := ⟨_, hI, rfl⟩
    have g1 : typeLookup (.type "reversed") "__bytes__" = pure none := by rw [PySem.W.Fast.te1381439984260040727]; kernel_rfl
    have g2 : typeLookup (.type "reversed") "__index__" = pure none := by rw [PySem.W.Fast.te1381439984260040727]; kernel_rfl
    have g3 : typeLookup (.type "reversed") "__buffer__" = pure none := by rw [PySem.W.Fast.te1381439984260040727]; kernel_rfl
    have g4 : typeLookup (.type "reversed") "__len__" = pure none := by rw [PySem.W.Fast.te1381439984260040727]; kernel_rfl
    have g5 : isSubtype (.type "reversed") (.type "reversed") = pure true := F.sub_reversed_self
    refine codeAny_of_tree ?_
    show wpAny _ A.in1.in1 (do checkBuiltinCall "bytes.__new__" ⟨[.type "bytes", .ref I], []⟩; again (.builtin "bytes.__new__" ⟨[.type "bytes", .ref I], []⟩)) _ _ s
    refine wpAny_bind (wpAny_of_eq (F.bm_newCall _) (wpAny_pure ⟨plainId_quiet F.bm_plain _, codeAny_builtin F.bm_entry ?_⟩))
    rw [Around.under_plainId F.bm_plain _]
    unfold Builtin.«bytes.__new__»
    refine wpAny_bind (wpAny_of_eq (a := true) rfl ?_)
    refine bm_if_false rfl ?_
    refine wpAny_bind (wpAny_of_eq F.bm_sub ?_)
    refine bm_if_false rfl ?_
    refine wpAny_bind (wpAny_of_eq (F.bm_bind _) ?_)
    refine wpAny_bind (wpAny_of_eq (a := ()) rfl ?_)
    refine wpAny_bind (wpAny_of_eq (a := ()) rfl ?_)
    refine bm_if_false rfl ?_
    refine wpAny_bind (wpAny_specialOf hT g1 ?_)
    refine wpAny_bind (wpAny_bind ?_)
    show wpAny _ _ (load I >>= _) _ _ _
    refine wpAny_bind (wpAny_load hI ?_)
    refine wpAny_pure (wpAny_pure ?_)
    refine bm_if_false rfl ?_
    refine wpAny_bind (wpAny_specialOf hT g2 ?_)
    refine bm_if_true rfl ?_
    first
      | show wpAny _ _ (Builtin.Bytes.buffer? "bytes.__new__" (.ref I) true >>= _) _ _ _
      | (refine wpAny_bind ?_; show wpAny _ _ (Builtin.Bytes.buffer? "bytes.__new__" (.ref I) true >>= _) _ _ _)
    refine wpAny_bind ?_
    unfold Builtin.Bytes.buffer?
    refine wpAny_bind (wpAny_specialOf hT g3 ?_)
    refine wpAny_bind (wpAny_specialOf hT g3 ?_)
    refine wpAny_pure ?_
    refine wpAny_bind (wpAny_tryCatch (rv_iter hI ?_))
    refine wpAny_bind (wpAny_holding ?_)
    unfold Builtin.Bytes.lengthHint
    refine wpAny_bind (wpAny_specialOf hT g4 ?_)
    dsimp only
    refine bm_if_false (by decide +kernel) ?_
    refine bm_if_false rfl ?_
    refine wpAny_bind (wpAny_specialOf hT rv_hint_slot.lookup ?_)
    dsimp only
    rw [rv_hint_split]
    dsimp only
    refine wpAny_bind (wpAny_isInstance hT g5 ?_)
    refine bm_if_false rfl ?_
    refine bm_if_false (by decide +kernel) ?_
    refine wpAny_bind (wpAny_rule ?_)
    refine wpAny_bind (wpAny_of_eq (rv_hint_slot.bind _) ?_)
    dsimp only
    refine wpAny_bind (wpAny_attempt (wpAny_call_entry rv_hint_slot hT rv_hint_entry ?_ (rv_hint_args _)))
    unfold Builtin.«reversed.__length_hint__»
    refine wpAny_bind (wpAny_of_eq (a := Value.ref I) rfl ?_)
    refine wpAny_bind (wpAny_field hI rfl (x := .bytes b t) rfl ?_)
    refine bm_if_false rfl ?_
    refine wpAny_bind (m := call (.builtin "len") [.bytes b t]) (KBw.len_K (ks := KBw.bInts b) rfl (by rw [KBw.ints_length]; omega) ?_)
    refine wpAny_bind (wpAny_of_eq (a := some ((KBw.bInts b).length : Int)) rfl ?_)
    try dsimp only
    rw [KBw.ints_length]
    refine wpAny_bind (wpAny_field (s := { s with toks := s.toks + 1 + 1 }) hI rfl (x := rawInt ((b.size : Int) - 1)) rfl ?_)
    show wpAny _ _ (if (b.size : Int) < (b.size : Int) - 1 + 1 then _ else _) _ _ _
    rw [if_neg (by omega)]
    refine wpAny_bind (wpAny_mkInt (wpAny_pure ⟨_, rfl, ?_⟩))
    dsimp only
    refine wpAny_bind (wpAny_of_eq (a := some ((b.size : Int) - 1 + 1)) rfl ?_)
    dsimp only
    have z : (1000 : Nat) ≤ sizeLine := by decide
    refine bm_if_false (by simp only [Builtin.Bytes.fitsIndex, Bool.not_eq_false', Bool.and_eq_true, decide_eq_true_eq]; omega) ?_
    rw [if_neg (by omega)]
    refine bm_if_false (by simp only [Builtin.Bytes.tooLong, decide_eq_false_iff_not]; omega) ?_
    refine wpAny_pure ?_
    refine wpAny_bind ?_
    unfold Builtin.Bytes.newBytearray
    refine wpAny_newObj_type ?_ (Nat.zero_le _)
    have hlt : I < s.heap.objs.size := Heap.lt_size hI
    have hl : b.size = ks.length := by rw [← hb, KBw.ints_length]
    have main := rv_loop (prog := prog) (w := w) (A := A.in1) (R := wants (fun obj s₁ => s₁.TypeIs obj "bytes" ∧ Q obj s₁) E) (I := I) (S := s.heap.objs.size) hh hb hz (Nat.ne_of_lt hlt)
      ks.length 0 { s with heap := s.heap.push { cls := .type "bytearray", data := .bytearray #[] }, toks := s.toks + 1 + 1 + 1 } rfl (Heap.get?_push_of_some _ (by rw [← hl]; exact hI)) (Heap.get?_push_size _ rfl)
      fun h' t' k' hk => ⟨PySem.W.typeIs_bytes _ _ _, h h' t' k' fun c o n e => hk c o n (Nat.ne_of_lt (Heap.lt_size e)) (Heap.get?_push_of_some _ e)⟩
    first
      | exact wpAny_pure ⟨plainId_quiet F.bm_plain_loop _, main⟩
      | exact wpAny_pure (wpAny_pure ⟨plainId_quiet F.bm_plain_loop _, main⟩)
  · exact ⟨h₁.1, F.args_object_init_2 obj _, object_init_meets F.bm_called.init.lookup F.bm_called.made (by decide) prog w A.in1 _ s₁ ⟨h₁.1, rfl, h₁.2⟩⟩
theorem byteArr_bInts {ns : List Int} (h : ∀ n ∈ ns, 0 ≤ n ∧ n < 256) : KBw.bInts (byteArr ns) = ns := by
  unfold byteArr KBw.bInts
  simp only [List.map_map]
  conv => rhs; rw [← List.map_id ns]
  refine List.map_congr_left fun n hn => ?_
  obtain ⟨h0, h1⟩ := h n hn
  show ((n.toNat.toUInt8).toNat : Int) = n
  rw [show n.toNat.toUInt8.toNat = n.toNat from by simp [Nat.mod_eq_of_lt (show n.toNat < 256 by omega)]]
  omega
/-- bytes(reversed(octets)), the ledger in sight: two steps -/
theorem rv_callN {b : Array UInt8} {t : Tok} {h₀ : Heap} {L : Addr} {m : PySem.Str → Option Value} {news : List (Addr × Obj)} {Q : Value → Shared → Prop} (F : Fr h₀ L s.heap m) (N : News h₀ L s.heap news) (hb : b.size ≤ 1000)
    (h : ∀ I h' k, Fr h₀ L h' m → News h₀ L h' ((I, rvObj b t ((b.size : Int) - 1)) :: news) → (∀ p ∈ news, p.1 < I) → Q (.ref I) { s with heap := h', toks := k }) : wpAny (model prog w) A (call (.type "reversed") [.bytes b t]) Q E s :=
  rv_call hb fun k => h _ _ k (F.push _) (N.push F _) fun p hp => Heap.lt_size (N p hp).1
theorem rv_bytesN {I : Addr} {b : Array UInt8} {t : Tok} {ks : List Int} {h₀ : Heap} {L : Addr} {m : PySem.Str → Option Value} {news : List (Addr × Obj)} {Q : Value → Shared → Prop} (F : Fr h₀ L s.heap m) (N : News h₀ L s.heap ((I, rvObj b t ((b.size : Int) - 1)) :: news)) (l1 : ∀ p ∈ news, p.1 < I)
    (hh : A.handled = none) (hb : KBw.bInts b = ks) (hz : b.size ≤ 1000)
    (h : ∀ c h' t' k', Fr h₀ L h' m → News h₀ L h' news → KBw.bInts c = ks.reverse → Q (.bytes c t') { s with heap := h', toks := k' }) : wpAny (model prog w) A (call (.type "bytes") [.ref I]) Q E s := by
  have hI := N _ List.mem_cons_self
  refine rv_bytes hh hb hz hI.1 fun h' t' k' hk => h _ h' t' k' ⟨F.ns.at' fun o e => hk _ o (fun q => hI.2.1 q.symm) e, fun c o e => hk c o (fun q => by have := hI.2.2; rw [← q, e] at this; cases this) (F.keep c o e), F.above⟩
    (fun p hp => ⟨hk _ _ (Nat.ne_of_lt (l1 p hp)) (N p (List.mem_cons_of_mem _ hp)).1, (N p (List.mem_cons_of_mem _ hp)).2⟩) ?_
  refine byteArr_bInts fun n hn => ?_
  rw [List.mem_reverse, ← hb] at hn
  exact KBw.ints_in hn
end
theorem small_of {b : Array UInt8} {ks : List Int} (h : KBw.bInts b = ks) (h2 : ks.length ≤ 1000) : b.size ≤ 1000 := by rw [← KBw.ints_length, h]; exact h2
theorem drop_one {ks : List Int} (h : 1 ≤ ks.length) : List.take (ks.length - clipAt ks.length 1) (List.drop (clipAt ks.length 1) ks) = ks.drop 1 := by
  rw [show clipAt ks.length 1 = 1 from clip_in (by decide) (by omega), List.take_of_length_le (by rw [List.length_drop]; omega)]
end Mine
end

section
open PySem PySem.W PyProof.Rows PySem.Calls
set_option maxRecDepth 100000
set_option maxHeartbeats 8000000
namespace Mine
def RaiseC (w : World) (k u : Nat) (f : Addr) (vs : List Value) (cls : Value) : Prop :=
  ∀ (p : Program) (loose : List PySem.Str) (mean : ExcName → Option Value) (mg mb : PySem.Str → Option Value) (dp un : Nat) (gd : Option (List Code)) (cn : PySem.Str) (cs : Scope) (a : Addr) (ccd : Value) (cl : List (PySem.Str × Addr)) (outer : List Env) (A₀ : Around)
    (base h₀ : Heap) (L : Addr) (m : PySem.Str → Option Value) (news : List (Addr × Obj)) (s : Shared) (Q E : Value → Shared → Prop),
    Below A₀ base outer h₀ → Fr h₀ L s.heap m → (Mine.kk.heap_1 w.params).In h₀ → News h₀ L s.heap news → Top p loose mean mg mb h₀ → cs.kind = .function → dp + k < recursionLimit → un + u < cLine →
    (∀ (e : Addr) (h' g : Heap) (tk' : Nat), Fr h₀ L g m → RaisedN base (envX cn cs L a ccd cl :: outer) e cls news h' → g.UpToSlots h' → E (.ref e) { s with heap := h', toks := tk' }) →
    wpAny (model PySem.Challenge.rw_vn0014_01.prog w) (ktrTop dp un gd cn cs L a ccd cl outer) (call (.ref f) vs) Q E s
end Mine
end

section
open PySem PySem.W PyProof.Rows PySem.Calls
set_option maxRecDepth 100000
set_option maxHeartbeats 4000000
namespace Mine
local macro_rules | `(tactic| wp_step) => `(tactic| first
  | with_reducible (first
      | refine wpAny_pure ?_ | refine wpAny_bind ?_ | refine wpAny_holding ?_ | refine wpAny_standAt ?_ | refine wpAny_point ?_ | refine wpAny_rule ?_ | refine wpAny_letGo ?_ | refine wpAny_mkInt' ?_ | refine wpAny_fresh' ?_
      | refine wpAny_alloc' ?_ | refine wpAny_attempt ?_ | refine wpAny_throw ?_ | refine wpAny_of_eq (by assumption) ?_ | refine wpAny_typeOf (by assumption) ?_ | refine wpAny_specialOf_val (by assumption) (by assumption) ?_ | refine wpAny_specialOf (by assumption) (by assumption) ?_
      | refine wpAny_isInstance_val (by assumption) (by assumption) ?_ | refine wpAny_isInstance (by assumption) (by assumption) ?_ | refine wpAny_call ?_ | refine wpAny_runValue ?_ | refine wpAny_run ?_)
  | ((with_reducible refine' wpAny_mkStr' ?hw2 ?hw1); (case hw1 => size_fits))
  | ((with_reducible refine' PySem.wpAny_load' ?hw1 ?hw2); (case hw1 => (heap_get; done)))
  | ((with_reducible refine' PySem.wpAny_update' ?hw1 ?hw2); (case hw1 => (heap_get; done)))
  | ((with_reducible refine' PySem.wpAny_loadPart' ?hw1 ?hw2); (case hw1 => (heap_get; done)))
  | ((with_reducible refine' PySem.wpAny_updatePart' ?hw1 ?hw2); (case hw1 => (heap_get; done)))
  | ((with_reducible refine' wpAny_handled_none ?hw1 ?hw2); (case hw1 => assumption))
  | ((with_reducible refine' wpAny_ite_false ?hw1 ?hw2); (case hw1 => rfl))
  | ((with_reducible refine' wpAny_ite_true ?hw1 ?hw2); (case hw1 => rfl))
  | ((with_reducible refine' wpAny_ite_false ?hw1 ?hw2); (case hw1 => (simp [*]; done)))
  | ((with_reducible refine' wpAny_ite_true ?hw1 ?hw2); (case hw1 => (simp [*]; done)))
  | wp_delta
  | with_reducible_and_instances refine wpAny_pure ?_
  | with_reducible_and_instances refine wpAny_bind ?_)
section
variable {prog : Program} {w : World} {A : Around} {E : Value → Shared → Prop} {h : Heap} {g : Array GenState} {d : Drawn} {t : Nat} {os : OsState}
variable {nm q : PySem.Str} {C N : Addr} {bs bm bmB : List Value} {hdct : Bool} {sn : List PySem.Str} {sub : List Value} {ab : Bool} {col : Option Bool} {dd : Option Addr} {k0 k1 k2 k3 k5 : Option Value} {B newId initId : String}
/-- the object of an exception, freshly made -/
abbrev exObj (C T : Addr) (dx : Option Addr) : Obj := { cls := .ref C, dict := dx, data := .fields #[.ref T, .none, .none, .none, .bool false, .none] }
abbrev exHeap (h : Heap) (C : Addr) (rest : List Value) : Heap := (h.push { cls := .type "tuple", data := .seq rest.toArray }).push (exObj C h.objs.size none)
theorem exc_body {Q : Fin → Shared → Prop} (F : ExcBaseFacts B newId initId bmB) (T : OwnTail h bmB bm) {mN : PySem.Str → Option Value} {rest : List Value} {fI : Addr} {of : Obj}
    (hC : h.get? C = some (excClassObj nm q C N bs bm hdct sn sub ab col dd k0 k1 k2 k3 k5 newId)) (hn : h.Ns N mN) (hni : mN "__init__" = some (.ref fI)) (hf : h.get? fI = some of) (hfc : of.cls = .type "function")
    (hq : codeAny (model prog w) A (.call (.ref fI) ⟨.ref (h.objs.size + 1) :: rest, []⟩) (fun r s' => match r with | .ok (.ret v) => v = .none ∧ Q (.done (.ret (.ref (h.objs.size + 1)))) s' | .ok _ => False | .error e => E e s') ⟨exHeap h C rest, g, d, t, os⟩)
    (hrest : rest.length ≤ sizeLine := by size_fits) : wpAny (model prog w) A (Builtin.«type.__call__» ⟨.ref C :: rest, []⟩) Q E ⟨h, g, d, t, os⟩ := by
  repeat (first | with_reducible refine wpAny_loadPart_at hC ?_ | with_reducible refine wpAny_madeBy_exc hC ?_ | wp_step)
  refine codeAny_call_builtin_code (Code.quiet_builtin _ F.quiet) (wpAny_check_new_subT F T hC ?_)
  refine codeAny_exc_new_subT F T hC ?_ hrest
  have up : ∀ b o, h.get? b = some o → (exHeap h C rest).get? b = some o := fun b o e => Heap.get?_push_of_some _ (Heap.get?_push_of_some _ e)
  have hC₁ := up _ _ hC
  have hn₁ : (exHeap h C rest).Ns N mN := let ⟨o, es, ep, e, r⟩ := hn; ⟨o, es, ep, up _ _ e, r⟩
  have hget : (exHeap h C rest).get? (h.objs.size + 1) = some { cls := .ref C, data := .fields #[.ref h.objs.size, .none, .none, .none, .bool false, .none] } := Heap.get?_push_at (by simp only [Heap.size_push]) rfl
  have hcC : (Value.ref C :: bm).contains (.ref C) = true := by simp
  have T₁ := T.keeps up
  have hf₁ := up _ _ hf
  show wpAny _ _ _ _ _ _
  unfold isInstance
  repeat (first | with_reducible refine wpAny_loadPart_at hget ?_ | (with_reducible refine wpAny_isSubtype_exc hC₁ ?_; rw [hcC]) | wp_step)
  show wpAny _ _ (typeLookup (.ref C) _) _ _ _
  refine wpAny_typeLookup_tail hC₁ hn₁ T₁ F.mroIs F.init.lookup ?_
  rw [hni]
  refine wpAny_holding (wpAny_bind ?_)
  unfold bindSpecial
  refine wpAny_bind (wpAny_typeOf ⟨_, hf₁, hfc⟩ ?_)
  refine wpAny_pure ?_
  refine wpAny_bind (wpAny_call (codeAny_mono hq fun r s' z => ?_))
  cases r with
  | error e => exact z
  | ok f =>
    cases f with
    | ret v =>
      obtain ⟨rfl, z⟩ := z
      exact wpAny_pure (wpAny_pure z)
    | _ => exact z.elim
/-- an exception class with an __init__ of its own is called -/
theorem exc_call (F : ExcBaseFacts B newId initId bmB) (T : OwnTail h bmB bm) {mN : PySem.Str → Option Value} {rest : List Value} {fI : Addr} {of : Obj} {Q : Value → Shared → Prop}
    (hC : h.get? C = some (excClassObj nm q C N bs bm hdct sn sub ab col dd k0 k1 k2 k3 k5 newId)) (hn : h.Ns N mN) (hni : mN "__init__" = some (.ref fI)) (hf : h.get? fI = some of) (hfc : of.cls = .type "function")
    (hq : codeAny (model prog w) (A.under (.builtin "type.__call__" ⟨.ref C :: rest, []⟩)) (.call (.ref fI) ⟨.ref (h.objs.size + 1) :: rest, []⟩)
      (fun r s' => match r with | .ok (.ret v) => v = .none ∧ Q (.ref (h.objs.size + 1)) s' | .ok _ => False | .error e => E e s') ⟨exHeap h C rest, g, d, t, os⟩)
    (hrest : rest.length ≤ sizeLine := by size_fits) : wpAny (model prog w) A (call (.ref C) rest) Q E ⟨h, g, d, t, os⟩ := by
  have f1 := tc_lookup
  have f2 := tc_bind (.ref C)
  have hT : (⟨h, g, d, t, os⟩ : Shared).TypeIs (.ref C) "type" := ⟨_, hC, rfl⟩
  refine wpAny_call (codeAny_of_tree ?_)
  show wpAny _ _ (callAny (.ref C) _) _ _ _
  repeat (any_goals (first | assumption | with_reducible refine wpAny_loadPart_at hC ?_ | wp_step))
  refine ⟨rfl, ?_⟩
  exact codeAny_call_builtin_at (Code.quiet_builtin _ (by decide +kernel)) entry_typeCall (wpAny_check_type_call_sub hC (exc_body (hrest := hrest) F T hC hn hni hf hfc hq))
end
end Mine
end

section
open PySem PySem.W PyProof.Rows PySem.Calls
open Builtin Builtin.ObjectAttr
set_option maxRecDepth 100000
set_option maxHeartbeats 4000000
namespace Mine
section
variable {prog : Program} {w : World} {A : Around} {E : Value → Shared → Prop} {h : Heap} {g : Array GenState} {d : Drawn} {t : Nat} {os : OsState} {P : Params}
variable {e : Addr} {vs : Array Value} {v : Value}
theorem obj_of (hx : h.get? e = some ⟨.ref 694, none, .fields vs, #[]⟩) : InstAt h e ⟨.ref 694, none, .fields vs, #[]⟩ 694 none := ⟨hx, rfl, rfl, trivial⟩
/-- an attribute stored on an exception without a dict -/
theorem sa694 {Q : Unit → Shared → Prop} (X : (Mine.kk.heap_1 P).In h) (hx : h.get? e = some ⟨.ref 694, none, .fields vs, #[]⟩)
    (hq : ∀ h' tk' dx, (∀ b o, b ≠ e → h.get? b = some o → h'.get? b = some o) → h'.get? e = some ⟨.ref 694, some dx, .fields vs, #[]⟩ → Q () ⟨h', g, d, tk', os⟩) :
    wpAny (model prog w) A (setAttr (.ref e) (PySem.Str.ofString "obj") v) Q E ⟨h, g, d, t, os⟩ := by
  have SF := PySem.F.store_Exception
  have I := obj_of hx
  refine set_plain (s := ⟨h, g, d, t, os⟩) X I (by kernel_rfl) ?_
  have sub : Looks (model prog w) h (isInstance (.ref e) (.type "object")) true := I.type.andThen (looks_mroIn X (by kernel_rfl))
  refine codeAny_call_builtin SF.slot.plain SF.entry (@check_slot (model prog w) _ _ ⟨h, g, d, t + 1, os⟩ "object.__setattr__" "object" "__setattr__" (.ref e) [.str (PySem.Str.ofString "obj") t, v] [] _ SF.kind SF.split sub (SF.args (.ref e) (.str (PySem.Str.ofString "obj") t) v) ?_)
  have hm : Looks (model prog w) h (mroOf (.ref 694)) [.ref 694, .ref 630, .type "Exception", .type "BaseException", .type "object"] := (looks_clsIn X rfl).andThen .now
  rw [osa_eq, refuse_eq]
  refine wpAny_bind (wpAny_bind (I.type.here (wpAny_bind (hm.here ?_))))
  rw [refuseLoop_ref, refuseLoop_ref, SF.passes]
  have ha : Looks (model prog w) h (typeLookup (.ref 694) (PySem.Str.ofString "obj")) none := looks_findIn X (by kernel_rfl)
  refine wpAny_pure (wpAny_bind (I.type.here (wpAny_bind (ha.here (wpAny_bind ?_)))))
  refine wpAny_pure ?_
  dsimp only
  have hC := X 694 _ rfl
  have hx₁ : (h.push { cls := .type "dict", data := .dict #[] }).get? e = some ⟨.ref 694, none, .fields vs, #[]⟩ := Heap.get?_push_of_some _ hx
  have hxs : e ≠ h.objs.size := Nat.ne_of_lt (Heap.lt_size hx)
  have hgd : ((h.push { cls := .type "dict", data := .dict #[] }).update e fun o => { cls := o.cls, dict := some h.objs.size, data := o.data, slots := o.slots }).get? h.objs.size
      = some { cls := .type "dict", data := .dict #[] } := (Heap.get?_update_ne _ _ _ _ hxs.symm).trans (Heap.get?_push_at rfl rfl)
  have hnd : ((h.push { cls := .type "dict", data := .dict #[] }).update e fun o => { cls := o.cls, dict := some h.objs.size, data := o.data, slots := o.slots }).Ns h.objs.size (fun _ => none) :=
    ⟨_, #[], _, hgd, rfl, fun e he => absurd he (by simp), fun _ => rfl⟩
  refine wpAny_bind (wpAny_pure (wpAny_bind (wpAny_bind (wpAny_loadPart hx (wpAny_bind ((looks_clsIn X rfl).here ?_))))))
  dsimp only
  rw [if_neg (by decide)]
  refine wpAny_bind (wpAny_alloc' ?_)
  refine wpAny_bind (wpAny_update' hx₁ ?_)
  refine wpAny_pure ?_
  show wpAny _ _ (storeInDict h.objs.size (.str _ _) _ v) _ _ _
  unfold storeInDict newKeyGuard
  refine wpAny_bind (wpAny_pure (wpAny_bind (wpAny_nsSet1 (Heap.Ns1.of_empty hnd) fun h' hn' hs => ?_)))
  obtain ⟨oD, esD, epD, hoD, hdD, hcD⟩ := hn'.count (Within.cons _ v Within.nil)
  refine wpAny_bind (wpAny_lookBehind hoD (by rw [hdD]; exact pastItsLine_dict (Nat.le_trans hcD (by rw [List.length_cons, List.length_nil, sizeLine_eq]; omega))) ?_)
  refine wpAny_pure ?_
  refine hq h' _ h.objs.size (fun b o hb ho => (hs.2 b (Nat.ne_of_lt (Heap.lt_size ho))).trans ((Heap.get?_update_ne _ _ _ _ hb).trans (Heap.get?_push_of_some _ ho))) ?_
  exact (hs.2 e hxs).trans (Heap.get?_update_self _ hx₁ rfl)
end
end Mine
end

section
open PySem PySem.W PyProof.Rows PySem.Calls
set_option maxRecDepth 100000
set_option maxHeartbeats 4000000
namespace Mine
local macro_rules | `(tactic| wp_step) => `(tactic| first
  | with_reducible (first
      | refine wpAny_pure ?_ | refine wpAny_bind ?_ | refine wpAny_holding ?_ | refine wpAny_standAt ?_ | refine wpAny_point ?_ | refine wpAny_rule ?_ | refine wpAny_letGo ?_ | refine wpAny_mkInt' ?_ | refine wpAny_fresh' ?_
      | refine wpAny_alloc' ?_ | refine wpAny_attempt ?_ | refine wpAny_throw ?_ | refine wpAny_of_eq (by assumption) ?_ | refine wpAny_typeOf (by assumption) ?_ | refine wpAny_specialOf_val (by assumption) (by assumption) ?_ | refine wpAny_specialOf (by assumption) (by assumption) ?_
      | refine wpAny_isInstance_val (by assumption) (by assumption) ?_ | refine wpAny_isInstance (by assumption) (by assumption) ?_ | refine wpAny_call ?_ | refine wpAny_runValue ?_ | refine wpAny_run ?_)
  | ((with_reducible refine' wpAny_mkStr' ?hw2 ?hw1); (case hw1 => size_fits))
  | ((with_reducible refine' PySem.wpAny_load' ?hw1 ?hw2); (case hw1 => (heap_get; done)))
  | ((with_reducible refine' PySem.wpAny_update' ?hw1 ?hw2); (case hw1 => (heap_get; done)))
  | ((with_reducible refine' PySem.wpAny_loadPart' ?hw1 ?hw2); (case hw1 => (heap_get; done)))
  | ((with_reducible refine' PySem.wpAny_updatePart' ?hw1 ?hw2); (case hw1 => (heap_get; done)))
  | ((with_reducible refine' wpAny_handled_none ?hw1 ?hw2); (case hw1 => assumption))
  | ((with_reducible refine' wpAny_ite_false ?hw1 ?hw2); (case hw1 => rfl))
  | ((with_reducible refine' wpAny_ite_true ?hw1 ?hw2); (case hw1 => rfl))
  | ((with_reducible refine' wpAny_ite_false ?hw1 ?hw2); (case hw1 => (simp [*]; done)))
  | ((with_reducible refine' wpAny_ite_true ?hw1 ?hw2); (case hw1 => (simp [*]; done)))
  | wp_delta
  | with_reducible_and_instances refine wpAny_pure ?_
  | with_reducible_and_instances refine wpAny_bind ?_)
theorem slot_wget : Slot "wrapper_descriptor" "__get__" "wrapper_descriptor.__get__" := .of (owner := "wrapper_descriptor") (n := "__get__") (by rw [PySem.W.Fast.te1381439984260040727]; kernel_rfl) (by decide +kernel) (by decide +kernel) (by decide +kernel)
  (by first | exact .inl (by decide +kernel) | exact .inr (by decide +kernel)) (by rw [PySem.W.Fast.te16098473122060591676]; kernel_rfl)
theorem entry_wget : entryFor table "wrapper_descriptor.__get__" = some Builtin.«wrapper_descriptor.__get__» := entryFor_of_tree (by kernel_rfl)
theorem args_wget (a b c : Value) : argsOk "wrapper_descriptor.__get__" ⟨[a, b, c], []⟩ := by unfold argsOk; rw [PySem.W.Fast.signatureY_eq, PySem.W.Fast.te16078263539434579649]; kernel_rfl
theorem type_init : typeOf (.builtin "Exception.__init__") = pure (.type "wrapper_descriptor") := by
  show builtinType _ = _
  rw [builtinType_eq_fast]
  kernel_rfl
section
variable {prog : Program} {w : World} {A : Around} {E : Value → Shared → Prop} {h : Heap} {g : Array GenState} {d : Drawn} {t : Nat} {os : OsState} {P : Params}
theorem wget_run {x : Addr} {vs : Array Value} {Q : Fin → Shared → Prop} (X : (Mine.kk.heap_1 P).In h) (hx : h.get? x = some ⟨.ref 694, none, .fields vs, #[]⟩)
    (hq : Q (.done (.ret (.ref h.objs.size))) ⟨h.push { cls := .type "method-wrapper", data := .fields #[.builtin "Exception.__init__", .ref x] }, g, d, t, os⟩) :
    wpAny (model prog w) A (Builtin.«wrapper_descriptor.__get__» ⟨[.builtin "Exception.__init__", .ref x, .ref 694], []⟩) Q E ⟨h, g, d, t, os⟩ := by
  have I := obj_of hx
  have sub : Looks (model prog w) h (isInstance (.ref x) (.type "Exception")) true := I.type.andThen (looks_mroIn X (by kernel_rfl))
  unfold Builtin.«wrapper_descriptor.__get__»
  have nm : ".".intercalate ("Exception.__init__".cutAt '.').dropLast = "Exception" := by decide +kernel
  have hC := X 694 _ rfl
  repeat lk
  all_goals first | exact hq
theorem super_ga {so x : Addr} {tk : Tok} {vs : Array Value} {Q : Fin → Shared → Prop} (X : (Mine.kk.heap_1 P).In h)
    (hso : h.get? so = some { cls := .type "super", dict := none, data := .fields #[.ref 694, .ref x, .ref 694], slots := #[] }) (hx : h.get? x = some ⟨.ref 694, none, .fields vs, #[]⟩)
    (hq : Q (.done (.ret (.ref h.objs.size))) ⟨h.push { cls := .type "method-wrapper", data := .fields #[.builtin "Exception.__init__", .ref x] }, g, d, t, os⟩) :
    wpAny (model prog w) A (Builtin.«super.__getattribute__» ⟨[.ref so, .str (PySem.Str.ofString "__init__") tk], []⟩) Q E ⟨h, g, d, t, os⟩ := by
  have hlk := slot_wget.lookup
  have hxC : x ≠ 694 := fun e => by have := X 694 _ rfl; rw [← e, hx] at this; cases this
  have hne : (Value.ref x == Value.ref 694) = false := by simp [hxC]
  have hdt : ({ cls := .type "super", dict := none, data := .fields #[.ref 694, .ref x, .ref 694], slots := #[] } : Obj).data = .fields #[.ref 694, .ref x, .ref 694] := rfl
  have f0 : (#[.ref 694, .ref x, .ref 694] : Array Value)[0]? = some (.ref 694) := rfl
  have f1 : (#[.ref 694, .ref x, .ref 694] : Array Value)[1]? = some (.ref x) := rfl
  have f2 : (#[.ref 694, .ref x, .ref 694] : Array Value)[2]? = some (.ref 694) := rfl
  have hno : Looks (model prog w) h (opaqueClassAbove (.ref 694)) none := looks_opaque X (by kernel_rfl)
  have hC : Looks (model prog w) h (mroOf (.ref 694)) [.ref 694, .ref 630, .type "Exception", .type "BaseException", .type "object"] := (looks_clsIn X rfl).andThen .now
  have hl : ([.ref 694, .ref 630, .type "Exception", .type "BaseException", .type "object"].dropWhile (· != Value.ref 694)).drop 1 = [Value.ref 630, .type "Exception", .type "BaseException", .type "object"] := by decide +kernel
  have hf : alongIn (Mine.kk.heap_1 P) (PySem.Str.ofString "__init__") [Value.ref 630, .type "Exception", .type "BaseException", .type "object"] = some (some (.builtin "Exception.__init__")) := by kernel_rfl
  have hT : (⟨h, g, d, t, os⟩ : Shared).TypeIs (.builtin "Exception.__init__") "wrapper_descriptor" := type_init
  unfold Builtin.«super.__getattribute__»
  repeat (first
    | (with_reducible refine wpAny_field hso hdt f0 ?_) | (with_reducible refine wpAny_field hso hdt f1 ?_) | (with_reducible refine wpAny_field hso hdt f2 ?_)
    | (with_reducible refine ks_wpAny_notOpaque hno ?_)
    | (with_reducible refine Looks.at hC ?_; rw [hl])
    | (refine ks_forIn_along X (fun _ _ => rfl) rfl ?_ hf)
    | (with_reducible refine wpAny_typeOf hT ?_)
    | (with_reducible refine wpAny_call_entry slot_wget hT entry_wget ?_ (args_wget _ _ _); refine wget_run X hx ?_)
    | (with_reducible refine ⟨_, rfl, ?_⟩)
    | (simp only [hne, Bool.or_false, Bool.false_eq_true, if_false])
    | wp_step
    | dsimp only)
  all_goals first | exact hq
end
end Mine
end

section
open PySem PySem.W PyProof.Rows PySem.Calls
set_option maxRecDepth 100000
set_option maxHeartbeats 4000000
namespace Mine
local macro_rules | `(tactic| wp_step) => `(tactic| first
  | with_reducible (first
      | refine wpAny_pure ?_ | refine wpAny_bind ?_ | refine wpAny_holding ?_ | refine wpAny_standAt ?_ | refine wpAny_point ?_ | refine wpAny_rule ?_ | refine wpAny_letGo ?_ | refine wpAny_mkInt' ?_ | refine wpAny_fresh' ?_
      | refine wpAny_alloc' ?_ | refine wpAny_attempt ?_ | refine wpAny_throw ?_ | refine wpAny_of_eq (by assumption) ?_ | refine wpAny_typeOf (by assumption) ?_ | refine wpAny_specialOf_val (by assumption) (by assumption) ?_ | refine wpAny_specialOf (by assumption) (by assumption) ?_
      | refine wpAny_isInstance_val (by assumption) (by assumption) ?_ | refine wpAny_isInstance (by assumption) (by assumption) ?_ | refine wpAny_call ?_ | refine wpAny_runValue ?_ | refine wpAny_run ?_)
  | ((with_reducible refine' wpAny_mkStr' ?hw2 ?hw1); (case hw1 => size_fits))
  | ((with_reducible refine' PySem.wpAny_load' ?hw1 ?hw2); (case hw1 => (heap_get; done)))
  | ((with_reducible refine' PySem.wpAny_update' ?hw1 ?hw2); (case hw1 => (heap_get; done)))
  | ((with_reducible refine' PySem.wpAny_loadPart' ?hw1 ?hw2); (case hw1 => (heap_get; done)))
  | ((with_reducible refine' PySem.wpAny_updatePart' ?hw1 ?hw2); (case hw1 => (heap_get; done)))
  | ((with_reducible refine' wpAny_handled_none ?hw1 ?hw2); (case hw1 => assumption))
  | ((with_reducible refine' wpAny_ite_false ?hw1 ?hw2); (case hw1 => rfl))
  | ((with_reducible refine' wpAny_ite_true ?hw1 ?hw2); (case hw1 => rfl))
  | ((with_reducible refine' wpAny_ite_false ?hw1 ?hw2); (case hw1 => (simp [*]; done)))
  | ((with_reducible refine' wpAny_ite_true ?hw1 ?hw2); (case hw1 => (simp [*]; done)))
  | wp_delta
  | with_reducible_and_instances refine wpAny_pure ?_
  | with_reducible_and_instances refine wpAny_bind ?_)
/-- a bound Exception.__init__ -/
abbrev mwObj (x : Addr) : Obj := { cls := .type "method-wrapper", dict := none, data := .fields #[.builtin "Exception.__init__", .ref x], slots := #[] }
section
variable {prog : Program} {w : World} {A : Around} {E : Value → Shared → Prop} {h : Heap} {g : Array GenState} {d : Drawn} {t : Nat} {os : OsState} {P : Params}
theorem super_method {so x : Addr} {vs : Array Value} {pl : Sem Bool} {Q : Value × List Value → Shared → Prop} (X : (Mine.kk.heap_1 P).In h)
    (hso : h.get? so = some { cls := .type "super", dict := none, data := .fields #[.ref 694, .ref x, .ref 694], slots := #[] }) (hx : h.get? x = some ⟨.ref 694, none, .fields vs, #[]⟩)
    (hq : Q (.ref h.objs.size, []) ⟨h.push (mwObj x), g, d, t + 1, os⟩) :
    wpAny (model prog w) A (getMethod (.ref so) (PySem.Str.ofString "__init__") pl) Q E ⟨h, g, d, t, os⟩ := by
  have hlk := PySem.F.ks_slot_super_ga.lookup
  have hT : ∀ t', (⟨h, g, d, t', os⟩ : Shared).TypeIs (.ref so) "super" := fun _ => ⟨_, hso, rfl⟩
  unfold getMethod
  refine wpAny_bind (wpAny_specialOf (hT _) hlk ?_)
  show wpAny _ _ (if (Manifest.canonical "super.__getattribute__" != "object.__getattribute__") = true then _ else _) _ _ _
  rw [if_pos PySem.F.ks_canon_super_ga]
  unfold getAttr getAttrBy
  refine wpAny_bind (wpAny_bind (wpAny_mkText (wpAny_holding (wpAny_bind (wpAny_typeOf (hT _) (wpAny_bind (wpAny_of_eq hlk ?_)))))))
  show wpAny _ _ (getAttrByItsOwn (.ref so) (.str _ t) (.type "super") (.builtin "super.__getattribute__") true false) _ _ _
  unfold getAttrByItsOwn hookBefore callGetattribute boundAndCalled
  refine wpAny_bind (wpAny_of_eq (show (if onTheHeap (.type "super") then typeLookup (.type "super") "__getattr__" else pure none) = pure none from rfl) ?_)
  refine wpAny_bind (wpAny_attempt (wpAny_holding ?_))
  show wpAny _ _ (bindSpecial (.builtin "super.__getattribute__") (.ref so) >>= _) _ _ _
  refine wpAny_bind (wpAny_of_eq (PySem.F.ks_slot_super_ga.bind _) ?_)
  refine wpAny_mono (Q := fun v s' => v = .ref h.objs.size ∧ s' = ⟨h.push (mwObj x), g, d, t + 1, os⟩) (E := fun _ _ => False)
    (wpAny_call_entry PySem.F.ks_slot_super_ga (hT _) PySem.F.ks_entry_super_ga (super_ga X hso hx ⟨_, rfl, rfl, rfl⟩) (PySem.F.ks_gaArgs_super _ _)) (fun v s' hv => ?_) fun _ _ z => z.elim
  obtain ⟨rfl, rfl⟩ := hv
  exact wpAny_pure (wpAny_pure hq)
/-- the base's __init__ through the wrapper -/
theorem wrapper_call {q x b0 : Addr} {v : Value} {Q : Value → Shared → Prop} (X : (Mine.kk.heap_1 P).In h)
    (hw : h.get? q = some (mwObj x)) (hx : h.get? x = some ⟨.ref 694, none, .fields #[.ref b0, .none, .none, .none, .bool false, .none], #[]⟩)
    (hq : ∀ h' a0, (∀ b o, b ≠ x → h.get? b = some o → h'.get? b = some o) → h'.get? x = some ⟨.ref 694, none, .fields #[a0, .none, .none, .none, .bool false, .none], #[]⟩ → Q .none ⟨h', g, d, t, os⟩) :
    wpAny (model prog w) A (call (.ref q) [v]) Q E ⟨h, g, d, t, os⟩ := by
  have F := PySem.F.excBase_Exception
  refine wpAny_call (codeAny_of_tree ?_)
  show wpAny _ _ (callAny (.ref q) _) _ _ _
  unfold callAny
  refine wpAny_bind (wpAny_load hw ?_)
  dsimp only
  rw [if_pos (by decide)]
  show wpAny _ _ (if (Value.type "method-wrapper" != Value.type "method") = true then _ else _) _ _ _
  rw [if_pos (by decide)]
  refine wpAny_bind ?_
  simp only [checkBoundCall, F.initRow, F.initKind]
  have hC := X 694 _ rfl
  rw [if_pos (by decide)]
  have hshort := F.noStar
  show wpAny _ _ (Bind.checkArgs _ _ ⟨[.ref x, v], []⟩) _ _ _
  repeat (first | with_reducible refine wpAny_loadPart_at hx ?_ | with_reducible refine wpAny_loadPart_at hC ?_ | wp_step)
  refine ⟨Code.quiet_builtin _ (by decide +kernel), codeAny_builtin F.initEntry ?_⟩
  unfold Builtin.«BaseException.__init__»
  wp_walk
  refine hq _ (.ref h.objs.size) (fun b o hb ho => ?_) ?_
  · rw [Heap.get?_update_other _ _ (Ne.symm hb)]
    exact Heap.get?_push_of_some _ ho
  · rw [Heap.get?_update_self _ (Heap.get?_push_of_some _ hx) rfl]
    rfl
end
end Mine
end

section
open PySem PySem.W PyProof.Rows PySem.Calls
set_option maxRecDepth 100000
set_option maxHeartbeats 4000000
namespace Mine
theorem ns_but {h h' : Heap} {e L : Addr} {m : PySem.Str → Option Value} (hn : h.Ns L m) (hL : L ≠ e) (k : ∀ b o, b ≠ e → h.get? b = some o → h'.get? b = some o) : h'.Ns L m := by
  obtain ⟨o, es, ep, ho, r⟩ := hn
  exact ⟨o, es, ep, k _ _ hL ho, r⟩
theorem in_but {K : Frag} {h h' : Heap} {e : Addr} (X : K.In h) (hK : K.lookup e = none) (k : ∀ b o, b ≠ e → h.get? b = some o → h'.get? b = some o) : K.In h' := fun a o ho => k a o (by rintro rfl; rw [hK] at ho; cases ho) (X a o ho)
theorem keeper_mw {M : Model} {A : Around} {E : Value → Shared → Prop} {s : Shared} {q x : Addr} {Q : Keeper → Shared → Prop} (hw : s.heap.get? q = some (mwObj x)) (h : Q .machine s) : wpAny M A (keeperOf (.ref q)) Q E s := by
  unfold keeperOf
  exact wpAny_bind (wpAny_load hw (wpAny_pure h))
section
variable {w : World} {A : Around} {s : Shared} {R : Result → Shared → Prop} {p : Program} {loose : List PySem.Str} {mean : ExcName → Option Value} {mg mb : PySem.Str → Option Value} {e b0 : Addr} {msg v : Value}
theorem init691 (hK : (Mine.kk.heap_1 w.params).lookup e = none) (hroom : A.depth < recursionLimit) (X : (Mine.kk.heap_1 w.params).In s.heap) (T : Top p loose mean mg mb s.heap)
    (he : s.heap.get? e = some ⟨.ref 694, none, .fields #[.ref b0, .none, .none, .none, .bool false, .none], #[]⟩)
    (hq : ∀ h' tk' dx a0, (∀ b o, b ≠ e → s.heap.get? b = some o → h'.get? b = some o) → h'.get? e = some ⟨.ref 694, some dx, .fields #[a0, .none, .none, .none, .bool false, .none], #[]⟩ → R (.ok (.ret .none)) { s with heap := h', toks := tk' }) :
    codeAny (model PySem.Challenge.rw_vn0014_01.prog w) A (.call (.ref 691) ⟨[.ref e, msg, v], []⟩) R s := by
  have e0 := X 691 _ rfl
  refine ks_codeAny_call_defAt (binds := [(PySem.Str.ofString "self", .ref e), (PySem.Str.ofString "message", msg), (PySem.Str.ofString "obj", v)]) hroom e0 rfl T.nolimit (codeRec_of X (by kernel_rfl)) rfl (BindsTo.of_eq rfl) (by decide) (by intro x hx; simp only [List.mem_cons, List.not_mem_nil, or_false] at hx; rcases hx with rfl | rfl | rfl <;> rfl) ?go
  case go =>
    intro h₁ hns hk₁
    have F : Fr s.heap s.heap.objs.size h₁ _ := ⟨hns, hk₁, Nat.le_refl _⟩
    refine ks_wpAt_execs_cons (ks_wpAt_Expr_any (ks_wpAt_MethodCall ?_))
    refine ks_node (x := e) (C := 694) F X News.nil T (by rfl) (by rfl) (by rfl) (obj_of (hk₁ _ _ he)) (by rfl) (by rfl) (by first | rfl | decide +kernel) (by rfl) (by rfl) (by kernel_rfl) (by kernel_rfl) (by decide) (by rfl) (by rfl) (by rfl) (by rfl) (by decide +kernel) (by first | boot_by_name | rfl | kernel_rfl) ?_
    intro so h2 F2 N2 _
    have hso := (N2 (so, ks_superObj 694 e 694) (.head _)).1
    have he2 := F2.keep _ _ he
    have X2 := X.keeps F2.keep
    refine super_method X2 hso he2 ?_
    dsimp only
    have up : ∀ b o, h2.get? b = some o → (h2.push (mwObj e)).get? b = some o := fun b o eb => Heap.get?_push_of_some _ eb
    have F3 : Fr s.heap s.heap.objs.size (h2.push (mwObj e)) _ := F2.keeps up
    have hmw : (h2.push (mwObj e)).get? h2.objs.size = some (mwObj e) := Heap.get?_push_at rfl rfl
    have he3 := up _ _ he2
    unfold callWith
    refine wpAny_bind (wpAny_holding (Calls.evalArgs_plain (Calls.spliced_cons ?_)))
    refine wpAny_Name (wpAny_loadName_local rfl rfl F3.ns rfl (Calls.spliced_nil (wpAny_bind (wpAny_standAt ?_)))) (by decide)
    dsimp only
    refine wpAny_bind (keeper_mw hmw ?_)
    refine wpAny_bind (wrapper_call (X.keeps F3.keep) hmw he3 fun h4 a0 k4 he4 => wpAny_bind (wpAny_holding (wpAny_point (wpAny_pure ?_))))
    have kk : ∀ b o, b ≠ e → s.heap.get? b = some o → h4.get? b = some o := fun b o hb ho => k4 b o hb (F3.keep b o ho)
    have hL : @Ne Nat s.heap.objs.size e := Nat.ne_of_gt (Heap.lt_size he)
    have n4 := ns_but F3.ns hL k4
    refine ks_wpAt_execs_cons (ks_wpAt_Assign_Attr (wpAt_of_wpAny ?_))
    refine wpAny_Name (wpAny_loadName_local rfl rfl n4 rfl ?_) (by decide)
    refine wpAny_Name (wpAny_loadName_local rfl rfl n4 rfl ?_) (by decide)
    refine sa694 (P := w.params) (in_but X hK kk) he4 fun h5 tk5 dx k5 he5 => ?_
    refine wpAt_of_wpAny (wpAny_pure ?_)
    exact hq h5 tk5 dx a0 (fun b o hb ho => k5 b o hb (kk b o hb ho)) he5
end
end Mine
end

section
open PySem PySem.W PyProof.Rows PySem.Calls
set_option maxRecDepth 100000
set_option maxHeartbeats 4000000
namespace Mine
theorem ns693 {P : Params} {h : Heap} (X : (Mine.kk.heap_1 P).In h) : ∃ m, h.Ns 693 m ∧ m "__init__" = some (.ref 691) := by
  refine ⟨_, ⟨_, _, _, X 693 _ rfl, rfl, ?_, fun _ => rfl⟩, by rfl⟩
  intro e he
  simp only [List.mem_cons, List.not_mem_nil, or_false, Array.mem_def] at he
  rcases he with rfl | rfl | rfl | rfl | rfl <;> exact ⟨_, _, rfl⟩
theorem ns629 {P : Params} {h : Heap} (X : (Mine.kk.heap_1 P).In h) : ∃ m, h.Ns 629 m ∧ m "__init__" = none := by
  refine ⟨_, ⟨_, _, _, X 629 _ rfl, rfl, ?_, fun _ => rfl⟩, by rfl⟩
  intro e he
  simp only [List.mem_cons, List.not_mem_nil, or_false, Array.mem_def] at he
  rcases he with rfl | rfl | rfl | rfl | rfl <;> exact ⟨_, _, rfl⟩
section
variable {w : World} {A : Around} {E : Value → Shared → Prop} {s : Shared} {p : Program} {loose : List PySem.Str} {mean : ExcName → Option Value} {mg mb : PySem.Str → Option Value} {msg v : Value}
theorem call694 {Q : Value → Shared → Prop} (hroom : A.depth + 1 < recursionLimit) (X : (Mine.kk.heap_1 w.params).In s.heap) (T : Top p loose mean mg mb s.heap)
    (hq : ∀ h' tk' e dx a0, (∀ b o, s.heap.get? b = some o → h'.get? b = some o) → s.heap.get? e = none → h'.get? e = some ⟨.ref 694, some dx, .fields #[a0, .none, .none, .none, .bool false, .none], #[]⟩ → Q (.ref e) { s with heap := h', toks := tk' }) :
    wpAny (model PySem.Challenge.rw_vn0014_01.prog w) A (call (.ref 694) [msg, v]) Q E s := by
  obtain ⟨mN, n1, n2⟩ := ns693 X
  obtain ⟨mR, r1, r2⟩ := ns629 X
  have hC := X 694 _ rfl
  have hR := X 630 _ rfl
  have hf := X 691 _ rfl
  have up : ∀ b o, s.heap.get? b = some o → (exHeap s.heap 694 [msg, v]).get? b = some o := fun b o eb => Heap.get?_push_of_some _ (Heap.get?_push_of_some _ eb)
  have fresh : s.heap.get? (s.heap.objs.size + 1) = none := by
    cases q : s.heap.get? (s.heap.objs.size + 1) with
    | none => rfl
    | some o => exact absurd (Heap.lt_size q) (Nat.not_lt.mpr (Nat.le_succ _))
  obtain ⟨h, g, d, t, os⟩ := s
  refine exc_call PySem.F.excBase_Exception (.own hR r1 r2 .base) hC n1 n2 hf rfl ?_
  refine init691 (s := ⟨exHeap h 694 [msg, v], g, d, t, os⟩) (b0 := h.objs.size) ?_ ?_ (X.keeps up) (T.keeps up) ?_ ?_
  · cases q : (Mine.kk.heap_1 w.params).lookup (h.objs.size + 1) with
    | none => rfl
    | some o => have := X _ _ q; rw [fresh] at this; cases this
  · exact hroom
  · exact Heap.get?_push_at (by simp only [Heap.size_push]) rfl
  · intro h' tk' dx a0 k e
    refine ⟨rfl, hq h' tk' _ dx a0 (fun b o eb => k b o (fun z => by rw [z, fresh] at eb; cases eb) (up b o eb)) fresh e⟩
end
end Mine
end

section
open PySem PySem.W PyProof.Rows PySem.Calls
set_option maxRecDepth 100000
set_option maxHeartbeats 8000000
namespace Mine
local macro_rules | `(tactic| wp_step) => `(tactic| first
  | with_reducible (first
      | refine wpAny_pure ?_ | refine wpAny_bind ?_ | refine wpAny_holding ?_ | refine wpAny_standAt ?_ | refine wpAny_point ?_ | refine wpAny_rule ?_ | refine wpAny_letGo ?_ | refine wpAny_mkInt' ?_ | refine wpAny_fresh' ?_
      | refine wpAny_alloc' ?_ | refine wpAny_attempt ?_ | refine wpAny_throw ?_ | refine wpAny_of_eq (by assumption) ?_ | refine wpAny_typeOf (by assumption) ?_ | refine wpAny_specialOf_val (by assumption) (by assumption) ?_ | refine wpAny_specialOf (by assumption) (by assumption) ?_
      | refine wpAny_isInstance_val (by assumption) (by assumption) ?_ | refine wpAny_isInstance (by assumption) (by assumption) ?_ | refine wpAny_call ?_ | refine wpAny_runValue ?_ | refine wpAny_run ?_)
  | ((with_reducible refine' wpAny_mkStr' ?hw2 ?hw1); (case hw1 => size_fits))
  | ((with_reducible refine' PySem.wpAny_load' ?hw1 ?hw2); (case hw1 => (heap_get; done)))
  | ((with_reducible refine' PySem.wpAny_update' ?hw1 ?hw2); (case hw1 => (heap_get; done)))
  | ((with_reducible refine' PySem.wpAny_loadPart' ?hw1 ?hw2); (case hw1 => (heap_get; done)))
  | ((with_reducible refine' PySem.wpAny_updatePart' ?hw1 ?hw2); (case hw1 => (heap_get; done)))
  | ((with_reducible refine' wpAny_handled_none ?hw1 ?hw2); (case hw1 => assumption))
  | ((with_reducible refine' wpAny_ite_false ?hw1 ?hw2); (case hw1 => rfl))
  | ((with_reducible refine' wpAny_ite_true ?hw1 ?hw2); (case hw1 => rfl))
  | ((with_reducible refine' wpAny_ite_false ?hw1 ?hw2); (case hw1 => (simp [*]; done)))
  | ((with_reducible refine' wpAny_ite_true ?hw1 ?hw2); (case hw1 => (simp [*]; done)))
  | wp_delta
  | with_reducible_and_instances refine wpAny_pure ?_
  | with_reducible_and_instances refine wpAny_bind ?_)
/-- what may be raised: an exception of class 694 -/
def RaisableO (P : Params) (E : Value → Shared → Prop) (v : Value) (s : Shared) : Prop :=
  ∃ e dx a0, v = .ref e ∧ (Mine.kk.heap_1 P).In s.heap ∧ s.heap.get? e = some ⟨.ref 694, some dx, .fields #[a0, .none, .none, .none, .bool false, .none], #[]⟩ ∧ E (.ref e) s
theorem raise694 {prog : Program} {w : World} {A : Around} {E : Value → Shared → Prop} {s : Shared} {env : Env} {x : Expr} {pos : Pos} {Q : Flow → Shared → Prop} (hh : A.handled = none)
    (h : wpAny (model prog w) A (eval x env) (RaisableO w.params E) E s) : wpAny (model prog w) A (exec (.Raise (some x) none pos) env) Q E s := by
  rw [arm_exec_Raise]
  refine wpAny_bind (wpAny_standAt ?_)
  unfold raiseStmt
  refine wpAny_bind (wpAny_bind (wpAny_mono h (fun v s₁ h₁ => ?_) fun _ _ x => x))
  obtain ⟨e, dx, a0, rfl, X, he, hE⟩ := h₁
  obtain ⟨hp, g, d, tk, os⟩ := s₁
  have hC := X 694 _ rfl
  repeat (first | with_reducible refine wpAny_loadPart_at he ?_ | with_reducible refine wpAny_loadPart_at hC ?_ | (with_reducible refine wpAny_isSubtype_exc hC ?_) | wp_step)
  exact wpAny_raiseNew_none hh hE
section
variable {M : Model} {A : Around} {E : Value → Shared → Prop} {s' : Shared} {base g h : Heap} {outer : List Env} {L a e : Addr} {m : PySem.Str → Option Value} {name : PySem.Str} {scope : Scope} {cd : Value} {Q : Unit → Shared → Prop} {news : List (Addr × Obj)}
theorem leave_exc {ob : Obj} {vs : Array Value} {a0 : Value} (K : Below A base outer g) (F : Fr g L h m) (N : News g L h news) (keep : ∀ b o, h.get? b = some o → s'.heap.get? b = some o) (new : h.get? e = none)
    (he : s'.heap.get? e = some ob) (hd : ob.data = .fields vs) (h1 : vs[1]? = some .none) (h0 : vs[0]? = some a0)
    (hQ : ∀ h', RaisedN base outer e ob.cls news h' → g.UpToSlots h' → Q () { s' with heap := h' }) (hk : scope.kind = .function := by rfl) :
    wpAny M (A.deeper (envOf name scope L a cd)) («leaving» (envOf name scope L a cd) (.ref e)) Q E s' := by
  have K' := K.push (name := name) (a := a) (cd := cd) F hk
  have hid : ∀ b o, (hideAll h ((envOf name scope L a cd :: outer).filterMap (·.frame))).get? b = some o → s'.heap.get? b = some o := fun b o z => keep b o (of_hideAll _ z)
  have gone : (hideAll h ((envOf name scope L a cd :: outer).filterMap (·.frame))).get? e = none := by
    rcases z : (hideAll h ((envOf name scope L a cd :: outer).filterMap (·.frame))).get? e with _ | o
    · exact z
    · exact absurd ((of_hideAll _ z).symm.trans new) (by simp)
  refine wpAny_leaving_firstW (a0 := a0) K'.stack ((funFrames_hide K'.frames fun env hv b hb => List.mem_filterMap.mpr ⟨env, hv, hb⟩).of_keeps fun b o hb _ => ⟨o, keep b o hb, rfl⟩) rfl he hid gone hd h1 h0 fun h' hL => ?_
  obtain ⟨k1, ⟨_, _, k2⟩, k3, k4⟩ := hL
  refine hQ h' ⟨_, a0, fun b o z => hideAll_get _ (K'.stays b o z) fun hm => ?_, fun q hq => ⟨hideAll_get _ (N q hq).1 fun hm => ?_, fresh_of_stays K.stays (N q hq).2.2⟩, k1, gone, k2, k3⟩ (((Heap.UpToSlots.of_keeps F.keep).trans (Heap.UpToSlots.of_keeps keep)).trans k4)
  · rw [(K'.frames.mem hm).1] at z
    cases z
  · obtain ⟨env, hv, hf⟩ := List.mem_filterMap.mp hm
    rcases List.mem_cons.mp hv with rfl | hv
    · exact (N q hq).2.1 (Option.some.inj hf).symm
    · obtain ⟨o, ho, _⟩ := (K.frames.mem (List.mem_filterMap.mpr ⟨env, hv, hf⟩)).2
      exact absurd (ho.symm.trans (N q hq).2.2) (by simp)
end
end Mine
end

section
open PySem PySem.W PyProof.Rows PySem.Calls
local macro_rules | `(tactic| walk_at "exec Raise some none") => `(tactic| (k_here; (with_reducible show wpAny _ _ (exec (Stmt.Raise (some (Expr.Call _ _ _ _)) none _) _) _ _ _); refine Raise_new rfl ?_))
local macro_rules | `(tactic| walk_at "eval JoinedStr") => `(tactic| (k_here; exfalso; omega))
local macro_rules | `(tactic| walk_at "exec Raise some none") => `(tactic| (k_here; exfalso; omega))
local macro_rules | `(tactic| walk_at "call ref") => do let i_lnums := Lean.mkIdent `Mine.lnums; `(tactic| (k_here; (with_reducible show wpAny _ _ (call (Value.ref 1055) [Value.ref _, Value.int 9 _] []) _ _ _); k_dflt (refine' $i_lnums:ident _ _ _ _ _ ?c1 ?c2 _ _ _ _ _ _ _ _ _ _ _ _ _ _ _ _ _ _ _ _ _ _ _ ?kB ?kF ?kX ?kN ?kT ?kL ?kK ?kD ?kU ?_; (case c1 => assumption); (case c2 => assumption); (case kB => k_asm); (case kF => k_asm); (case kX => k_asm); (case kN => k_asm); (case kT => k_asm); (case kL => assumption); (case kK => first | exact rfl | assumption); (case kD => ktr_room); (case kU => ktr_units); k_whole); intro D' ys' ds' h' tk' F' N' hI' hl'; (try k_sweep); (try dsimp only); (try k_fold)))
local macro_rules | `(tactic| walk_at "subscriptTail") => do let i_ints_item := Lean.mkIdent `Mine.ints_item; let i_fm18 := Lean.mkIdent `Mine.fm18; `(tactic| (k_here; (with_reducible show wpAny _ _ (subscriptTail _ _ (Value.ref _) (Value.int _ _)) _ _ _); k_dflt (refine' $i_ints_item:ident ?c1 ?c2 ?c3 ?c4 ?c5 ?_; (case c1 => exact News.isList (by k_asm) (by k_mem)); (case c2 => assumption); (case c3 => exact ($i_fm18:ident _).1); (case c4 => exact ($i_fm18:ident _).2); (case c5 => decide); k_whole); intro x' t' hx'))
local macro_rules | `(tactic| walk_at "call ref") => do let i_lnum := Lean.mkIdent `Mine.lnum; `(tactic| (k_here; (with_reducible show wpAny _ _ (call (Value.ref 1062) [Value.int _ _] []) _ _ _); k_dflt (refine' Mine.Pure.use ($i_lnum:ident _ _ _) ?kB ?kF ?kX ?kN ?kT ?kK ?kD ?kU ?_; (case kB => k_asm); (case kF => k_asm); (case kX => k_asm); (case kN => k_asm); (case kT => k_asm); (case kK => first | exact rfl | assumption); (case kD => ktr_room); (case kU => ktr_units); k_whole); intro r' h' tk' F' N' hr'; (obtain ⟨v', t', e', hv0', hv1'⟩ := hr'; subst e'); (try k_sweep); (try dsimp only); (try k_fold)))
local macro_rules | `(tactic| walk_at "call builtin:int.to_bytes") => do let i_i2b_call := Lean.mkIdent `Mine.i2b_call; let i_nb_fdiv := Lean.mkIdent `Mine.nb_fdiv; `(tactic| (k_here; (with_reducible show wpAny _ _ (call (Value.builtin "int.to_bytes") [Value.int _ _, Value.int _ _, Value.str _ _]) _ _ _); (refine $i_i2b_call:ident (by omega) (by omega) ($i_nb_fdiv:ident _) ?_); intro _ _ _ hbe))
local macro_rules | `(tactic| walk_at "call ref") => do let i_i2b := Lean.mkIdent `Mine.i2b; `(tactic| (k_here; (with_reducible show wpAny _ _ (call (Value.ref 797) [Value.int _ _] []) _ _ _); k_dflt (refine' Mine.Pure.use ($i_i2b:ident _ _ _ ?c1 ?c2) ?kB ?kF ?kX ?kN ?kT ?kK ?kD ?kU ?_; (case c1 => omega); (case c2 => omega); (case kB => k_asm); (case kF => k_asm); (case kX => k_asm); (case kN => k_asm); (case kT => k_asm); (case kK => first | exact rfl | assumption); (case kD => ktr_room); (case kU => ktr_units); k_whole); intro r' h' tk' F' N' hr'; (obtain ⟨b', t', e', hbe⟩ := hr'; subst e'); (try k_sweep); (try dsimp only); (try k_fold)))
local macro_rules | `(tactic| walk_at "subscriptTail") => do let i_all_item := Lean.mkIdent `Mine.all_item; `(tactic| (k_here; (with_reducible show wpAny _ _ (subscriptTail _ _ (Value.ref 774) (Value.int _ _)) _ _ _); k_dflt (refine $i_all_item:ident (by k_asm) (by k_asm) (by omega) (by omega) ?_); intro b' t' hab'))
local macro_rules | `(tactic| walk_at "call ref") => do let i_lenp := Lean.mkIdent `Mine.lenp; `(tactic| (k_here; (with_reducible show wpAny _ _ (call (Value.ref 1014) [Value.int _ _, Value.int _ _] []) _ _ _); k_dflt (refine' Mine.Pure.use ($i_lenp:ident _ _ _ _ ?c1 ?c2) ?kB ?kF ?kX ?kN ?kT ?kK ?kD ?kU ?_; (case c1 => omega); (case c2 => omega); (case kB => k_asm); (case kF => k_asm); (case kX => k_asm); (case kN => k_asm); (case kT => k_asm); (case kK => first | exact rfl | assumption); (case kD => ktr_room); (case kU => ktr_units); k_whole); intro r' h' tk' F' N' hr'; (obtain ⟨b', t', e', hbl⟩ := hr'; subst e'); (try k_sweep); (try dsimp only); (try k_fold)))
local macro_rules | `(tactic| walk_at "call builtin:hasattr") => do let i_hasattr_int := Lean.mkIdent `Mine.hasattr_int; `(tactic| (k_here; k_dflt (refine $i_hasattr_int:ident (by rfl) ?_); intro h' tk' keep'; (have F' := Fr.keeps (by k_asm) keep'); (have N' := News.grown (by k_asm) keep'); clear keep'; (try k_sweep)))
local macro_rules | `(tactic| walk_at "getAttr int") => do let i_class_of_int := Lean.mkIdent `Mine.class_of_int; `(tactic| (k_here; k_dflt (refine $i_class_of_int:ident ?_)))
local macro_rules | `(tactic| walk_at "call ref") => do let i_isd := Lean.mkIdent `Mine.isd; `(tactic| (k_here; (with_reducible show wpAny _ _ (call (Value.ref 940) [Value.type _] []) _ _ _); k_dflt (refine' Mine.Pure.use ($i_isd:ident _) ?kB ?kF ?kX ?kN ?kT ?kK ?kD ?kU ?_; (case kB => k_asm); (case kF => k_asm); (case kX => k_asm); (case kN => k_asm); (case kT => k_asm); (case kK => first | exact rfl | assumption); (case kD => ktr_room); (case kU => ktr_units); k_whole); intro r' h' tk' F' N' hr'; subst hr'; (try k_sweep); (try dsimp only); (try k_fold)))
local macro_rules | `(tactic| walk_at "call ref") => do let i_ser := Lean.mkIdent `Mine.ser; `(tactic| (k_here; (with_reducible show wpAny _ _ (call (Value.ref 819) [Value.ref 835, Value.int _ _] []) _ _ _); k_dflt (refine' Mine.Pure.use ($i_ser:ident _ _ _ ?c1 ?c2) ?kB ?kF ?kX ?kN ?kT ?kK ?kD ?kU ?_; (case c1 => omega); (case c2 => omega); (case kB => k_asm); (case kF => k_asm); (case kX => k_asm); (case kN => k_asm); (case kT => k_asm); (case kK => first | exact rfl | assumption); (case kD => ktr_room); (case kU => ktr_units); k_whole); intro r' h' tk' F' N' hr'; (obtain ⟨b', t', e', hbs⟩ := hr'; subst e'); (try k_sweep); (try dsimp only); (try k_fold)))
local macro_rules | `(tactic| walk_at "call ref") => do let i_raw := Lean.mkIdent `Mine.raw; let i_be_len := Lean.mkIdent `Mine.be_len; let i_nb_le8 := Lean.mkIdent `Mine.nb_le8; `(tactic| (k_here; (with_reducible show wpAny _ _ (call (Value.ref 992) [Value.bytes _ _] []) _ _ _); k_dflt (refine' Mine.Pure.use ($i_raw:ident _ _ _ _ ?c1 ?c2) ?kB ?kF ?kX ?kN ?kT ?kK ?kD ?kU ?_; (case c1 => kba_ints2); (case c2 => first | omega | (rw [$i_be_len:ident]; exact $i_nb_le8:ident (by omega) (by omega))); (case kB => k_asm); (case kF => k_asm); (case kX => k_asm); (case kN => k_asm); (case kT => k_asm); (case kK => first | exact rfl | assumption); (case kD => ktr_room); (case kU => ktr_units); k_whole); intro r' h' tk' F' N' hr'; (obtain ⟨b', t', e', hbr⟩ := hr'; subst e'); (try k_sweep); (try dsimp only); (try k_fold)))
local macro_rules | `(tactic| walk_at "call ref") => do let i_inf := Lean.mkIdent `Mine.inf; `(tactic| (k_here; (with_reducible show wpAny _ _ (call (Value.ref 1050) [Value.int _ _] []) _ _ _); k_dflt (refine' Mine.Pure.use ($i_inf:ident _ _ _ ?c1) ?kB ?kF ?kX ?kN ?kT ?kK ?kD ?kU ?_; (case c1 => omega); (case kB => k_asm); (case kF => k_asm); (case kX => k_asm); (case kN => k_asm); (case kT => k_asm); (case kK => first | exact rfl | assumption); (case kD => ktr_room); (case kU => ktr_units); k_whole); intro r' h' tk' F' N' hr'; subst hr'; (try k_sweep); (try dsimp only); (try k_fold)))
local macro_rules | `(tactic| walk_at "getMethod type:int") => `(tactic| (k_here; (with_reducible refine' KFB.getm ?kfbF ?kfbN ?kfbX ?kfbE ?_); k_dflt ((case kfbF => k_asm); (case kfbN => k_asm); (case kfbX => k_asm); (case kfbE => k_is); k_whole; intro x' h' F' N' l1; (try k_lt l1); (try k_sweep))))
local macro_rules | `(tactic| walk_at "call ref") => do let i_isb := Lean.mkIdent `Mine.isb; `(tactic| (k_here; (with_reducible show wpAny _ _ (call (Value.ref 783) [Value.bytes _ _] []) _ _ _); k_dflt (refine' Mine.Pure.use ($i_isb:ident _ _ _) ?kB ?kF ?kX ?kN ?kT ?kK ?kD ?kU ?_; (case kB => k_asm); (case kF => k_asm); (case kX => k_asm); (case kN => k_asm); (case kT => k_asm); (case kK => first | exact rfl | assumption); (case kD => ktr_room); (case kU => ktr_units); k_whole); intro r' h' tk' F' N' hr'; subst hr'; (try k_sweep); (try dsimp only); (try k_fold)))
local macro_rules | `(tactic| walk_at "call builtin:object.__new__") => do let i_new_ownN := Lean.mkIdent `Mine.new_ownN; `(tactic| (k_here; (with_reducible show wpAny _ _ (call (Value.builtin "object.__new__") [Value.ref 357]) _ _ _); refine' $i_new_ownN:ident ?cF ?cN ?cX ?_; (case cF => k_asm); (case cN => k_asm); (case cX => k_asm); k_whole; intro x' dx' h' F' N' l1 l2; (try k_fold)))
local macro_rules | `(tactic| walk_at "call type:type") => `(tactic| ((with_reducible show wpAny _ _ (call _ [Value.bytes _ _]) _ _ _); refine call_type_of (Tx := "bytes") rfl (by decide +kernel) ?_))
local macro_rules | `(tactic| walk_at "call builtin:len") => do let i_ba_len := Lean.mkIdent `Mine.ba_len; `(tactic| (k_here; (with_reducible show wpAny _ _ (call (Value.builtin "len") [Value.ref _]) _ _ _); k_dflt (refine' $i_ba_len:ident ?c1 ?c2 ?_; (case c1 => exact News.get (by k_asm) (by k_mem)); (case c2 => assumption); k_whole)))
local macro_rules | `(tactic| walk_at "subscriptTail") => do let i_ba_tailN := Lean.mkIdent `Mine.ba_tailN; `(tactic| (k_here; (with_reducible show wpAny _ _ (subscriptTail _ _ (Value.ref _) (Value.ref _)) _ _ _); k_dflt (refine' $i_ba_tailN:ident ?c1 ?c2 ?c3 ?c4 ?c5 ?c6 ?c7 ?_; (case c1 => k_asm); (case c2 => k_asm); (case c3 => k_mem); (case c4 => assumption); (case c5 => omega); (case c6 => omega); (case c7 => omega); k_whole); intro D' h' F' N' l1; (try k_lt l1); (try k_sweep)))
local macro_rules | `(tactic| walk_at "call type:bytes") => do let i_ba_bytes := Lean.mkIdent `Mine.ba_bytes; let i_picked_small := Lean.mkIdent `Mine.picked_small; `(tactic| (k_here; (with_reducible show wpAny _ _ (call (Value.type "bytes") [Value.ref _]) _ _ _); k_dflt (refine' $i_ba_bytes:ident ?c1 ?c2 ?c3 ?_; (case c1 => rfl); (case c2 => exact News.get (by k_asm) (by k_mem)); (case c3 => first | assumption | exact $i_picked_small:ident (by assumption)); k_whole); intro t' k'))
local macro_rules | `(tactic| walk_at "subscriptTail") => do let i_item_at := Lean.mkIdent `Mine.item_at; `(tactic| (k_here; (with_reducible show wpAny _ _ (subscriptTail _ _ (Value.bytes _ _) (Value.int 0 _)) _ _ _); (refine $i_item_at:ident (by assumption) (by assumption) (by assumption) ?_); intro _ _))
local macro_rules | `(tactic| walk_at "subscriptTail") => do let i_ba_item2 := Lean.mkIdent `Mine.ba_item2; `(tactic| (k_here; (with_reducible show wpAny _ _ (subscriptTail _ _ (Value.ref _) (Value.int _ _)) _ _ _); k_dflt (refine' $i_ba_item2:ident ?c1 ?c2 ?c3 ?c4 ?c5 ?_; (case c1 => exact News.isList (by k_asm) (by k_mem)); (case c2 => assumption); (case c3 => omega); (case c4 => omega); (case c5 => omega); k_whole); intro b' t' hb'))
local macro_rules | `(tactic| walk_at "call ref") => do let i_tb := Lean.mkIdent `Mine.tb; `(tactic| (k_here; (with_reducible show wpAny _ _ (call (Value.ref 56) [Value.int _ _] []) _ _ _); k_dflt (refine' Mine.Pure.use ($i_tb:ident _ _ _ ?c1 ?c2) ?kB ?kF ?kX ?kN ?kT ?kK ?kD ?kU ?_; (case c1 => first | assumption | omega); (case c2 => first | assumption | omega); (case kB => k_asm); (case kF => k_asm); (case kX => k_asm); (case kN => k_asm); (case kT => k_asm); (case kK => first | exact rfl | assumption); (case kD => ktr_room); (case kU => ktr_units); k_whole); intro r' h' tk' F' N' hr'; (obtain ⟨b', t', e', hbc⟩ := hr'; subst e'); (try k_sweep); (try dsimp only); (try k_fold)))
local macro_rules | `(tactic| walk_at "call ref") => do let i_enc := Lean.mkIdent `Mine.enc; `(tactic| (k_here; (with_reducible show wpAny _ _ (call (Value.ref 1007) [Value.int _ _] []) _ _ _); k_dflt (refine' Mine.Pure.use ($i_enc:ident _ _ _ ?c1 ?c2) ?kB ?kF ?kX ?kN ?kT ?kK ?kD ?kU ?_; (case c1 => first | assumption | omega); (case c2 => first | assumption | omega); (case kB => k_asm); (case kF => k_asm); (case kX => k_asm); (case kN => k_asm); (case kT => k_asm); (case kK => first | exact rfl | assumption); (case kD => ktr_room); (case kU => ktr_units); k_whole); intro r' h' tk' F' N' hr'; (obtain ⟨b', t', e', hbe⟩ := hr'; subst e'); (try k_sweep); (try dsimp only); (try k_fold)))
local macro_rules | `(tactic| walk_at "call ref") => do let i_decv := Lean.mkIdent `Mine.decv; `(tactic| (k_here; (with_reducible show wpAny _ _ (call (Value.ref 1043) [Value.bytes _ _, Value.ref 835] []) _ _ _); k_dflt (refine' Mine.Calm.use ($i_decv:ident _ _ _ _ ?c1 ?c2 ?c3) ?kB ?kF ?kX ?kN ?kT ?kK ?kD ?kU ?_; (case c3 => assumption); (case c1 => assumption); (case c2 => assumption); (case kB => k_asm); (case kF => k_asm); (case kX => k_asm); (case kN => k_asm); (case kT => k_asm); (case kK => first | exact rfl | assumption); (case kD => ktr_room); (case kU => ktr_units); k_whole); intro r' h' tk' F' N' hr'; (k_dflt (obtain ⟨t', e'⟩ := hr'; subst e')); (try k_sweep); (try dsimp only); (try k_fold)))
local macro_rules | `(tactic| walk_at "binaryOp Pow int int") => do let i_pow16 := Lean.mkIdent `Mine.pow16; `(tactic| (k_here; (with_reducible show wpAny _ _ (binaryOp Operator.Pow (Value.int 2 _) (Value.int 16 _)) _ _ _); refine $i_pow16:ident ?_))
local macro_rules | `(tactic| walk_at "binaryOp Pow int int") => do let i_pow32 := Lean.mkIdent `Mine.pow32; `(tactic| (k_here; (with_reducible show wpAny _ _ (binaryOp Operator.Pow (Value.int 2 _) (Value.int 32 _)) _ _ _); refine $i_pow32:ident ?_))
local macro_rules | `(tactic| walk_at "call type:reversed") => do let i_rv_callN := Lean.mkIdent `Mine.rv_callN; let i_small_of := Lean.mkIdent `Mine.small_of; `(tactic| (k_here; (with_reducible show wpAny _ _ (call (Value.type "reversed") [Value.bytes _ _]) _ _ _); k_dflt (refine' $i_rv_callN:ident ?c1 ?c2 ?c3 ?_; (case c1 => k_asm); (case c2 => k_asm); (case c3 => (first | assumption | exact $i_small_of:ident (by assumption) (by assumption) | exact $i_small_of:ident (by assumption) (by (simp only [List.length_take, List.length_drop]; omega)))); k_whole); intro I' h' k' F' N' l1'))
local macro_rules | `(tactic| walk_at "call type:bytes") => do let i_rv_bytesN := Lean.mkIdent `Mine.rv_bytesN; let i_small_of := Lean.mkIdent `Mine.small_of; `(tactic| (k_here; (with_reducible show wpAny _ _ (call (Value.type "bytes") [Value.ref _]) _ _ _); k_dflt (refine' $i_rv_bytesN:ident ?c1 ?c2 ?c3 ?c4 ?c5 ?c6 ?_; (case c2 => k_asm); (case c1 => k_asm); (case c3 => assumption); (case c4 => rfl); (case c5 => assumption); (case c6 => (first | assumption | exact $i_small_of:ident (by assumption) (by assumption) | exact $i_small_of:ident (by assumption) (by (simp only [List.length_take, List.length_drop]; omega)))); k_whole); intro c' h' t' k' F' N' hc'))
local macro_rules | `(tactic| walk_at "loadName") => do let i_ldn := Lean.mkIdent `Mine.ldn; `(tactic| (k_here; (with_reducible show wpAny _ _ (loadName _ _) _ _ _); k_dflt (refine' $i_ldn:ident ?c1 ?c2 ?_; (case c1 => k_asm); (case c2 => exact rfl))))
local macro_rules | `(tactic| walk_at "subscriptTail") => do let i_item_is := Lean.mkIdent `Mine.item_is; `(tactic| (k_here; (with_reducible show wpAny _ _ (subscriptTail _ _ (Value.bytes _ _) (Value.int _ _)) _ _ _); k_dflt (refine $i_item_is:ident (by assumption) (by assumption) (by assumption) (by assumption) (by assumption) ?_); intro _ _))
local macro_rules | `(tactic| walk_at "call ref") => do let i_des := Lean.mkIdent `Mine.des; `(tactic| (k_here; (with_reducible show wpAny _ _ (call (Value.ref 826) [Value.ref 835, Value.bytes _ _] []) _ _ _); k_dflt (refine' Mine.Pure.use ($i_des:ident _ _ _ _ ?c1 ?c2 ?c3) ?kB ?kF ?kX ?kN ?kT ?kK ?kD ?kU ?_; (case c1 => kba_ints2); (case c2 => first | omega | assumption); (case c3 => first | assumption | omega); (case kB => k_asm); (case kF => k_asm); (case kX => k_asm); (case kN => k_asm); (case kT => k_asm); (case kK => first | exact rfl | assumption); (case kD => ktr_room); (case kU => ktr_units); k_whole); intro r' h' tk' F' N' hr'; (obtain ⟨t', e'⟩ := hr'; subst e'); (try k_sweep); (try dsimp only); (try k_fold)))
local macro_rules | `(tactic| walk_at "eval List") => `(tactic| wtm_at "x eval List")
local macro_rules | `(tactic| walk_at "exec Assign cons ListComp") => `(tactic| wtm_at "x exec Assign cons ListComp")
local macro_rules | `(tactic| walk_at "exec While") => `(tactic| wtm_at "x exec While")
local macro_rules | `(tactic| walk_at "WhlIf") => `(tactic| wtm_at "x WhlIf")
local macro_rules | `(tactic| walk_at "call ref") => `(tactic| wtm_at "x call ref")
local macro_rules | `(tactic| walk_at "eval Call Attribute") => `(tactic| wtm_at "x eval Call Attribute")
local macro_rules | `(tactic| walk_at "callWith ref") => `(tactic| wtm_at "x callWith ref")
local macro_rules | `(tactic| walk_at "getMethod bytes") => `(tactic| wtm_at "x getMethod bytes")
local macro_rules | `(tactic| walk_at "call builtin:bytes.join") => `(tactic| wtm_at "x call builtin:bytes.join")
local macro_rules | `(tactic| walk_at "CompSrc") => `(tactic| wtm_at "x CompSrc")
local macro_rules | `(tactic| walk_at "eval ListComp") => `(tactic| wtm_at "x eval ListComp")
local macro_rules | `(tactic| walk_at "binaryOp Add bytes bytes") => `(tactic| wtm_at "x binaryOp Add bytes bytes")
local macro_rules | `(tactic| walk_at "call builtin:str.format") => `(tactic| wtm_at "x call builtin:str.format")
local macro_rules | `(tactic| walk_at "exec Raise some none") => `(tactic| wtm_at "x exec Raise some none")
local macro_rules | `(tactic| walk_at "eval Name") => `(tactic| (k_here; k_dflt (first
  | (name_kind "local"; refine' Mine.nmL ?F ?v ?_ ?q; (case F => k_asm); (case v => rfl); (case q => k_qdec); k_whole)
  | (name_kind "cell"; refine' Mine.nmC ?N ?c ?m ?d ?_ ?q; (case N => k_asm); (case c => rfl); (case m => k_mem); (case d => k_asm); (case q => k_qdec); k_whole)
  | (name_kind "globalImplicit"; first
    | (refine' Mine.nmK ?F ?X ?T ?e ?_ ?q; (case F => k_asm); (case X => k_asm); (case T => k_asm); (case e => k_is); (case q => k_qdec); k_whole)
    | (refine' Mine.nmB ?F ?X ?T ?e ?v ?n ?_ ?q; (case F => k_asm); (case X => k_asm); (case T => k_asm); (case e => k_is); (case v => (boot_is_builtin; first | reg3_boot | boot_by_name | boot_fast)); (case n => decide); (case q => k_qdec); k_whole)))))
theorem Mine.fresh_WLnums : True := by
  w_top off
  trivial

section
open PySem PySem.W PyProof.Rows PySem.Calls
set_option maxRecDepth 100000
set_option maxHeartbeats 8000000
namespace Mine
local macro_rules | `(tactic| ktr_enter) => `(tactic| (k_dflt (refine' code_pure ?k1 ?k2 ?k3 ?k5 ?kA ?kF ?kK ?k6 ?k7 ?k8 ?k9 ?kB ?_ ?c2 ?c3 ?c4 ?c5; (case kA => exact rfl); (case kF => exact rfl); (case kK => first | assumption | exact rfl); (case k1 => k_asm); (case k2 => k_asm); (case k3 => k_asm); (case k5 => k_asm); (case k6 => k_is); (case k7 => k_is); (case k8 => ktr_room); (case k9 => first | exact BindsTo.of_eq rfl | exact binds_K (by k_in) rfl (by k_is) rfl rfl rfl); (case c5 => decide); (case kB => exact locs rfl); (case c2 => exact rfl); (case c3 => exact rfl); (case c4 => exact rfl); k_whole; intro g' L' h' hg' FG' F' N' B' X' T'; (try dsimp only); (try k_lift B'); (try k_fold))))
local macro_rules | `(tactic| k_room) => `(tactic| ktr_room)
theorem news_skip {h₀ h : Heap} {L : Addr} {x y : Addr × Obj} {l : List (Addr × Obj)} (N : News h₀ L h (x :: y :: l)) : News h₀ L h (x :: l) := fun p hp => by
  rcases List.mem_cons.mp hp with rfl | hp
  · exact N _ List.mem_cons_self
  · exact N p (List.mem_cons_of_mem _ (List.mem_cons_of_mem _ hp))
theorem lnums (w : World) (sl : Addr) (vs : List Value) (ks : List Int) (t : Tok) (hI : IntsAre vs ks) (hz : ks.length ≤ 63) :
  ∀ (p : Program) (loose : List PySem.Str) (mean : ExcName → Option Value) (mg mb : PySem.Str → Option Value) (dp un : Nat) (gd : Option (List Code)) (cn : PySem.Str) (cs : Scope) (a : Addr) (ccd : Value) (cl : List (PySem.Str × Addr)) (outer : List Env) (A₀ : Around)
    (base h₀ : Heap) (L : Addr) (m : PySem.Str → Option Value) (news : List (Addr × Obj)) (s : Shared) (Q E : Value → Shared → Prop),
    Below A₀ base outer h₀ → Fr h₀ L s.heap m → (Mine.kk.heap_1 w.params).In h₀ → News h₀ L s.heap news → Top p loose mean mg mb h₀ → base.IsList sl vs.toArray → cs.kind = .function → dp + 3 < recursionLimit → un + 40 < cLine →
    (∀ (D : Addr) (ys : List Value) (ds : List Int) (h' : Heap) (tk' : Nat), Fr h₀ L h' m → News h₀ L h' ((D, LCg.lst ys) :: news) → IntsAre ys ds → ds.length = 9 → Q (.ref D) { s with heap := h', toks := tk' }) →
    wpAny (model PySem.Challenge.rw_vn0014_01.prog w) (ktrTop dp un gd cn cs L a ccd cl outer) (call (.ref 1055) [.ref sl, .int 9 t]) Q E s := by
  k_fill
  intro p loose mean mg mb dp un gd cn cs a ccd cl outer A₀ base h₀ L m news s Q E B F X N T hL hk hd hu hret
  obtain ⟨ck, cnm, cg, cc, cm⟩ := cs
  change ck = _ at hk
  subst hk
  refine wpAny_call ?_
  k_dflt k_enter
  k_steps
  all_goals first
    | exact hret _ _ _ _ _ (by assumption) (news_skip (by assumption)) (by assumption) (by rw [List.length_map, rangeKs_length]; rfl)
end Mine
end

section
open PySem PySem.W PyProof.Rows PySem.Calls
set_option maxRecDepth 100000
set_option maxHeartbeats 8000000
namespace Mine
local macro_rules | `(tactic| k_room) => `(tactic| ktr_room)
theorem st0 (w : World) (cs : Scope) (hcs : cs = lawScope w) (st : Stmt) (hst : st = lawSt w 0) (sl : Addr) (vs : List Value) (ks : List Int) (hI : IntsAre vs ks) (hz : ks.length ≤ 63) :
  ∀ (p : Program) (loose : List PySem.Str) (mean : ExcName → Option Value) (mg mb : PySem.Str → Option Value) (dp un : Nat) (gd : Option (List Code)) (a : Addr) (ccd : Value) (cR cP cS : Addr) (outer : List Env) (A₀ : Around)
    (base h₀ : Heap) (L : Addr) (m : PySem.Str → Option Value) (news : List (Addr × Obj)) (s : Shared) (Q : Flow → Shared → Prop) (E : Value → Shared → Prop),
    Below A₀ base outer h₀ → Fr h₀ L s.heap m → (Mine.kk.heap_1 w.params).In h₀ → News h₀ L s.heap news → Top p loose mean mg mb h₀ → dp + 12 < recursionLimit → un + 200 < cLine →
    base.IsList sl vs.toArray → m (PySem.Str.ofString "script") = some (.ref sl) →
    (∀ (D : Addr) (ys : List Value) (ds : List Int) (h' : Heap) (tk' : Nat) (m' : PySem.Str → Option Value), Fr h₀ L h' m' → News h₀ L h' ((D, LCg.lst ys) :: news) → m' (PySem.Str.ofString "digits") = some (.ref D) → (∀ y, y ≠ (PySem.Str.ofString "digits") → m' y = m y) → IntsAre ys ds → ds.length = 9 → Q .next { s with heap := h', toks := tk' }) →
    wpAny (model PySem.Challenge.rw_vn0014_01.prog w) (ktrTop dp un gd (PySem.Str.ofString "law") cs L a ccd [(PySem.Str.ofString "rows", cR), (PySem.Str.ofString "plain", cP), (PySem.Str.ofString "shorts", cS)] outer) (exec st (envX (PySem.Str.ofString "law") cs L a ccd [(PySem.Str.ofString "rows", cR), (PySem.Str.ofString "plain", cP), (PySem.Str.ofString "shorts", cS)])) Q E s := by
  k_fill
  (conv at hcs => rhs; whnf)
  (conv at hst => rhs; whnf)
  subst hcs
  subst hst
  intro p loose mean mg mb dp un gd a ccd cR cP cS outer A₀ base h₀ L m news s Q E B F X N T hd hu hL hm hret
  replace F := fr_form F hm
  k_steps
  all_goals first
    | exact hret _ _ _ _ _ _ (by assumption) (by assumption) (by rfl) (fun y hy => by rw [if_neg hy]; exact (congrFun (m_form hm) y).symm) (by assumption) (by assumption)
end Mine
end

section
open PySem PySem.W PyProof.Rows PySem.Calls
set_option maxRecDepth 100000
set_option maxHeartbeats 8000000
namespace Mine
local macro_rules | `(tactic| ktr_enter) => `(tactic| (k_dflt (refine' code_pure ?k1 ?k2 ?k3 ?k5 ?kA ?kF ?kK ?k6 ?k7 ?k8 ?k9 ?kB ?_ ?c2 ?c3 ?c4 ?c5; (case kA => exact rfl); (case kF => exact rfl); (case kK => first | assumption | exact rfl); (case k1 => k_asm); (case k2 => k_asm); (case k3 => k_asm); (case k5 => k_asm); (case k6 => k_is); (case k7 => k_is); (case k8 => ktr_room); (case k9 => first | exact BindsTo.of_eq rfl | exact binds_K (by k_in) rfl (by k_is) rfl rfl rfl); (case c5 => decide); (case kB => exact locs rfl); (case c2 => exact rfl); (case c3 => exact rfl); (case c4 => exact rfl); k_whole; intro g' L' h' hg' FG' F' N' B' X' T'; (try dsimp only); (try k_lift B'); (try k_fold))))
local macro_rules | `(tactic| k_room) => `(tactic| ktr_room)
/-- written whole numbers -/
def cint : Expr → Option Int
  | .Constant (.int i) _ _ => some i
  | .BinOp (.Constant (.int a) _ _) .Pow (.Constant (.int b) _ _) _ => if 0 ≤ b ∧ b ≤ 1000000 ∧ a.natAbs < 2 ^ 64 then some (a ^ b.toNat) else none
  | .BinOp (.BinOp (.Constant (.int a) _ _) .Pow (.Constant (.int b) _ _) _) .Sub (.Constant (.int c) _ _) _ => if 0 ≤ b ∧ b ≤ 1000000 ∧ a.natAbs < 2 ^ 64 then some (a ^ b.toNat - c) else none
  | _ => none
def cints : List Expr → Option (List Int)
  | [] => some []
  | e :: r => match cint e, cints r with
    | some x, some xs => some (x :: xs)
    | _, _ => none
section
variable {prog : Program} {w : World} {A : Around} {E : Value → Shared → Prop} {s : Shared} {env : Env}
theorem cint_eval {e : Expr} {v : Int} {Q : Value → Shared → Prop} (hc : cint e = some v) (h : ∀ t k, Q (.int v t) { s with toks := k }) : wpAny (model prog w) A (eval e env) Q E s := by
  unfold cint at hc
  split at hc
  · cases hc
    exact wpAny_Constant_int (h _ _)
  · split at hc
    · rename_i hb
      cases hc
      exact wpAny_BinOp (wpAny_Constant_int (wpAny_Constant_int (pow_int_small hb.1 hb.2.1 hb.2.2 (h _ _))))
    · cases hc
  · split at hc
    · rename_i hb
      cases hc
      exact wpAny_BinOp (wpAny_BinOp (wpAny_Constant_int (wpAny_Constant_int (pow_int_small hb.1 hb.2.1 hb.2.2 (wpAny_Constant_int (PyProof.Rows.sub_int (h _ _)))))))
    · cases hc
  · cases hc
theorem cint_star {e : Expr} {v : Int} (hc : cint e = some v) {r : List Expr} : starEach (e :: r) env = (false, eval e env) :: starEach r env := by
  cases e <;> first | rfl | (simp [cint] at hc)
theorem cints_disp {pos : Pos} : ∀ {elts : List Expr} {ns : List Int} {s : Shared} {Q : List Value → Shared → Prop}, cints elts = some ns → (∀ vs k, IntsAre vs ns → Q vs { s with toks := k }) → wpAny (model prog w) A (spliced (backTo pos (starEach elts env))) Q E s
  | [], ns, s, Q, hc, h => by
    cases hc
    exact Calls.spliced_nil (h [] s.toks .nil)
  | e :: r, ns, s, Q, hc, h => by
    unfold cints at hc
    split at hc
    · rename_i x xs h1 h2
      cases hc
      rw [cint_star h1]
      refine Calls.spliced_cons (cint_eval h1 fun t k => ?_)
      exact cints_disp h2 fun vs k' hI => h _ _ (.cons x t hI)
    · cases hc
theorem ints_get : ∀ {vs : List Value} {ns : List Int}, IntsAre vs ns → ∀ (i : Nat), i < ns.length → ∃ x t, x ∈ ns ∧ vs[i]? = some (.int x t)
  | _, _, .nil, i, h => absurd h (Nat.not_lt_zero i)
  | _, _, .cons n t hI, 0, _ => ⟨n, t, List.mem_cons_self, rfl⟩
  | _, _, .cons n t hI, i + 1, h => by
    obtain ⟨x, u, hx, e⟩ := ints_get hI i (Nat.lt_of_succ_lt_succ h)
    exact ⟨x, u, List.mem_cons_of_mem _ hx, e⟩
theorem ints_item {value slice : Expr} {l : Addr} {vs : List Value} {ns : List Int} {k : Int} {u : Tok} {Q : Value → Shared → Prop}
    (hl : s.heap.IsList l vs.toArray) (hI : IntsAre vs ns) (h0 : 0 ≤ k) (hhi : k < ns.length) (hz : ns.length < 1000) (h : ∀ x t, x ∈ ns → Q (.int x t) s)
    (hs : subscripted slice false (.ref l) (.int k u) = operate [.ref l, .int k u] (getItem (.ref l) (.int k u)) := by with_unfolding_all rfl) :
    wpAny (model prog w) A (subscriptTail value slice (.ref l) (.int k u)) Q E s := by
  obtain ⟨x, t, hx, e⟩ := ints_get hI k.toNat (by omega)
  exact tail_any hl.typeIs slot_list_getitem.lookup (wpAny_getItem_list hl h0 (by omega) (by simpa using e) (h x t hx)) hs
end
local macro_rules | `(tactic| wtm_at "x eval List") => `(tactic| (k_here; refine List_ ?_; k_dflt (refine' cints_disp (ns := [0, 1, 127, 128, 252, 253, 254, 255, 256, 65535, 65536, 16777216, 4294967295, 4294967296, 1099511627776, 9223372036854775808, 18446744073709551615, 18446744073709551614]) ?c1 ?_; (case c1 => decide +kernel); k_whole); intro vs' k' hI'))
theorem fm18 (n : Int) : 0 ≤ Int.fmod n 18 ∧ Int.fmod n 18 < 18 := ⟨Int.fmod_nonneg_of_pos n (by decide), Int.fmod_lt_of_pos n (by decide)⟩
theorem in_range {x : Int} (h : x ∈ ([0, 1, 127, 128, 252, 253, 254, 255, 256, 65535, 65536, 16777216, 4294967295, 4294967296, 1099511627776, 9223372036854775808, 18446744073709551615, 18446744073709551614] : List Int)) : 0 ≤ x ∧ x < 18446744073709551616 := by
  revert x
  decide +kernel
theorem getD_in : ∀ (l : List Int) (i : Nat), l.getD i 0 ∈ l ∨ l.getD i 0 = 0
  | [], _ => .inr rfl
  | _ :: _, 0 => .inl List.mem_cons_self
  | _ :: l, i + 1 => (getD_in l i).imp (List.mem_cons_of_mem _) id
theorem in_range2 (i : Nat) : 0 ≤ ([0, 1, 127, 128, 252, 253, 254, 255, 256, 65535, 65536, 16777216, 4294967295, 4294967296, 1099511627776, 9223372036854775808, 18446744073709551615, 18446744073709551614] : List Int).getD i 0 ∧ ([0, 1, 127, 128, 252, 253, 254, 255, 256, 65535, 65536, 16777216, 4294967295, 4294967296, 1099511627776, 9223372036854775808, 18446744073709551615, 18446744073709551614] : List Int).getD i 0 < 18446744073709551616 := by
  rcases getD_in [0, 1, 127, 128, 252, 253, 254, 255, 256, 65535, 65536, 16777216, 4294967295, 4294967296, 1099511627776, 9223372036854775808, 18446744073709551615, 18446744073709551614] i with h | h
  · exact in_range h
  · rw [h]; decide
theorem fm64 (n : Int) : 0 ≤ Int.fmod n 18446744073709551616 ∧ Int.fmod n 18446744073709551616 < 18446744073709551616 := ⟨Int.fmod_nonneg_of_pos n (by decide), Int.fmod_lt_of_pos n (by decide)⟩
theorem lnum (w : World) (n : Int) (t : Tok) : Pure w 2 30 1062 [.int n t] (fun _ _ r => ∃ v t', r = .int v t' ∧ 0 ≤ v ∧ v < 18446744073709551616) := by
  unfold Pure
  k_fill
  intro p loose mean mg mb dp un gd cn cs a ccd cl outer A₀ base h₀ L m s Q E B F X T hk hd hu hret
  ktr_enter
  k_steps
  all_goals first
    | exact hret _ _ _ (pure_keep (by assumption) (by k_asm)) ⟨_, _, rfl, in_range2 _⟩
    | exact hret _ _ _ (pure_keep (by assumption) (by k_asm)) ⟨_, _, rfl, fm64 _⟩
end Mine
end

section
open PySem PySem.W PyProof.Rows PySem.Calls
set_option maxRecDepth 100000
set_option maxHeartbeats 8000000
namespace Mine
local macro_rules | `(tactic| k_room) => `(tactic| ktr_room)
theorem size_ok {vs : List Value} {ns : List Int} {n : Nat} (h : IntsAre vs ns) (hn : ns.length ≤ n) (h2 : n ≤ 9) : vs.length ≤ sizeLine := by
  rw [ints_len h]
  exact Nat.le_trans (Nat.le_trans hn h2) (by decide)
theorem cut_len {ds : List Int} {x : Int} (hl : ds.length = 9) : 1 ≤ (List.take (min (2 + x.fmod 8).toNat ds.length - 1) (List.drop 1 ds)).length ∧ (List.take (min (2 + x.fmod 8).toNat ds.length - 1) (List.drop 1 ds)).length ≤ 8 := by
  have h1 := Int.fmod_nonneg_of_pos x (show (0 : Int) < 8 by decide)
  have h2 := Int.fmod_lt_of_pos x (show (0 : Int) < 8 by decide)
  rw [List.length_take, List.length_drop]
  omega
local macro_rules | `(tactic| wtm_at "x exec Assign cons ListComp") => `(tactic| (k_here; k_dflt (refine LCg.Assign_ListComp_U (F₀ := by k_asm) (by rfl) (by with_unfolding_all rfl) (by with_unfolding_all rfl) (by decide) (by rfl) (by decide) (by rfl) (by rfl) (by rfl) ?_)))
theorem st1 (w : World) (cs : Scope) (hcs : cs = lawScope w) (st : Stmt) (hst : st = lawSt w 1)  :
  ∀ (p : Program) (loose : List PySem.Str) (mean : ExcName → Option Value) (mg mb : PySem.Str → Option Value) (dp un : Nat) (gd : Option (List Code)) (a : Addr) (ccd : Value) (cR cP cS : Addr) (outer : List Env) (A₀ : Around)
    (base h₀ : Heap) (L : Addr) (m : PySem.Str → Option Value) (news : List (Addr × Obj)) (s : Shared) (Q : Flow → Shared → Prop) (E : Value → Shared → Prop),
    Below A₀ base outer h₀ → Fr h₀ L s.heap m → (Mine.kk.heap_1 w.params).In h₀ → News h₀ L s.heap news → Top p loose mean mg mb h₀ → dp + 12 < recursionLimit → un + 200 < cLine →
    ∀ (D : Addr) (ys : List Value) (ds : List Int), (D, LCg.lst ys) ∈ news → m (PySem.Str.ofString "digits") = some (.ref D) → IntsAre ys ds → ds.length = 9 →
    (∀ (D : Addr) (ys : List Value) (ds : List Int) (h' : Heap) (tk' : Nat) (m' : PySem.Str → Option Value), Fr h₀ L h' m' → News h₀ L h' ((D, LCg.lst ys) :: news) → m' (PySem.Str.ofString "values") = some (.ref D) → (∀ y, y ≠ (PySem.Str.ofString "values") → m' y = m y) → IntsAre ys ds → 1 ≤ ds.length → ds.length ≤ 8 → (∀ x ∈ ds, 0 ≤ x ∧ x < 18446744073709551616) → Q .next { s with heap := h', toks := tk' }) →
    wpAny (model PySem.Challenge.rw_vn0014_01.prog w) (ktrTop dp un gd (PySem.Str.ofString "law") cs L a ccd [(PySem.Str.ofString "rows", cR), (PySem.Str.ofString "plain", cP), (PySem.Str.ofString "shorts", cS)] outer) (exec st (envX (PySem.Str.ofString "law") cs L a ccd [(PySem.Str.ofString "rows", cR), (PySem.Str.ofString "plain", cP), (PySem.Str.ofString "shorts", cS)])) Q E s := by
  k_fill
  (conv at hcs => rhs; whnf)
  (conv at hst => rhs; whnf)
  subst hcs
  subst hst
  intro p loose mean mg mb dp un gd a ccd cR cP cS outer A₀ base h₀ L m news s Q E B F X N T hd hu D0 ys ds hD hm hI hl hret
  replace F := fr_form F hm
  k_steps
  refine LCg.CompSrc.ledger (by rfl) (by k_asm) (by k_asm) (by k_dflt k_mem) (by rw [List.size_toArray]; exact size_ok (by assumption) (by assumption) (by omega)) ?_
  intro g'
  refine compRest_rel (fun _ y => ∃ v t, y = .int v t ∧ (0 ≤ v ∧ v < 18446744073709551616)) (Or.inr ⟨_, List.mem_cons_self, rfl, _, rfl⟩) ?step ?fin _ 0 [] (Nat.zero_add _) rfl (fun j y hy => by simp at hy)
  case step =>
    intro i v I oI C oC D m₂ h tk ys' Q' E' hi hP hC hx F N off ne hQ
    obtain ⟨t, rfl, hil⟩ := ints_at (by assumption) (by simpa using hP)
    k_steps
    all_goals first
      | exact hQ _ _ _ (by assumption) (by assumption) ⟨_, _, rfl, by assumption, by assumption⟩
  case fin =>
    intro ys' hl' hr'
    intro D h' tk' F' N' o1
    obtain ⟨ds', hI', hl2, hr2⟩ := rel_ints hr'
    refine hret D ys' ds' h' tk' _ F' (news_skip1 N') (by rfl) (fun y hy => keep_form hm y hy) hI' ?_ ?_ hr2
    · rw [hl2, hl', List.size_toArray, ints_len (by assumption)]
      exact (cut_len hl).1
    · rw [hl2, hl', List.size_toArray, ints_len (by assumption)]
      exact (cut_len hl).2
end Mine
end

section
open PySem PySem.W PyProof.Rows PySem.Calls
set_option maxRecDepth 100000
set_option maxHeartbeats 8000000
namespace Mine
local macro_rules | `(tactic| ktr_enter) => `(tactic| (k_dflt (refine' code_pure ?k1 ?k2 ?k3 ?k5 ?kA ?kF ?kK ?k6 ?k7 ?k8 ?k9 ?kB ?_ ?c2 ?c3 ?c4 ?c5; (case kA => exact rfl); (case kF => exact rfl); (case kK => first | assumption | exact rfl); (case k1 => k_asm); (case k2 => k_asm); (case k3 => k_asm); (case k5 => k_asm); (case k6 => k_is); (case k7 => k_is); (case k8 => ktr_room); (case k9 => first | exact BindsTo.of_eq rfl | exact binds_K (by k_in) rfl (by k_is) rfl rfl rfl); (case c5 => decide); (case kB => exact locs rfl); (case c2 => exact rfl); (case c3 => exact rfl); (case c4 => exact rfl); k_whole; intro g' L' h' hg' FG' F' N' B' X' T'; (try dsimp only); (try k_lift B'); (try k_fold))))
local macro_rules | `(tactic| wtm_at "x exec While") => `(tactic| (k_here; k_dflt (refine whl_start 10 ?_)))
local macro_rules | `(tactic| wtm_at "x WhlIf") => `(tactic| (first
  | (refine WhlIf.no (by (simp only [Int.reduceToNat, Int.reducePow, Nat.reducePow, Int.reduceMul, Int.reduceAdd, bne_eq_false_iff_eq]; rw [Int.fdiv_eq_ediv_of_nonneg _ (by decide)]; omega)) ?_)
  | (refine WhlIf.yes (by (simp only [Int.reduceToNat, Int.reducePow, Nat.reducePow, Int.reduceMul, Int.reduceAdd, bne_iff_ne, ne_eq]; rw [Int.fdiv_eq_ediv_of_nonneg _ (by decide)]; omega)) ?_)))
/-- embit's compact octets of a number -/
def compact (i : Int) : List Int :=
  if i < 253 then [i] else if i < 65536 then 253 :: KTBy.little 2 i else if i < 4294967296 then 254 :: KTBy.little 4 i else 255 :: KTBy.little 8 i
theorem by_one {x : List UInt8} {i : Int} (h0 : 0 ≤ i) (h1 : i < 256) (hx : x = [i.toNat.toUInt8]) : KBw.bInts x.toArray = [i] := by
  subst hx
  show [((i.toNat.toUInt8.toNat : Nat) : Int)] = [i]
  rw [byte_back h0 h1]
theorem tb1 (w : World) (i : Int) (t : Tok) (h0 : 0 ≤ i) (h1 : i < 253) : Pure w 1 8 56 [.int i t] (fun _ _ r => ∃ b t', r = .bytes b t' ∧ KBw.bInts b = compact i) := by
  unfold Pure
  k_fill
  intro p loose mean mg mb dp un gd cn cs a ccd cl outer A₀ base h₀ L m s Q E B F X T hk hd hu hret
  ktr_enter
  k_steps
  all_goals exact hret _ _ _ (pure_keep (by assumption) (by k_asm)) ⟨_, _, rfl, by rw [compact, if_pos h1]; exact by_one h0 (by omega) rfl⟩
theorem tb2 (w : World) (i : Int) (t : Tok) (h0 : 253 ≤ i) (h1 : i < 256) : Pure w 1 8 56 [.int i t] (fun _ _ r => ∃ b t', r = .bytes b t' ∧ KBw.bInts b = compact i) := by
  unfold Pure
  k_fill
  intro p loose mean mg mb dp un gd cn cs a ccd cl outer A₀ base h₀ L m s Q E B F X T hk hd hu hret
  ktr_enter
  k_steps
  all_goals exact hret _ _ _ (pure_keep (by assumption) (by k_asm)) ⟨_, _, rfl, by rw [compact, if_neg (by omega), if_pos (by omega)]; exact (by assumption : KBw.bInts (_ ++ _) = _).trans rfl⟩
theorem tb3 (w : World) (i : Int) (t : Tok) (h0 : 256 ≤ i) (h1 : i < 65536) : Pure w 1 8 56 [.int i t] (fun _ _ r => ∃ b t', r = .bytes b t' ∧ KBw.bInts b = compact i) := by
  unfold Pure
  k_fill
  intro p loose mean mg mb dp un gd cn cs a ccd cl outer A₀ base h₀ L m s Q E B F X T hk hd hu hret
  ktr_enter
  k_steps
  all_goals exact hret _ _ _ (pure_keep (by assumption) (by k_asm)) ⟨_, _, rfl, by rw [compact, if_neg (by omega), if_pos (by omega)]; exact (by assumption : KBw.bInts (_ ++ _) = _).trans rfl⟩
theorem tb4 (w : World) (i : Int) (t : Tok) (h0 : 65536 ≤ i) (h1 : i < 4294967296) : Pure w 1 8 56 [.int i t] (fun _ _ r => ∃ b t', r = .bytes b t' ∧ KBw.bInts b = compact i) := by
  unfold Pure
  k_fill
  intro p loose mean mg mb dp un gd cn cs a ccd cl outer A₀ base h₀ L m s Q E B F X T hk hd hu hret
  ktr_enter
  k_steps
  all_goals exact hret _ _ _ (pure_keep (by assumption) (by k_asm)) ⟨_, _, rfl, by rw [compact, if_neg (by omega), if_neg (by omega), if_pos (by omega)]; exact (by assumption : KBw.bInts (_ ++ _) = _).trans rfl⟩
theorem tb5 (w : World) (i : Int) (t : Tok) (h0 : 4294967296 ≤ i) (h1 : i < 18446744073709551616) : Pure w 1 8 56 [.int i t] (fun _ _ r => ∃ b t', r = .bytes b t' ∧ KBw.bInts b = compact i) := by
  unfold Pure
  k_fill
  intro p loose mean mg mb dp un gd cn cs a ccd cl outer A₀ base h₀ L m s Q E B F X T hk hd hu hret
  ktr_enter
  k_steps
  all_goals exact hret _ _ _ (pure_keep (by assumption) (by k_asm)) ⟨_, _, rfl, by rw [compact, if_neg (by omega), if_neg (by omega), if_neg (by omega)]; exact (by assumption : KBw.bInts (_ ++ _) = _).trans rfl⟩
theorem tb (w : World) (i : Int) (t : Tok) (h0 : 0 ≤ i) (h1 : i < 18446744073709551616) : Pure w 1 8 56 [.int i t] (fun _ _ r => ∃ b t', r = .bytes b t' ∧ KBw.bInts b = compact i) := by
  by_cases c1 : i < 253
  · exact tb1 w i t h0 c1
  · by_cases c2 : i < 256
    · exact tb2 w i t (by omega) c2
    · by_cases c3 : i < 65536
      · exact tb3 w i t (by omega) c3
      · by_cases c4 : i < 4294967296
        · exact tb4 w i t (by omega) c4
        · exact tb5 w i t (by omega) h1
end Mine
end

section
open PySem PySem.W PyProof.Rows PySem.Calls
set_option maxRecDepth 100000
set_option maxHeartbeats 8000000
namespace Mine
local macro_rules | `(tactic| ktr_enter) => `(tactic| (k_dflt (refine' code_pure ?k1 ?k2 ?k3 ?k5 ?kA ?kF ?kK ?k6 ?k7 ?k8 ?k9 ?kB ?_ ?c2 ?c3 ?c4 ?c5; (case kA => exact rfl); (case kF => exact rfl); (case kK => first | assumption | exact rfl); (case k1 => k_asm); (case k2 => k_asm); (case k3 => k_asm); (case k5 => k_asm); (case k6 => k_is); (case k7 => k_is); (case k8 => ktr_room); (case k9 => first | exact BindsTo.of_eq rfl | exact binds_K (by k_in) rfl (by k_is) rfl rfl rfl); (case c5 => decide); (case kB => exact locs rfl); (case c2 => exact rfl); (case c3 => exact rfl); (case c4 => exact rfl); k_whole; intro g' L' h' hg' FG' F' N' B' X' T'; (try dsimp only); (try k_lift B'); (try k_fold))))
theorem i2b_call {w : World} {A : Around} {E : Value → Shared → Prop} {s : Shared} {i : Int} {t u v : Tok} {n : Int} {Q : Value → Shared → Prop} (h0 : 0 ≤ i) (h1 : i < 18446744073709551616) (hn : n = ((nb i : Nat) : Int))
    (h : ∀ (b : Array UInt8) t' k', KBw.bInts b = be i → Q (.bytes b t') { s with toks := k' }) :
    wpAny (model PySem.Challenge.rw_vn0014_01.prog w) A (call (.builtin "int.to_bytes") [.int i t, .int n u, .str (PySem.Str.ofString "big") v]) Q E s := by
  subst hn
  exact KTBy.to_big (B := 256 ^ nb i) (nb_le8 h0 h1) rfl h0 (nb_lt h0) fun b t' k' hb _ => h b t' k' hb
theorem i2b (w : World) (i : Int) (t : Tok) (h0 : 1 ≤ i) (h1 : i < 18446744073709551616) : Pure w 1 8 797 [.int i t] (fun _ _ r => ∃ b t', r = .bytes b t' ∧ KBw.bInts b = be i) := by
  unfold Pure
  k_fill
  intro p loose mean mg mb dp un gd cn cs a ccd cl outer A₀ base h₀ L m s Q E B F X T hk hd hu hret
  ktr_enter
  k_steps
  all_goals first
    | exact hret _ _ _ (pure_keep (by assumption) (by k_asm)) ⟨_, _, rfl, by assumption⟩
    | (exfalso; have hz := nb_pos (i := i) (by omega); have hf := nb_fdiv i; simp only [ne_eq, Classical.not_not] at *; omega)
end Mine
end

section
open PySem PySem.W PyProof.Rows PySem.Calls
set_option maxRecDepth 100000
set_option maxHeartbeats 8000000
namespace Mine
local macro_rules | `(tactic| ktr_enter) => `(tactic| (k_dflt (refine' code_pure ?k1 ?k2 ?k3 ?k5 ?kA ?kF ?kK ?k6 ?k7 ?k8 ?k9 ?kB ?_ ?c2 ?c3 ?c4 ?c5; (case kA => exact rfl); (case kF => exact rfl); (case kK => first | assumption | exact rfl); (case k1 => k_asm); (case k2 => k_asm); (case k3 => k_asm); (case k5 => k_asm); (case k6 => k_is); (case k7 => k_is); (case k8 => ktr_room); (case k9 => first | exact BindsTo.of_eq rfl | exact binds_K (by k_in) rfl (by k_is) rfl rfl rfl); (case c5 => decide); (case kB => exact locs rfl); (case c2 => exact rfl); (case c3 => exact rfl); (case c4 => exact rfl); k_whole; intro g' L' h' hg' FG' F' N' B' X' T'; (try dsimp only); (try k_lift B'); (try k_fold))))
theorem ser (w : World) (i : Int) (t : Tok) (h0 : 0 ≤ i) (h1 : i < 18446744073709551616) : Pure w 2 16 819 [.ref 835, .int i t] (fun _ _ r => ∃ b t', r = .bytes b t' ∧ KBw.bInts b = be i) := by
  unfold Pure
  k_fill
  intro p loose mean mg mb dp un gd cn cs a ccd cl outer A₀ base h₀ L m s Q E B F X T hk hd hu hret
  ktr_enter
  k_steps
  all_goals first
    | exact hret _ _ _ (pure_keep (by assumption) (by k_asm)) ⟨_, _, rfl, by assumption⟩
    | exact hret _ _ _ (pure_keep (by assumption) (by k_asm)) ⟨_, _, rfl, by (have hz : i = 0 := by omega); subst hz; exact (rfl : KBw.bInts #[] = []).trans be_zero.symm⟩
end Mine
end

section
open PySem PySem.W PyProof.Rows PySem.Calls
set_option maxRecDepth 100000
set_option maxHeartbeats 8000000
namespace Mine
local macro_rules | `(tactic| ktr_enter) => `(tactic| (k_dflt (refine' code_pure ?k1 ?k2 ?k3 ?k5 ?kA ?kF ?kK ?k6 ?k7 ?k8 ?k9 ?kB ?_ ?c2 ?c3 ?c4 ?c5; (case kA => exact rfl); (case kF => exact rfl); (case kK => first | assumption | exact rfl); (case k1 => k_asm); (case k2 => k_asm); (case k3 => k_asm); (case k5 => k_asm); (case k6 => k_is); (case k7 => k_is); (case k8 => ktr_room); (case k9 => first | exact BindsTo.of_eq rfl | exact binds_K (by k_in) rfl (by k_is) rfl rfl rfl); (case c5 => decide); (case kB => exact locs rfl); (case c2 => exact rfl); (case c3 => exact rfl); (case c4 => exact rfl); k_whole; intro g' L' h' hg' FG' F' N' B' X' T'; (try dsimp only); (try k_lift B'); (try k_fold))))
def allB : List Value := (List.range 256).map fun i => .bytes #[i.toUInt8] (1226 + 4 * i)
theorem all_lookup (P : Params) : (Mine.kk.heap_1 P).lookup 774 = some ⟨.type "tuple", none, .seq allB.toArray 0, #[]⟩ := by kernel_rfl
theorem allB_get {j : Nat} (h : j < 256) : allB[j]? = some (.bytes #[j.toUInt8] (1226 + 4 * j)) := by
  unfold allB
  rw [List.getElem?_map, List.getElem?_range h]
  rfl
theorem allB_len : allB.length = 256 := by unfold allB; rw [List.length_map, List.length_range]
theorem seqIndex_of {k : Int} {n : Nat} (h0 : 0 ≤ k) (h1 : k < n) : seqIndex? k n = some k.toNat := by
  unfold seqIndex?
  dsimp only
  rw [if_neg (by omega : ¬ k < 0), if_pos (by rw [decide_eq_true h0, decide_eq_true h1]; rfl)]
theorem all_item {w : World} {A : Around} {E : Value → Shared → Prop} {s : Shared} {h₀ : Heap} {L : Addr} {m : PySem.Str → Option Value} {value slice : Expr} {k : Int} {u : Tok} {Q : Value → Shared → Prop} (F : Fr h₀ L s.heap m) (X₀ : (Mine.kk.heap_1 w.params).In h₀)
    (h0 : 0 ≤ k) (h1 : k < 256) (h : ∀ b t, KBw.bInts b = [k] → Q (.bytes b t) s)
    (hs : subscripted slice false (.ref 774) (.int k u) = operate [.ref 774, .int k u] (getItem (.ref 774) (.int k u)) := by with_unfolding_all rfl) :
    wpAny (model PySem.Challenge.rw_vn0014_01.prog w) A (subscriptTail value slice (.ref 774) (.int k u)) Q E s :=
  topTup_K F X₀ (all_lookup w.params) (by omega) (by omega) (seqIndex_of h0 (by rw [allB_len]; omega)) (allB_get (by omega)) (h _ _ (by
    show [((k.toNat.toUInt8.toNat : Nat) : Int)] = [k]
    rw [byte_back h0 h1])) hs
theorem lenp (w : World) (n : Int) (t u : Tok) (h0 : 0 ≤ n) (h1 : n < 56) : Pure w 1 8 1014 [.int n t, .int 128 u] (fun _ _ r => ∃ b t', r = .bytes b t' ∧ KBw.bInts b = [128 + n]) := by
  unfold Pure
  k_fill
  intro p loose mean mg mb dp un gd cn cs a ccd cl outer A₀ base h₀ L m s Q E B F X T hk hd hu hret
  ktr_enter
  k_steps
  all_goals first
    | exact hret _ _ _ (pure_keep (by assumption) (by k_asm)) ⟨_, _, rfl, by assumption⟩
end Mine
end

section
open PySem PySem.W PyProof.Rows PySem.Calls
set_option maxRecDepth 100000
set_option maxHeartbeats 8000000
namespace Mine
local macro_rules | `(tactic| ktr_enter) => `(tactic| (k_dflt (refine' code_pure ?k1 ?k2 ?k3 ?k5 ?kA ?kF ?kK ?k6 ?k7 ?k8 ?k9 ?kB ?_ ?c2 ?c3 ?c4 ?c5; (case kA => exact rfl); (case kF => exact rfl); (case kK => first | assumption | exact rfl); (case k1 => k_asm); (case k2 => k_asm); (case k3 => k_asm); (case k5 => k_asm); (case k6 => k_is); (case k7 => k_is); (case k8 => ktr_room); (case k9 => first | exact BindsTo.of_eq rfl | exact binds_K (by k_in) rfl (by k_is) rfl rfl rfl); (case c5 => decide); (case kB => exact locs rfl); (case c2 => exact rfl); (case c3 => exact rfl); (case c4 => exact rfl); k_whole; intro g' L' h' hg' FG' F' N' B' X' T'; (try dsimp only); (try k_lift B'); (try k_fold))))
theorem raw (w : World) (b : Array UInt8) (l : List Int) (t : Tok) (hb : KBw.bInts b = l) (hl : l.length ≤ 8) : Pure w 2 16 992 [.bytes b t] (fun _ _ r => ∃ b t', r = .bytes b t' ∧ KBw.bInts b = rlpOf l) := by
  unfold Pure
  k_fill
  intro p loose mean mg mb dp un gd cn cs a ccd cl outer A₀ base h₀ L m s Q E B F X T hk hd hu hret
  ktr_enter
  k_steps
  all_goals first
    | exact hret _ _ _ (pure_keep (by assumption) (by k_asm)) ⟨_, _, rfl, (by assumption : KBw.bInts _ = [_] ++ _).trans (by rw [rlpOf, if_neg (by rintro ⟨z1, z2⟩; (try simp only [Int.toNat_zero] at *); omega)]; rfl)⟩
    | exact hret _ _ _ (pure_keep (by assumption) (by k_asm)) ⟨_, _, rfl, hb.trans (by rw [rlpOf, if_pos ⟨by omega, by (try simp only [Int.toNat_zero] at *); omega⟩])⟩
end Mine
end

section
open PySem PySem.W PyProof.Rows PySem.Calls
set_option maxRecDepth 100000
set_option maxHeartbeats 8000000
namespace Mine
local macro_rules | `(tactic| ktr_enter) => `(tactic| (k_dflt (refine' code_pure ?k1 ?k2 ?k3 ?k5 ?kA ?kF ?kK ?k6 ?k7 ?k8 ?k9 ?kB ?_ ?c2 ?c3 ?c4 ?c5; (case kA => exact rfl); (case kF => exact rfl); (case kK => first | assumption | exact rfl); (case k1 => k_asm); (case k2 => k_asm); (case k3 => k_asm); (case k5 => k_asm); (case k6 => k_is); (case k7 => k_is); (case k8 => ktr_room); (case k9 => first | exact BindsTo.of_eq rfl | exact binds_K (by k_in) rfl (by k_is) rfl rfl rfl); (case c5 => decide); (case kB => exact locs rfl); (case c2 => exact rfl); (case c3 => exact rfl); (case c4 => exact rfl); k_whole; intro g' L' h' hg' FG' F' N' B' X' T'; (try dsimp only); (try k_lift B'); (try k_fold))))
theorem isd (w : World) : Pure w 1 8 940 [.type "int"] (fun _ _ r => r = .bool false) := by
  unfold Pure
  k_fill
  intro p loose mean mg mb dp un gd cn cs a ccd cl outer A₀ base h₀ L m s Q E B F X T hk hd hu hret
  ktr_enter
  k_steps
  all_goals first
    | exact hret _ _ _ (pure_keep (by assumption) (by k_asm)) rfl
theorem inf (w : World) (i : Int) (t : Tok) (h0 : 0 ≤ i) : Pure w 2 16 1050 [.int i t] (fun _ _ r => r = .ref 835) := by
  unfold Pure
  k_fill
  intro p loose mean mg mb dp un gd cn cs a ccd cl outer A₀ base h₀ L m s Q E B F X T hk hd hu hret
  ktr_enter
  k_steps
  all_goals first
    | exact hret _ _ _ (pure_keep (by assumption) (by k_asm)) rfl
end Mine
end

section
open PySem PySem.W PyProof.Rows PySem.Calls
set_option maxRecDepth 100000
set_option maxHeartbeats 8000000
namespace Mine
local macro_rules | `(tactic| ktr_enter) => `(tactic| (k_dflt (refine' code_pure ?k1 ?k2 ?k3 ?k5 ?kA ?kF ?kK ?k6 ?k7 ?k8 ?k9 ?kB ?_ ?c2 ?c3 ?c4 ?c5; (case kA => exact rfl); (case kF => exact rfl); (case kK => first | assumption | exact rfl); (case k1 => k_asm); (case k2 => k_asm); (case k3 => k_asm); (case k5 => k_asm); (case k6 => k_is); (case k7 => k_is); (case k8 => ktr_room); (case k9 => first | exact BindsTo.of_eq rfl | exact binds_K (by k_in) rfl (by k_is) rfl rfl rfl); (case c5 => decide); (case kB => exact locs rfl); (case c2 => exact rfl); (case c3 => exact rfl); (case c4 => exact rfl); k_whole; intro g' L' h' hg' FG' F' N' B' X' T'; (try dsimp only); (try k_lift B'); (try k_fold))))
theorem enc (w : World) (i : Int) (t : Tok) (h0 : 0 ≤ i) (h1 : i < 18446744073709551616) : Pure w 4 32 1007 [.int i t] (fun _ _ r => ∃ b t', r = .bytes b t' ∧ KBw.bInts b = rlpOf (be i)) := by
  unfold Pure
  k_fill
  intro p loose mean mg mb dp un gd cn cs a ccd cl outer A₀ base h₀ L m s Q E B F X T hk hd hu hret
  ktr_enter
  k_steps
  all_goals first
    | exact hret _ _ _ (pure_keep (by assumption) (by k_asm)) ⟨_, _, rfl, by assumption⟩
end Mine
end

section
open PySem PySem.W PyProof.Rows PySem.Calls
set_option maxRecDepth 100000
set_option maxHeartbeats 8000000
namespace Mine
local macro_rules | `(tactic| k_room) => `(tactic| ktr_room)
/-- without noughts ahead -/
def stripZ : List Int → List Int
  | [] => []
  | x :: l => if x = 0 then stripZ l else x :: l
theorem tl_eq {a b : Array UInt8} (h : (a.toList == b.toList) = true) : KBw.bInts a = KBw.bInts b := by
  unfold KBw.bInts
  rw [eq_of_beq h]
theorem tl_ne {a b : Array UInt8} (h : (a.toList == b.toList) = false) (e : KBw.bInts a = KBw.bInts b) : False := by
  have : a.toList = b.toList := by
    have inj : ∀ (l l' : List UInt8), l.map (fun c => (c.toNat : Int)) = l'.map (fun c => (c.toNat : Int)) → l = l' := by
      intro l
      induction l with
      | nil => intro l' h; cases l' with
        | nil => rfl
        | cons y l' => simp at h
      | cons x l ih => intro l' h; cases l' with
        | nil => simp at h
        | cons y l' =>
          simp only [List.map_cons, List.cons.injEq] at h
          rw [ih l' h.2, UInt8.toNat_inj.mp (Int.ofNat.inj h.1)]
    exact inj _ _ e
  rw [this] at h
  simp at h
theorem tl_bne {a b : Array UInt8} (h : (a.toList != b.toList) = true) (e : KBw.bInts a = KBw.bInts b) : False := by
  refine tl_ne (a := a) (b := b) ?_ e
  simpa [bne] using h
theorem clip1 {n : Nat} (h : 1 ≤ n) : clipAt n 1 = 1 := clip_in (by decide) (by omega)
theorem strip_yes {ks l : List Int} (h : List.take (clipAt ks.length 1) ks = [0]) (e : l = List.take (ks.length - clipAt ks.length 1) (List.drop (clipAt ks.length 1) ks)) : l.length < ks.length ∧ stripZ l = stripZ ks := by
  cases ks with
  | nil => simp at h
  | cons x tl =>
    rw [clip1 (by simp)] at h e
    have hx : x = 0 := by simpa using h
    subst hx
    have e2 : l = tl := by rw [e]; simp
    subst e2
    exact ⟨by simp, by rw [stripZ, if_pos rfl]⟩
theorem strip_no {ks : List Int} (h : List.take (clipAt ks.length 1) ks ≠ [0]) : stripZ ks = ks := by
  cases ks with
  | nil => rfl
  | cons x tl =>
    rw [clip1 (by simp)] at h
    rw [stripZ, if_neg (fun e => h (by rw [e]; rfl))]
theorem whl (w : World) (cs : Scope) (hcs : cs = lawScope w) (st : Stmt) (hst : st = (forBody (lawSt w 3)).getD 4 (.Pass default))  :
  ∀ (p : Program) (loose : List PySem.Str) (mean : ExcName → Option Value) (mg mb : PySem.Str → Option Value) (dp un : Nat) (gd : Option (List Code)) (a : Addr) (ccd : Value) (cR cP cS : Addr) (outer : List Env) (A₀ : Around)
    (base h₀ : Heap) (L : Addr) (m : PySem.Str → Option Value) (news : List (Addr × Obj)) (s : Shared) (Q : Flow → Shared → Prop) (E : Value → Shared → Prop),
    Below A₀ base outer h₀ → Fr h₀ L s.heap m → (Mine.kk.heap_1 w.params).In h₀ → News h₀ L s.heap news → Top p loose mean mg mb h₀ → dp + 12 < recursionLimit → un + 200 < cLine →
    ∀ (c : Array UInt8) (t : Tok) (ks : List Int), m (PySem.Str.ofString "inner") = some (.bytes c t) → KBw.bInts c = ks → ks.length ≤ 1000 →
    (∀ (c' : Array UInt8) (t' : Tok) (h' : Heap) (tk' : Nat) (m' : PySem.Str → Option Value), Fr h₀ L h' m' → News h₀ L h' news → m' (PySem.Str.ofString "inner") = some (.bytes c' t') → Kept [(PySem.Str.ofString "inner")] m m' → KBw.bInts c' = stripZ ks → Q .next { s with heap := h', toks := tk' }) →
    wpAny (model PySem.Challenge.rw_vn0014_01.prog w) (ktrTop dp un gd (PySem.Str.ofString "law") cs L a ccd [(PySem.Str.ofString "rows", cR), (PySem.Str.ofString "plain", cP), (PySem.Str.ofString "shorts", cS)] outer) (exec st (envX (PySem.Str.ofString "law") cs L a ccd [(PySem.Str.ofString "rows", cR), (PySem.Str.ofString "plain", cP), (PySem.Str.ofString "shorts", cS)])) Q E s := by
  k_fill
  (conv at hcs => rhs; whnf)
  (conv at hst => rhs; whnf)
  subst hcs
  subst hst
  intro p loose mean mg mb dp un gd a ccd cR cP cS outer A₀ base h₀ L m news s Q E B F X N T hd hu c t ks hm hc hz hret
  refine whileN (fun k s' => ∃ h' tk' m' c' t' ks', s' = { s with heap := h', toks := tk' } ∧ Fr h₀ L h' m' ∧ News h₀ L h' news ∧ m' (PySem.Str.ofString "inner") = some (.bytes c' t') ∧ Kept [PySem.Str.ofString "inner"] m m' ∧ KBw.bInts c' = ks' ∧ ks'.length = k ∧ stripZ ks' = stripZ ks ∧ ks'.length ≤ 1000) ?_ ks.length
    ⟨s.heap, s.toks, m, c, t, ks, rfl, F, N, hm, fun _ _ => rfl, hc, rfl, rfl, hz⟩
  rintro k s' ⟨h1, tk1, m1, c1, t1, ks1, rfl, F1, N1, hm1, K1, hc1, hk, hs, hz1⟩
  replace F1 := fr_form F1 hm1
  clear F N
  k_steps
  · obtain ⟨q1, q2⟩ := strip_yes (ks := ks1) ((by assumption : KBw.bInts (KBy.picked c1 none (some 1)) = _).symm.trans (tl_eq (by assumption))) (by assumption : KBw.bInts (KBy.picked c1 (some 1) none) = _)
    exact ⟨rfl, _, by rw [← hk]; exact q1, _, _, _, _, _, _, rfl, (by assumption), (by assumption), (by rfl), kept_set (by rw [m_form hm1] at K1; exact K1) (by decide +kernel), rfl, rfl, q2.trans hs, by omega⟩
  · exact hret c1 t1 _ _ m1 (fr_back hm1 (by assumption)) (by assumption) hm1 K1 (by rw [hc1, ← hs]; exact (strip_no fun e => tl_ne (by assumption) ((by assumption : KBw.bInts (KBy.picked c1 none (some 1)) = _).trans e)).symm)
end Mine
end

section
open PySem PySem.W PyProof.Rows PySem.Calls
set_option maxRecDepth 100000
set_option maxHeartbeats 8000000
namespace Mine
local macro_rules | `(tactic| ktr_enter) => `(tactic| (k_dflt (refine' code_pure ?k1 ?k2 ?k3 ?k5 ?kA ?kF ?kK ?k6 ?k7 ?k8 ?k9 ?kB ?_ ?c2 ?c3 ?c4 ?c5; (case kA => exact rfl); (case kF => exact rfl); (case kK => first | assumption | exact rfl); (case k1 => k_asm); (case k2 => k_asm); (case k3 => k_asm); (case k5 => k_asm); (case k6 => k_is); (case k7 => k_is); (case k8 => ktr_room); (case k9 => first | exact BindsTo.of_eq rfl | exact binds_K (by k_in) rfl (by k_is) rfl rfl rfl); (case c5 => decide); (case kB => exact locs rfl); (case c2 => exact rfl); (case c3 => exact rfl); (case c4 => exact rfl); k_whole; intro g' L' h' hg' FG' F' N' B' X' T'; (try dsimp only); (try k_lift B'); (try k_fold))))
local macro_rules | `(tactic| k_room) => `(tactic| ktr_room)
theorem ci1 (w : World) (b : Array UInt8) (ks : List Int) (pl : Int) (t u : Tok) (hb : KBw.bInts b = ks) (hz : ks.length ≤ 1000) (h0 : 0 ≤ pl) (h1 : pl < ks.length) (h2 : ks.getD pl.toNat 0 < 128) : Pure w 3 24 1035 [.bytes b t, .int pl u] (fun h h' r => ∃ x b' t' y e tk, r = .ref x ∧ h.get? x = none ∧ h'.get? x = some { cls := .type "tuple", data := .seq #[.bytes b' t', .ref y, .int e tk] } ∧ e = (pl + 1) ∧ KBw.bInts b' = [ks.getD pl.toNat 0]) := by
  unfold Pure
  k_fill
  intro p loose mean mg mb dp un gd cn cs a ccd cl outer A₀ base h₀ L m s Q E B F X T hk hd hu hret
  ktr_enter
  k_steps
  all_goals first
    | exact hret _ _ _ (pure_keep (by assumption) (by k_asm)) ⟨_, _, _, _, _, _, rfl, (pure_new (by assumption) (by assumption) List.mem_cons_self).1, (pure_new (by assumption) (by assumption) List.mem_cons_self).2, rfl, cut_at hb h0 h1 rfl⟩
end Mine
end

section
open PySem PySem.W PyProof.Rows PySem.Calls
set_option maxRecDepth 100000
set_option maxHeartbeats 8000000
namespace Mine
local macro_rules | `(tactic| ktr_enter) => `(tactic| (k_dflt (refine' code_pure ?k1 ?k2 ?k3 ?k5 ?kA ?kF ?kK ?k6 ?k7 ?k8 ?k9 ?kB ?_ ?c2 ?c3 ?c4 ?c5; (case kA => exact rfl); (case kF => exact rfl); (case kK => first | assumption | exact rfl); (case k1 => k_asm); (case k2 => k_asm); (case k3 => k_asm); (case k5 => k_asm); (case k6 => k_is); (case k7 => k_is); (case k8 => ktr_room); (case k9 => first | exact BindsTo.of_eq rfl | exact binds_K (by k_in) rfl (by k_is) rfl rfl rfl); (case c5 => decide); (case kB => exact locs rfl); (case c2 => exact rfl); (case c3 => exact rfl); (case c4 => exact rfl); k_whole; intro g' L' h' hg' FG' F' N' B' X' T'; (try dsimp only); (try k_lift B'); (try k_fold))))
local macro_rules | `(tactic| k_room) => `(tactic| ktr_room)
local macro_rules | `(tactic| wtm_at "x call ref") => `(tactic| (k_here; (with_reducible show wpAny _ _ (call (Value.ref 1035) [Value.bytes _ _, Value.int _ _] []) _ _ _); k_dflt (refine' Pure.use (ci1 _ _ _ _ _ _ ?c1 ?c2 ?c3 ?c4 ?c5) ?kB ?kF ?kX ?kN ?kT ?kK ?kD ?kU ?_; (case c1 => kba_ints2); (case c2 => omega); (case c3 => omega); (case c4 => omega); (case c5 => assumption); (case kB => k_asm); (case kF => k_asm); (case kX => k_asm); (case kN => k_asm); (case kT => k_asm); (case kK => first | exact rfl | assumption); (case kD => ktr_room); (case kU => ktr_units); k_whole); intro r' h' tk' F' N' hr'; (obtain ⟨x', b', t', y', e', u', ex', hx1', hx2', he', hci'⟩ := hr'; subst ex'; subst he'; (have N' := news_add (by assumption) N' hx1' hx2'); clear hx1' hx2'); (try k_sweep); (try dsimp only); (try k_fold)))
theorem dr1 (w : World) (b : Array UInt8) (ks : List Int) (t : Tok) (hb : KBw.bInts b = ks) (h1 : ks.length = 1) (h2 : ks.getD (Int.toNat 0) 0 < 128) : Pure w 5 40 999 [.bytes b t, .bool true, .bool false] (fun h h' r => ∃ x b' t' y, r = .ref x ∧ h.get? x = none ∧ h'.get? x = some { cls := .type "tuple", data := .seq #[.bytes b' t', .ref y] } ∧ KBw.bInts b' = ks) := by
  unfold Pure
  k_fill
  intro p loose mean mg mb dp un gd cn cs a ccd cl outer A₀ base h₀ L m s Q E B F X T hk hd hu hret
  ktr_enter
  k_steps
  all_goals first
    | exact hret _ _ _ (pure_keep (by assumption) (by k_asm)) ⟨_, _, _, _, rfl, (pure_new (by assumption) (by assumption) List.mem_cons_self).1, (pure_new (by assumption) (by assumption) List.mem_cons_self).2, (by assumption : KBw.bInts _ = _).trans (len_one h1)⟩
end Mine
end

section
open PySem PySem.W PyProof.Rows PySem.Calls
set_option maxRecDepth 100000
set_option maxHeartbeats 8000000
namespace Mine
local macro_rules | `(tactic| ktr_enter) => `(tactic| (k_dflt (refine' code_pure ?k1 ?k2 ?k3 ?k5 ?kA ?kF ?kK ?k6 ?k7 ?k8 ?k9 ?kB ?_ ?c2 ?c3 ?c4 ?c5; (case kA => exact rfl); (case kF => exact rfl); (case kK => first | assumption | exact rfl); (case k1 => k_asm); (case k2 => k_asm); (case k3 => k_asm); (case k5 => k_asm); (case k6 => k_is); (case k7 => k_is); (case k8 => ktr_room); (case k9 => first | exact BindsTo.of_eq rfl | exact binds_K (by k_in) rfl (by k_is) rfl rfl rfl); (case c5 => decide); (case kB => exact locs rfl); (case c2 => exact rfl); (case c3 => exact rfl); (case c4 => exact rfl); k_whole; intro g' L' h' hg' FG' F' N' B' X' T'; (try dsimp only); (try k_lift B'); (try k_fold))))
local macro_rules | `(tactic| k_room) => `(tactic| ktr_room)
theorem isb (w : World) (b : Array UInt8) (t : Tok) : Pure w 1 8 783 [.bytes b t] (fun _ _ r => r = .bool true) := by
  unfold Pure
  k_fill
  intro p loose mean mg mb dp un gd cn cs a ccd cl outer A₀ base h₀ L m s Q E B F X T hk hd hu hret
  ktr_enter
  k_steps
  all_goals first
    | exact hret _ _ _ (pure_keep (by assumption) (by k_asm)) rfl
end Mine
end

section
open PySem PySem.W PyProof.Rows PySem.Calls
set_option maxRecDepth 100000
set_option maxHeartbeats 8000000
namespace Mine
local macro_rules | `(tactic| ktr_enter) => `(tactic| (k_dflt (refine' code_pure ?k1 ?k2 ?k3 ?k5 ?kA ?kF ?kK ?k6 ?k7 ?k8 ?k9 ?kB ?_ ?c2 ?c3 ?c4 ?c5; (case kA => exact rfl); (case kF => exact rfl); (case kK => first | assumption | exact rfl); (case k1 => k_asm); (case k2 => k_asm); (case k3 => k_asm); (case k5 => k_asm); (case k6 => k_is); (case k7 => k_is); (case k8 => ktr_room); (case k9 => first | exact BindsTo.of_eq rfl | exact binds_K (by k_in) rfl (by k_is) rfl rfl rfl); (case c5 => decide); (case kB => exact locs rfl); (case c2 => exact rfl); (case c3 => exact rfl); (case c4 => exact rfl); k_whole; intro g' L' h' hg' FG' F' N' B' X' T'; (try dsimp only); (try k_lift B'); (try k_fold))))
local macro_rules | `(tactic| k_room) => `(tactic| ktr_room)
theorem no_nought {p : Array UInt8} {l : List Int} (h : KBw.bInts p = List.take (clipAt l.length 1 - clipAt l.length 0) (List.drop (clipAt l.length 0) l)) (e : (p.toList == #[0].toList) = true) (hz : l.length = 0 ∨ l.getD 0 0 ≠ 0) : False := by
  have e1 : p.toList = [0] := by simpa using e
  have e2 : KBw.bInts p = [0] := by
    unfold KBw.bInts
    rw [e1]
    rfl
  rw [e2, clip_in (i := 0) (by omega) (by omega)] at h
  cases l with
  | nil => simp at h
  | cons x r =>
    rw [clip_in (i := 1) (by omega) (by simp only [List.length_cons]; omega)] at h
    have h3 : [(0 : Int)] = [x] := h
    have h4 : (0 : Int) = x := by injection h3
    rcases hz with z | z
    · simp at z
    · exact z (by rw [← h4]; rfl)
theorem des (w : World) (b : Array UInt8) (l : List Int) (t : Tok) (hb : KBw.bInts b = l) (hl : l.length ≤ 8) (hz : l.length = 0 ∨ l.getD 0 0 ≠ 0) : Pure w 2 24 826 [.ref 835, .bytes b t] (fun _ _ r => ∃ t', r = .int (KFB.value l) t') := by
  unfold Pure
  k_fill
  intro p loose mean mg mb dp un gd cn cs a ccd cl outer A₀ base h₀ L m s Q E B F X T hk hd hu hret
  ktr_enter
  k_steps
  all_goals first
    | exact hret _ _ _ (pure_keep (by assumption) (by k_asm)) ⟨_, rfl⟩
    | exact (no_nought (by assumption) (by assumption) hz).elim
    | ((have hl0 : l = [] := List.eq_nil_of_length_eq_zero (by omega)); subst hl0; exact hret _ _ _ (pure_keep (by assumption) (by k_asm)) ⟨_, rfl⟩)
end Mine
end

section
open PySem PySem.W PyProof.Rows PySem.Calls
set_option maxRecDepth 100000
set_option maxHeartbeats 8000000
namespace Mine
local macro_rules | `(tactic| ktr_enter) => `(tactic| (k_dflt (refine' code_pure ?k1 ?k2 ?k3 ?k5 ?kA ?kF ?kK ?k6 ?k7 ?k8 ?k9 ?kB ?_ ?c2 ?c3 ?c4 ?c5; (case kA => exact rfl); (case kF => exact rfl); (case kK => first | assumption | exact rfl); (case k1 => k_asm); (case k2 => k_asm); (case k3 => k_asm); (case k5 => k_asm); (case k6 => k_is); (case k7 => k_is); (case k8 => ktr_room); (case k9 => first | exact BindsTo.of_eq rfl | exact binds_K (by k_in) rfl (by k_is) rfl rfl rfl); (case c5 => decide); (case kB => exact locs rfl); (case c2 => exact rfl); (case c3 => exact rfl); (case c4 => exact rfl); k_whole; intro g' L' h' hg' FG' F' N' B' X' T'; (try dsimp only); (try k_lift B'); (try k_fold))))
local macro_rules | `(tactic| k_room) => `(tactic| ktr_room)
local macro_rules | `(tactic| wtm_at "x call ref") => `(tactic| (k_here; (with_reducible show wpAny _ _ (call (Value.ref 999) [Value.bytes _ _, Value.bool true, Value.bool false] []) _ _ _); k_dflt (refine' Pure.use (dr1 _ _ _ _ ?c1 ?c2 ?c3) ?kB ?kF ?kX ?kN ?kT ?kK ?kD ?kU ?_; (case c1 => kba_ints2); (case c2 => assumption); (case c3 => assumption); (case kB => k_asm); (case kF => k_asm); (case kX => k_asm); (case kN => k_asm); (case kT => k_asm); (case kK => first | exact rfl | assumption); (case kD => ktr_room); (case kU => ktr_units); k_whole); intro r' h' tk' F' N' hr'; (obtain ⟨x', b', t', y', ex', hx1', hx2', hci'⟩ := hr'; subst ex'; (have N' := news_add (by assumption) N' hx1' hx2'); clear hx1' hx2'); (try k_sweep); (try dsimp only); (try k_fold)))
theorem news_tl {h₀ h : Heap} {L : Addr} {x : Addr × Obj} {l : List (Addr × Obj)} (N : News h₀ L h (x :: l)) : News h₀ L h l := fun p hp => N p (List.mem_cons_of_mem _ hp)
local macro_rules | `(tactic| wtm_at "x eval Call Attribute") => `(tactic| (k_here; (with_reducible show wpAny _ _ (eval (Expr.Call (Expr.Attribute _ _ _) [_] [⟨none, _, _⟩] _) _) _ _ _); refine methodCall_ss ?_))
local macro_rules | `(tactic| wtm_at "x callWith ref") => `(tactic| (k_here; (with_reducible show wpAny _ _ (callWith _ (Value.ref _) [] _ (backToKw _ _)) _ _ _); k_dflt (refine' callWith_ssN (K := Mine.kk.heap_1 _) ?cF ?cN ?cX ?cf ?cy ?cx ?cD ?cs ?cI ?cq ?_; (case cF => k_asm); (case cN => k_asm); (case cX => k_asm); (case cq => k_mem); (case cf => k_is); (case cy => rfl); (case cx => rfl); (case cI => assumption); (case cD => k_mem); (case cs => assumption); k_whole); intro h' F' N'; (try k_fold)))
theorem dec1 (w : World) (b : Array UInt8) (ks : List Int) (t : Tok) (hb : KBw.bInts b = ks) (h1 : ks.length = 1) (h2 : ks.getD (Int.toNat 0) 0 < 128) (h4 : ks.getD 0 0 ≠ 0) : Calm w 7 56 1043 [.bytes b t, .ref 835] (fun h' r => ∃ t', r = .int (KFB.value ks) t') := by
  unfold Calm
  k_fill
  intro p loose mean mg mb dp un gd cn cs a ccd cl outer A₀ base h₀ L m news s Q E B F X N T hk hd hu hret
  obtain ⟨ck, cnm, cg, cc, cm⟩ := cs
  change ck = _ at hk
  subst hk
  refine wpAny_call ?_
  k_dflt k_enter
  k_steps
  all_goals first
    | exact hret _ _ _ (by assumption) (by first | exact news_tl (news_tl (news_tl (by assumption))) | exact news_tl (news_tl (news_tl (news_tl (by assumption)))) | exact news_tl (news_tl (news_tl (news_tl (news_tl (by assumption)))))) ⟨_, rfl⟩
    | exact (no_nought (by assumption) (by assumption) (.inr h4)).elim
    | (exfalso; omega)
end Mine
end

section
open PySem PySem.W PyProof.Rows PySem.Calls
set_option maxRecDepth 100000
set_option maxHeartbeats 8000000
namespace Mine
local macro_rules | `(tactic| ktr_enter) => `(tactic| (k_dflt (refine' code_pure ?k1 ?k2 ?k3 ?k5 ?kA ?kF ?kK ?k6 ?k7 ?k8 ?k9 ?kB ?_ ?c2 ?c3 ?c4 ?c5; (case kA => exact rfl); (case kF => exact rfl); (case kK => first | assumption | exact rfl); (case k1 => k_asm); (case k2 => k_asm); (case k3 => k_asm); (case k5 => k_asm); (case k6 => k_is); (case k7 => k_is); (case k8 => ktr_room); (case k9 => first | exact BindsTo.of_eq rfl | exact binds_K (by k_in) rfl (by k_is) rfl rfl rfl); (case c5 => decide); (case kB => exact locs rfl); (case c2 => exact rfl); (case c3 => exact rfl); (case c4 => exact rfl); k_whole; intro g' L' h' hg' FG' F' N' B' X' T'; (try dsimp only); (try k_lift B'); (try k_fold))))
local macro_rules | `(tactic| k_room) => `(tactic| ktr_room)
theorem ci2 (w : World) (b : Array UInt8) (ks : List Int) (pl n : Int) (t u : Tok) (hb : KBw.bInts b = ks) (hz : ks.length ≤ 1000) (h0 : 0 ≤ pl) (hn : 0 ≤ n) (h8 : n ≤ 8) (h1 : pl + 1 + n ≤ ks.length) (h2 : ks.getD pl.toNat 0 = 128 + n) (h3 : n = 1 → 128 ≤ ks.getD (pl + 1).toNat 0) : Pure w 3 24 1035 [.bytes b t, .int pl u] (fun h h' r => ∃ x b' t' y e tk, r = .ref x ∧ h.get? x = none ∧ h'.get? x = some { cls := .type "tuple", data := .seq #[.bytes b' t', .ref y, .int e tk] } ∧ e = (pl + 1 + n) ∧ KBw.bInts b' = (ks.drop (pl + 1).toNat).take n.toNat) := by
  unfold Pure
  k_fill
  intro p loose mean mg mb dp un gd cn cs a ccd cl outer A₀ base h₀ L m s Q E B F X T hk hd hu hret
  ktr_enter
  k_steps
  all_goals first
    | exact hret _ _ _ (pure_keep (by assumption) (by k_asm)) ⟨_, _, _, _, _, _, rfl, (pure_new (by assumption) (by assumption) List.mem_cons_self).1, (pure_new (by assumption) (by assumption) List.mem_cons_self).2, by omega, (cut_ints hb (by omega) (by omega) (by omega)).trans (by congr 1; omega)⟩
    | (exfalso; omega)
end Mine
end

section
open PySem PySem.W PyProof.Rows PySem.Calls
set_option maxRecDepth 100000
set_option maxHeartbeats 8000000
namespace Mine
local macro_rules | `(tactic| ktr_enter) => `(tactic| (k_dflt (refine' code_pure ?k1 ?k2 ?k3 ?k5 ?kA ?kF ?kK ?k6 ?k7 ?k8 ?k9 ?kB ?_ ?c2 ?c3 ?c4 ?c5; (case kA => exact rfl); (case kF => exact rfl); (case kK => first | assumption | exact rfl); (case k1 => k_asm); (case k2 => k_asm); (case k3 => k_asm); (case k5 => k_asm); (case k6 => k_is); (case k7 => k_is); (case k8 => ktr_room); (case k9 => first | exact BindsTo.of_eq rfl | exact binds_K (by k_in) rfl (by k_is) rfl rfl rfl); (case c5 => decide); (case kB => exact locs rfl); (case c2 => exact rfl); (case c3 => exact rfl); (case c4 => exact rfl); k_whole; intro g' L' h' hg' FG' F' N' B' X' T'; (try dsimp only); (try k_lift B'); (try k_fold))))
local macro_rules | `(tactic| k_room) => `(tactic| ktr_room)
local macro_rules | `(tactic| wtm_at "x call ref") => `(tactic| (k_here; (with_reducible show wpAny _ _ (call (Value.ref 1035) [Value.bytes _ _, Value.int _ _] []) _ _ _); k_dflt (refine' Pure.use (ci2 _ _ _ _ _ _ _ ?c1 ?c2 ?c3 ?c4 ?c5 ?c6 ?c7 ?c8) ?kB ?kF ?kX ?kN ?kT ?kK ?kD ?kU ?_; (case c1 => kba_ints2); (case c7 => assumption); (case c8 => assumption); (case c2 => omega); (case c3 => omega); (case c4 => omega); (case c5 => omega); (case c6 => omega); (case kB => k_asm); (case kF => k_asm); (case kX => k_asm); (case kN => k_asm); (case kT => k_asm); (case kK => first | exact rfl | assumption); (case kD => ktr_room); (case kU => ktr_units); k_whole); intro r' h' tk' F' N' hr'; (obtain ⟨x', b', t', y', e', u', ex', hx1', hx2', he', hci'⟩ := hr'; subst ex'; subst he'; (have N' := news_add (by assumption) N' hx1' hx2'); clear hx1' hx2'); (try k_sweep); (try dsimp only); (try k_fold)))
theorem dr2 (w : World) (b : Array UInt8) (ks : List Int) (n : Int) (t : Tok) (hb : KBw.bInts b = ks) (hn : 0 ≤ n) (h8 : n ≤ 8) (h1 : (ks.length : Int) = 1 + n) (h2 : ks.getD (Int.toNat 0) 0 = 128 + n) (h3 : n = 1 → 128 ≤ ks.getD (0 + 1 : Int).toNat 0) : Pure w 5 40 999 [.bytes b t, .bool true, .bool false] (fun h h' r => ∃ x b' t' y, r = .ref x ∧ h.get? x = none ∧ h'.get? x = some { cls := .type "tuple", data := .seq #[.bytes b' t', .ref y] } ∧ KBw.bInts b' = ks.drop 1) := by
  unfold Pure
  k_fill
  intro p loose mean mg mb dp un gd cn cs a ccd cl outer A₀ base h₀ L m s Q E B F X T hk hd hu hret
  ktr_enter
  k_steps
  all_goals first
    | exact hret _ _ _ (pure_keep (by assumption) (by k_asm)) ⟨_, _, _, _, rfl, (pure_new (by assumption) (by assumption) List.mem_cons_self).1, (pure_new (by assumption) (by assumption) List.mem_cons_self).2, (by assumption : KBw.bInts _ = _).trans (List.take_of_length_le (by rw [List.length_drop]; omega))⟩
end Mine
end

section
open PySem PySem.W PyProof.Rows PySem.Calls
set_option maxRecDepth 100000
set_option maxHeartbeats 8000000
namespace Mine
local macro_rules | `(tactic| ktr_enter) => `(tactic| (k_dflt (refine' code_pure ?k1 ?k2 ?k3 ?k5 ?kA ?kF ?kK ?k6 ?k7 ?k8 ?k9 ?kB ?_ ?c2 ?c3 ?c4 ?c5; (case kA => exact rfl); (case kF => exact rfl); (case kK => first | assumption | exact rfl); (case k1 => k_asm); (case k2 => k_asm); (case k3 => k_asm); (case k5 => k_asm); (case k6 => k_is); (case k7 => k_is); (case k8 => ktr_room); (case k9 => first | exact BindsTo.of_eq rfl | exact binds_K (by k_in) rfl (by k_is) rfl rfl rfl); (case c5 => decide); (case kB => exact locs rfl); (case c2 => exact rfl); (case c3 => exact rfl); (case c4 => exact rfl); k_whole; intro g' L' h' hg' FG' F' N' B' X' T'; (try dsimp only); (try k_lift B'); (try k_fold))))
local macro_rules | `(tactic| k_room) => `(tactic| ktr_room)
theorem dr2L (w : World) (b : Array UInt8) (ks : List Int) (n : Int) (t : Tok) (l : List Int) (hb : KBw.bInts b = ks) (hn : 0 ≤ n) (h8 : n ≤ 8) (h1 : (ks.length : Int) = 1 + n) (h2 : ks.getD (Int.toNat 0) 0 = 128 + n) (h3 : n = 1 → 128 ≤ ks.getD (0 + 1 : Int).toNat 0) (hdl : ks.drop 1 = l) : Pure w 5 40 999 [.bytes b t, .bool true, .bool false] (fun h h' r => ∃ x b' t' y, r = .ref x ∧ h.get? x = none ∧ h'.get? x = some { cls := .type "tuple", data := .seq #[.bytes b' t', .ref y] } ∧ KBw.bInts b' = l) := by
  subst hdl
  exact dr2 w b ks n t hb hn h8 h1 h2 h3
local macro_rules | `(tactic| wtm_at "x call ref") => `(tactic| (k_here; (with_reducible show wpAny _ _ (call (Value.ref 999) [Value.bytes _ _, Value.bool true, Value.bool false] []) _ _ _); k_dflt (refine' Pure.use (dr2L _ _ _ _ _ _ ?c1 ?c2 ?c3 ?c4 ?c5 ?c6 ?c7) ?kB ?kF ?kX ?kN ?kT ?kK ?kD ?kU ?_; (case c1 => kba_ints2); (case c7 => assumption); (case c5 => assumption); (case c6 => assumption); (case c4 => assumption); (case c2 => omega); (case c3 => omega); (case kB => k_asm); (case kF => k_asm); (case kX => k_asm); (case kN => k_asm); (case kT => k_asm); (case kK => first | exact rfl | assumption); (case kD => ktr_room); (case kU => ktr_units); k_whole); intro r' h' tk' F' N' hr'; (obtain ⟨x', b', t', y', ex', hx1', hx2', hci'⟩ := hr'; subst ex'; (have N' := news_add (by assumption) N' hx1' hx2'); clear hx1' hx2'); (try k_sweep); (try dsimp only); (try k_fold)))
theorem news_tl2 {h₀ h : Heap} {L : Addr} {x : Addr × Obj} {l : List (Addr × Obj)} (N : News h₀ L h (x :: l)) : News h₀ L h l := fun p hp => N p (List.mem_cons_of_mem _ hp)
local macro_rules | `(tactic| wtm_at "x eval Call Attribute") => `(tactic| (k_here; (with_reducible show wpAny _ _ (eval (Expr.Call (Expr.Attribute _ _ _) [_] [⟨none, _, _⟩] _) _) _ _ _); refine methodCall_ss ?_))
local macro_rules | `(tactic| wtm_at "x callWith ref") => `(tactic| (k_here; (with_reducible show wpAny _ _ (callWith _ (Value.ref _) [] _ (backToKw _ _)) _ _ _); k_dflt (refine' callWith_ssN (K := Mine.kk.heap_1 _) ?cF ?cN ?cX ?cf ?cy ?cx ?cD ?cs ?cI ?cq ?_; (case cF => k_asm); (case cN => k_asm); (case cX => k_asm); (case cq => k_mem); (case cf => k_is); (case cy => rfl); (case cx => rfl); (case cI => assumption); (case cD => k_mem); (case cs => assumption); k_whole); intro h' F' N'; (try k_fold)))
theorem dec2 (w : World) (b : Array UInt8) (ks : List Int) (n : Int) (t : Tok) (hb : KBw.bInts b = ks) (hn : 0 ≤ n) (h8 : n ≤ 8) (h1 : (ks.length : Int) = 1 + n) (h2 : ks.getD (Int.toNat 0) 0 = 128 + n) (h3 : n = 1 → 128 ≤ ks.getD (0 + 1 : Int).toNat 0) (l : List Int) (hdl : ks.drop 1 = l) (hl8 : l.length ≤ 8) (h4 : l.length = 0 ∨ l.getD 0 0 ≠ 0) : Calm w 7 56 1043 [.bytes b t, .ref 835] (fun h' r => ∃ t', r = .int (KFB.value l) t') := by
  unfold Calm
  k_fill
  intro p loose mean mg mb dp un gd cn cs a ccd cl outer A₀ base h₀ L m news s Q E B F X N T hk hd hu hret
  obtain ⟨ck, cnm, cg, cc, cm⟩ := cs
  change ck = _ at hk
  subst hk
  refine wpAny_call ?_
  k_dflt k_enter
  k_steps
  all_goals first
    | exact hret _ _ _ (by assumption) (by first | exact news_tl2 (news_tl2 (news_tl2 (by assumption))) | exact news_tl2 (news_tl2 (news_tl2 (news_tl2 (by assumption)))) | exact news_tl2 (news_tl2 (news_tl2 (news_tl2 (news_tl2 (by assumption)))))) ⟨_, rfl⟩
    | exact (no_nought (by assumption) (by assumption) h4).elim
    | ((have hl0 : l = [] := List.eq_nil_of_length_eq_zero (by omega)); subst hl0; exact hret _ _ _ (by assumption) (by first | exact news_tl2 (news_tl2 (news_tl2 (by assumption))) | exact news_tl2 (news_tl2 (news_tl2 (news_tl2 (by assumption)))) | exact news_tl2 (news_tl2 (news_tl2 (news_tl2 (news_tl2 (by assumption)))))) ⟨_, rfl⟩)
    | ((have hl0 : l = [] := List.eq_nil_of_length_eq_zero (by simpa using (by assumption : ¬ ((List.length _ : Nat) ≠ 0)))); subst hl0; exact hret _ _ _ (by assumption) (by first | exact news_tl2 (news_tl2 (news_tl2 (by assumption))) | exact news_tl2 (news_tl2 (news_tl2 (news_tl2 (by assumption)))) | exact news_tl2 (news_tl2 (news_tl2 (news_tl2 (news_tl2 (by assumption)))))) ⟨_, rfl⟩)
end Mine
end

section
open PySem PySem.W PyProof.Rows PySem.Calls
set_option maxRecDepth 100000
namespace Mine
theorem val_fold : ∀ (n : Nat) (x a : Int), 0 ≤ x → x < 256 ^ n → (KTBy.little n x).reverse.foldl (fun a k => a * 256 + k) a = a * 256 ^ n + x := by
  intro n
  induction n with
  | zero => intro x a h0 h1; simp only [Int.pow_zero] at h1; show a = a * 1 + x; omega
  | succ n ih =>
    intro x a h0 h1
    show (x % 256 :: KTBy.little n (x / 256)).reverse.foldl _ _ = _
    rw [List.reverse_cons, List.foldl_append, ih (x / 256) a (by omega) (by rw [Int.pow_succ] at h1; omega)]
    show (a * 256 ^ n + x / 256) * 256 + x % 256 = _
    rw [Int.pow_succ, Int.add_mul, Int.mul_assoc]
    omega
theorem val_little {n : Nat} {x : Int} (h0 : 0 ≤ x) (h1 : x < 256 ^ n) : KFB.value (KTBy.little n x).reverse = x := by
  unfold KFB.value
  rw [val_fold n x 0 h0 h1]
  omega
theorem val_be {v : Int} (h0 : 0 ≤ v) : KFB.value (be v) = v := val_little h0 (nb_lt h0)
theorem little_getD : ∀ (n i : Nat) (x : Int), i < n → (KTBy.little n x).getD i 0 = x / 256 ^ i % 256 := by
  intro n i x h
  rw [KTBy.little_eq, List.getD_eq_getElem?_getD, List.getElem?_map, List.getElem?_range h]
  rfl
theorem lead_be {v : Int} (h0 : 0 < v) : (be v).getD 0 0 ≠ 0 := by
  have hp := nb_pos h0
  have hge : (256 : Int) ^ (nb v - 1) ≤ v := by
    rcases Int.lt_or_le v (256 ^ (nb v - 1)) with h | h
    · have := nb_le (by omega) h
      omega
    · exact h
  have hlt := nb_lt (i := v) (by omega)
  have e : (be v).getD 0 0 = v / 256 ^ (nb v - 1) % 256 := by
    unfold be
    rw [List.getD_eq_getElem?_getD, List.getElem?_reverse (by rw [KTBy.little_length]; exact hp), KTBy.little_length, ← List.getD_eq_getElem?_getD]
    rw [little_getD _ _ _ (by omega)]
    rfl
  rw [e]
  have hpos : (0 : Int) < 256 ^ (nb v - 1) := Int.pow_pos (by decide)
  have e2 : (256 : Int) ^ nb v = 256 ^ (nb v - 1) * 256 := by
    rw [← Int.pow_succ]
    congr 1
    omega
  have a1 : 1 ≤ v / 256 ^ (nb v - 1) := by
    rw [Int.le_ediv_iff_mul_le hpos]
    omega
  have a2 : v / 256 ^ (nb v - 1) < 256 := by
    rw [Int.ediv_lt_iff_lt_mul hpos]
    rw [Int.mul_comm, ← e2]
    exact hlt
  omega
theorem oct_be {v : Int} (i : Nat) (h : i < (be v).length) : 0 ≤ (be v).getD i 0 ∧ (be v).getD i 0 < 256 := by
  have hl : i < nb v := by rw [be_len] at h; exact h
  unfold be
  rw [List.getD_eq_getElem?_getD, List.getElem?_reverse (by rw [KTBy.little_length]; exact hl), KTBy.little_length, ← List.getD_eq_getElem?_getD]
  rw [little_getD _ _ _ (by omega)]
  omega
theorem decv (w : World) (b : Array UInt8) (t : Tok) (v : Int) (h0 : 0 ≤ v) (h1 : v < 18446744073709551616) (hb : KBw.bInts b = rlpOf (be v)) : Calm w 7 56 1043 [.bytes b t, .ref 835] (fun h' r => ∃ t', r = .int v t') := by
  have h8 := nb_le8 h0 h1
  have hl := be_len v
  unfold rlpOf at hb
  split at hb
  next c =>
    have c' : v ≠ 0 := by
      intro e
      subst e
      rw [be_zero] at c
      exact absurd c.1 (by decide)
    have := dec1 w b (be v) t hb c.1 c.2 (lead_be (by omega))
    rw [val_be h0] at this
    exact this
  next c =>
    have := dec2 w b _ ((be v).length : Int) t hb (by omega) (by omega) (by rw [List.length_cons]; omega) rfl (fun hn => ?_) (be v) rfl (by omega) ?_
    · rw [val_be h0] at this
      exact this
    · show (128 : Int) ≤ (be v).getD 0 0
      have : ¬ (be v).getD 0 0 < 128 := fun h => c ⟨by omega, h⟩
      omega
    · rcases Int.lt_or_le 0 v with h | h
      · exact .inr (lead_be h)
      · have : v = 0 := by omega
        subst this
        left
        rw [be_zero]
        rfl
end Mine
end

section
open PySem PySem.W PyProof.Rows PySem.Calls
set_option maxRecDepth 100000
set_option maxHeartbeats 4000000
namespace Mine
theorem little_add : ∀ (a b : Nat) (x : Int), KTBy.little (a + b) x = KTBy.little a x ++ KTBy.little b (x / 256 ^ a)
  | 0, b, x => by simp [KTBy.little]
  | a + 1, b, x => by
    rw [Nat.succ_add]
    show x % 256 :: KTBy.little (a + b) (x / 256) = x % 256 :: (KTBy.little a (x / 256) ++ KTBy.little b (x / 256 ^ (a + 1)))
    rw [little_add a b (x / 256), Int.ediv_ediv_of_nonneg (by decide), Int.pow_succ, Int.mul_comm]
theorem little_nought : ∀ (n : Nat), KTBy.little n 0 = List.replicate n 0
  | 0 => rfl
  | n + 1 => by
    show (0 : Int) % 256 :: KTBy.little n (0 / 256) = _
    rw [List.replicate_succ]
    show (0 : Int) :: KTBy.little n 0 = _
    rw [little_nought n]
theorem little_be {d : Int} {n : Nat} (h0 : 0 ≤ d) (h1 : d < 256 ^ n) : (KTBy.little n d).reverse = List.replicate (n - nb d) 0 ++ be d := by
  have hn := nb_le h0 h1
  have e := little_add (nb d) (n - nb d) d
  rw [Nat.add_sub_of_le hn, Int.ediv_eq_zero_of_lt h0 (nb_lt h0), little_nought] at e
  rw [e, List.reverse_append, List.reverse_replicate]
  rfl
theorem strip_rep : ∀ (n : Nat) (l : List Int), stripZ (List.replicate n 0 ++ l) = stripZ l
  | 0, l => rfl
  | n + 1, l => by
    rw [List.replicate_succ, List.cons_append, stripZ, if_pos rfl]
    exact strip_rep n l
theorem strip_be {d : Int} (h0 : 0 ≤ d) : stripZ (be d) = be d := by
  by_cases hd : d = 0
  · subst hd
    rw [be_zero]
    rfl
  · have hl := lead_be (v := d) (by omega)
    generalize be d = l at hl
    cases l with
    | nil => rfl
    | cons x l => rw [stripZ, if_neg (by simpa using hl)]
theorem strip_little {d : Int} {n : Nat} (h0 : 0 ≤ d) (h1 : d < 256 ^ n) : stripZ (KTBy.little n d).reverse = be d := by
  rw [little_be h0 h1, strip_rep, strip_be h0]
theorem strip_small {d : Int} (h0 : 0 ≤ d) (h1 : d < 253) : stripZ [d] = be d := by
  have := strip_little (n := 1) h0 (by omega)
  rw [← this]
  show stripZ [d] = stripZ [d % 256]
  rw [Int.emod_eq_of_lt h0 (by omega)]
theorem be_len8 {d : Int} (h0 : 0 ≤ d) (h1 : d < 18446744073709551616) : (be d).length ≤ 8 := by
  rw [be_len]
  exact nb_le8 h0 h1
theorem rlp_len {d : Int} : (rlpOf (be d)).length ≤ 1 + (be d).length := by
  unfold rlpOf
  split
  · omega
  · rw [List.length_cons]; omega
theorem be_one {d : Int} (h0 : 0 < d) (h1 : d < 256) : be d = [d] := by
  have h2 := strip_little (n := 1) (Int.le_of_lt h0) (by omega)
  rw [← h2]
  show stripZ [d % 256] = [d]
  rw [Int.emod_eq_of_lt (by omega) h1, stripZ, if_neg (by omega)]
theorem comp_len {d : Int} : (compact d).length = (if d < 253 then 1 else if d < 65536 then 3 else if d < 4294967296 then 5 else 9) := by
  unfold compact
  split
  · rfl
  · split
    · rw [List.length_cons, KTBy.little_length]
    · split
      · rw [List.length_cons, KTBy.little_length]
      · rw [List.length_cons, KTBy.little_length]
theorem len_c1 {d : Int} (h : 127 < d) (h2 : d < 253) : (rlpOf (be d)).length = (compact d).length + 1 := by
  rw [comp_len, if_pos h2, be_one (by omega) (by omega), rlpOf, if_neg (by simp; omega)]
  rfl
theorem len_c2 {d : Int} (h0 : 0 ≤ d) (h : d ≤ 127) : (rlpOf (be d)).length ≤ (compact d).length := by
  rw [comp_len, if_pos (by omega)]
  by_cases hd : d = 0
  · subst hd
    rw [be_zero]
    decide
  · rw [be_one (by omega) (by omega), rlpOf, if_pos ⟨rfl, by simpa using (by omega : d < 128)⟩]
    exact Nat.le_refl _
theorem len_c3 {d : Int} (h : 253 ≤ d) (h1 : d < 18446744073709551616) : (rlpOf (be d)).length ≤ (compact d).length := by
  have hr := rlp_len (d := d)
  rw [comp_len, if_neg (by omega)]
  rw [be_len] at hr
  split
  · rename_i h2
    have := nb_le (k := 2) (by omega : 0 ≤ d) (by simpa using h2)
    omega
  · split
    · rename_i h2
      have := nb_le (k := 4) (by omega : 0 ≤ d) (by simpa using h2)
      omega
    · have := nb_le8 (by omega : 0 ≤ d) h1
      omega
end Mine
end

section
open PySem PySem.W PyProof.Rows PySem.Calls
set_option maxRecDepth 100000
set_option maxHeartbeats 8000000
namespace Mine
local macro_rules | `(tactic| k_room) => `(tactic| ktr_room)
theorem ldn {M : Model} {A : Around} {E : Value → Shared → Prop} {s : Shared} {h₀ : Heap} {L a : Addr} {m : PySem.Str → Option Value} {cn : PySem.Str} {cs : Scope} {ccd : Value} {cl : List (PySem.Str × Addr)} {x : PySem.Str} {v : Value} {Q : Value → Shared → Prop} (F : Fr h₀ L s.heap m) (hv : m x = some v) (h : Q v s)
    (hk : cs.kind = .function := by rfl) (hx : (envX cn cs L a ccd cl).kindOf x = some .local := by rfl) : wpAny M A (loadName (envX cn cs L a ccd cl) x) Q E s := wpAny_loadName_local hk hx F.ns hv h
theorem cut_pl {o : Array UInt8} {os l : List Int} {pl : Int} (sz : Nat) (ho : KBw.bInts o = os) (h0 : 0 ≤ pl) (h2 : pl + sz ≤ os.length) (hc : (os.drop pl.toNat).take sz = l) : KBw.bInts (KBy.picked o (some pl) (some (pl + (sz : Int)))) = l := by
  rw [cut_ints ho h0 (by omega) h2, ← hc]
  congr 1
  omega
section
variable {prog : Program} {w : World} {A : Around} {E : Value → Shared → Prop} {s : Shared}
/-- an item that is known -/
theorem item_is {value slice : Expr} {b : Array UInt8} {t ui : Tok} {os : List Int} {pl k : Int} {Q : Value → Shared → Prop} (hk : KBw.bInts b = os) (hz : os.length ≤ 1000) (h0 : 0 ≤ pl) (h1 : pl < os.length) (hg : os.getD pl.toNat 0 = k)
    (h : ∀ t' q, Q (.int k t') { s with toks := q })
    (hs : subscripted slice false (.bytes b t) (.int pl ui) = operate [.bytes b t, .int pl ui] (getItem (.bytes b t) (.int pl ui)) := by with_unfolding_all rfl)
    (ht : ∀ r, letTemporaryGo value (.bytes b t) r = pure () := by intro _; with_unfolding_all rfl) : wpAny (model prog w) A (subscriptTail value slice (.bytes b t) (.int pl ui)) Q E s :=
  KBw.item_K hk (by omega) h0 h1 (fun t' q _ _ => by rw [hg]; exact h _ _) hs ht
end
theorem news_append {h₀ h h7 : Heap} {L x Dt : Addr} {o : Obj} {tv : List Value} {v : Value} {news : List (Addr × Obj)} (N : News h₀ L h ((x, o) :: (Dt, LCg.lst tv) :: news)) (hx : ∀ p ∈ (Dt, LCg.lst tv) :: news, p.1 ≠ x) (hDt : ∀ p ∈ news, p.1 ≠ Dt) (hs : Heap.SameBut Dt h h7)
    (hD : h7.get? Dt = some { cls := .type "list", data := .seq (tv.toArray.push v) (tv.length + 1) }) : News h₀ L h7 ((x, o) :: (Dt, LCg.lst (tv ++ [v])) :: news) := fun p hp => by
  rcases List.mem_cons.mp hp with rfl | hp
  · exact ⟨hs.extBut _ _ (Ne.symm (hx _ (.head _))) (N _ (.head _)).1, (N _ (.head _)).2⟩
  · rcases List.mem_cons.mp hp with rfl | hp
    · exact ⟨hD.trans (congrArg some (LCg.lst_snoc tv v)), (N _ (.tail _ (.head _))).2⟩
    · exact ⟨hs.extBut _ _ (hDt p hp) (N p (.tail _ (.tail _ hp))).1, (N p (.tail _ (.tail _ hp))).2⟩
end Mine
end

section
open PySem PySem.W PyProof.Rows PySem.Calls
set_option maxRecDepth 100000
set_option maxHeartbeats 8000000
namespace Mine
local macro_rules | `(tactic| k_room) => `(tactic| ktr_room)
/-- no item is the beginning of another one -/
structure PF (vs : List Value) : Prop where
  b : ∀ v ∈ vs, ∃ b t, v = .bytes b t ∧ b.size ≤ 1000
  f : ∀ a t a' t', .bytes a t ∈ vs → .bytes a' t' ∈ vs → KBw.bInts a ≠ KBw.bInts a' → (KBw.bInts a').take (KBw.bInts a).length ≠ KBw.bInts a
theorem pf_no {b1 b2 P : Array UInt8} {k1 k2 : List Int} (h : k1 ≠ k2 → List.take k1.length k2 ≠ k1) (h1 : KBw.bInts b1 = k1) (h2 : KBw.bInts b2 = k2) (n : (b1.toList != b2.toList) = true) (q : (P.toList == b1.toList) = true) (e : KBw.bInts P = List.take (min k1.length k2.length) k2) : False := by
  refine h (fun x => tl_bne n (h1.trans (x.trans h2.symm))) ?_
  have e2 : List.take (min k1.length k2.length) k2 = List.take k1.length k2 := by
    rcases Nat.le_total k1.length k2.length with l | l
    · rw [Nat.min_eq_left l]
    · rw [Nat.min_eq_right l, List.take_length, List.take_of_length_le l]
  rw [← e2, ← e, tl_eq q, h1]
theorem or_arr {a b : Array UInt8} (h : (a.toList != b.toList) = true) : KBw.bInts a ≠ KBw.bInts b := fun e => tl_bne h e
theorem body4 (w : World) (cs : Scope) (hcs : cs = lawScope w) (st : Stmt) (hst : st = (forBody (lawSt w 4)).getD 0 (.Pass default))  :
  ∀ (p : Program) (loose : List PySem.Str) (mean : ExcName → Option Value) (mg mb : PySem.Str → Option Value) (dp un : Nat) (gd : Option (List Code)) (a : Addr) (ccd : Value) (cR cP cS : Addr) (outer : List Env) (A₀ : Around)
    (base h₀ : Heap) (L : Addr) (m : PySem.Str → Option Value) (news : List (Addr × Obj)) (ax : Addr) (vs : List Value) (oR : Obj) (s : Shared) (Q : Flow → Shared → Prop) (E : Value → Shared → Prop),
    Below A₀ base outer h₀ → Fr h₀ L s.heap m → (Mine.kk.heap_1 w.params).In h₀ → News h₀ L s.heap ((ax, LCg.lst vs) :: (cR, oR) :: news) → Top p loose mean mg mb h₀ → dp + 12 < recursionLimit → un + 200 < cLine →
    oR.data = .cell (some (.ref ax)) → PF vs → vs.length ≤ 8 →
    (∀ (h' : Heap) (tk' : Nat), Fr h₀ L h' m → News h₀ L h' ((ax, LCg.lst vs) :: (cR, oR) :: news) → Q .next { s with heap := h', toks := tk' }) →
    wpAny (model PySem.Challenge.rw_vn0014_01.prog w) (ktrTop dp un gd (PySem.Str.ofString "law") cs L a ccd [(PySem.Str.ofString "rows", cR), (PySem.Str.ofString "plain", cP), (PySem.Str.ofString "shorts", cS)] outer) (exec st (envX (PySem.Str.ofString "law") cs L a ccd [(PySem.Str.ofString "rows", cR), (PySem.Str.ofString "plain", cP), (PySem.Str.ofString "shorts", cS)])) Q E s := by
  k_fill
  (conv at hcs => rhs; whnf)
  (conv at hst => rhs; whnf)
  subst hcs
  subst hst
  intro p loose mean mg mb dp un gd a ccd cR cP cS outer A₀ base h₀ L m news ax vs oR s Q E B F X N T hd hu hR pf hl hret
  k_steps
  refine comp2_empty (h₀ := h₀) (L := L) (m := m) (news := (ax, LCg.lst vs) :: (cR, oR) :: news) (by rfl) (by with_unfolding_all rfl) (by decide) (by rfl) (by decide) (by rfl) (by rfl) (by decide +kernel) (by intro _; rfl) (by intro _ _; rfl) (.head _) ?src ?rows ?test ?fin
  case src =>
    intro Q' hq
    k_steps
    exact hq _ _ (by assumption) (by assumption)
  case rows =>
    intro I C D o oC m2 h tk Q' hn F N hq
    k_steps
    exact hq _ _ (by assumption) (by assumption)
  case test =>
    intro I I2 C D o1 o oC vx v m2 h tk hvx hv e1 e2 hn F N
    obtain ⟨b1, t1, rfl, z1⟩ := pf.b _ hvx
    obtain ⟨b2, t2, rfl, z2⟩ := pf.b _ hv
    have pff := pf.f _ _ _ _ hvx hv
    have y1 : (KBw.bInts b1).length ≤ 1000 := by rw [KBw.ints_length]; exact z1
    have y2 : (KBw.bInts b2).length ≤ 1000 := by rw [KBw.ints_length]; exact z2
    generalize hk1 : KBw.bInts b1 = k1 at pff y1
    generalize hk2 : KBw.bInts b2 = k2 at pff y2
    k_steps
    all_goals first
      | assumption
      | trivial
      | (exfalso; exact pf_no pff hk1 hk2 (by assumption) (by assumption) (by assumption))
  case fin =>
    intro D h' tk' F' N'
    clear F N
    k_steps
    all_goals first
      | exact hret _ _ (by assumption) (news_t1 (news_t1 (by assumption)))
end Mine
end

section
open PySem PySem.W PyProof.Rows PySem.Calls
set_option maxRecDepth 100000
set_option maxHeartbeats 8000000
namespace Mine
local macro_rules | `(tactic| k_room) => `(tactic| ktr_room)
def CalmNew (w : World) (k u : Nat) (f : Addr) (vs : List Value) : Prop :=
  ∀ (p : Program) (loose : List PySem.Str) (mean : ExcName → Option Value) (mg mb : PySem.Str → Option Value) (dp un : Nat) (gd : Option (List Code)) (cn : PySem.Str) (cs : Scope) (a : Addr) (ccd : Value) (cl : List (PySem.Str × Addr)) (outer : List Env) (A₀ : Around)
    (base h₀ : Heap) (L : Addr) (m : PySem.Str → Option Value) (news : List (Addr × Obj)) (s : Shared) (Q E : Value → Shared → Prop),
    Below A₀ base outer h₀ → Fr h₀ L s.heap m → (Mine.kk.heap_1 w.params).In h₀ → News h₀ L s.heap news → Top p loose mean mg mb h₀ → cs.kind = .function → dp + k < recursionLimit → un + u < cLine →
    (∀ (x dx : Addr) (h' : Heap) (tk' : Nat), Fr h₀ L h' m → News h₀ L h' ((x, instObj 357 dx) :: (dx, emptyDict) :: news) → (∀ p ∈ news, p.1 < dx) → dx < x → Q (.ref x) { s with heap := h', toks := tk' }) →
    wpAny (model PySem.Challenge.rw_vn0014_01.prog w) (ktrTop dp un gd cn cs L a ccd cl outer) (call (.ref f) vs) Q E s
theorem news_mid2 {h₀ h : Heap} {L : Addr} {a b c d : Addr × Obj} {l : List (Addr × Obj)} (N : News h₀ L h (a :: b :: c :: d :: l)) : News h₀ L h (a :: b :: l) := fun p hp => N p (by
  rcases List.mem_cons.mp hp with rfl | hp
  · simp
  · rcases List.mem_cons.mp hp with rfl | hp
    · simp
    · simp [hp])
theorem newf (w : World) (b : Array UInt8) (t : Tok) : CalmNew w 3 40 97 [.ref 357, .bytes b t] := by
  unfold CalmNew
  k_fill
  intro p loose mean mg mb dp un gd cn cs a ccd cl outer A₀ base h₀ L m news s Q E B F X N T hk hd hu hret
  obtain ⟨ck, cnm, cg, cc, cm⟩ := cs
  change ck = _ at hk
  subst hk
  refine wpAny_call ?_
  k_dflt k_enter
  k_steps
  all_goals first
    | exact hret _ _ _ _ (by assumption) (news_mid2 (by assumption)) (fun p hp => (by assumption : ∀ p ∈ _ :: _ :: news, p.1 < _) p (List.mem_cons_of_mem _ (List.mem_cons_of_mem _ hp))) (by assumption)
end Mine
end

section
open PySem PySem.W PyProof.Rows PySem.Calls
set_option maxRecDepth 100000
set_option maxHeartbeats 8000000
namespace Mine
theorem make_T {w : World} {b : Array UInt8} {t : Tok} {p : Program} {loose : List PySem.Str} {mean : ExcName → Option Value} {mg mb : PySem.Str → Option Value} {dp un : Nat} {gd : Option (List Code)} {cn : PySem.Str} {cs : Scope} {a : Addr} {ccd : Value} {cl : List (PySem.Str × Addr)} {outer : List Env} {A₀ : Around}
    {base h₀ : Heap} {L : Addr} {m : PySem.Str → Option Value} {news : List (Addr × Obj)} {s : Shared} {Q E : Value → Shared → Prop}
    (B : Below A₀ base outer h₀) (F : Fr h₀ L s.heap m) (X₀ : (Mine.kk.heap_1 w.params).In h₀) (N : News h₀ L s.heap news) (T : Top p loose mean mg mb h₀) (hk : cs.kind = .function) (hd : dp + 5 < recursionLimit) (hu : un + 50 < cLine)
    (h : ∀ (x dx : Addr) (h' : Heap) (tk' : Nat), Fr h₀ L h' m → News h₀ L h' ((x, instObj 357 dx) :: (dx, emptyDict) :: news) → (∀ p ∈ news, p.1 < dx) → dx < x →
      codeT (model PySem.Challenge.rw_vn0014_01.prog w) (ktrTop (dp + 1) (un + 1) gd cn cs L a ccd cl outer) (.call (.ref 144) ⟨[.ref x, .bytes b t], []⟩)
        (InitBack x fun r s' => match r with | .ok (.ret v) => Q v s' | .ok _ => False | .error e => E e s') { s with heap := h', toks := tk' }) :
    wpT (model PySem.Challenge.rw_vn0014_01.prog w) (ktrTop dp un gd cn cs L a ccd cl outer) (call (.ref 357) [.bytes b t]) Q E s := by
  refine wpT_call (codeT_of_tree rfl ?_)
  show wpT _ (Around.in1 _) (callAny (.ref 357) _) _ _ _
  have X := X₀.keeps F.keep
  have hC := X 357 _ rfl
  have call : Looks (model PySem.Challenge.rw_vn0014_01.prog w) s.heap (specialOf (.ref 357) "__call__") (some (.builtin "type.__call__")) := looks_specialIn X rfl
  have typ : Looks (model PySem.Challenge.rw_vn0014_01.prog w) s.heap (isInstance (.ref 357) (.type "type")) true := looks_instIn X rfl
  have made := made_none (M := model PySem.Challenge.rw_vn0014_01.prog w) hC rfl rfl
  simp only [callAny]
  refine wpT_seq (wpAny_load hC ?_)
  dsimp only
  unfold callAny.viaDunder
  refine wpT_seq (call.here ?_)
  dsimp only
  rw [tc_bind]
  refine wpT_seq (wpAny_pure ?_)
  dsimp only
  refine wpT_seq (wpAny_pure ?_)
  refine wpT_pure ⟨rfl, codeT_of_tree rfl ?_⟩
  show wpT _ (Around.in1 _) (do checkBuiltinCall "type.__call__" ⟨[.ref 357, .bytes b t], []⟩; again (.builtin "type.__call__" ⟨[.ref 357, .bytes b t], []⟩)) _ _ _
  with_reducible refine wpT_seq (check_slot tc_kind tc_split typ (tc_args _ _ _) ?_)
  refine wpT_pure ⟨Code.quiet_builtin _ (by decide +kernel), codeT_builtin PySem.F.entry_type_call (by decide +kernel) ?_⟩
  change wpT _ (ktrTop (dp + 1) (un + 1) gd cn cs L a ccd cl outer) _ _ _ _
  have hm : Looks (model PySem.Challenge.rw_vn0014_01.prog w) s.heap (mroOf (.ref 357)) _ := ((Looks.ld (part := none) hC).andThen .now).andThen .now
  unfold Builtin.«type.__call__»
  dsimp only
  rw [if_neg (by decide)]
  refine wpT_seq (hm.here ?_)
  dsimp only
  rw [if_neg (by decide)]
  refine wpT_seq (made.here ?_)
  dsimp only
  refine wpT_seq ?_
  refine cls_sm (K := Mine.kk.heap_1 w.params) (mc := .type "type") (p := 101) (f := .ref 97) F X₀ (by rfl) (by kernel_rfl) (by kernel_rfl) rfl rfl ?_
  refine wpT_seq (wpAny_holding ?_)
  refine newf w b t p loose mean mg mb (dp + 1) (un + 1) gd cn cs a ccd cl outer A₀ base h₀ L m news _ _ _ B F X₀ N T hk (by omega) (by omega) ?_
  intro x dx h' tk' F' N' l1 l2
  have X' := X₀.keeps F'.keep
  have hx : h'.get? x = some (instObj 357 dx) := (N' _ List.mem_cons_self).1
  have tx : Looks (model PySem.Challenge.rw_vn0014_01.prog w) h' (typeOf (.ref x)) (.ref 357) := (Looks.ld hx).andThen .now
  have ix : Looks (model PySem.Challenge.rw_vn0014_01.prog w) h' (isInstance (.ref x) (.ref 357)) true := tx.andThen (looks_mroIn X' rfl)
  refine wpT_seq (ix.here ?_)
  rw [if_neg (by decide)]
  refine wpT_bind (wpT_holding ?_)
  unfold callSpecial?
  have sx : Looks (model PySem.Challenge.rw_vn0014_01.prog w) h' (specialOf (.ref x) "__init__") (some (.ref 144)) := tx.andThen (looks_findIn X' (by kernel_rfl))
  refine wpT_seq (sx.here ?_)
  dsimp only
  refine wpT_holding ?_
  refine wpT_seq ((bind_fn X' (.ref x) (by rfl)).here ?_)
  dsimp only
  refine wpT_bind (wpT_call ?_)
  refine codeT_mono (h x dx h' tk' F' N' l1 l2) fun r s' z => ?_
  cases r with
  | error e => exact z
  | ok fl =>
    cases fl with
    | ret v =>
      obtain ⟨rfl, z⟩ := z
      exact wpT_pure (wpT_pure z)
    | _ => exact z.elim
end Mine
end

section
open PySem PySem.W PyProof.Rows PySem.Calls
set_option maxRecDepth 100000
set_option maxHeartbeats 8000000
namespace Mine
local macro_rules | `(tactic| k_room) => `(tactic| ktr_room)
theorem picked_small {b : Array UInt8} {i j : Int} (hb : b.size ≤ 1000) : (KBy.picked b (some i) (some j)).size ≤ 1000 := by
  rw [← KBw.ints_length, KBc.ints_picked rfl, List.length_take, List.length_drop, KBw.ints_length]
  omega
def ioDict (w : World) (D : Addr) (t1 t2 t3 : Tok) (pos : Int) : Obj := dictOf [{ hash := PyData.keyHash w.params (Str.ofString "_BytesIO__buf"), key := Value.str (Str.ofString "_BytesIO__buf") t1, val := Value.ref D }, { hash := PyData.keyHash w.params (Str.ofString "_BytesIO__pos"), key := Value.str (Str.ofString "_BytesIO__pos") t2, val := Value.int pos t3 }] 2
/-- a call on a stream that stands: only its place turns -/
def StrmC (w : World) (k u : Nat) (f : Addr) (vs : List Value) (D x dx : Addr) (b : Array UInt8) (pos : Int) (R : Int → Value → Prop) : Prop :=
  ∀ (p : Program) (loose : List PySem.Str) (mean : ExcName → Option Value) (mg mb : PySem.Str → Option Value) (dp un : Nat) (gd : Option (List Code)) (cn : PySem.Str) (cs : Scope) (a : Addr) (ccd : Value) (cl : List (PySem.Str × Addr)) (outer : List Env) (A₀ : Around)
    (base h₀ : Heap) (L : Addr) (m : PySem.Str → Option Value) (news : List (Addr × Obj)) (t1 t2 t3 : Tok) (s : Shared) (Q E : Value → Shared → Prop),
    Below A₀ base outer h₀ → Fr h₀ L s.heap m → (Mine.kk.heap_1 w.params).In h₀ → News h₀ L s.heap ((D, baObj b) :: (x, instObj 357 dx) :: (dx, ioDict w D t1 t2 t3 pos) :: news) → AllLt dx news → @LT.lt Nat _ dx x → (@LT.lt Nat _ x D ∧ @LT.lt Nat _ dx D ∧ AllLt D news) → Top p loose mean mg mb h₀ → cs.kind = .function → dp + k < recursionLimit → un + u < cLine →
    (∀ (r : Value) (h' : Heap) (tk' : Nat) (t3' : Tok) (pos' : Int), Fr h₀ L h' m → News h₀ L h' ((D, baObj b) :: (x, instObj 357 dx) :: (dx, ioDict w D t1 t2 t3' pos') :: news) → R pos' r → Q r { s with heap := h', toks := tk' }) →
    wpAny (model PySem.Challenge.rw_vn0014_01.prog w) (ktrTop dp un gd cn cs L a ccd cl outer) (call (.ref f) vs) Q E s
theorem nws_tl {h₀ h : Heap} {L : Addr} {x : Addr × Obj} {l : List (Addr × Obj)} (N : News h₀ L h (x :: l)) : News h₀ L h l := fun p hp => N p (List.mem_cons_of_mem _ hp)
theorem rd_cut {b : Array UInt8} {ks : List Int} (hk : KBw.bInts b = ks) {i j n : Int} (h0 : 0 ≤ i) (h1 : i ≤ j) (h2 : j ≤ ks.length) (h3 : j = i + n ∨ (j = ks.length ∧ ks.length ≤ i + n)) :
    KBw.bInts (KBy.picked b (some i) (some j)) = (ks.drop i.toNat).take n.toNat := by
  rw [cut_ints hk h0 h1 h2]
  rcases h3 with e | ⟨e, e2⟩
  · congr 1; omega
  · rw [List.take_of_length_le (by rw [List.length_drop]; omega), List.take_of_length_le (by rw [List.length_drop]; omega)]
theorem io_read (w : World) (D x dx : Addr) (b : Array UInt8) (ks : List Int) (pos n : Int) (tn : Tok) (hb : KBw.bInts b = ks) (hz : b.size = ks.length) (hz' : b.size ≤ 1000) (h0 : 0 ≤ pos) (h1 : pos ≤ b.size) (h2 : 0 ≤ n) (h3 : n ≤ 300) :
    StrmC w 3 40 281 [.ref x, .int n tn] D x dx b pos (fun pos' r => pos' = min (pos + n) ks.length ∧ ∃ c t', r = .bytes c t' ∧ KBw.bInts c = (ks.drop pos.toNat).take n.toNat) := by
  unfold StrmC ioDict
  k_fill
  intro p loose mean mg mb dp un gd cn cs a ccd cl outer A₀ base h₀ L m news t1 t2 t3 s Q E B F X N l1 l2 l3 T hk hd hu hret
  obtain ⟨ck, cnm, cg, cc, cm⟩ := cs
  change ck = _ at hk
  subst hk
  refine wpAny_call ?_
  k_dflt k_enter
  k_steps
  all_goals first
    | exact hret _ _ _ _ _ (by assumption) (by assumption) ⟨by omega, _, _, rfl, by rw [List.drop_eq_nil_of_le (by omega), List.take_nil]; rfl⟩
    | exact hret _ _ _ _ _ (by assumption) (nws_tl (by assumption)) ⟨by omega, _, _, rfl, rd_cut hb (by omega) (by omega) (by omega) (by omega)⟩
end Mine
end

section
open PySem PySem.W PyProof.Rows PySem.Calls
set_option maxRecDepth 100000
set_option maxHeartbeats 8000000
namespace Mine
local macro_rules | `(tactic| k_room) => `(tactic| ktr_room)
/-- a call on a stream that stands: only its place turns -/
def StrmC1 (w : World) (k u : Nat) (f : Addr) (vs : List Value) (D x dx : Addr) (b : Array UInt8) (pos : Int) (R : Int → Value → Prop) : Prop :=
  ∀ (p : Program) (loose : List PySem.Str) (mean : ExcName → Option Value) (mg mb : PySem.Str → Option Value) (dp un : Nat) (gd : Option (List Code)) (cn : PySem.Str) (cs : Scope) (a : Addr) (ccd : Value) (cl : List (PySem.Str × Addr)) (outer : List Env) (A₀ : Around)
    (base h₀ : Heap) (L : Addr) (m : PySem.Str → Option Value) (news : List (Addr × Obj)) (x1 : Addr) (o1 : Obj) (t1 t2 t3 : Tok) (s : Shared) (Q E : Value → Shared → Prop),
    Below A₀ base outer h₀ → Fr h₀ L s.heap m → (Mine.kk.heap_1 w.params).In h₀ → News h₀ L s.heap ((x1, o1) :: (D, baObj b) :: (x, instObj 357 dx) :: (dx, ioDict w D t1 t2 t3 pos) :: news) → AllLt dx news → @LT.lt Nat _ dx x → (@LT.lt Nat _ x D ∧ @LT.lt Nat _ dx D ∧ AllLt D news) → (@LT.lt Nat _ D x1 ∧ @LT.lt Nat _ x x1 ∧ @LT.lt Nat _ dx x1 ∧ AllLt x1 news) → Top p loose mean mg mb h₀ → cs.kind = .function → dp + k < recursionLimit → un + u < cLine →
    (∀ (r : Value) (h' : Heap) (tk' : Nat) (t3' : Tok) (pos' : Int), Fr h₀ L h' m → News h₀ L h' ((x1, o1) :: (D, baObj b) :: (x, instObj 357 dx) :: (dx, ioDict w D t1 t2 t3' pos') :: news) → R pos' r → Q r { s with heap := h', toks := tk' }) →
    wpAny (model PySem.Challenge.rw_vn0014_01.prog w) (ktrTop dp un gd cn cs L a ccd cl outer) (call (.ref f) vs) Q E s
theorem io_read1 (w : World) (D x dx : Addr) (b : Array UInt8) (ks : List Int) (pos n : Int) (tn : Tok) (hb : KBw.bInts b = ks) (hz : b.size = ks.length) (hz' : b.size ≤ 1000) (h0 : 0 ≤ pos) (h1 : pos ≤ b.size) (h2 : 0 ≤ n) (h3 : n ≤ 300) :
    StrmC1 w 3 40 281 [.ref x, .int n tn] D x dx b pos (fun pos' r => pos' = min (pos + n) ks.length ∧ ∃ c t', r = .bytes c t' ∧ KBw.bInts c = (ks.drop pos.toNat).take n.toNat) := by
  unfold StrmC1 ioDict
  k_fill
  intro p loose mean mg mb dp un gd cn cs a ccd cl outer A₀ base h₀ L m news x1 o1 t1 t2 t3 s Q E B F X N l1 l2 l3 l4 T hk hd hu hret
  obtain ⟨ck, cnm, cg, cc, cm⟩ := cs
  change ck = _ at hk
  subst hk
  refine wpAny_call ?_
  k_dflt k_enter
  k_steps
  all_goals first
    | exact hret _ _ _ _ _ (by assumption) (by assumption) ⟨by omega, _, _, rfl, by rw [List.drop_eq_nil_of_le (by omega), List.take_nil]; rfl⟩
    | exact hret _ _ _ _ _ (by assumption) (nws_tl (by assumption)) ⟨by omega, _, _, rfl, rd_cut hb (by omega) (by omega) (by omega) (by omega)⟩
end Mine
end

section
open PySem PySem.W PyProof.Rows PySem.Calls
set_option maxRecDepth 100000
set_option maxHeartbeats 8000000
namespace Mine
theorem strm_use {w : World} {k u : Nat} {f : Addr} {vs : List Value} {D x dx : Addr} {b : Array UInt8} {pos : Int} {R : Int → Value → Prop} (C : StrmC w k u f vs D x dx b pos R)
    {p : Program} {loose : List PySem.Str} {mean : ExcName → Option Value} {mg mb : PySem.Str → Option Value} {dp un : Nat} {gd : Option (List Code)} {cn : PySem.Str} {cs : Scope} {a : Addr} {ccd : Value} {cl : List (PySem.Str × Addr)} {outer : List Env} {A₀ : Around}
    {base h₀ : Heap} {L : Addr} {m : PySem.Str → Option Value} {news : List (Addr × Obj)} {t1 t2 t3 : Tok} {s : Shared} {Q E : Value → Shared → Prop}
    (B : Below A₀ base outer h₀) (F : Fr h₀ L s.heap m) (X : (Mine.kk.heap_1 w.params).In h₀) (N : News h₀ L s.heap ((D, baObj b) :: (x, instObj 357 dx) :: (dx, dictOf [{ hash := PyData.keyHash w.params (Str.ofString "_BytesIO__buf"), key := Value.str (Str.ofString "_BytesIO__buf") t1, val := Value.ref D }, { hash := PyData.keyHash w.params (Str.ofString "_BytesIO__pos"), key := Value.str (Str.ofString "_BytesIO__pos") t2, val := Value.int pos t3 }] 2) :: news))
    (l1 : AllLt dx news) (l2 : @LT.lt Nat _ dx x) (l3 : @LT.lt Nat _ x D ∧ @LT.lt Nat _ dx D ∧ AllLt D news) (T : Top p loose mean mg mb h₀) (hk : cs.kind = .function) (hd : dp + k < recursionLimit) (hu : un + u < cLine)
    (ret : ∀ (r : Value) (h' : Heap) (tk' : Nat) (t3' : Tok) (pos' : Int), Fr h₀ L h' m → News h₀ L h' ((D, baObj b) :: (x, instObj 357 dx) :: (dx, dictOf [{ hash := PyData.keyHash w.params (Str.ofString "_BytesIO__buf"), key := Value.str (Str.ofString "_BytesIO__buf") t1, val := Value.ref D }, { hash := PyData.keyHash w.params (Str.ofString "_BytesIO__pos"), key := Value.str (Str.ofString "_BytesIO__pos") t2, val := Value.int pos' t3' }] 2) :: news) → R pos' r → Q r { s with heap := h', toks := tk' }) :
    wpAny (model PySem.Challenge.rw_vn0014_01.prog w) (ktrTop dp un gd cn cs L a ccd cl outer) (call (.ref f) vs) Q E s :=
  C p loose mean mg mb dp un gd cn cs a ccd cl outer A₀ base h₀ L m news t1 t2 t3 s Q E B F X N l1 l2 l3 T hk hd hu ret
theorem strm_use1 {w : World} {k u : Nat} {f : Addr} {vs : List Value} {D x dx : Addr} {b : Array UInt8} {pos : Int} {R : Int → Value → Prop} (C : StrmC1 w k u f vs D x dx b pos R)
    {p : Program} {loose : List PySem.Str} {mean : ExcName → Option Value} {mg mb : PySem.Str → Option Value} {dp un : Nat} {gd : Option (List Code)} {cn : PySem.Str} {cs : Scope} {a : Addr} {ccd : Value} {cl : List (PySem.Str × Addr)} {outer : List Env} {A₀ : Around}
    {base h₀ : Heap} {L : Addr} {m : PySem.Str → Option Value} {news : List (Addr × Obj)} {x1 : Addr} {o1 : Obj} {t1 t2 t3 : Tok} {s : Shared} {Q E : Value → Shared → Prop}
    (B : Below A₀ base outer h₀) (F : Fr h₀ L s.heap m) (X : (Mine.kk.heap_1 w.params).In h₀) (N : News h₀ L s.heap ((x1, o1) :: (D, baObj b) :: (x, instObj 357 dx) :: (dx, dictOf [{ hash := PyData.keyHash w.params (Str.ofString "_BytesIO__buf"), key := Value.str (Str.ofString "_BytesIO__buf") t1, val := Value.ref D }, { hash := PyData.keyHash w.params (Str.ofString "_BytesIO__pos"), key := Value.str (Str.ofString "_BytesIO__pos") t2, val := Value.int pos t3 }] 2) :: news))
    (l1 : AllLt dx news) (l2 : @LT.lt Nat _ dx x) (l3 : @LT.lt Nat _ x D ∧ @LT.lt Nat _ dx D ∧ AllLt D news) (l4 : @LT.lt Nat _ D x1 ∧ @LT.lt Nat _ x x1 ∧ @LT.lt Nat _ dx x1 ∧ AllLt x1 news) (T : Top p loose mean mg mb h₀) (hk : cs.kind = .function) (hd : dp + k < recursionLimit) (hu : un + u < cLine)
    (ret : ∀ (r : Value) (h' : Heap) (tk' : Nat) (t3' : Tok) (pos' : Int), Fr h₀ L h' m → News h₀ L h' ((x1, o1) :: (D, baObj b) :: (x, instObj 357 dx) :: (dx, dictOf [{ hash := PyData.keyHash w.params (Str.ofString "_BytesIO__buf"), key := Value.str (Str.ofString "_BytesIO__buf") t1, val := Value.ref D }, { hash := PyData.keyHash w.params (Str.ofString "_BytesIO__pos"), key := Value.str (Str.ofString "_BytesIO__pos") t2, val := Value.int pos' t3' }] 2) :: news) → R pos' r → Q r { s with heap := h', toks := tk' }) :
    wpAny (model PySem.Challenge.rw_vn0014_01.prog w) (ktrTop dp un gd cn cs L a ccd cl outer) (call (.ref f) vs) Q E s :=
  C p loose mean mg mb dp un gd cn cs a ccd cl outer A₀ base h₀ L m news x1 o1 t1 t2 t3 s Q E B F X N l1 l2 l3 l4 T hk hd hu ret
theorem one_fact {c : Array UInt8} {k0 : Int} {l : List Int} (h : KBw.bInts c = ((k0 :: l).drop (0 : Int).toNat).take (1 : Int).toNat) : ∃ cs : List Int, KBw.bInts c = cs ∧ cs.length = 1 ∧ cs.getD (Int.toNat 0) 0 = k0 := ⟨_, h, rfl, rfl⟩
theorem two_fact {c : Array UInt8} {k0 : Int} {l : List Int} {n : Int} (N : Nat) (hn : n.toNat = N) (hl : N ≤ l.length) (h : KBw.bInts c = ((k0 :: l).drop (1 : Int).toNat).take n.toNat) : KBw.bInts c = l.take N ∧ (l.take N).length = N := by
  subst hn
  exact ⟨h, by rw [List.length_take]; omega⟩
section
variable {prog : Program} {w : World} {A : Around} {E : Value → Shared → Prop} {s : Shared}
theorem item_at {value slice : Expr} {b : Array UInt8} {t ui : Tok} {cs : List Int} {k : Int} {Q : Value → Shared → Prop} (hk : KBw.bInts b = cs) (hg : cs.getD (Int.toNat 0) 0 = k) (hl : cs.length = 1)
    (h : ∀ t' q, Q (.int k t') { s with toks := q })
    (hs : subscripted slice false (.bytes b t) (.int 0 ui) = operate [.bytes b t, .int 0 ui] (getItem (.bytes b t) (.int 0 ui)) := by with_unfolding_all rfl)
    (ht : ∀ r, letTemporaryGo value (.bytes b t) r = pure () := by intro _; with_unfolding_all rfl) : wpAny (model prog w) A (subscriptTail value slice (.bytes b t) (.int 0 ui)) Q E s :=
  KBw.item_K hk (by omega) (by decide) (by omega) (fun t' q _ _ => by rw [hg]; exact h _ _) hs ht
end
end Mine
end

section
open PySem PySem.W PyProof.Rows PySem.Calls
set_option maxRecDepth 100000
set_option maxHeartbeats 8000000
namespace Mine
theorem end_fact {c : Array UInt8} {ks : List Int} {P : Int} (h : KBw.bInts c = (ks.drop P.toNat).take (1 : Int).toNat) (e : P = ks.length) : KBw.bInts c = [] := by
  rw [h, List.drop_eq_nil_of_le (by omega), List.take_nil]
theorem more_fact {c : Array UInt8} {ks : List Int} {P : Int} (h : KBw.bInts c = (ks.drop P.toNat).take (1 : Int).toNat) (e : 0 ≤ P ∧ P + 1 = ks.length) : ∃ cs, KBw.bInts c = cs ∧ cs.length = 1 := by
  refine ⟨_, h, ?_⟩
  rw [List.length_take, List.length_drop]
  show min 1 _ = 1
  omega
def CalmT (w : World) (k u : Nat) (f : Addr) (vs : List Value) (R : Heap → Value → Prop) : Prop :=
  ∀ (p : Program) (loose : List PySem.Str) (mean : ExcName → Option Value) (mg mb : PySem.Str → Option Value) (dp un : Nat) (gd : Option (List Code)) (cn : PySem.Str) (cs : Scope) (a : Addr) (ccd : Value) (cl : List (PySem.Str × Addr)) (outer : List Env) (A₀ : Around)
    (base h₀ : Heap) (L : Addr) (m : PySem.Str → Option Value) (news : List (Addr × Obj)) (s : Shared) (Q E : Value → Shared → Prop),
    Below A₀ base outer h₀ → Fr h₀ L s.heap m → (Mine.kk.heap_1 w.params).In h₀ → News h₀ L s.heap news → Top p loose mean mg mb h₀ → cs.kind = .function → dp + k < recursionLimit → un + u < cLine →
    (∀ (r : Value) (h' : Heap) (tk' : Nat), Fr h₀ L h' m → News h₀ L h' news → R h' r → Q r { s with heap := h', toks := tk' }) →
    wpT (model PySem.Challenge.rw_vn0014_01.prog w) (ktrTop dp un gd cn cs L a ccd cl outer) (call (.ref f) vs) Q E s
def RaiseT (w : World) (k u : Nat) (f : Addr) (vs : List Value) : Prop :=
  ∀ (p : Program) (loose : List PySem.Str) (mean : ExcName → Option Value) (mg mb : PySem.Str → Option Value) (dp un : Nat) (gd : Option (List Code)) (cn : PySem.Str) (cs : Scope) (a : Addr) (ccd : Value) (cl : List (PySem.Str × Addr)) (outer : List Env) (A₀ : Around)
    (base h₀ : Heap) (L : Addr) (m : PySem.Str → Option Value) (news : List (Addr × Obj)) (s : Shared) (Q E : Value → Shared → Prop),
    Below A₀ base outer h₀ → Fr h₀ L s.heap m → (Mine.kk.heap_1 w.params).In h₀ → News h₀ L s.heap news → Top p loose mean mg mb h₀ → cs.kind = .function → dp + k < recursionLimit → un + u < cLine →
    (∀ (e : Addr) (h' g : Heap) (tk' : Nat), Fr h₀ L g m → RaisedN base (envX cn cs L a ccd cl :: outer) e (.type "ValueError") news h' → g.UpToSlots h' → E (.ref e) { s with heap := h', toks := tk' }) →
    wpT (model PySem.Challenge.rw_vn0014_01.prog w) (ktrTop dp un gd cn cs L a ccd cl outer) (call (.ref f) vs) Q E s
theorem raisedN_tl {base : Heap} {l : List Env} {e : Addr} {cls : Value} {q : Addr × Obj} {news : List (Addr × Obj)} {h : Heap} (R : RaisedN base l e cls (q :: news) h) : RaisedN base l e cls news h := by
  obtain ⟨B, a0, h1, h2, h3⟩ := R
  exact ⟨B, a0, h1, fun q hq => h2 q (List.mem_cons_of_mem _ hq), h3⟩
structure RfOf (w : World) (b : Array UInt8) (P v : Int) : Prop where
  mk ::
  go : ∀ D x dx, StrmC w 5 60 620 [.ref x] D x dx b 0 (fun pos' r => pos' = P ∧ ∃ t', r = .int v t')
end Mine
end

section
open PySem PySem.W PyProof.Rows PySem.Calls
set_option maxRecDepth 100000
set_option maxHeartbeats 8000000
namespace Mine
local macro_rules | `(tactic| k_room) => `(tactic| ktr_room)
local macro_rules | `(tactic| wtm_at "x call ref") => `(tactic| (k_here; (with_reducible show wpAny _ _ (call (Value.ref 620) [Value.ref _] []) _ _ _); k_dflt (refine' strm_use (RfOf.go (P := _) (v := _) ?cC _ _ _) ?kB ?kF ?kX ?kN ?k1 ?k2 ?k3 ?kT ?kK ?kD ?kU ?_; (case kN => k_asm); (case cC => assumption); (case kB => k_asm); (case kF => k_asm); (case kX => k_asm); (case kT => k_asm); (case k1 => first | assumption | exact allLt_of (by assumption)); (case k2 => assumption); (case k3 => assumption); (case kK => first | exact rfl | assumption); (case kD => ktr_room); (case kU => ktr_units); k_whole); intro r' h' tk' t3' pos' F' N' hr'; (obtain ⟨hp', t', e'⟩ := hr'; subst e'; subst hp'); (try k_sweep); (try dsimp only); (try k_fold)))
local macro_rules | `(tactic| wtm_at "x call ref") => `(tactic| (k_here; (with_reducible show wpAny _ _ (call (Value.ref 281) [Value.ref _, Value.int 1 _] []) _ _ _); k_dflt (refine' strm_use (io_read _ _ _ _ _ _ _ _ _ ?c1 ?c2 ?c3 ?c4 ?c5 ?c6 ?c7) ?kB ?kF ?kX ?kN ?k1 ?k2 ?k3 ?kT ?kK ?kD ?kU ?_; (case kN => k_asm); (case c1 => assumption); (case c2 => assumption); (case c3 => assumption); (case c4 => omega); (case c5 => omega); (case c6 => omega); (case c7 => omega); (case kB => k_asm); (case kF => k_asm); (case kX => k_asm); (case kT => k_asm); (case k1 => first | assumption | exact allLt_of (by assumption)); (case k2 => assumption); (case k3 => assumption); (case kK => first | exact rfl | assumption); (case kD => ktr_room); (case kU => ktr_units); k_whole); intro r' h' tk' t3' pos' F' N' hr'; (obtain ⟨hp', c', t', e', hc'⟩ := hr'; subst e'; (k_dflt (have hcs1 := end_fact hc' (by assumption))); clear hc'; clear hp'); (try k_sweep); (try dsimp only); (try k_fold)))
theorem fbok (w : World) (b : Array UInt8) (ks : List Int) (P v : Int) (t : Tok) (hb : KBw.bInts b = ks) (hz : b.size = ks.length) (hz' : b.size ≤ 1000) (h0 : 0 ≤ P) (hP' : P ≤ b.size) (hP : P = ks.length) (C : ∀ D x dx, StrmC w 5 60 620 [.ref x] D x dx b 0 (fun pos' r => pos' = P ∧ ∃ t', r = .int v t')) : CalmT w 8 120 613 [.bytes b t] (fun h' r => ∃ t', r = .int v t') := by
  unfold CalmT
  k_fill
  have CC := RfOf.mk C
  intro p loose mean mg mb dp un gd cn cs a ccd cl outer A₀ base h₀ L m news s Q E B F X N T hk hd hu hret
  obtain ⟨ck, cnm, cg, cc, cm⟩ := cs
  change ck = _ at hk
  subst hk
  refine wpT_call ?_
  k_dflt (refine' code_defT ?k1 ?k2 ?k3 ?k4 ?k5 ?kA ?kF ?kK ?k6 ?k7 ?k8 ?k9 ?kB ?_ ?c2 ?c3 ?c4 ?c5; (case kA => exact rfl); (case kF => exact rfl); (case kK => exact rfl); (case k1 => k_asm); (case k2 => k_asm); (case k3 => k_asm); (case k4 => k_asm); (case k5 => k_asm); (case k6 => k_is); (case k7 => k_is); (case k8 => k_room); (case k9 => first | exact BindsTo.of_eq rfl | exact binds_K (by k_in) rfl (by k_is) rfl rfl rfl); (case c5 => decide); (case kB => exact locs rfl); (case c2 => exact rfl); (case c3 => exact rfl); (case c4 => exact rfl); k_whole; intro g' L' h' FG' F' N' B' X' T' kG'; (try dsimp only); (try k_lift B'); (try k_fold))
  refine wpT_execs (wpT_AssignName (wpT_CallName1 (K := Mine.kk.heap_1 w.params) (fv := .ref 357) rfl (by kernel_rfl) ?_))
  k_steps
  refine ⟨rfl, ?_⟩
  k_steps
  refine ⟨by k_in, ?_⟩
  refine make_T (by k_asm) (by k_asm) (by k_asm) (by k_asm) (by k_asm) rfl ?_ ?_ ?_
  · show dp + 1 + 5 < _
    omega
  · show un + 3 + 50 < _
    omega
  intro x dx h'' tk'' F'' N'' l1 l2
  try k_lt l1
  try k_lt2 l2
  k_dflt (refine' code_defT ?k1 ?k2 ?k3 ?k4 ?k5 ?kA ?kF ?kK ?k6 ?k7 ?k8 ?k9 ?kB ?_ ?c2 ?c3 ?c4 ?c5; (case kA => exact rfl); (case kF => exact rfl); (case kK => exact rfl); (case k1 => k_asm); (case k2 => k_asm); (case k3 => k_asm); (case k4 => k_asm); (case k5 => k_asm); (case k6 => k_is); (case k7 => k_is); (case k8 => k_room); (case k9 => first | exact BindsTo.of_eq rfl | exact binds_K (by k_in) rfl (by k_is) rfl rfl rfl); (case c5 => decide); (case kB => exact locs rfl); (case c2 => exact rfl); (case c3 => exact rfl); (case c4 => exact rfl); k_whole; intro g' L' h' FG' F' N' B' X' T' kG'; (try dsimp only); (try k_lift B'); (try k_fold))
  refine wpT_execsN ?_
  k_steps
  refine ⟨rfl, ?_⟩
  refine wpT_execs (wpT_AssignAttr2 (wpT_IfExp (c := false) ?_))
  k_steps
  refine ⟨rfl, ?_⟩
  rw [if_neg (by decide)]
  refine wpT_CallType1 keeper_bytearray rfl ?_
  k_steps
  refine ⟨rfl, ?_⟩
  k_steps
  refine ⟨trivial, ?_⟩
  refine ba_makeN (by k_asm) (by k_asm) ?_ ?_
  · assumption
  intro D h3 l3 F3 N3
  try k_lt l3
  k_steps
  dsimp only
  refine wpT.of ?_
  k_steps
  refine wpT.of ?_
  k_steps
  all_goals first
    | exact hret _ _ _ (by assumption) (nws_tl (nws_tl (nws_tl (by assumption)))) ⟨_, rfl⟩
    | (exfalso; omega)
    | exact hret _ _ _ _ (by assumption) (raisedN_tl (raisedN_tl (raisedN_tl (by assumption)))) (by assumption)
end Mine
end

section
open PySem PySem.W PyProof.Rows PySem.Calls
set_option maxRecDepth 100000
set_option maxHeartbeats 8000000
namespace Mine
local macro_rules | `(tactic| k_room) => `(tactic| ktr_room)
local macro_rules | `(tactic| wtm_at "x call ref") => `(tactic| (k_here; (with_reducible show wpAny _ _ (call (Value.ref 620) [Value.ref _] []) _ _ _); k_dflt (refine' strm_use (RfOf.go (P := _) (v := _) ?cC _ _ _) ?kB ?kF ?kX ?kN ?k1 ?k2 ?k3 ?kT ?kK ?kD ?kU ?_; (case kN => k_asm); (case cC => assumption); (case kB => k_asm); (case kF => k_asm); (case kX => k_asm); (case kT => k_asm); (case k1 => first | assumption | exact allLt_of (by assumption)); (case k2 => assumption); (case k3 => assumption); (case kK => first | exact rfl | assumption); (case kD => ktr_room); (case kU => ktr_units); k_whole); intro r' h' tk' t3' pos' F' N' hr'; (obtain ⟨hp', t', e'⟩ := hr'; subst e'; subst hp'); (try k_sweep); (try dsimp only); (try k_fold)))
local macro_rules | `(tactic| wtm_at "x call ref") => `(tactic| (k_here; (with_reducible show wpAny _ _ (call (Value.ref 281) [Value.ref _, Value.int 1 _] []) _ _ _); k_dflt (refine' strm_use (io_read _ _ _ _ _ _ _ _ _ ?c1 ?c2 ?c3 ?c4 ?c5 ?c6 ?c7) ?kB ?kF ?kX ?kN ?k1 ?k2 ?k3 ?kT ?kK ?kD ?kU ?_; (case kN => k_asm); (case c1 => assumption); (case c2 => assumption); (case c3 => assumption); (case c4 => omega); (case c5 => omega); (case c6 => omega); (case c7 => omega); (case kB => k_asm); (case kF => k_asm); (case kX => k_asm); (case kT => k_asm); (case k1 => first | assumption | exact allLt_of (by assumption)); (case k2 => assumption); (case k3 => assumption); (case kK => first | exact rfl | assumption); (case kD => ktr_room); (case kU => ktr_units); k_whole); intro r' h' tk' t3' pos' F' N' hr'; (obtain ⟨hp', c', t', e', hc'⟩ := hr'; subst e'; (k_dflt (obtain ⟨cs', hcs1, hl'⟩ := more_fact hc' (by assumption))); clear hc'; clear hp'); (try k_sweep); (try dsimp only); (try k_fold)))
theorem fbbad (w : World) (b : Array UInt8) (ks : List Int) (P v : Int) (t : Tok) (hb : KBw.bInts b = ks) (hz : b.size = ks.length) (hz' : b.size ≤ 1000) (h0 : 0 ≤ P) (hP' : P ≤ b.size) (hP : 0 ≤ P ∧ P + 1 = ks.length) (C : ∀ D x dx, StrmC w 5 60 620 [.ref x] D x dx b 0 (fun pos' r => pos' = P ∧ ∃ t', r = .int v t')) : RaiseT w 8 120 613 [.bytes b t] := by
  unfold RaiseT
  k_fill
  have CC := RfOf.mk C
  intro p loose mean mg mb dp un gd cn cs a ccd cl outer A₀ base h₀ L m news s Q E B F X N T hk hd hu hret
  obtain ⟨ck, cnm, cg, cc, cm⟩ := cs
  change ck = _ at hk
  subst hk
  refine wpT_call ?_
  k_dflt (refine' code_defT ?k1 ?k2 ?k3 ?k4 ?k5 ?kA ?kF ?kK ?k6 ?k7 ?k8 ?k9 ?kB ?_ ?c2 ?c3 ?c4 ?c5; (case kA => exact rfl); (case kF => exact rfl); (case kK => exact rfl); (case k1 => k_asm); (case k2 => k_asm); (case k3 => k_asm); (case k4 => k_asm); (case k5 => k_asm); (case k6 => k_is); (case k7 => k_is); (case k8 => k_room); (case k9 => first | exact BindsTo.of_eq rfl | exact binds_K (by k_in) rfl (by k_is) rfl rfl rfl); (case c5 => decide); (case kB => exact locs rfl); (case c2 => exact rfl); (case c3 => exact rfl); (case c4 => exact rfl); k_whole; intro g' L' h' FG' F' N' B' X' T' kG'; (try dsimp only); (try k_lift B'); (try k_fold))
  refine wpT_execs (wpT_AssignName (wpT_CallName1 (K := Mine.kk.heap_1 w.params) (fv := .ref 357) rfl (by kernel_rfl) ?_))
  k_steps
  refine ⟨rfl, ?_⟩
  k_steps
  refine ⟨by k_in, ?_⟩
  refine make_T (by k_asm) (by k_asm) (by k_asm) (by k_asm) (by k_asm) rfl ?_ ?_ ?_
  · show dp + 1 + 5 < _
    omega
  · show un + 3 + 50 < _
    omega
  intro x dx h'' tk'' F'' N'' l1 l2
  try k_lt l1
  try k_lt2 l2
  k_dflt (refine' code_defT ?k1 ?k2 ?k3 ?k4 ?k5 ?kA ?kF ?kK ?k6 ?k7 ?k8 ?k9 ?kB ?_ ?c2 ?c3 ?c4 ?c5; (case kA => exact rfl); (case kF => exact rfl); (case kK => exact rfl); (case k1 => k_asm); (case k2 => k_asm); (case k3 => k_asm); (case k4 => k_asm); (case k5 => k_asm); (case k6 => k_is); (case k7 => k_is); (case k8 => k_room); (case k9 => first | exact BindsTo.of_eq rfl | exact binds_K (by k_in) rfl (by k_is) rfl rfl rfl); (case c5 => decide); (case kB => exact locs rfl); (case c2 => exact rfl); (case c3 => exact rfl); (case c4 => exact rfl); k_whole; intro g' L' h' FG' F' N' B' X' T' kG'; (try dsimp only); (try k_lift B'); (try k_fold))
  refine wpT_execsN ?_
  k_steps
  refine ⟨rfl, ?_⟩
  refine wpT_execs (wpT_AssignAttr2 (wpT_IfExp (c := false) ?_))
  k_steps
  refine ⟨rfl, ?_⟩
  rw [if_neg (by decide)]
  refine wpT_CallType1 keeper_bytearray rfl ?_
  k_steps
  refine ⟨rfl, ?_⟩
  k_steps
  refine ⟨trivial, ?_⟩
  refine ba_makeN (by k_asm) (by k_asm) ?_ ?_
  · assumption
  intro D h3 l3 F3 N3
  try k_lt l3
  k_steps
  dsimp only
  refine wpT.of ?_
  k_steps
  refine wpT.of ?_
  k_steps
  all_goals first
    | exact hret _ _ _ (by assumption) (nws_tl (nws_tl (nws_tl (by assumption)))) ⟨_, rfl⟩
    | (exfalso; omega)
    | exact hret _ _ _ _ (by assumption) (raisedN_tl (raisedN_tl (raisedN_tl (by assumption)))) (by assumption)
end Mine
end

section
open PySem PySem.W PyProof.Rows PySem.Calls
set_option maxRecDepth 100000
set_option maxHeartbeats 8000000
namespace Mine
local macro_rules | `(tactic| k_room) => `(tactic| ktr_room)
local macro_rules | `(tactic| wtm_at "x call ref") => `(tactic| (k_here; (with_reducible show wpAny _ _ (call (Value.ref 281) [Value.ref _, Value.int _ _] []) _ _ _); k_dflt (refine' strm_use (io_read _ _ _ _ _ _ _ _ _ ?c1 ?c2 ?c3 ?c4 ?c5 ?c6 ?c7) ?kB ?kF ?kX ?kN ?k1 ?k2 ?k3 ?kT ?kK ?kD ?kU ?_; (case kN => k_asm); (case c1 => assumption); (case c2 => assumption); (case c3 => assumption); (case c4 => omega); (case c5 => omega); (case c6 => first | omega | decide); (case c7 => first | omega | decide); (case kB => k_asm); (case kF => k_asm); (case kX => k_asm); (case kT => k_asm); (case k1 => assumption); (case k2 => assumption); (case k3 => assumption); (case kK => first | exact rfl | assumption); (case kD => ktr_room); (case kU => ktr_units); k_whole); intro r' h' tk' t3' pos' F' N' hr'; (obtain ⟨hp', c', t', e', hc'⟩ := hr'; subst e'; (k_dflt (obtain ⟨cs', hcs1, hl', hg'⟩ := one_fact hc')); clear hc'; (have hp2 : pos' = 1 := by (rw [hp']; (k_dflt (simp only [List.length_cons]; omega)))); clear hp'; subst hp2); (try k_sweep); (try dsimp only); (try k_fold)))
theorem rf1 (w : World) (D x dx : Addr) (b : Array UInt8) (k0 : Int) (l : List Int) (hb : KBw.bInts b = k0 :: l) (hz : b.size = (k0 :: l).length) (hz2 : b.size = l.length + 1) (hz' : b.size ≤ 1000) (hk0 : k0 < 253) : StrmC w 5 60 620 [.ref x] D x dx b 0 (fun pos' r => pos' = 1 ∧ ∃ t', r = .int k0 t') := by
  unfold StrmC ioDict
  k_fill
  intro p loose mean mg mb dp un gd cn cs a ccd cl outer A₀ base h₀ L m news t1 t2 t3 s Q E B F X N l1 l2 l3 T hk hd hu hret
  obtain ⟨ck, cnm, cg, cc, cm⟩ := cs
  change ck = _ at hk
  subst hk
  refine wpAny_call ?_
  k_dflt k_enter
  k_steps
  all_goals first
    | exact hret _ _ _ _ _ (by assumption) (by assumption) ⟨rfl, _, by rw [← (by assumption : List.getD _ (Int.toNat 0) 0 = k0)]⟩
    | (exfalso; omega)
end Mine
end

section
open PySem PySem.W PyProof.Rows PySem.Calls
set_option maxRecDepth 100000
set_option maxHeartbeats 8000000
namespace Mine
local macro_rules | `(tactic| k_room) => `(tactic| ktr_room)
local macro_rules | `(tactic| wtm_at "x call ref") => `(tactic| (k_here; (with_reducible show wpAny _ _ (call (Value.ref 281) [Value.ref _, Value.int 1 _] []) _ _ _); k_dflt (refine' strm_use (io_read _ _ _ _ _ _ _ _ _ ?c1 ?c2 ?c3 ?c4 ?c5 ?c6 ?c7) ?kB ?kF ?kX ?kN ?k1 ?k2 ?k3 ?kT ?kK ?kD ?kU ?_; (case kN => k_asm); (case c1 => assumption); (case c2 => assumption); (case c3 => assumption); (case c4 => omega); (case c5 => omega); (case c6 => first | omega | decide); (case c7 => first | omega | decide); (case kB => k_asm); (case kF => k_asm); (case kX => k_asm); (case kT => k_asm); (case k1 => assumption); (case k2 => assumption); (case k3 => assumption); (case kK => first | exact rfl | assumption); (case kD => ktr_room); (case kU => ktr_units); k_whole); intro r' h' tk' t3' pos' F' N' hr'; (obtain ⟨hp', c', t', e', hc'⟩ := hr'; subst e'; (k_dflt (obtain ⟨cs', hcs1, hl', hg'⟩ := one_fact hc')); clear hc'; (have hp2 : pos' = 1 := by (rw [hp']; (k_dflt (simp only [List.length_cons]; omega)))); clear hp'; subst hp2); (try k_sweep); (try dsimp only); (try k_fold)))
local macro_rules | `(tactic| wtm_at "x call ref") => `(tactic| (k_here; (with_reducible show wpAny _ _ (call (Value.ref 281) [Value.ref _, Value.int (2 ^ _) _] []) _ _ _); k_dflt (refine' strm_use1 (io_read1 _ _ _ _ _ _ _ _ _ ?c1 ?c2 ?c3 ?c4 ?c5 ?c6 ?c7) ?kB ?kF ?kX ?kN ?k1 ?k2 ?k3 ?k4 ?kT ?kK ?kD ?kU ?_; (case kN => k_asm); (case c1 => assumption); (case c2 => assumption); (case c3 => assumption); (case c4 => omega); (case c5 => omega); (case c6 => first | omega | decide); (case c7 => first | omega | decide); (case kB => k_asm); (case kF => k_asm); (case kX => k_asm); (case kT => k_asm); (case k1 => assumption); (case k2 => assumption); (case k3 => assumption); (case k4 => assumption); (case kK => first | exact rfl | assumption); (case kD => ktr_room); (case kU => ktr_units); k_whole); intro r' h' tk' t3' pos' F' N' hr'; (obtain ⟨hp', c', t', e', hc'⟩ := hr'; subst e'; (k_dflt (obtain ⟨hcs1, hl'⟩ := two_fact 2 (by decide) (by assumption) hc')); clear hc'; (have hp2 : pos' = 1 + 2 := by (k_dflt (rw [hp', (by decide : (2 : Int) ^ ((253 : Int) - 252).toNat = 2)]); (k_dflt (simp only [List.length_cons]; omega)))); clear hp'; subst hp2); (try k_sweep); (try dsimp only); (try k_fold)))
theorem rf2 (w : World) (D x dx : Addr) (b : Array UInt8) (l : List Int) (hb : KBw.bInts b = 253 :: l) (hz : b.size = (253 :: l : List Int).length) (hz2 : b.size = l.length + 1) (hz' : b.size ≤ 1000) (hN : 2 ≤ l.length) : StrmC w 5 60 620 [.ref x] D x dx b 0 (fun pos' r => pos' = 1 + 2 ∧ ∃ t', r = .int (KFB.value (l.take 2).reverse) t') := by
  unfold StrmC ioDict
  k_fill
  intro p loose mean mg mb dp un gd cn cs a ccd cl outer A₀ base h₀ L m news t1 t2 t3 s Q E B F X N l1 l2 l3 T hk hd hu hret
  obtain ⟨ck, cnm, cg, cc, cm⟩ := cs
  change ck = _ at hk
  subst hk
  refine wpAny_call ?_
  k_dflt k_enter
  k_steps
  all_goals first
    | exact hret _ _ _ _ _ (by assumption) (by assumption) ⟨rfl, _, rfl⟩
    | exact hret _ _ _ _ _ (by assumption) (nws_tl (by assumption)) ⟨rfl, _, rfl⟩
    | (exfalso; omega)
end Mine
end

section
open PySem PySem.W PyProof.Rows PySem.Calls
set_option maxRecDepth 100000
set_option maxHeartbeats 8000000
namespace Mine
local macro_rules | `(tactic| k_room) => `(tactic| ktr_room)
local macro_rules | `(tactic| wtm_at "x call ref") => `(tactic| (k_here; (with_reducible show wpAny _ _ (call (Value.ref 281) [Value.ref _, Value.int 1 _] []) _ _ _); k_dflt (refine' strm_use (io_read _ _ _ _ _ _ _ _ _ ?c1 ?c2 ?c3 ?c4 ?c5 ?c6 ?c7) ?kB ?kF ?kX ?kN ?k1 ?k2 ?k3 ?kT ?kK ?kD ?kU ?_; (case kN => k_asm); (case c1 => assumption); (case c2 => assumption); (case c3 => assumption); (case c4 => omega); (case c5 => omega); (case c6 => first | omega | decide); (case c7 => first | omega | decide); (case kB => k_asm); (case kF => k_asm); (case kX => k_asm); (case kT => k_asm); (case k1 => assumption); (case k2 => assumption); (case k3 => assumption); (case kK => first | exact rfl | assumption); (case kD => ktr_room); (case kU => ktr_units); k_whole); intro r' h' tk' t3' pos' F' N' hr'; (obtain ⟨hp', c', t', e', hc'⟩ := hr'; subst e'; (k_dflt (obtain ⟨cs', hcs1, hl', hg'⟩ := one_fact hc')); clear hc'; (have hp2 : pos' = 1 := by (rw [hp']; (k_dflt (simp only [List.length_cons]; omega)))); clear hp'; subst hp2); (try k_sweep); (try dsimp only); (try k_fold)))
local macro_rules | `(tactic| wtm_at "x call ref") => `(tactic| (k_here; (with_reducible show wpAny _ _ (call (Value.ref 281) [Value.ref _, Value.int (2 ^ _) _] []) _ _ _); k_dflt (refine' strm_use1 (io_read1 _ _ _ _ _ _ _ _ _ ?c1 ?c2 ?c3 ?c4 ?c5 ?c6 ?c7) ?kB ?kF ?kX ?kN ?k1 ?k2 ?k3 ?k4 ?kT ?kK ?kD ?kU ?_; (case kN => k_asm); (case c1 => assumption); (case c2 => assumption); (case c3 => assumption); (case c4 => omega); (case c5 => omega); (case c6 => first | omega | decide); (case c7 => first | omega | decide); (case kB => k_asm); (case kF => k_asm); (case kX => k_asm); (case kT => k_asm); (case k1 => assumption); (case k2 => assumption); (case k3 => assumption); (case k4 => assumption); (case kK => first | exact rfl | assumption); (case kD => ktr_room); (case kU => ktr_units); k_whole); intro r' h' tk' t3' pos' F' N' hr'; (obtain ⟨hp', c', t', e', hc'⟩ := hr'; subst e'; (k_dflt (obtain ⟨hcs1, hl'⟩ := two_fact 4 (by decide) (by assumption) hc')); clear hc'; (have hp2 : pos' = 1 + 4 := by (k_dflt (rw [hp', (by decide : (2 : Int) ^ ((254 : Int) - 252).toNat = 4)]); (k_dflt (simp only [List.length_cons]; omega)))); clear hp'; subst hp2); (try k_sweep); (try dsimp only); (try k_fold)))
theorem rf3 (w : World) (D x dx : Addr) (b : Array UInt8) (l : List Int) (hb : KBw.bInts b = 254 :: l) (hz : b.size = (254 :: l : List Int).length) (hz2 : b.size = l.length + 1) (hz' : b.size ≤ 1000) (hN : 4 ≤ l.length) : StrmC w 5 60 620 [.ref x] D x dx b 0 (fun pos' r => pos' = 1 + 4 ∧ ∃ t', r = .int (KFB.value (l.take 4).reverse) t') := by
  unfold StrmC ioDict
  k_fill
  intro p loose mean mg mb dp un gd cn cs a ccd cl outer A₀ base h₀ L m news t1 t2 t3 s Q E B F X N l1 l2 l3 T hk hd hu hret
  obtain ⟨ck, cnm, cg, cc, cm⟩ := cs
  change ck = _ at hk
  subst hk
  refine wpAny_call ?_
  k_dflt k_enter
  k_steps
  all_goals first
    | exact hret _ _ _ _ _ (by assumption) (by assumption) ⟨rfl, _, rfl⟩
    | exact hret _ _ _ _ _ (by assumption) (nws_tl (by assumption)) ⟨rfl, _, rfl⟩
    | (exfalso; omega)
end Mine
end

section
open PySem PySem.W PyProof.Rows PySem.Calls
set_option maxRecDepth 100000
set_option maxHeartbeats 8000000
namespace Mine
local macro_rules | `(tactic| k_room) => `(tactic| ktr_room)
local macro_rules | `(tactic| wtm_at "x call ref") => `(tactic| (k_here; (with_reducible show wpAny _ _ (call (Value.ref 281) [Value.ref _, Value.int 1 _] []) _ _ _); k_dflt (refine' strm_use (io_read _ _ _ _ _ _ _ _ _ ?c1 ?c2 ?c3 ?c4 ?c5 ?c6 ?c7) ?kB ?kF ?kX ?kN ?k1 ?k2 ?k3 ?kT ?kK ?kD ?kU ?_; (case kN => k_asm); (case c1 => assumption); (case c2 => assumption); (case c3 => assumption); (case c4 => omega); (case c5 => omega); (case c6 => first | omega | decide); (case c7 => first | omega | decide); (case kB => k_asm); (case kF => k_asm); (case kX => k_asm); (case kT => k_asm); (case k1 => assumption); (case k2 => assumption); (case k3 => assumption); (case kK => first | exact rfl | assumption); (case kD => ktr_room); (case kU => ktr_units); k_whole); intro r' h' tk' t3' pos' F' N' hr'; (obtain ⟨hp', c', t', e', hc'⟩ := hr'; subst e'; (k_dflt (obtain ⟨cs', hcs1, hl', hg'⟩ := one_fact hc')); clear hc'; (have hp2 : pos' = 1 := by (rw [hp']; (k_dflt (simp only [List.length_cons]; omega)))); clear hp'; subst hp2); (try k_sweep); (try dsimp only); (try k_fold)))
local macro_rules | `(tactic| wtm_at "x call ref") => `(tactic| (k_here; (with_reducible show wpAny _ _ (call (Value.ref 281) [Value.ref _, Value.int (2 ^ _) _] []) _ _ _); k_dflt (refine' strm_use1 (io_read1 _ _ _ _ _ _ _ _ _ ?c1 ?c2 ?c3 ?c4 ?c5 ?c6 ?c7) ?kB ?kF ?kX ?kN ?k1 ?k2 ?k3 ?k4 ?kT ?kK ?kD ?kU ?_; (case kN => k_asm); (case c1 => assumption); (case c2 => assumption); (case c3 => assumption); (case c4 => omega); (case c5 => omega); (case c6 => first | omega | decide); (case c7 => first | omega | decide); (case kB => k_asm); (case kF => k_asm); (case kX => k_asm); (case kT => k_asm); (case k1 => assumption); (case k2 => assumption); (case k3 => assumption); (case k4 => assumption); (case kK => first | exact rfl | assumption); (case kD => ktr_room); (case kU => ktr_units); k_whole); intro r' h' tk' t3' pos' F' N' hr'; (obtain ⟨hp', c', t', e', hc'⟩ := hr'; subst e'; (k_dflt (obtain ⟨hcs1, hl'⟩ := two_fact 8 (by decide) (by assumption) hc')); clear hc'; (have hp2 : pos' = 1 + 8 := by (k_dflt (rw [hp', (by decide : (2 : Int) ^ ((255 : Int) - 252).toNat = 8)]); (k_dflt (simp only [List.length_cons]; omega)))); clear hp'; subst hp2); (try k_sweep); (try dsimp only); (try k_fold)))
theorem rf4 (w : World) (D x dx : Addr) (b : Array UInt8) (l : List Int) (hb : KBw.bInts b = 255 :: l) (hz : b.size = (255 :: l : List Int).length) (hz2 : b.size = l.length + 1) (hz' : b.size ≤ 1000) (hN : 8 ≤ l.length) : StrmC w 5 60 620 [.ref x] D x dx b 0 (fun pos' r => pos' = 1 + 8 ∧ ∃ t', r = .int (KFB.value (l.take 8).reverse) t') := by
  unfold StrmC ioDict
  k_fill
  intro p loose mean mg mb dp un gd cn cs a ccd cl outer A₀ base h₀ L m news t1 t2 t3 s Q E B F X N l1 l2 l3 T hk hd hu hret
  obtain ⟨ck, cnm, cg, cc, cm⟩ := cs
  change ck = _ at hk
  subst hk
  refine wpAny_call ?_
  k_dflt k_enter
  k_steps
  all_goals first
    | exact hret _ _ _ _ _ (by assumption) (by assumption) ⟨rfl, _, rfl⟩
    | exact hret _ _ _ _ _ (by assumption) (nws_tl (by assumption)) ⟨rfl, _, rfl⟩
    | (exfalso; omega)
end Mine
end

section
open PySem PySem.W PyProof.Rows PySem.Calls
set_option maxRecDepth 100000
set_option maxHeartbeats 4000000
namespace Mine
theorem strmC_mono {w : World} {k u : Nat} {f : Addr} {vs : List Value} {D x dx : Addr} {b : Array UInt8} {pos : Int} {R R' : Int → Value → Prop} (C : StrmC w k u f vs D x dx b pos R) (h : ∀ p r, R p r → R' p r) : StrmC w k u f vs D x dx b pos R' :=
  fun p loose mean mg mb dp un gd cn cs a ccd cl outer A₀ base h₀ L m news t1 t2 t3 s Q E B F X N l1 l2 l3 T hk hd hu ret =>
    C p loose mean mg mb dp un gd cn cs a ccd cl outer A₀ base h₀ L m news t1 t2 t3 s Q E B F X N l1 l2 l3 T hk hd hu fun r h' tk' t3' pos' F' N' hr => ret r h' tk' t3' pos' F' N' (h _ _ hr)
theorem compact_len {i : Int} : 1 ≤ (compact i).length ∧ (compact i).length ≤ 9 := by
  unfold compact
  split
  · exact ⟨by simp, by simp⟩
  · split
    · simp [KTBy.little_length]
    · split
      · simp [KTBy.little_length]
      · simp [KTBy.little_length]
theorem fb_go (w : World) (b : Array UInt8) (i : Int) (ext : List Int) (h0 : 0 ≤ i) (h1 : i < 18446744073709551616) (hb : KBw.bInts b = compact i ++ ext) (he : ext.length ≤ 1) (D x dx : Addr) :
    StrmC w 5 60 620 [.ref x] D x dx b 0 (fun pos' r => pos' = ((compact i).length : Int) ∧ ∃ t', r = .int i t') := by
  have hz : b.size = (compact i ++ ext).length := by rw [← hb, KBw.ints_length]
  have hl := compact_len (i := i)
  have hs : b.size ≤ 1000 := by rw [hz, List.length_append]; omega
  unfold compact at hb hz ⊢
  split at hb
  · rename_i hi
    rw [if_pos hi] at hz ⊢
    refine strmC_mono (rf1 w D x dx b i ext hb hz (by rw [hz]; simp [Nat.add_comm]) hs hi) fun p r h => ?_
    exact h
  · rename_i hi
    rw [if_neg hi] at hz ⊢
    split at hb
    · rename_i hj
      rw [if_pos hj] at hz ⊢
      refine strmC_mono (rf2 w D x dx b (KTBy.little 2 i ++ ext) hb hz (by rw [hz]; simp [Nat.add_comm]) hs (by simp [KTBy.little_length])) fun p r h => ?_
      rw [List.take_left' (KTBy.little_length _ _), val_little h0 (by simpa using hj)] at h
      exact ⟨by rw [h.1]; simp [KTBy.little_length], h.2⟩
    · rename_i hj
      rw [if_neg hj] at hz ⊢
      split at hb
      · rename_i hk
        rw [if_pos hk] at hz ⊢
        refine strmC_mono (rf3 w D x dx b (KTBy.little 4 i ++ ext) hb hz (by rw [hz]; simp [Nat.add_comm]) hs (by simp [KTBy.little_length])) fun p r h => ?_
        rw [List.take_left' (KTBy.little_length _ _), val_little h0 (by simpa using hk)] at h
        exact ⟨by rw [h.1]; simp [KTBy.little_length], h.2⟩
      · rename_i hk
        rw [if_neg hk] at hz ⊢
        refine strmC_mono (rf4 w D x dx b (KTBy.little 8 i ++ ext) hb hz (by rw [hz]; simp [Nat.add_comm]) hs (by simp [KTBy.little_length])) fun p r h => ?_
        rw [List.take_left' (KTBy.little_length _ _), val_little h0 (by simpa using h1)] at h
        exact ⟨by rw [h.1]; simp [KTBy.little_length], h.2⟩
theorem fb (w : World) (b : Array UInt8) (t : Tok) (i : Int) (h0 : 0 ≤ i) (h1 : i < 18446744073709551616) (hb : KBw.bInts b = compact i) : CalmT w 8 120 613 [.bytes b t] (fun h' r => ∃ t', r = .int i t') := by
  have hl := compact_len (i := i)
  have hz : b.size = (compact i).length := by rw [← hb, KBw.ints_length]
  exact fbok w b _ (compact i).length i t hb hz (by omega) (by omega) (by omega) rfl (fun D x dx => fb_go w b i [] h0 h1 (by rw [hb, List.append_nil]) (by simp) D x dx)
theorem fb_more (w : World) (b : Array UInt8) (t : Tok) (i : Int) (h0 : 0 ≤ i) (h1 : i < 18446744073709551616) (hb : KBw.bInts b = compact i ++ [0]) : RaiseT w 8 120 613 [.bytes b t] := by
  have hl := compact_len (i := i)
  have hz : b.size = (compact i ++ [0]).length := by rw [← hb, KBw.ints_length]
  have hz2 := hz
  rw [List.length_append] at hz2
  simp only [List.length_cons, List.length_nil] at hz2
  exact fbbad w b _ (compact i).length i t hb hz (by omega) (by omega) (by omega) ⟨by omega, by simp⟩ (fun D x dx => fb_go w b i [0] h0 h1 hb (by simp) D x dx)
end Mine
end

section
open PySem PySem.W PyProof.Rows PySem.Calls
set_option maxRecDepth 100000
set_option maxHeartbeats 4000000
namespace Mine
theorem pf_len (f : Int → Nat) {l l' : List Int} (h : l.length = f (l.getD 0 0)) (h' : l'.length = f (l'.getD 0 0)) (hl : 1 ≤ l.length) (ne : l ≠ l') : l'.take l.length ≠ l := by
  intro e
  have e0 : l.getD 0 0 = l'.getD 0 0 := by
    have : (l'.take l.length).getD 0 0 = l'.getD 0 0 := by
      rw [List.getD_eq_getElem?_getD, List.getD_eq_getElem?_getD, List.getElem?_take_of_lt (by omega)]
    rw [← this, e]
  rw [h, e0, ← h', List.take_length] at e
  exact ne e.symm
def fC (x : Int) : Nat := if x < 253 then 1 else if x = 253 then 3 else if x = 254 then 5 else 9
theorem compact_f {d : Int} : (compact d).length = fC ((compact d).getD 0 0) := by
  unfold compact
  split
  · rename_i h
    show 1 = fC d
    rw [fC, if_pos h]
  · split
    · rw [List.length_cons, KTBy.little_length]; rfl
    · split
      · rw [List.length_cons, KTBy.little_length]; rfl
      · rw [List.length_cons, KTBy.little_length]; rfl
def fR (x : Int) : Nat := if x < 128 then 1 else (x - 127).toNat
theorem rlp_f {d : Int} : (rlpOf (be d)).length = fR ((rlpOf (be d)).getD 0 0) := by
  unfold rlpOf
  split
  · rename_i h
    rw [fR, if_pos h.2]
    exact h.1
  · show (be d).length + 1 = fR (128 + ((be d).length : Int))
    rw [fR, if_neg (by omega)]
    omega
theorem pf_ba {f : Int → List Int} {g : Int → Nat} {ys : List Value} {ds : List Int} (a : BA f ys ds) (h : ∀ d, (f d).length = g ((f d).getD 0 0)) (h1 : ∀ d ∈ ds, 1 ≤ (f d).length ∧ (f d).length ≤ 1000) : PF ys := by
  have get : ∀ b t, Value.bytes b t ∈ ys → ∃ d ∈ ds, KBw.bInts b = f d := by
    intro b t hm
    obtain ⟨i, hi, e⟩ := List.getElem_of_mem hm
    obtain ⟨b', t', e', hb⟩ := a.get i (.bytes b t) (by rw [List.getElem?_eq_getElem hi, e])
    cases e'
    refine ⟨ds.getD i 0, ?_, hb⟩
    rw [a.len] at hi
    rw [List.getD_eq_getElem?_getD, List.getElem?_eq_getElem hi]
    exact List.getElem_mem hi
  refine ⟨fun v hv => ?_, fun b t b' t' hb hb' ne => ?_⟩
  · obtain ⟨i, hi, e⟩ := List.getElem_of_mem hv
    obtain ⟨b', t', e', hb⟩ := a.get i v (by rw [List.getElem?_eq_getElem hi, e])
    subst e'
    obtain ⟨d, hd, e2⟩ := get _ _ hv
    exact ⟨b', t', rfl, by rw [← KBw.ints_length, e2]; exact (h1 d hd).2⟩
  · obtain ⟨d, hd, e⟩ := get _ _ hb
    obtain ⟨d', hd', e'⟩ := get _ _ hb'
    rw [e, e'] at ne ⊢
    exact pf_len g (h d) (h d') (h1 d hd).1 ne
theorem pf_short {ys : List Value} {ds : List Int} (a : BA compact ys ds) : PF ys := pf_ba a (fun _ => compact_f) fun d _ => ⟨compact_len.1, Nat.le_trans compact_len.2 (by decide)⟩
theorem pf_plain {ys : List Value} {ds : List Int} (a : BA (fun i => rlpOf (be i)) ys ds) (hr : ∀ x ∈ ds, 0 ≤ x ∧ x < 18446744073709551616) : PF ys := pf_ba a (fun _ => rlp_f) fun d hd => by
  have h8 := be_len8 (hr d hd).1 (hr d hd).2
  have hl := rlp_len (d := d)
  refine ⟨?_, by omega⟩
  unfold rlpOf
  split
  · rename_i h; omega
  · rw [List.length_cons]; omega
end Mine
end

section
open PySem PySem.W PyProof.Rows PySem.Calls
set_option maxRecDepth 100000
set_option maxHeartbeats 8000000
namespace Mine
local macro_rules | `(tactic| k_room) => `(tactic| ktr_room)
def CSX (P : Prop) : Prop := P
theorem csx_stop {P : Prop} (h : CSX P) : P := h
/-- the octets of the third row: the two kinds in turns -/
def pcs (ds : List Int) (i : Nat) : List Int := if i % 2 = 0 then compact (ds.getD i 0) else rlpOf (be (ds.getD i 0))
theorem pcs_e {ds : List Int} {i : Nat} (h : Int.fmod (0 + (i : Int)) 2 = 0) : pcs ds i = compact (ds.getD i 0) := by
  rw [Int.fmod_eq_emod_of_nonneg _ (by decide)] at h
  rw [pcs, if_pos (by omega)]
theorem pcs_o {ds : List Int} {i : Nat} (h : ¬ (Int.fmod (0 + (i : Int)) 2 = 0)) : pcs ds i = rlpOf (be (ds.getD i 0)) := by
  rw [Int.fmod_eq_emod_of_nonneg _ (by decide)] at h
  rw [pcs, if_neg (by omega)]
local macro_rules | `(tactic| wtm_at "x getMethod bytes") => `(tactic| (k_here; with_reducible refine gm_join ?_))
local macro_rules | `(tactic| wtm_at "x call builtin:bytes.join") => `(tactic| (k_here; (with_reducible show wpAny _ _ (call (Value.builtin "bytes.join") [Value.bytes _ _, Value.ref _]) _ _ _); k_dflt (refine' join_call ?c1 ?c2 ?c3 ?_; (case c1 => exact News.isList (by k_asm) (by k_mem)); (case c2 => first | exact PF.b (by assumption) | assumption); (case c3 => omega); k_whole); intro c' t' k' hc'))
local macro_rules | `(tactic| wtm_at "x CompSrc") => `(tactic| (k_here; refine csx_stop ?_))
def thirdComp : Expr → Expr
  | .Tuple [_, _, .Tuple [.Call _ [c] _ _, _] _ _] _ _ => c
  | _ => default
def compElt : Expr → Expr
  | .ListComp e _ _ _ => e
  | _ => default
def compScope : Expr → Scope
  | .ListComp _ _ s _ => s
  | _ => default
theorem el5 (w : World) (cs : Scope) (hcs : cs = lawScope w) (el : Expr) (hel : el = compElt (thirdComp (forIter (lawSt w 5)))) (sc : Scope) (hsc : sc = compScope (thirdComp (forIter (lawSt w 5)))) :
  ∀ (p : Program) (loose : List PySem.Str) (mean : ExcName → Option Value) (mg mb : PySem.Str → Option Value) (dp un : Nat) (gd : Option (List Code)) (a : Addr) (ccd : Value) (cR cP cS : Addr) (outer : List Env) (A₀ : Around)
    (base h₀ : Heap) (L : Addr) (m : PySem.Str → Option Value) (news : List (Addr × Obj)) (s : Shared) (Q : Value → Shared → Prop) (E : Value → Shared → Prop),
    Below A₀ base outer h₀ → True → (Mine.kk.heap_1 w.params).In h₀ → True → Top p loose mean mg mb h₀ → dp + 12 < recursionLimit → un + 200 < cLine →
    ∀ (i : Nat) (C : Addr) (oC : Obj) (m2 : PySem.Str → Option Value) (t : Tok) (D1 D2 : Addr) (ys1 ys2 : List Value) (ds : List Int) (oP oS : Obj) (rest : List (Addr × Obj)), Fr h₀ L s.heap m → News h₀ L s.heap ((C, oC) :: (cP, oP) :: (cS, oS) :: (D2, LCg.lst ys2) :: (D1, LCg.lst ys1) :: rest) → LCg.NsObj oC m2 → m2 (PySem.Str.ofString "k") = some (.int (0 + (i : Int)) t) → i < ds.length → ds.length ≤ 8 → oS.data = .cell (some (.ref D1)) → oP.data = .cell (some (.ref D2)) → BA compact ys1 ds → BA (fun i => rlpOf (be i)) ys2 ds →
    (∀ (b : Array UInt8) (t' : Tok) (h' : Heap) (tk' : Nat), Fr h₀ L h' m → News h₀ L h' ((C, oC) :: (cP, oP) :: (cS, oS) :: (D2, LCg.lst ys2) :: (D1, LCg.lst ys1) :: rest) → KBw.bInts b = pcs ds i → Q (.bytes b t') { s with heap := h', toks := tk' }) →
    wpAny (model PySem.Challenge.rw_vn0014_01.prog w) (ktrTop dp un gd (PySem.Str.ofString "law") cs L a ccd [(PySem.Str.ofString "rows", cR), (PySem.Str.ofString "plain", cP), (PySem.Str.ofString "shorts", cS)] outer) (eval el (compEnvC sc [((PySem.Str.ofString "shorts"), cS), ((PySem.Str.ofString "plain"), cP)] C (envX (PySem.Str.ofString "law") cs L a ccd [(PySem.Str.ofString "rows", cR), (PySem.Str.ofString "plain", cP), (PySem.Str.ofString "shorts", cS)]))) Q E s := by
  k_fill
  (conv at hcs => rhs; whnf)
  (conv at hel => rhs; whnf)
  (conv at hsc => rhs; whnf)
  subst hcs
  subst hel
  subst hsc
  intro p loose mean mg mb dp un gd a ccd cR cP cS outer A₀ base h₀ L m news s Q E B F X N T hd hu i C oC m2 t D1 D2 ys1 ys2 ds oP oS rest F N hC hx hi hl8 hS hP ha1 ha2 hret
  clear B
  k_steps
  all_goals first
    | exact hret _ _ _ _ (by assumption) (by assumption) ((by assumption : KBw.bInts _ = _).trans (by rw [pcs_e (by assumption)]; congr 2; omega))
    | exact hret _ _ _ _ (by assumption) (by assumption) ((by assumption : KBw.bInts _ = _).trans (by rw [pcs_o (by assumption)]; congr 3; omega))
end Mine
end

section
open PySem PySem.W PyProof.Rows PySem.Calls
set_option maxRecDepth 100000
set_option maxHeartbeats 4000000
namespace Mine
/-- one number written: compact (0) or RLP -/
def piece (k : Nat) (d : Int) : List Int := if k = 0 then compact d else rlpOf (be d)
/-- a list object -/
def LstO (o : Obj) (vs : List Value) : Prop := o.cls = .type "list" ∧ ∃ n, o.data = .seq vs.toArray n
/-- a row of octets with its pattern -/
structure Row (ds : List Int) (pv : List Value) (o : Array UInt8) (kd : Nat → Nat) : Prop where
  len : pv.length = ds.length
  get : ∀ i v, pv[i]? = some v → ∃ t, v = Value.int ((kd i : Nat) : Int) t
  oct : KBw.bInts o = ((List.range ds.length).map (fun i => piece (kd i) (ds.getD i 0))).flatten
theorem map_octs {ys : List Value} {n : Nat} {f : Nat → List Int} (hl : ys.length = n) (h : ∀ i v, ys[i]? = some v → ∃ b t, v = .bytes b t ∧ KBw.bInts b = f i) : ys.map octs = (List.range n).map f := by
  refine List.ext_getElem (by simp [hl]) fun i h1 h2 => ?_
  simp only [List.length_map] at h1
  obtain ⟨b, t, e, hb⟩ := h i ys[i] (List.getElem?_eq_getElem h1)
  rw [List.getElem_map, List.getElem_map, List.getElem_range, e]
  exact hb
theorem rep_flat (n : Nat) (v : Value) : (List.replicate n [v]).flatten = List.replicate n v := by
  induction n with
  | zero => rfl
  | succ n ih => rw [List.replicate_succ, List.flatten_cons, ih]; rfl
theorem rep_get {n i : Nat} {v w : Value} (h : (List.replicate n [v]).flatten[i]? = some w) : w = v := by
  rw [rep_flat] at h
  exact (List.mem_replicate.mp (List.mem_of_getElem? h)).2
theorem pick5 {h₀ h : Heap} {L T T1 T2 T3 P1 P2 P3 : Addr} {oT o1 o2 o3 q1 q2 q3 : Obj} {x y z : Addr × Obj} {led : List (Addr × Obj)} (N : News h₀ L h ((T, oT) :: (T3, o3) :: (P3, q3) :: x :: (T2, o2) :: (P2, q2) :: y :: (T1, o1) :: (P1, q1) :: z :: led)) :
    News h₀ L h ((T, oT) :: (T1, o1) :: (T2, o2) :: (T3, o3) :: (P1, q1) :: (P2, q2) :: (P3, q3) :: led) := fun p hp => N p (by
  simp only [List.mem_cons] at hp ⊢
  rcases hp with h | h | h | h | h | h | h | h <;> simp [h])
end Mine
end

section
open PySem PySem.W PyProof.Rows PySem.Calls
set_option maxRecDepth 100000
set_option maxHeartbeats 4000000
namespace Mine
theorem pc_get {os p rest : List Int} {n i : Nat} (h : os.drop n = p ++ rest) (hi : i < p.length) : os.getD (n + i) 0 = p.getD i 0 := by
  have e : (os.drop n)[i]? = p[i]? := by rw [h, List.getElem?_append_left hi]
  rw [List.getElem?_drop] at e
  rw [List.getD_eq_getElem?_getD, List.getD_eq_getElem?_getD, e]
theorem pc_len {os p rest : List Int} {n : Nat} (h : os.drop n = p ++ rest) (hp : 1 ≤ p.length) : n + p.length + rest.length = os.length := by
  have e := congrArg List.length h
  rw [List.length_drop, List.length_append] at e
  omega
theorem pc_cut {os p rest : List Int} {n : Nat} (h : os.drop n = p ++ rest) : (os.drop n).take p.length = p := by
  rw [h, List.take_left]
theorem pc_next {os p rest : List Int} {n : Nat} (h : os.drop n = p ++ rest) : os.drop (n + p.length) = rest := by
  rw [← List.drop_drop, h, List.drop_left]
theorem compact_ge {d : Int} : 1 ≤ (compact d).length ∧ (compact d).length ≤ 9 := compact_len
theorem be_le8 {d : Int} (h0 : 0 ≤ d) (h1 : d < 18446744073709551616) : (be d).length ≤ 8 := by rw [be_len]; exact nb_le8 h0 h1
theorem rlpw_len {l : List Int} (h : l.length ≤ 8) : 1 ≤ (rlpOf l).length ∧ (rlpOf l).length ≤ 9 := by
  unfold rlpOf
  split
  · omega
  · simp only [List.length_cons]
    omega
theorem piece_len {k : Nat} {d : Int} (h0 : 0 ≤ d) (h1 : d < 18446744073709551616) : 1 ≤ (piece k d).length ∧ (piece k d).length ≤ 9 := by
  unfold piece
  split
  · exact compact_ge
  · exact rlpw_len (be_le8 h0 h1)
theorem be_lead {d : Int} (h0 : 0 ≤ d) : (be d).length = 0 ∨ (be d).getD 0 0 ≠ 0 := by
  by_cases h : d = 0
  · left; rw [h, be_zero]; rfl
  · right; exact lead_be (by omega)
theorem flat_len {α : Type} (f : α → List Int) (B : Nat) (h : ∀ x, (f x).length ≤ B) : ∀ l : List α, (l.map f).flatten.length ≤ l.length * B
  | [] => by simp
  | x :: l => by
    rw [List.map_cons, List.flatten_cons, List.length_append, List.length_cons, Nat.succ_mul]
    have := flat_len f B h l
    have := h x
    omega
theorem ds_at {ds : List Int} {P : Int → Prop} (h : ∀ d ∈ ds, P d) (h0 : P 0) (i : Nat) : P (ds.getD i 0) := by
  rw [List.getD_eq_getElem?_getD]
  cases e : ds[i]? with
  | none => exact h0
  | some v => exact h v (List.mem_of_getElem? e)
/-- what is left of a row from the i-th number on -/
def restOf (ds : List Int) (kd : Nat → Nat) (i : Nat) : List Int := (((List.range ds.length).drop i).map (fun i => piece (kd i) (ds.getD i 0))).flatten
theorem rest_cons {ds : List Int} {kd : Nat → Nat} {i : Nat} (h : i < ds.length) : restOf ds kd i = piece (kd i) (ds.getD i 0) ++ restOf ds kd (i + 1) := by
  unfold restOf
  rw [List.drop_eq_getElem_cons (by simpa using h), List.map_cons, List.flatten_cons, List.getElem_range]
theorem rest_end {ds : List Int} {kd : Nat → Nat} : restOf ds kd ds.length = [] := by
  unfold restOf
  rw [List.drop_of_length_le (by simp)]
  rfl
theorem rest_len {ds : List Int} {kd : Nat → Nat} (h : ∀ d ∈ ds, 0 ≤ d ∧ d < 18446744073709551616) (hz : ds.length ≤ 8) : (restOf ds kd 0).length ≤ 1000 := by
  have := flat_len (fun i => piece (kd i) (ds.getD i 0)) 9 (fun i => (piece_len (ds_at (P := fun d => 0 ≤ d ∧ d < 18446744073709551616) h (by decide) i).1 (ds_at (P := fun d => 0 ≤ d ∧ d < 18446744073709551616) h (by decide) i).2).2) (List.range ds.length)
  rw [List.length_range] at this
  unfold restOf
  rw [List.drop_zero]
  omega
theorem ints_snoc {tv : List Value} {ds : List Int} {i : Nat} {t : Tok} (h : IntsAre tv (ds.take i)) (hi : i < ds.length) : IntsAre (tv ++ [.int (ds.getD i 0) t]) (ds.take (i + 1)) := by
  rw [List.take_add_one, show ds[i]? = some (ds.getD i 0) by rw [List.getD_eq_getElem?_getD, List.getElem?_eq_getElem hi]; rfl]
  exact intsAre_append h (.cons _ _ .nil)
end Mine
end

section
open PySem PySem.W PyProof.Rows PySem.Calls
set_option maxRecDepth 100000
set_option maxHeartbeats 8000000
namespace Mine
local macro_rules | `(tactic| k_room) => `(tactic| ktr_room)
theorem size_okg {vs : List Value} {ns : List Int} (h : IntsAre vs ns) (hn : ns.length ≤ 8) : vs.length ≤ sizeLine := by
  rw [ints_len h]
  exact Nat.le_trans hn (by decide)
theorem getD_memg {l : List Int} {i : Nat} (h : i < l.length) : l.getD i 0 ∈ l := by
  rw [List.getD_eq_getElem?_getD, List.getElem?_eq_getElem h]
  exact List.getElem_mem h
local macro_rules | `(tactic| wtm_at "x eval ListComp") => `(tactic| (k_here; k_dflt (refine LCg.ListComp_U (F₀ := by k_asm) (by with_unfolding_all rfl) (by decide) (by rfl) (by decide) (by rfl) ?_)))
local macro_rules | `(tactic| k_ne) => `(tactic| (refine neN ?_; (try dsimp only); first | assumption | exact Ne.symm (by assumption) | omega))
local macro_rules | `(tactic| wtm_at "x CompSrc") => `(tactic| (k_here; refine csx_stop ?_))
theorem st2g (w : World) (cs : Scope) (hcs : cs = lawScope w) (st : Stmt) (hst : st = lawSt w 2)  :
  ∀ (p : Program) (loose : List PySem.Str) (mean : ExcName → Option Value) (mg mb : PySem.Str → Option Value) (dp un : Nat) (gd : Option (List Code)) (a : Addr) (ccd : Value) (cR cP cS : Addr) (outer : List Env) (A₀ : Around)
    (base h₀ : Heap) (L : Addr) (m : PySem.Str → Option Value) (Dg : Addr) (oG : Obj) (D : Addr) (ys : List Value) (ds : List Int) (oR oP oS : Obj) (u v : Option Value) (s : Shared) (Q : Flow → Shared → Prop) (E : Value → Shared → Prop),
    Below A₀ base outer h₀ → Fr h₀ L s.heap m → (Mine.kk.heap_1 w.params).In h₀ → News h₀ L s.heap ((D, LCg.lst ys) :: (cR, oR) :: (cP, oP) :: (cS, oS) :: [(Dg, oG)]) → Top p loose mean mg mb h₀ → dp + 12 < recursionLimit → un + 200 < cLine →
    @Ne Nat cS cP → @Ne Nat cP cR → @Ne Nat cS cR → @Ne Nat D cS → @Ne Nat D cP → @Ne Nat D cR → (@Ne Nat Dg cS ∧ @Ne Nat Dg cP ∧ @Ne Nat Dg cR) → oP.data = .cell u → oS.data = .cell v → m (PySem.Str.ofString "values") = some (.ref D) → IntsAre ys ds → 1 ≤ ds.length → ds.length ≤ 8 → (∀ x ∈ ds, 0 ≤ x ∧ x < 18446744073709551616) →
    (∀ (D1 D2 : Addr) (ys1 ys2 : List Value) (oP' oS' : Obj) (h' : Heap) (tk' : Nat), Fr h₀ L h' m → News h₀ L h' ((D2, LCg.lst ys2) :: (D1, LCg.lst ys1) :: (D, LCg.lst ys) :: (cR, oR) :: (cP, oP') :: (cS, oS') :: [(Dg, oG)]) → oS'.data = .cell (some (.ref D1)) → oP'.data = .cell (some (.ref D2)) → BA compact ys1 ds → BA (fun i => rlpOf (be i)) ys2 ds → Q .next { s with heap := h', toks := tk' }) →
    wpAny (model PySem.Challenge.rw_vn0014_01.prog w) (ktrTop dp un gd (PySem.Str.ofString "law") cs L a ccd [(PySem.Str.ofString "rows", cR), (PySem.Str.ofString "plain", cP), (PySem.Str.ofString "shorts", cS)] outer) (exec st (envX (PySem.Str.ofString "law") cs L a ccd [(PySem.Str.ofString "rows", cR), (PySem.Str.ofString "plain", cP), (PySem.Str.ofString "shorts", cS)])) Q E s := by
  k_fill
  (conv at hcs => rhs; whnf)
  (conv at hst => rhs; whnf)
  subst hcs
  subst hst
  intro p loose mean mg mb dp un gd a ccd cR cP cS outer A₀ base h₀ L m Dg oG D ys ds oR oP oS u v s Q E B F X N T hd hu l1 l2 l3 l4 l5 l6 l7 hP hS hm hI hl1 hl8 hr hret
  obtain ⟨l71, l72, l73⟩ := l7
  replace F := fr_form F hm
  k_steps
  unfold CSX
  refine LCg.CompSrc.ledger (by rfl) (by k_asm) (by k_asm) (by k_dflt k_mem) (by rw [List.size_toArray]; exact size_okg (by assumption) (by assumption)) ?_
  intro g'
  refine compRest_rel (fun i y => ∃ b t, y = .bytes b t ∧ KBw.bInts b = compact (ds.getD i 0)) (Or.inr ⟨_, by k_dflt k_mem, rfl, _, rfl⟩) ?step ?fin _ 0 [] (Nat.zero_add _) rfl (fun j y hy => by simp at hy)
  case step =>
    intro i v I oI C oC D m₂ h tk ys' Q' E' hi hP hC hx F N off ne hQ
    obtain ⟨t, rfl, hil⟩ := ints_at hI (by simpa using hP)
    obtain ⟨hv0, hv1⟩ := hr _ (getD_memg hil)
    k_steps
    all_goals first
      | exact hQ _ _ _ (by assumption) (by assumption) ⟨_, _, rfl, by assumption⟩
  intro ys1 hy1 hr1
  intro D1 h1 tk1 F1 N1 o1
  (try simp only [LCg.Off1, and_true] at o1)
  k_steps
  unfold CSX
  refine LCg.CompSrc.ledger (by rfl) (by k_asm) (by k_asm) (by k_dflt k_mem) (by rw [List.size_toArray]; exact size_okg (by assumption) (by assumption)) ?_
  intro g'
  refine compRest_rel (fun i y => ∃ b t, y = .bytes b t ∧ KBw.bInts b = (fun i => rlpOf (be i)) (ds.getD i 0)) (Or.inr ⟨_, by k_dflt k_mem, rfl, _, rfl⟩) ?step2 ?fin2 _ 0 [] (Nat.zero_add _) rfl (fun j y hy => by simp at hy)
  case step2 =>
    intro i v I oI C oC D m₂ h tk ys' Q' E' hi hP hC hx F N off ne hQ
    obtain ⟨t, rfl, hil⟩ := ints_at hI (by simpa using hP)
    obtain ⟨hv0, hv1⟩ := hr _ (getD_memg hil)
    k_steps
    all_goals first
      | exact hQ _ _ _ (by assumption) (by assumption) ⟨_, _, rfl, by assumption⟩
  intro ys2 hy2 hr2
  intro D2 h2 tk2 F2 N2 o2
  (try simp only [LCg.Off1, and_true] at o2)
  k_steps
  refine hret D1 D2 ys1 ys2 _ _ _ _ (fr_back hm (by assumption)) (news_t1 (by assumption)) (by assumption) (by assumption) ⟨?_, hr1⟩ ⟨?_, hr2⟩
  · rw [hy1, List.size_toArray, ints_len hI]
  · rw [hy2, List.size_toArray, ints_len hI]
end Mine
end

section
open PySem PySem.W PyProof.Rows PySem.Calls
set_option maxRecDepth 100000
set_option maxHeartbeats 8000000
namespace Mine
local macro_rules | `(tactic| k_room) => `(tactic| ktr_room)
theorem getD_mem2 {l : List Int} {i : Nat} (h : i < l.length) : l.getD i 0 ∈ l := by
  rw [List.getD_eq_getElem?_getD, List.getElem?_eq_getElem h]
  exact List.getElem_mem h
theorem st3 (w : World) (cs : Scope) (hcs : cs = lawScope w)
  (turn : ∀ (p : Program) (loose : List PySem.Str) (mean : ExcName → Option Value) (mg mb : PySem.Str → Option Value) (dp un : Nat) (gd : Option (List Code)) (a : Addr) (ccd : Value) (cR cP cS : Addr) (outer : List Env) (A₀ : Around)
    (base h₀ : Heap) (L : Addr) (m : PySem.Str → Option Value) (news : List (Addr × Obj)) (s : Shared) (Q : Flow → Shared → Prop) (E : Value → Shared → Prop),
    Below A₀ base outer h₀ → Fr h₀ L s.heap m → (Mine.kk.heap_1 w.params).In h₀ → News h₀ L s.heap news → Top p loose mean mg mb h₀ → dp + 12 < recursionLimit → un + 200 < cLine →
    ∀ (d : Int) (tv t1 t2 : Tok) (b1 b2 : Array UInt8), 0 ≤ d → d < 18446744073709551616 → KBw.bInts b1 = compact d → KBw.bInts b2 = rlpOf (be d) → m (PySem.Str.ofString "value") = some (.int d tv) → m (PySem.Str.ofString "short") = some (.bytes b1 t1) → m (PySem.Str.ofString "row") = some (.bytes b2 t2) →
    (∀ (h' : Heap) (tk' : Nat) (m' : PySem.Str → Option Value), Fr h₀ L h' m' → News h₀ L h' news → Kept [(PySem.Str.ofString "size"), (PySem.Str.ofString "inner")] m m' → Q .next { s with heap := h', toks := tk' }) →
    wpT (model PySem.Challenge.rw_vn0014_01.prog w) (ktrTop dp un gd (PySem.Str.ofString "law") cs L a ccd [(PySem.Str.ofString "rows", cR), (PySem.Str.ofString "plain", cP), (PySem.Str.ofString "shorts", cS)] outer) (execs (forBody (lawSt w 3)) (envX (PySem.Str.ofString "law") cs L a ccd [(PySem.Str.ofString "rows", cR), (PySem.Str.ofString "plain", cP), (PySem.Str.ofString "shorts", cS)])) Q E s) :
  ∀ (p : Program) (loose : List PySem.Str) (mean : ExcName → Option Value) (mg mb : PySem.Str → Option Value) (dp un : Nat) (gd : Option (List Code)) (a : Addr) (ccd : Value) (cR cP cS : Addr) (outer : List Env) (A₀ : Around)
    (base h₀ : Heap) (L : Addr) (m : PySem.Str → Option Value) (news : List (Addr × Obj)) (D D1 D2 : Addr) (ys ys1 ys2 : List Value) (ds : List Int) (oR oP oS : Obj) (s : Shared) (Q : Flow → Shared → Prop) (E : Value → Shared → Prop),
    Below A₀ base outer h₀ → Fr h₀ L s.heap m → (Mine.kk.heap_1 w.params).In h₀ → News h₀ L s.heap ((D2, LCg.lst ys2) :: (D1, LCg.lst ys1) :: (D, LCg.lst ys) :: (cR, oR) :: (cP, oP) :: (cS, oS) :: news) → Top p loose mean mg mb h₀ → dp + 12 < recursionLimit → un + 200 < cLine →
    m (PySem.Str.ofString "values") = some (.ref D) → oS.data = .cell (some (.ref D1)) → oP.data = .cell (some (.ref D2)) → IntsAre ys ds → ds.length ≤ 8 → (∀ x ∈ ds, 0 ≤ x ∧ x < 18446744073709551616) → BA compact ys1 ds → BA (fun i => rlpOf (be i)) ys2 ds →
    (∀ (h' : Heap) (tk' : Nat) (m' : PySem.Str → Option Value), Fr h₀ L h' m' → News h₀ L h' ((D2, LCg.lst ys2) :: (D1, LCg.lst ys1) :: (D, LCg.lst ys) :: (cR, oR) :: (cP, oP) :: (cS, oS) :: news) → Kept [(PySem.Str.ofString "value"), (PySem.Str.ofString "short"), (PySem.Str.ofString "row"), (PySem.Str.ofString "size"), (PySem.Str.ofString "inner")] m m' → Q .next { s with heap := h', toks := tk' }) →
    wpT (model PySem.Challenge.rw_vn0014_01.prog w) (ktrTop dp un gd (PySem.Str.ofString "law") cs L a ccd [(PySem.Str.ofString "rows", cR), (PySem.Str.ofString "plain", cP), (PySem.Str.ofString "shorts", cS)] outer) (exec (lawSt w 3) (envX (PySem.Str.ofString "law") cs L a ccd [(PySem.Str.ofString "rows", cR), (PySem.Str.ofString "plain", cP), (PySem.Str.ofString "shorts", cS)])) Q E s := by
  k_fill
  intro p loose mean mg mb dp un gd a ccd cR cP cS outer A₀ base h₀ L m news D D1 D2 ys ys1 ys2 ds oR oP oS s Q E B F X N T hd hu hm hS hP hI hl8 hr ha1 ha2 hret
  have e : lawSt w 3 = .For (forTgt (lawSt w 3)) (forIter (lawSt w 3)) (forBody (lawSt w 3)) [] (forPos (lawSt w 3)) := by rfl
  rw [e]
  clear e
  generalize hT : forTgt (lawSt w 3) = tgt
  generalize hG : forIter (lawSt w 3) = itr
  generalize hP : forPos (lawSt w 3) = ps
  generalize hB : forBody (lawSt w 3) = body at turn ⊢
  (conv at hT => lhs; whnf)
  (conv at hG => lhs; whnf)
  subst hT
  subst hG
  clear hP hB
  have turn' := @turn
  clear turn
  revert turn'
  revert hcs
  intro hcs
  (conv at hcs => rhs; whnf)
  subst hcs
  intro turn
  replace F := fr_form F hm
  refine wpT_For ?_
  k_steps
  replace F := fr_back hm F
  refine call_zip3 (News.isList N (.tail _ (.tail _ (.head _)))) (News.isList N (.tail _ (.head _))) (News.isList N (.head _)) fun h1 Z sz up => ?_
  have F1 : Fr h₀ L h1 m := F.keeps up
  have N1 : News h₀ L h1 ((D2, LCg.lst ys2) :: (D1, LCg.lst ys1) :: (D, LCg.lst ys) :: (cR, oR) :: (cP, oP) :: (cS, oS) :: news) := N.grown up
  refine wpAny_pyIter_zip Z.z ?_
  have hlt : ∀ p ∈ ((D2, LCg.lst ys2) :: (D1, LCg.lst ys1) :: (D, LCg.lst ys) :: (cR, oR) :: (cP, oP) :: (cS, oS) :: news), (p.1 : Nat) < s.heap.objs.size := fun p hp => Heap.lt_size (N p hp).1
  refine zip3_loop (h₀ := h₀) (L := L) (m₀ := m) (news := ((D2, LCg.lst ys2) :: (D1, LCg.lst ys1) :: (D, LCg.lst ys) :: (cR, oR) :: (cP, oP) :: (cS, oS) :: news)) (n := ds.length) [(PySem.Str.ofString "value"), (PySem.Str.ofString "short"), (PySem.Str.ofString "row"), (PySem.Str.ofString "size"), (PySem.Str.ofString "inner")] rfl rfl rfl rfl rfl rfl (by decide +kernel) (by decide +kernel) (by decide +kernel) (ints_len hI) ha1.len ha2.len F1 N1 (.tail _ (.tail _ (.head _))) (.tail _ (.head _)) (.head _) Z F.ns.lt (Nat.le_of_lt (Nat.lt_of_le_of_lt F.above F.ns.lt)) hlt ?turn ?done
  case done =>
    intro h tk m' F' N' K'
    exact hret h tk m' F' N' K'
  case turn =>
    intro i x y v m' h tk own hi hx hy hv K' F' N'
    obtain ⟨tx, rfl, hil⟩ := ints_at hI hx
    obtain ⟨b1, t1, rfl, hb1⟩ := ha1.get i y hy
    obtain ⟨b2, t2, rfl, hb2⟩ := ha2.get i v hv
    obtain ⟨d0, d1⟩ := hr _ (getD_mem2 hil)
    refine turn p loose mean mg mb dp un gd a ccd cR cP cS outer A₀ base h₀ L _ (((D2, LCg.lst ys2) :: (D1, LCg.lst ys1) :: (D, LCg.lst ys) :: (cR, oR) :: (cP, oP) :: (cS, oS) :: news) ++ own) { s with heap := h, toks := tk } _ _ B F' X N' T hd hu (ds.getD i 0) tx t1 t2 b1 b2 d0 d1 hb1 hb2 (by rfl) (by rfl) (by rfl) fun h' tk' m2 F2 N2 K2 => ?_
    refine ⟨h', tk', m2, rfl, F2, N2, fun z hz => ?_⟩
    rw [K2 z (by revert hz; simp only [List.contains_eq_mem, List.mem_cons, List.not_mem_nil, or_false, not_or, decide_eq_false_iff_not]; exact fun h => ⟨h.2.2.2.1, h.2.2.2.2⟩)]
    have hz2 : z ≠ (PySem.Str.ofString "value") ∧ z ≠ (PySem.Str.ofString "short") ∧ z ≠ (PySem.Str.ofString "row") := by revert hz; simp only [List.contains_eq_mem, List.mem_cons, List.not_mem_nil, or_false, not_or, decide_eq_false_iff_not]; exact fun h => ⟨h.1, h.2.1, h.2.2.1⟩
    show (if z = _ then _ else if z = _ then _ else if z = _ then _ else m' z) = m z
    rw [if_neg hz2.2.2, if_neg hz2.2.1, if_neg hz2.1]
    exact K' z hz
end Mine
end

section
open PySem PySem.W PyProof.Rows PySem.Calls
set_option maxRecDepth 100000
set_option maxHeartbeats 8000000
namespace Mine
local macro_rules | `(tactic| k_room) => `(tactic| ktr_room)
theorem b0 (w : World) (cs : Scope) (hcs : cs = lawScope w) (st : Stmt) (hst : st = (forBody (lawSt w 3)).getD 0 (.Pass default))  :
  ∀ (p : Program) (loose : List PySem.Str) (mean : ExcName → Option Value) (mg mb : PySem.Str → Option Value) (dp un : Nat) (gd : Option (List Code)) (a : Addr) (ccd : Value) (cR cP cS : Addr) (outer : List Env) (A₀ : Around)
    (base h₀ : Heap) (L : Addr) (m : PySem.Str → Option Value) (news : List (Addr × Obj)) (s : Shared) (Q : Flow → Shared → Prop) (E : Value → Shared → Prop),
    Below A₀ base outer h₀ → Fr h₀ L s.heap m → (Mine.kk.heap_1 w.params).In h₀ → News h₀ L s.heap news → Top p loose mean mg mb h₀ → dp + 12 < recursionLimit → un + 200 < cLine →
    ∀ (d : Int) (tv t1 t2 : Tok) (b1 b2 : Array UInt8), 0 ≤ d → d < 18446744073709551616 → KBw.bInts b1 = compact d → KBw.bInts b2 = rlpOf (be d) → m (PySem.Str.ofString "value") = some (.int d tv) → m (PySem.Str.ofString "short") = some (.bytes b1 t1) → m (PySem.Str.ofString "row") = some (.bytes b2 t2) →
    (∀ (h' : Heap) (tk' : Nat), Fr h₀ L h' m → News h₀ L h' news → Q .next { s with heap := h', toks := tk' }) →
    wpT (model PySem.Challenge.rw_vn0014_01.prog w) (ktrTop dp un gd (PySem.Str.ofString "law") cs L a ccd [(PySem.Str.ofString "rows", cR), (PySem.Str.ofString "plain", cP), (PySem.Str.ofString "shorts", cS)] outer) (exec st (envX (PySem.Str.ofString "law") cs L a ccd [(PySem.Str.ofString "rows", cR), (PySem.Str.ofString "plain", cP), (PySem.Str.ofString "shorts", cS)])) Q E s := by
  k_fill
  (conv at hcs => rhs; whnf)
  (conv at hst => rhs; whnf)
  subst hcs
  subst hst
  intro p loose mean mg mb dp un gd a ccd cR cP cS outer A₀ base h₀ L m news s Q E B F X N T hd hu d tv t1 t2 b1 b2 h0 h1 hb1 hb2 hm1 hm2 hm3 hret
  replace F := fr_form3 F hm1 hm2 hm3
  refine wpT_If (wpT_isTrue_or (wpT_Compare1 (wpT_CallName1 (K := Mine.kk.heap_1 w.params) (fv := .ref 613) rfl (by kernel_rfl) ?_)))
  k_steps
  refine ⟨rfl, ?_⟩
  k_steps
  refine ⟨by k_in, ?_⟩
  refine fb w b1 t1 d h0 h1 hb1 _ _ _ _ _ _ _ _ _ _ _ _ _ _ _ _ _ _ _ _ _ _ _ (by k_asm) (by k_asm) (by k_asm) (by k_asm) (by k_asm) rfl (by omega) (by omega) ?_
  intro r h' tk' F' N' hr
  obtain ⟨t', rfl⟩ := hr
  k_steps
  rotate_left 2
  refine wpT.of ?_
  k_steps
  all_goals first
    | (have hne : d ≠ d := by assumption
       exact absurd rfl hne)
    | exact hret _ _ (by rw [← form3_eq hm1 hm2 hm3]; assumption) (by assumption)
end Mine
end

section
open PySem PySem.W PyProof.Rows PySem.Calls
set_option maxRecDepth 100000
set_option maxHeartbeats 8000000
namespace Mine
local macro_rules | `(tactic| k_room) => `(tactic| ktr_room)
theorem b1 (w : World) (cs : Scope) (hcs : cs = lawScope w) (st : Stmt) (hst : st = (forBody (lawSt w 3)).getD 1 (.Pass default))  :
  ∀ (p : Program) (loose : List PySem.Str) (mean : ExcName → Option Value) (mg mb : PySem.Str → Option Value) (dp un : Nat) (gd : Option (List Code)) (a : Addr) (ccd : Value) (cR cP cS : Addr) (outer : List Env) (A₀ : Around)
    (base h₀ : Heap) (L : Addr) (m : PySem.Str → Option Value) (news : List (Addr × Obj)) (s : Shared) (Q : Flow → Shared → Prop) (E : Value → Shared → Prop),
    Below A₀ base outer h₀ → Fr h₀ L s.heap m → (Mine.kk.heap_1 w.params).In h₀ → News h₀ L s.heap news → Top p loose mean mg mb h₀ → dp + 12 < recursionLimit → un + 200 < cLine →
    ∀ (d : Int) (tv : Tok), m (PySem.Str.ofString "value") = some (.int d tv) →
    (∀ (t' : Tok) (h' : Heap) (tk' : Nat) (m' : PySem.Str → Option Value), Fr h₀ L h' m' → News h₀ L h' news → m' (PySem.Str.ofString "size") = some (.int (szOf d) t') → Kept [(PySem.Str.ofString "size")] m m' → Q .next { s with heap := h', toks := tk' }) →
    wpAny (model PySem.Challenge.rw_vn0014_01.prog w) (ktrTop dp un gd (PySem.Str.ofString "law") cs L a ccd [(PySem.Str.ofString "rows", cR), (PySem.Str.ofString "plain", cP), (PySem.Str.ofString "shorts", cS)] outer) (exec st (envX (PySem.Str.ofString "law") cs L a ccd [(PySem.Str.ofString "rows", cR), (PySem.Str.ofString "plain", cP), (PySem.Str.ofString "shorts", cS)])) Q E s := by
  k_fill
  (conv at hcs => rhs; whnf)
  (conv at hst => rhs; whnf)
  subst hcs
  subst hst
  intro p loose mean mg mb dp un gd a ccd cR cP cS outer A₀ base h₀ L m news s Q E B F X N T hd hu d tv hm hret
  replace F := fr_form F hm
  have K0 : Kept [PySem.Str.ofString "size"] m (fun y => if y = PySem.Str.ofString "value" then some (.int d tv) else m y) := by
    rw [← m_form hm]
    exact fun _ _ => rfl
  k_steps
  all_goals first
    | exact hret _ _ _ _ (by assumption) (by assumption) (by rw [sz0 (by assumption)]; rfl) (kept_set K0 (by decide +kernel))
    | exact hret _ _ _ _ (by assumption) (by assumption) (by rw [sz2 (by assumption) (by assumption)]; rfl) (kept_set K0 (by decide +kernel))
    | exact hret _ _ _ _ (by assumption) (by assumption) (by rw [sz4 (by assumption) (by assumption) (by assumption)]; rfl) (kept_set K0 (by decide +kernel))
    | exact hret _ _ _ _ (by assumption) (by assumption) (by rw [sz8 (by assumption) (by assumption) (by assumption)]; rfl) (kept_set K0 (by decide +kernel))
end Mine
end

section
open PySem PySem.W PyProof.Rows PySem.Calls
set_option maxRecDepth 100000
set_option maxHeartbeats 8000000
namespace Mine
local macro_rules | `(tactic| k_room) => `(tactic| ktr_room)
theorem b2a (w : World) (cs : Scope) (hcs : cs = lawScope w) (st : Stmt) (hst : st = (forBody (lawSt w 3)).getD 2 (.Pass default))  :
  ∀ (p : Program) (loose : List PySem.Str) (mean : ExcName → Option Value) (mg mb : PySem.Str → Option Value) (dp un : Nat) (gd : Option (List Code)) (a : Addr) (ccd : Value) (cR cP cS : Addr) (outer : List Env) (A₀ : Around)
    (base h₀ : Heap) (L : Addr) (m : PySem.Str → Option Value) (news : List (Addr × Obj)) (s : Shared) (Q : Flow → Shared → Prop) (E : Value → Shared → Prop),
    Below A₀ base outer h₀ → Fr h₀ L s.heap m → (Mine.kk.heap_1 w.params).In h₀ → News h₀ L s.heap news → Top p loose mean mg mb h₀ → dp + 12 < recursionLimit → un + 200 < cLine →
    ∀ (d : Int) (tv t1 ts : Tok) (b1 : Array UInt8), 0 ≤ d → d < 253 → KBw.bInts b1 = [d] → m (PySem.Str.ofString "value") = some (.int d tv) → m (PySem.Str.ofString "short") = some (.bytes b1 t1) → m (PySem.Str.ofString "size") = some (.int 0 ts) →
    (∀ (h' : Heap) (tk' : Nat), Fr h₀ L h' m → News h₀ L h' news → Q .next { s with heap := h', toks := tk' }) →
    wpAny (model PySem.Challenge.rw_vn0014_01.prog w) (ktrTop dp un gd (PySem.Str.ofString "law") cs L a ccd [(PySem.Str.ofString "rows", cR), (PySem.Str.ofString "plain", cP), (PySem.Str.ofString "shorts", cS)] outer) (exec st (envX (PySem.Str.ofString "law") cs L a ccd [(PySem.Str.ofString "rows", cR), (PySem.Str.ofString "plain", cP), (PySem.Str.ofString "shorts", cS)])) Q E s := by
  k_fill
  (conv at hcs => rhs; whnf)
  (conv at hst => rhs; whnf)
  subst hcs
  subst hst
  intro p loose mean mg mb dp un gd a ccd cR cP cS outer A₀ base h₀ L m news s Q E B F X N T hd hu d tv t1 ts b1 h0 h1 hb hm1 hm2 hm3 hret
  replace F := fr_form3 F hm1 hm2 hm3
  k_steps
  all_goals first
    | exact hret _ _ (by rw [← form3_eq hm1 hm2 hm3]; assumption) (by assumption)
    | exact hret _ _ (by rw [← form3_eq hm1 hm2 hm3]; assumption) (news_t1 (by assumption))
    | exact hret _ _ (by rw [← form3_eq hm1 hm2 hm3]; assumption) (news_t1 (news_t1 (by assumption)))
    | exact hret _ _ (by rw [← form3_eq hm1 hm2 hm3]; assumption) (news_t1 (news_t1 (news_t1 (by assumption))))
    | (exfalso; exact tl_bne (by assumption) (hb.trans (by_one h0 (by omega) rfl).symm))
    | (exfalso; exact tl_bne (by assumption) (hb.trans (by assumption : KBw.bInts (_ ++ _) = _).symm))
end Mine
end

section
open PySem PySem.W PyProof.Rows PySem.Calls
set_option maxRecDepth 100000
set_option maxHeartbeats 8000000
namespace Mine
local macro_rules | `(tactic| k_room) => `(tactic| ktr_room)
theorem b2b (w : World) (cs : Scope) (hcs : cs = lawScope w) (st : Stmt) (hst : st = (forBody (lawSt w 3)).getD 2 (.Pass default))  :
  ∀ (p : Program) (loose : List PySem.Str) (mean : ExcName → Option Value) (mg mb : PySem.Str → Option Value) (dp un : Nat) (gd : Option (List Code)) (a : Addr) (ccd : Value) (cR cP cS : Addr) (outer : List Env) (A₀ : Around)
    (base h₀ : Heap) (L : Addr) (m : PySem.Str → Option Value) (news : List (Addr × Obj)) (s : Shared) (Q : Flow → Shared → Prop) (E : Value → Shared → Prop),
    Below A₀ base outer h₀ → Fr h₀ L s.heap m → (Mine.kk.heap_1 w.params).In h₀ → News h₀ L s.heap news → Top p loose mean mg mb h₀ → dp + 12 < recursionLimit → un + 200 < cLine →
    ∀ (d : Int) (tv t1 ts : Tok) (b1 : Array UInt8), 253 ≤ d → d < 65536 → KBw.bInts b1 = 253 :: KTBy.little 2 d → m (PySem.Str.ofString "value") = some (.int d tv) → m (PySem.Str.ofString "short") = some (.bytes b1 t1) → m (PySem.Str.ofString "size") = some (.int 2 ts) →
    (∀ (h' : Heap) (tk' : Nat), Fr h₀ L h' m → News h₀ L h' news → Q .next { s with heap := h', toks := tk' }) →
    wpAny (model PySem.Challenge.rw_vn0014_01.prog w) (ktrTop dp un gd (PySem.Str.ofString "law") cs L a ccd [(PySem.Str.ofString "rows", cR), (PySem.Str.ofString "plain", cP), (PySem.Str.ofString "shorts", cS)] outer) (exec st (envX (PySem.Str.ofString "law") cs L a ccd [(PySem.Str.ofString "rows", cR), (PySem.Str.ofString "plain", cP), (PySem.Str.ofString "shorts", cS)])) Q E s := by
  k_fill
  (conv at hcs => rhs; whnf)
  (conv at hst => rhs; whnf)
  subst hcs
  subst hst
  intro p loose mean mg mb dp un gd a ccd cR cP cS outer A₀ base h₀ L m news s Q E B F X N T hd hu d tv t1 ts b1 h0 h1 hb hm1 hm2 hm3 hret
  replace F := fr_form3 F hm1 hm2 hm3
  k_steps
  all_goals first
    | exact hret _ _ (by rw [← form3_eq hm1 hm2 hm3]; assumption) (by assumption)
    | exact hret _ _ (by rw [← form3_eq hm1 hm2 hm3]; assumption) (news_t1 (by assumption))
    | exact hret _ _ (by rw [← form3_eq hm1 hm2 hm3]; assumption) (news_t1 (news_t1 (by assumption)))
    | exact hret _ _ (by rw [← form3_eq hm1 hm2 hm3]; assumption) (news_t1 (news_t1 (news_t1 (by assumption))))
    | (exfalso; exact tl_bne (by assumption) (hb.trans (by_one h0 (by omega) rfl).symm))
    | (exfalso; exact tl_bne (by assumption) (hb.trans (by assumption : KBw.bInts (_ ++ _) = _).symm))
end Mine
end

section
open PySem PySem.W PyProof.Rows PySem.Calls
set_option maxRecDepth 100000
set_option maxHeartbeats 8000000
namespace Mine
local macro_rules | `(tactic| k_room) => `(tactic| ktr_room)
theorem b2c (w : World) (cs : Scope) (hcs : cs = lawScope w) (st : Stmt) (hst : st = (forBody (lawSt w 3)).getD 2 (.Pass default))  :
  ∀ (p : Program) (loose : List PySem.Str) (mean : ExcName → Option Value) (mg mb : PySem.Str → Option Value) (dp un : Nat) (gd : Option (List Code)) (a : Addr) (ccd : Value) (cR cP cS : Addr) (outer : List Env) (A₀ : Around)
    (base h₀ : Heap) (L : Addr) (m : PySem.Str → Option Value) (news : List (Addr × Obj)) (s : Shared) (Q : Flow → Shared → Prop) (E : Value → Shared → Prop),
    Below A₀ base outer h₀ → Fr h₀ L s.heap m → (Mine.kk.heap_1 w.params).In h₀ → News h₀ L s.heap news → Top p loose mean mg mb h₀ → dp + 12 < recursionLimit → un + 200 < cLine →
    ∀ (d : Int) (tv t1 ts : Tok) (b1 : Array UInt8), 65536 ≤ d → d < 4294967296 → KBw.bInts b1 = 254 :: KTBy.little 4 d → m (PySem.Str.ofString "value") = some (.int d tv) → m (PySem.Str.ofString "short") = some (.bytes b1 t1) → m (PySem.Str.ofString "size") = some (.int 4 ts) →
    (∀ (h' : Heap) (tk' : Nat), Fr h₀ L h' m → News h₀ L h' news → Q .next { s with heap := h', toks := tk' }) →
    wpAny (model PySem.Challenge.rw_vn0014_01.prog w) (ktrTop dp un gd (PySem.Str.ofString "law") cs L a ccd [(PySem.Str.ofString "rows", cR), (PySem.Str.ofString "plain", cP), (PySem.Str.ofString "shorts", cS)] outer) (exec st (envX (PySem.Str.ofString "law") cs L a ccd [(PySem.Str.ofString "rows", cR), (PySem.Str.ofString "plain", cP), (PySem.Str.ofString "shorts", cS)])) Q E s := by
  k_fill
  (conv at hcs => rhs; whnf)
  (conv at hst => rhs; whnf)
  subst hcs
  subst hst
  intro p loose mean mg mb dp un gd a ccd cR cP cS outer A₀ base h₀ L m news s Q E B F X N T hd hu d tv t1 ts b1 h0 h1 hb hm1 hm2 hm3 hret
  replace F := fr_form3 F hm1 hm2 hm3
  k_steps
  all_goals first
    | exact hret _ _ (by rw [← form3_eq hm1 hm2 hm3]; assumption) (by assumption)
    | exact hret _ _ (by rw [← form3_eq hm1 hm2 hm3]; assumption) (news_t1 (by assumption))
    | exact hret _ _ (by rw [← form3_eq hm1 hm2 hm3]; assumption) (news_t1 (news_t1 (by assumption)))
    | exact hret _ _ (by rw [← form3_eq hm1 hm2 hm3]; assumption) (news_t1 (news_t1 (news_t1 (by assumption))))
    | (exfalso; exact tl_bne (by assumption) (hb.trans (by_one h0 (by omega) rfl).symm))
    | (exfalso; exact tl_bne (by assumption) (hb.trans (by assumption : KBw.bInts (_ ++ _) = _).symm))
end Mine
end

section
open PySem PySem.W PyProof.Rows PySem.Calls
set_option maxRecDepth 100000
set_option maxHeartbeats 8000000
namespace Mine
local macro_rules | `(tactic| k_room) => `(tactic| ktr_room)
theorem b2e (w : World) (cs : Scope) (hcs : cs = lawScope w) (st : Stmt) (hst : st = (forBody (lawSt w 3)).getD 2 (.Pass default))  :
  ∀ (p : Program) (loose : List PySem.Str) (mean : ExcName → Option Value) (mg mb : PySem.Str → Option Value) (dp un : Nat) (gd : Option (List Code)) (a : Addr) (ccd : Value) (cR cP cS : Addr) (outer : List Env) (A₀ : Around)
    (base h₀ : Heap) (L : Addr) (m : PySem.Str → Option Value) (news : List (Addr × Obj)) (s : Shared) (Q : Flow → Shared → Prop) (E : Value → Shared → Prop),
    Below A₀ base outer h₀ → Fr h₀ L s.heap m → (Mine.kk.heap_1 w.params).In h₀ → News h₀ L s.heap news → Top p loose mean mg mb h₀ → dp + 12 < recursionLimit → un + 200 < cLine →
    ∀ (d : Int) (tv t1 ts : Tok) (b1 : Array UInt8), 4294967296 ≤ d → d < 18446744073709551616 → KBw.bInts b1 = 255 :: KTBy.little 8 d → m (PySem.Str.ofString "value") = some (.int d tv) → m (PySem.Str.ofString "short") = some (.bytes b1 t1) → m (PySem.Str.ofString "size") = some (.int 8 ts) →
    (∀ (h' : Heap) (tk' : Nat), Fr h₀ L h' m → News h₀ L h' news → Q .next { s with heap := h', toks := tk' }) →
    wpAny (model PySem.Challenge.rw_vn0014_01.prog w) (ktrTop dp un gd (PySem.Str.ofString "law") cs L a ccd [(PySem.Str.ofString "rows", cR), (PySem.Str.ofString "plain", cP), (PySem.Str.ofString "shorts", cS)] outer) (exec st (envX (PySem.Str.ofString "law") cs L a ccd [(PySem.Str.ofString "rows", cR), (PySem.Str.ofString "plain", cP), (PySem.Str.ofString "shorts", cS)])) Q E s := by
  k_fill
  (conv at hcs => rhs; whnf)
  (conv at hst => rhs; whnf)
  subst hcs
  subst hst
  intro p loose mean mg mb dp un gd a ccd cR cP cS outer A₀ base h₀ L m news s Q E B F X N T hd hu d tv t1 ts b1 h0 h1 hb hm1 hm2 hm3 hret
  replace F := fr_form3 F hm1 hm2 hm3
  k_steps
  all_goals first
    | exact hret _ _ (by rw [← form3_eq hm1 hm2 hm3]; assumption) (by assumption)
    | exact hret _ _ (by rw [← form3_eq hm1 hm2 hm3]; assumption) (news_t1 (by assumption))
    | exact hret _ _ (by rw [← form3_eq hm1 hm2 hm3]; assumption) (news_t1 (news_t1 (by assumption)))
    | exact hret _ _ (by rw [← form3_eq hm1 hm2 hm3]; assumption) (news_t1 (news_t1 (news_t1 (by assumption))))
    | (exfalso; exact tl_bne (by assumption) (hb.trans (by_one h0 (by omega) rfl).symm))
    | (exfalso; exact tl_bne (by assumption) (hb.trans (by assumption : KBw.bInts (_ ++ _) = _).symm))
end Mine
end

section
open PySem PySem.W PyProof.Rows PySem.Calls
set_option maxRecDepth 100000
set_option maxHeartbeats 8000000
namespace Mine
local macro_rules | `(tactic| k_room) => `(tactic| ktr_room)
theorem b3z (w : World) (cs : Scope) (hcs : cs = lawScope w) (st : Stmt) (hst : st = (forBody (lawSt w 3)).getD 3 (.Pass default))  :
  ∀ (p : Program) (loose : List PySem.Str) (mean : ExcName → Option Value) (mg mb : PySem.Str → Option Value) (dp un : Nat) (gd : Option (List Code)) (a : Addr) (ccd : Value) (cR cP cS : Addr) (outer : List Env) (A₀ : Around)
    (base h₀ : Heap) (L : Addr) (m : PySem.Str → Option Value) (news : List (Addr × Obj)) (s : Shared) (Q : Flow → Shared → Prop) (E : Value → Shared → Prop),
    Below A₀ base outer h₀ → Fr h₀ L s.heap m → (Mine.kk.heap_1 w.params).In h₀ → News h₀ L s.heap news → Top p loose mean mg mb h₀ → dp + 12 < recursionLimit → un + 200 < cLine →
    ∀ (sz : Int) (t1 ts : Tok) (b1 : Array UInt8) (ks : List Int), sz = 0 → KBw.bInts b1 = ks → 1 ≤ ks.length → ks.length ≤ 1000 → m (PySem.Str.ofString "short") = some (.bytes b1 t1) → m (PySem.Str.ofString "size") = some (.int sz ts) →
    (∀ (c : Array UInt8) (t' : Tok) (h' : Heap) (tk' : Nat) (m' : PySem.Str → Option Value), Fr h₀ L h' m' → News h₀ L h' news → m' (PySem.Str.ofString "inner") = some (.bytes c t') → Kept [(PySem.Str.ofString "inner")] m m' → KBw.bInts c = ks.reverse → Q .next { s with heap := h', toks := tk' }) →
    wpAny (model PySem.Challenge.rw_vn0014_01.prog w) (ktrTop dp un gd (PySem.Str.ofString "law") cs L a ccd [(PySem.Str.ofString "rows", cR), (PySem.Str.ofString "plain", cP), (PySem.Str.ofString "shorts", cS)] outer) (exec st (envX (PySem.Str.ofString "law") cs L a ccd [(PySem.Str.ofString "rows", cR), (PySem.Str.ofString "plain", cP), (PySem.Str.ofString "shorts", cS)])) Q E s := by
  k_fill
  (conv at hcs => rhs; whnf)
  (conv at hst => rhs; whnf)
  subst hcs
  subst hst
  intro p loose mean mg mb dp un gd a ccd cR cP cS outer A₀ base h₀ L m news s Q E B F X N T hd hu sz t1 ts b1 ks hsz hb hl1 hl2 hm1 hm2 hret
  have K0 : Kept [PySem.Str.ofString "inner"] m (fun y => if y = PySem.Str.ofString "short" then some (.bytes b1 t1) else if y = PySem.Str.ofString "size" then some (.int sz ts) else if y = PySem.Str.ofString "size" then some (.int sz ts) else m y) := by
    rw [form3_eq hm1 hm2 hm2]
    exact fun _ _ => rfl
  replace F := fr_form3 F hm1 hm2 hm2
  subst hsz
  k_steps
  all_goals first
    | (exfalso; omega)
    | exact hret _ _ _ _ _ (by assumption) (by assumption) (by rfl) (kept_set K0 (by decide +kernel)) (by assumption)
    | exact hret _ _ _ _ _ (by assumption) (by assumption) (by rfl) (kept_set K0 (by decide +kernel)) ((by assumption : KBw.bInts _ = List.reverse _).trans (by rw [drop_one hl1]))
end Mine
end

section
open PySem PySem.W PyProof.Rows PySem.Calls
set_option maxRecDepth 100000
set_option maxHeartbeats 8000000
namespace Mine
local macro_rules | `(tactic| k_room) => `(tactic| ktr_room)
theorem b3n (w : World) (cs : Scope) (hcs : cs = lawScope w) (st : Stmt) (hst : st = (forBody (lawSt w 3)).getD 3 (.Pass default))  :
  ∀ (p : Program) (loose : List PySem.Str) (mean : ExcName → Option Value) (mg mb : PySem.Str → Option Value) (dp un : Nat) (gd : Option (List Code)) (a : Addr) (ccd : Value) (cR cP cS : Addr) (outer : List Env) (A₀ : Around)
    (base h₀ : Heap) (L : Addr) (m : PySem.Str → Option Value) (news : List (Addr × Obj)) (s : Shared) (Q : Flow → Shared → Prop) (E : Value → Shared → Prop),
    Below A₀ base outer h₀ → Fr h₀ L s.heap m → (Mine.kk.heap_1 w.params).In h₀ → News h₀ L s.heap news → Top p loose mean mg mb h₀ → dp + 12 < recursionLimit → un + 200 < cLine →
    ∀ (sz : Int) (t1 ts : Tok) (b1 : Array UInt8) (ks : List Int), sz ≠ 0 → KBw.bInts b1 = ks → 1 ≤ ks.length → ks.length ≤ 1000 → m (PySem.Str.ofString "short") = some (.bytes b1 t1) → m (PySem.Str.ofString "size") = some (.int sz ts) →
    (∀ (c : Array UInt8) (t' : Tok) (h' : Heap) (tk' : Nat) (m' : PySem.Str → Option Value), Fr h₀ L h' m' → News h₀ L h' news → m' (PySem.Str.ofString "inner") = some (.bytes c t') → Kept [(PySem.Str.ofString "inner")] m m' → KBw.bInts c = (ks.drop 1).reverse → Q .next { s with heap := h', toks := tk' }) →
    wpAny (model PySem.Challenge.rw_vn0014_01.prog w) (ktrTop dp un gd (PySem.Str.ofString "law") cs L a ccd [(PySem.Str.ofString "rows", cR), (PySem.Str.ofString "plain", cP), (PySem.Str.ofString "shorts", cS)] outer) (exec st (envX (PySem.Str.ofString "law") cs L a ccd [(PySem.Str.ofString "rows", cR), (PySem.Str.ofString "plain", cP), (PySem.Str.ofString "shorts", cS)])) Q E s := by
  k_fill
  (conv at hcs => rhs; whnf)
  (conv at hst => rhs; whnf)
  subst hcs
  subst hst
  intro p loose mean mg mb dp un gd a ccd cR cP cS outer A₀ base h₀ L m news s Q E B F X N T hd hu sz t1 ts b1 ks hsz hb hl1 hl2 hm1 hm2 hret
  have K0 : Kept [PySem.Str.ofString "inner"] m (fun y => if y = PySem.Str.ofString "short" then some (.bytes b1 t1) else if y = PySem.Str.ofString "size" then some (.int sz ts) else if y = PySem.Str.ofString "size" then some (.int sz ts) else m y) := by
    rw [form3_eq hm1 hm2 hm2]
    exact fun _ _ => rfl
  replace F := fr_form3 F hm1 hm2 hm2
  k_steps
  all_goals first
    | (exfalso; omega)
    | exact hret _ _ _ _ _ (by assumption) (by assumption) (by rfl) (kept_set K0 (by decide +kernel)) (by assumption)
    | exact hret _ _ _ _ _ (by assumption) (by assumption) (by rfl) (kept_set K0 (by decide +kernel)) ((by assumption : KBw.bInts _ = List.reverse _).trans (by rw [drop_one hl1]))
end Mine
end

section
open PySem PySem.W PyProof.Rows PySem.Calls
set_option maxRecDepth 100000
set_option maxHeartbeats 8000000
namespace Mine
local macro_rules | `(tactic| k_room) => `(tactic| ktr_room)
theorem rlp_one {l : List Int} (h : (l.length : Int) = 1) (h2 : l.getD (Int.toNat 0) 0 < 128) : rlpOf l = l := if_pos ⟨by omega, h2⟩
theorem rlp_more {l : List Int} (h : ¬ ((l.length : Int) = 1) ∨ ¬ (l.getD (Int.toNat 0) 0 < 128)) : rlpOf l = (128 + (l.length : Int)) :: l := if_neg fun ⟨a, b⟩ => h.elim (fun n => n (by omega)) fun n => n b
theorem rlp_app {n : Int} {l : List Int} (h : ((n.toNat.toUInt8.toNat : Nat) : Int) = n) : List.map (fun c : UInt8 => (c.toNat : Int)) [n.toNat.toUInt8] ++ l = n :: l := by
  show ((n.toNat.toUInt8.toNat : Nat) : Int) :: l = _
  rw [h]
theorem b5 (w : World) (cs : Scope) (hcs : cs = lawScope w) (st : Stmt) (hst : st = (forBody (lawSt w 3)).getD 5 (.Pass default))  :
  ∀ (p : Program) (loose : List PySem.Str) (mean : ExcName → Option Value) (mg mb : PySem.Str → Option Value) (dp un : Nat) (gd : Option (List Code)) (a : Addr) (ccd : Value) (cR cP cS : Addr) (outer : List Env) (A₀ : Around)
    (base h₀ : Heap) (L : Addr) (m : PySem.Str → Option Value) (news : List (Addr × Obj)) (s : Shared) (Q : Flow → Shared → Prop) (E : Value → Shared → Prop),
    Below A₀ base outer h₀ → Fr h₀ L s.heap m → (Mine.kk.heap_1 w.params).In h₀ → News h₀ L s.heap news → Top p loose mean mg mb h₀ → dp + 12 < recursionLimit → un + 200 < cLine →
    ∀ (d : Int) (tv t1 t2 : Tok) (c b2 : Array UInt8) (l : List Int), 0 ≤ d → d < 18446744073709551616 → be d = l → l.length ≤ 8 → KBw.bInts c = l → KBw.bInts b2 = rlpOf l → m (PySem.Str.ofString "value") = some (.int d tv) → m (PySem.Str.ofString "inner") = some (.bytes c t1) → m (PySem.Str.ofString "row") = some (.bytes b2 t2) →
    (∀ (h' : Heap) (tk' : Nat), Fr h₀ L h' m → News h₀ L h' news → Q .next { s with heap := h', toks := tk' }) →
    wpAny (model PySem.Challenge.rw_vn0014_01.prog w) (ktrTop dp un gd (PySem.Str.ofString "law") cs L a ccd [(PySem.Str.ofString "rows", cR), (PySem.Str.ofString "plain", cP), (PySem.Str.ofString "shorts", cS)] outer) (exec st (envX (PySem.Str.ofString "law") cs L a ccd [(PySem.Str.ofString "rows", cR), (PySem.Str.ofString "plain", cP), (PySem.Str.ofString "shorts", cS)])) Q E s := by
  k_fill
  (conv at hcs => rhs; whnf)
  (conv at hst => rhs; whnf)
  subst hcs
  subst hst
  intro p loose mean mg mb dp un gd a ccd cR cP cS outer A₀ base h₀ L m news s Q E B F X N T hd hu d tv t1 t2 c b2 l h0 h1 he hl hc hb hm1 hm2 hm3 hret
  replace F := fr_form3 F hm1 hm2 hm3
  k_steps
  all_goals first
    | exact hret _ _ (by rw [← form3_eq hm1 hm2 hm3]; assumption) (by assumption)
    | exact hret _ _ (by rw [← form3_eq hm1 hm2 hm3]; assumption) (news_t1 (by assumption))
    | exact hret _ _ (by rw [← form3_eq hm1 hm2 hm3]; assumption) (news_t1 (news_t1 (by assumption)))
    | (exfalso; exact tl_bne (by assumption) (((by assumption : KBw.bInts _ = be d).trans he).trans hc.symm))
    | (exfalso; exact tl_bne (by assumption) ((hb.trans (rlp_one (by assumption) (by assumption))).trans hc.symm))
    | (exfalso; exact tl_bne (by assumption) ((hb.trans (rlp_more (.inl (by assumption)))).trans ((by assumption : KBw.bInts (_ ++ _) = _).trans (rlp_app (by assumption))).symm))
    | (exfalso; exact tl_bne (by assumption) ((hb.trans (rlp_more (.inr (by assumption)))).trans ((by assumption : KBw.bInts (_ ++ _) = _).trans (rlp_app (by assumption))).symm))
end Mine
end

section
open PySem PySem.W PyProof.Rows PySem.Calls
set_option maxRecDepth 100000
set_option maxHeartbeats 8000000
namespace Mine
local macro_rules | `(tactic| k_room) => `(tactic| ktr_room)
theorem b6 (w : World) (cs : Scope) (hcs : cs = lawScope w) (st : Stmt) (hst : st = (forBody (lawSt w 3)).getD 6 (.Pass default))  :
  ∀ (p : Program) (loose : List PySem.Str) (mean : ExcName → Option Value) (mg mb : PySem.Str → Option Value) (dp un : Nat) (gd : Option (List Code)) (a : Addr) (ccd : Value) (cR cP cS : Addr) (outer : List Env) (A₀ : Around)
    (base h₀ : Heap) (L : Addr) (m : PySem.Str → Option Value) (news : List (Addr × Obj)) (s : Shared) (Q : Flow → Shared → Prop) (E : Value → Shared → Prop),
    Below A₀ base outer h₀ → Fr h₀ L s.heap m → (Mine.kk.heap_1 w.params).In h₀ → News h₀ L s.heap news → Top p loose mean mg mb h₀ → dp + 12 < recursionLimit → un + 200 < cLine →
    ∀ (d : Int) (tv t1 t2 : Tok) (b1 b2 : Array UInt8) (l1 l2 : List Int), KBw.bInts b1 = l1 → KBw.bInts b2 = l2 → l1.length ≤ 1000 → l2.length ≤ 1000 → (127 < d → d < 253 → l2.length = l1.length + 1) → (d ≤ 127 → l2.length ≤ l1.length) → (253 ≤ d → l2.length ≤ l1.length) → m (PySem.Str.ofString "value") = some (.int d tv) → m (PySem.Str.ofString "short") = some (.bytes b1 t1) → m (PySem.Str.ofString "row") = some (.bytes b2 t2) →
    (∀ (h' : Heap) (tk' : Nat), Fr h₀ L h' m → News h₀ L h' news → Q .next { s with heap := h', toks := tk' }) →
    wpAny (model PySem.Challenge.rw_vn0014_01.prog w) (ktrTop dp un gd (PySem.Str.ofString "law") cs L a ccd [(PySem.Str.ofString "rows", cR), (PySem.Str.ofString "plain", cP), (PySem.Str.ofString "shorts", cS)] outer) (exec st (envX (PySem.Str.ofString "law") cs L a ccd [(PySem.Str.ofString "rows", cR), (PySem.Str.ofString "plain", cP), (PySem.Str.ofString "shorts", cS)])) Q E s := by
  k_fill
  (conv at hcs => rhs; whnf)
  (conv at hst => rhs; whnf)
  subst hcs
  subst hst
  intro p loose mean mg mb dp un gd a ccd cR cP cS outer A₀ base h₀ L m news s Q E B F X N T hd hu d tv t1 t2 b1 b2 l1 l2 hb1 hb2 hz1 hz2 c1 c2 c3 hm1 hm2 hm3 hret
  replace F := fr_form3 F hm1 hm2 hm3
  k_steps
  all_goals first
    | exact hret _ _ (by rw [← form3_eq hm1 hm2 hm3]; assumption) (by assumption)
    | (exfalso; omega)
    | (have h := (by assumption : (decide _ != decide _) = true); simp only [bne_iff_ne, ne_eq, decide_eq_decide] at h; exfalso; omega)
end Mine
end

section
open PySem PySem.W PyProof.Rows PySem.Calls
set_option maxRecDepth 100000
set_option maxHeartbeats 8000000
namespace Mine
theorem body_split (w : World) : forBody (lawSt w 3) = [(forBody (lawSt w 3)).getD 0 (.Pass default), (forBody (lawSt w 3)).getD 1 (.Pass default), (forBody (lawSt w 3)).getD 2 (.Pass default), (forBody (lawSt w 3)).getD 3 (.Pass default), (forBody (lawSt w 3)).getD 4 (.Pass default), (forBody (lawSt w 3)).getD 5 (.Pass default), (forBody (lawSt w 3)).getD 6 (.Pass default)] := by rfl
theorem kept_trans {l l' : List PySem.Str} {m m' m'' : PySem.Str → Option Value} (h : Kept l m m') (h' : Kept l' m' m'') (s : ∀ x, (l ++ l').contains x = false → l.contains x = false ∧ l'.contains x = false := by intro x; simp only [List.contains_eq_mem, List.mem_append, not_or, decide_eq_false_iff_not]; exact id) : Kept (l ++ l') m m'' := fun z hz => (h' z (s z hz).2).trans (h z (s z hz).1)
theorem turn3 (w : World) (cs : Scope) (hcs : cs = lawScope w) :
  ∀ (p : Program) (loose : List PySem.Str) (mean : ExcName → Option Value) (mg mb : PySem.Str → Option Value) (dp un : Nat) (gd : Option (List Code)) (a : Addr) (ccd : Value) (cR cP cS : Addr) (outer : List Env) (A₀ : Around)
    (base h₀ : Heap) (L : Addr) (m : PySem.Str → Option Value) (news : List (Addr × Obj)) (s : Shared) (Q : Flow → Shared → Prop) (E : Value → Shared → Prop),
    Below A₀ base outer h₀ → Fr h₀ L s.heap m → (Mine.kk.heap_1 w.params).In h₀ → News h₀ L s.heap news → Top p loose mean mg mb h₀ → dp + 12 < recursionLimit → un + 200 < cLine →
    ∀ (d : Int) (tv t1 t2 : Tok) (b1 b2 : Array UInt8), 0 ≤ d → d < 18446744073709551616 → KBw.bInts b1 = compact d → KBw.bInts b2 = rlpOf (be d) → m (PySem.Str.ofString "value") = some (.int d tv) → m (PySem.Str.ofString "short") = some (.bytes b1 t1) → m (PySem.Str.ofString "row") = some (.bytes b2 t2) →
    (∀ (h' : Heap) (tk' : Nat) (m' : PySem.Str → Option Value), Fr h₀ L h' m' → News h₀ L h' news → Kept [(PySem.Str.ofString "size"), (PySem.Str.ofString "inner")] m m' → Q .next { s with heap := h', toks := tk' }) →
    wpT (model PySem.Challenge.rw_vn0014_01.prog w) (ktrTop dp un gd (PySem.Str.ofString "law") cs L a ccd [(PySem.Str.ofString "rows", cR), (PySem.Str.ofString "plain", cP), (PySem.Str.ofString "shorts", cS)] outer) (execs (forBody (lawSt w 3)) (envX (PySem.Str.ofString "law") cs L a ccd [(PySem.Str.ofString "rows", cR), (PySem.Str.ofString "plain", cP), (PySem.Str.ofString "shorts", cS)])) Q E s := by
  intro p loose mean mg mb dp un gd a ccd cR cP cS outer A₀ base h₀ L m news s Q E B F X N T hd hu d tv t1 t2 b1 b2 h0 h1 hb1 hb2 hm1 hm2 hm3 hret
  rw [body_split]
  with_reducible refine wpT_execs (b0 w cs hcs _ rfl p loose mean mg mb dp un gd a ccd cR cP cS outer A₀ base h₀ L _ _ _ _ _ B F X N T hd hu d tv t1 t2 b1 b2 h0 h1 hb1 hb2 hm1 hm2 hm3 fun g1 tk1 F1 N1 => ?_)
  with_reducible refine wpT_execs (wpT.of (Mine.b1 w cs hcs _ rfl p loose mean mg mb dp un gd a ccd cR cP cS outer A₀ base h₀ L _ _ _ _ _ B F1 X N1 T hd hu d tv hm1 fun ts h2 tk2 m2 F2 N2 hs2 K2 => ?_))
  have v2 : m2 (PySem.Str.ofString "value") = some (.int d tv) := (K2 _ (by decide +kernel)).trans hm1
  have s2 : m2 (PySem.Str.ofString "short") = some (.bytes b1 t1) := (K2 _ (by decide +kernel)).trans hm2
  have r2 : m2 (PySem.Str.ofString "row") = some (.bytes b2 t2) := (K2 _ (by decide +kernel)).trans hm3
  have go : ∀ (h3 : Heap) (tk3 : Nat), Fr h₀ L h3 m2 → News h₀ L h3 news → wpT (model PySem.Challenge.rw_vn0014_01.prog w) (ktrTop dp un gd (PySem.Str.ofString "law") cs L a ccd [(PySem.Str.ofString "rows", cR), (PySem.Str.ofString "plain", cP), (PySem.Str.ofString "shorts", cS)] outer) (execs [(forBody (lawSt w 3)).getD 3 (.Pass default), (forBody (lawSt w 3)).getD 4 (.Pass default), (forBody (lawSt w 3)).getD 5 (.Pass default), (forBody (lawSt w 3)).getD 6 (.Pass default)] (envX (PySem.Str.ofString "law") cs L a ccd [(PySem.Str.ofString "rows", cR), (PySem.Str.ofString "plain", cP), (PySem.Str.ofString "shorts", cS)])) Q E { s with heap := h3, toks := tk3 } := by
    intro h3 tk3 F3 N3
    have fin : ∀ (c : Array UInt8) (t' : Tok) (h4 : Heap) (tk4 : Nat) (m4 : PySem.Str → Option Value) (ks : List Int), Fr h₀ L h4 m4 → News h₀ L h4 news → m4 (PySem.Str.ofString "inner") = some (.bytes c t') → Kept [(PySem.Str.ofString "inner")] m2 m4 → KBw.bInts c = ks → ks.length ≤ 1000 → stripZ ks = be d →
        wpT (model PySem.Challenge.rw_vn0014_01.prog w) (ktrTop dp un gd (PySem.Str.ofString "law") cs L a ccd [(PySem.Str.ofString "rows", cR), (PySem.Str.ofString "plain", cP), (PySem.Str.ofString "shorts", cS)] outer) (execs [(forBody (lawSt w 3)).getD 4 (.Pass default), (forBody (lawSt w 3)).getD 5 (.Pass default), (forBody (lawSt w 3)).getD 6 (.Pass default)] (envX (PySem.Str.ofString "law") cs L a ccd [(PySem.Str.ofString "rows", cR), (PySem.Str.ofString "plain", cP), (PySem.Str.ofString "shorts", cS)])) Q E { s with heap := h4, toks := tk4 } := by
      intro c t' h4 tk4 m4 ks F4 N4 i4 K4 hc4 hz4 hst
      with_reducible refine wpT_execs (wpT.of (whl w cs hcs _ rfl p loose mean mg mb dp un gd a ccd cR cP cS outer A₀ base h₀ L _ _ _ _ _ B F4 X N4 T hd hu c t' ks i4 hc4 hz4 fun c5 t5 h5 tk5 m5 F5 N5 i5 K5 hc5 => ?_))
      have K25 := kept_trans K4 K5
      have v5 : m5 (PySem.Str.ofString "value") = some (.int d tv) := (K25 _ (by decide +kernel)).trans v2
      have s5 : m5 (PySem.Str.ofString "short") = some (.bytes b1 t1) := (K25 _ (by decide +kernel)).trans s2
      have r5 : m5 (PySem.Str.ofString "row") = some (.bytes b2 t2) := (K25 _ (by decide +kernel)).trans r2
      with_reducible refine wpT_execs (wpT.of (b5 w cs hcs _ rfl p loose mean mg mb dp un gd a ccd cR cP cS outer A₀ base h₀ L _ _ _ _ _ B F5 X N5 T hd hu d tv t5 t2 c5 b2 _ h0 h1 rfl (be_len8 h0 h1) (hc5.trans hst) hb2 v5 i5 r5 fun h6 tk6 F6 N6 => ?_))
      with_reducible refine wpT_execs (wpT.of (b6 w cs hcs _ rfl p loose mean mg mb dp un gd a ccd cR cP cS outer A₀ base h₀ L _ _ _ _ _ B F6 X N6 T hd hu d tv t1 t2 b1 b2 _ _ hb1 hb2 (Nat.le_trans compact_len.2 (by decide)) (Nat.le_trans rlp_len (by have := be_len8 h0 h1; omega)) (fun a b => len_c1 a b) (fun a => len_c2 h0 a) (fun a => len_c3 a h1) v5 s5 r5 fun h7 tk7 F7 N7 => ?_))
      refine wpT.of (wpAny_execs_nil (hret h7 tk7 m5 F7 N7 fun z hz => ?_))
      have hz1 : [(PySem.Str.ofString "size")].contains z = false := by revert hz; simp only [List.contains_eq_mem, List.mem_cons, List.not_mem_nil, or_false, not_or, decide_eq_false_iff_not]; exact fun h => h.1
      have hz2 : ([(PySem.Str.ofString "inner")] ++ [(PySem.Str.ofString "inner")]).contains z = false := by revert hz; simp only [List.contains_eq_mem, List.mem_cons, List.mem_append, List.not_mem_nil, or_false, not_or, decide_eq_false_iff_not]; exact fun h => ⟨h.2, h.2⟩
      exact (K25 z hz2).trans (K2 z hz1)
    by_cases hd1 : d < 253
    · with_reducible refine wpT_execs (wpT.of (b3z w cs hcs _ rfl p loose mean mg mb dp un gd a ccd cR cP cS outer A₀ base h₀ L _ _ _ _ _ B F3 X N3 T hd hu (szOf d) t1 ts b1 [d] (sz0 hd1) (by k_dflt (exact hb1.trans (if_pos hd1))) (Nat.le_refl _) (by simp) s2 hs2 fun c t' h4 tk4 m4 F4 N4 i4 K4 hc4 => ?_))
      exact fin c t' h4 tk4 m4 _ F4 N4 i4 K4 hc4 (by simp) (strip_small h0 hd1)
    · with_reducible refine wpT_execs (wpT.of (b3n w cs hcs _ rfl p loose mean mg mb dp un gd a ccd cR cP cS outer A₀ base h₀ L _ _ _ _ _ B F3 X N3 T hd hu (szOf d) t1 ts b1 (compact d) (sz_ne hd1) hb1 compact_len.1 (Nat.le_trans compact_len.2 (by decide)) s2 hs2 fun c t' h4 tk4 m4 F4 N4 i4 K4 hc4 => ?_))
      refine fin c t' h4 tk4 m4 _ F4 N4 i4 K4 hc4 (by rw [List.length_reverse, List.length_drop]; have := compact_len (i := d); omega) ?_
      unfold compact
      rw [if_neg hd1]
      split
      · rename_i h; exact strip_little (n := 2) h0 (by simpa using h)
      · split
        · rename_i h; exact strip_little (n := 4) h0 (by simpa using h)
        · exact strip_little (n := 8) h0 (by simpa using h1)
  by_cases hd1 : d < 253
  · with_reducible refine wpT_execs (wpT.of (b2a w cs hcs _ rfl p loose mean mg mb dp un gd a ccd cR cP cS outer A₀ base h₀ L _ _ _ _ _ B F2 X N2 T hd hu d tv t1 ts b1 h0 hd1 (by k_dflt (exact hb1.trans (if_pos hd1))) v2 s2 (by rw [hs2, sz0 hd1]) fun h3 tk3 F3 N3 => go h3 tk3 F3 N3))
  · by_cases hd2 : d < 65536
    · with_reducible refine wpT_execs (wpT.of (b2b w cs hcs _ rfl p loose mean mg mb dp un gd a ccd cR cP cS outer A₀ base h₀ L _ _ _ _ _ B F2 X N2 T hd hu d tv t1 ts b1 (by omega) hd2 (by k_dflt (exact hb1.trans ((if_neg hd1).trans (if_pos hd2)))) v2 s2 (by rw [hs2, sz2 hd1 hd2]) fun h3 tk3 F3 N3 => go h3 tk3 F3 N3))
    · by_cases hd3 : d < 4294967296
      · with_reducible refine wpT_execs (wpT.of (b2c w cs hcs _ rfl p loose mean mg mb dp un gd a ccd cR cP cS outer A₀ base h₀ L _ _ _ _ _ B F2 X N2 T hd hu d tv t1 ts b1 (by omega) hd3 (by k_dflt (exact hb1.trans ((if_neg hd1).trans ((if_neg hd2).trans (if_pos hd3))))) v2 s2 (by rw [hs2, sz4 hd1 hd2 hd3]) fun h3 tk3 F3 N3 => go h3 tk3 F3 N3))
      · with_reducible refine wpT_execs (wpT.of (b2e w cs hcs _ rfl p loose mean mg mb dp un gd a ccd cR cP cS outer A₀ base h₀ L _ _ _ _ _ B F2 X N2 T hd hu d tv t1 ts b1 (by omega) h1 (by k_dflt (exact hb1.trans ((if_neg hd1).trans ((if_neg hd2).trans (if_neg hd3))))) v2 s2 (by rw [hs2, sz8 hd1 hd2 hd3]) fun h3 tk3 F3 N3 => go h3 tk3 F3 N3))
end Mine
end

section
open PySem PySem.W PyProof.Rows PySem.Calls
set_option maxRecDepth 100000
set_option maxHeartbeats 8000000
namespace Mine
local macro_rules | `(tactic| k_room) => `(tactic| ktr_room)
theorem tup_gog {prog : Program} {w : World} {A : Around} {tgt : Expr} {I T : Addr} {k : Nat} {v : Value} {s : Shared} {Q : Unit → Shared → Prop} (hn : ∃ x p, tgt = .Name x p) (_h : s.heap.IsTupleIter I T k) (hq : Q () s) : wpAny (model prog w) A (letOwnedTupleGo tgt (.ref I) v) Q NoE s := by
  obtain ⟨x, p, rfl⟩ := hn
  exact wpAny_pure hq
theorem st4g (w : World) (cs : Scope) (hcs : cs = lawScope w) :
  ∀ (p : Program) (loose : List PySem.Str) (mean : ExcName → Option Value) (mg mb : PySem.Str → Option Value) (dp un : Nat) (gd : Option (List Code)) (a : Addr) (ccd : Value) (cR cP cS : Addr) (outer : List Env) (A₀ : Around)
    (base h₀ : Heap) (L : Addr) (m : PySem.Str → Option Value) (Dg : Addr) (oG : Obj) (D D1 D2 : Addr) (ys ys1 ys2 : List Value) (ds : List Int) (oR oP oS : Obj) (s : Shared) (Q : Flow → Shared → Prop) (E : Value → Shared → Prop),
    Below A₀ base outer h₀ → Fr h₀ L s.heap m → (Mine.kk.heap_1 w.params).In h₀ → News h₀ L s.heap ((D2, LCg.lst ys2) :: (D1, LCg.lst ys1) :: (D, LCg.lst ys) :: (cR, oR) :: (cP, oP) :: (cS, oS) :: [(Dg, oG)]) → Top p loose mean mg mb h₀ → dp + 12 < recursionLimit → un + 200 < cLine →
    @Ne Nat cS cP → @Ne Nat cP cR → @Ne Nat cS cR → @Ne Nat D cS → @Ne Nat D cP → @Ne Nat D cR → (@Ne Nat Dg cS ∧ @Ne Nat Dg cP ∧ @Ne Nat Dg cR) → (@Ne Nat D1 cS ∧ @Ne Nat D1 cP ∧ @Ne Nat D1 cR) → (@Ne Nat D2 cS ∧ @Ne Nat D2 cP ∧ @Ne Nat D2 cR) → oS.data = .cell (some (.ref D1)) → oP.data = .cell (some (.ref D2)) → (∃ u, oR.data = .cell u) → ys1.length ≤ 8 → ys2.length ≤ 8 → PF ys1 → PF ys2 →
    (∀ (oR' : Obj) (h' : Heap) (tk' : Nat), Fr h₀ L h' m → News h₀ L h' ((D2, LCg.lst ys2) :: (D1, LCg.lst ys1) :: (D, LCg.lst ys) :: (cR, oR') :: (cP, oP) :: (cS, oS) :: [(Dg, oG)]) → Q .next { s with heap := h', toks := tk' }) →
    wpT (model PySem.Challenge.rw_vn0014_01.prog w) (ktrTop dp un gd (PySem.Str.ofString "law") cs L a ccd [(PySem.Str.ofString "rows", cR), (PySem.Str.ofString "plain", cP), (PySem.Str.ofString "shorts", cS)] outer) (exec (lawSt w 4) (envX (PySem.Str.ofString "law") cs L a ccd [(PySem.Str.ofString "rows", cR), (PySem.Str.ofString "plain", cP), (PySem.Str.ofString "shorts", cS)])) Q E s := by
  k_fill
  intro p loose mean mg mb dp un gd a ccd cR cP cS outer A₀ base h₀ L m Dg oG D D1 D2 ys ys1 ys2 ds oR oP oS s Q E B F X N T hd hu l1 l2 l3 l4 l5 l6 l7 l8 l9 hS hP hR hl1 hl2 pf1 pf2 hret
  have e : lawSt w 4 = .For (forTgt (lawSt w 4)) (forIter (lawSt w 4)) (forBody (lawSt w 4)) [] (forPos (lawSt w 4)) := by rfl
  have eb : forBody (lawSt w 4) = [(forBody (lawSt w 4)).getD 0 (.Pass default)] := by rfl
  rw [e, eb]
  clear e eb
  have bd := fun (ax : Addr) (vs : List Value) (oR : Obj) (news : List (Addr × Obj)) (s : Shared) (Q : Flow → Shared → Prop) (E : Value → Shared → Prop) F N => body4 w cs hcs _ rfl p loose mean mg mb dp un gd a ccd cR cP cS outer A₀ base h₀ L m news ax vs oR s Q E B F X N T hd hu
  generalize hT : forTgt (lawSt w 4) = tgt
  generalize hG : forIter (lawSt w 4) = itr
  generalize hP' : forPos (lawSt w 4) = ps
  generalize hB : (forBody (lawSt w 4)).getD 0 (.Pass default) = body at bd ⊢
  (conv at hT => lhs; whnf)
  (conv at hG => lhs; whnf)
  subst hT
  subst hG
  clear hP' hB
  revert bd
  (conv at hcs => rhs; whnf)
  subst hcs
  intro bd
  refine wpT_For ?_
  k_steps
  rename_i T0 h1 F1 N1 lT

  have hTT : h1.IsTuple T0 #[.ref D1, .ref D2] := ⟨_, (N1 _ (.head _)).1, rfl, _, rfl⟩
  refine wpAny_pyIter_tuple hTT ?_
  have ltI : ∀ (p : Addr × Obj), p ∈ (T0, ({ cls := .type "tuple", data := .seq #[.ref D1, .ref D2] } : Obj)) :: ((D2, LCg.lst ys2) :: (D1, LCg.lst ys1) :: (D, LCg.lst ys) :: (cR, oR) :: (cP, oP) :: (cS, oS) :: [(Dg, oG)]) → @LT.lt Nat _ p.1 h1.objs.size := fun p hp => Heap.lt_size (N1 p hp).1
  refine seq_loop (I := h1.objs.size) (ax := T0) (oax := ({ cls := .type "tuple", data := .seq #[.ref D1, .ref D2] } : Obj)) (n := 2) (fun i m' nw => m' = m ∧ ∃ oR', (∃ u, oR'.data = .cell u) ∧ nw = (T0, ({ cls := .type "tuple", data := .seq #[.ref D1, .ref D2] } : Obj)) :: ((D2, LCg.lst ys2) :: (D1, LCg.lst ys1) :: (D, LCg.lst ys) :: (cR, oR') :: (cP, oP) :: (cS, oS) :: [(Dg, oG)]))
    (Walks.tuple rfl _ T0 (Nat.ne_of_lt (ltI _ (.head _))) #[.ref D1, .ref D2]) (fun i h st => by obtain ⟨o, q, _⟩ := st.1; exact ⟨o, q⟩) (fun i s' v Q' st hq => tup_gog ⟨_, _, rfl⟩ st.1 hq) (fun i m' nw hj => by obtain ⟨_, o, _, rfl⟩ := hj; exact .head _)
    (Nat.ne_of_gt F1.ns.lt) (next_is_new F1) (F1.push _) (N1.grown fun _ _ e => Heap.get?_push_of_some _ e) ⟨⟨_, Heap.get?_push_size _ rfl, rfl, rfl⟩, hTT.push _⟩ (fun p hp => Nat.ne_of_lt (ltI p hp)) ⟨rfl, oR, hR, rfl⟩ ?turn ?done
  case done =>
    rintro h tk m' nw F' N' ⟨rfl, oR', _, rfl⟩
    exact hret oR' h tk F' (news_t1 N')
  case turn =>
    rintro i v m' nw h tk oI hi hP0 ⟨rfl, oR1, ⟨u, hR1⟩, rfl⟩ off F2 N2
    have lI := allLt_of ltI
    simp only [AllLt, and_true] at lI
    have off2 : ∀ (o : Obj), ∀ p ∈ (T0, ({ cls := .type "tuple", data := .seq #[.ref D1, .ref D2] } : Obj)) :: ((D2, LCg.lst ys2) :: (D1, LCg.lst ys1) :: (D, LCg.lst ys) :: (cR, o) :: (cP, oP) :: (cS, oS) :: [(Dg, oG)]), p.1 ≠ h1.objs.size := fun o p hp => by
      have : ∃ q ∈ (T0, ({ cls := .type "tuple", data := .seq #[.ref D1, .ref D2] } : Obj)) :: ((D2, LCg.lst ys2) :: (D1, LCg.lst ys1) :: (D, LCg.lst ys) :: (cR, oR) :: (cP, oP) :: (cS, oS) :: [(Dg, oG)]), q.1 = p.1 := by
        simp only [List.mem_cons, List.not_mem_nil, or_false] at hp ⊢
        rcases hp with rfl | rfl | rfl | rfl | rfl | rfl | rfl | h
        all_goals first
          | exact ⟨p, by simp [h], rfl⟩
          | exact ⟨_, .inl rfl, rfl⟩
          | exact ⟨_, .inr (.inl rfl), rfl⟩
          | exact ⟨_, .inr (.inr (.inl rfl)), rfl⟩
          | exact ⟨_, .inr (.inr (.inr (.inl rfl))), rfl⟩
          | exact ⟨_, .inr (.inr (.inr (.inr (.inl rfl)))), rfl⟩
          | exact ⟨_, .inr (.inr (.inr (.inr (.inr (.inl rfl))))), rfl⟩
          | exact ⟨_, .inr (.inr (.inr (.inr (.inr (.inr (.inl rfl)))))), rfl⟩
      obtain ⟨q, hq, e⟩ := this
      exact e ▸ Nat.ne_of_lt (ltI q hq)
    clear ltI hTT F1 N1
    generalize h1.objs.size = I at *
    have N3 : News h₀ L h ((I, oI) :: (T0, ({ cls := .type "tuple", data := .seq #[.ref D1, .ref D2] } : Obj)) :: ((D2, LCg.lst ys2) :: (D1, LCg.lst ys1) :: (D, LCg.lst ys) :: (cR, oR1) :: (cP, oP) :: (cS, oS) :: [(Dg, oG)])) := fun p hp => N2 p (by simp only [List.mem_cons, List.mem_append, List.not_mem_nil, or_false] at hp ⊢; rcases hp with h | h | h | h | h | h | h | h | h <;> simp [h])
    clear N2
    have split : (i = 0 ∧ v = .ref D1) ∨ (i = 1 ∧ v = .ref D2) := by
      have : i = 0 ∨ i = 1 := by omega
      rcases this with rfl | rfl
      · exact .inl ⟨rfl, by simpa using hP0.symm⟩
      · exact .inr ⟨rfl, by simpa using hP0.symm⟩
    clear hP0
    rcases split with ⟨rfl, rfl⟩ | ⟨rfl, rfl⟩
    · k_steps
      rename_i h4 o4 F4 N4 d4
      refine wpT_execs (wpT.of (bd D1 ys1 o4 ((I, oI) :: (T0, ({ cls := .type "tuple", data := .seq #[.ref D1, .ref D2] } : Obj)) :: (D2, LCg.lst ys2) :: (D, LCg.lst ys) :: (cP, oP) :: (cS, oS) :: [(Dg, oG)]) _ _ _ F4 (fun p hp => N4 p (by simp only [List.mem_cons, List.not_mem_nil, or_false] at hp ⊢; rcases hp with h | h | h | h | h | h | h | h | h <;> simp [h])) d4 pf1 hl1 fun h5 tk5 F5 N5 => ?_))
      exact wpT.of (wpAny_execs_nil ⟨h5, tk5, m', _, rfl, F5, fun p hp => N5 p (by simp only [List.mem_cons, List.mem_append, List.not_mem_nil, or_false] at hp ⊢; rcases hp with (h | h | h | h | h | h | h | h) | h <;> simp [h]), fun p hp => off2 o4 p hp, rfl, o4, ⟨_, d4⟩, rfl⟩)
    · k_steps
      rename_i h4 o4 F4 N4 d4
      refine wpT_execs (wpT.of (bd D2 ys2 o4 ((I, oI) :: (T0, ({ cls := .type "tuple", data := .seq #[.ref D1, .ref D2] } : Obj)) :: (D1, LCg.lst ys1) :: (D, LCg.lst ys) :: (cP, oP) :: (cS, oS) :: [(Dg, oG)]) _ _ _ F4 (fun p hp => N4 p (by simp only [List.mem_cons, List.not_mem_nil, or_false] at hp ⊢; rcases hp with h | h | h | h | h | h | h | h | h <;> simp [h])) d4 pf2 hl2 fun h5 tk5 F5 N5 => ?_))
      exact wpT.of (wpAny_execs_nil ⟨h5, tk5, m', _, rfl, F5, fun p hp => N5 p (by simp only [List.mem_cons, List.mem_append, List.not_mem_nil, or_false] at hp ⊢; rcases hp with (h | h | h | h | h | h | h | h) | h <;> simp [h]), fun p hp => off2 o4 p hp, rfl, o4, ⟨_, d4⟩, rfl⟩)
end Mine
end

section
open PySem PySem.W PyProof.Rows PySem.Calls
set_option maxRecDepth 100000
set_option maxHeartbeats 8000000
namespace Mine
local macro_rules | `(tactic| ktr_enter) => `(tactic| (k_dflt (refine' code_pure ?k1 ?k2 ?k3 ?k5 ?kA ?kF ?kK ?k6 ?k7 ?k8 ?k9 ?kB ?_ ?c2 ?c3 ?c4 ?c5; (case kA => exact rfl); (case kF => exact rfl); (case kK => first | assumption | exact rfl); (case k1 => k_asm); (case k2 => k_asm); (case k3 => k_asm); (case k5 => k_asm); (case k6 => k_is); (case k7 => k_is); (case k8 => ktr_room); (case k9 => first | exact BindsTo.of_eq rfl | exact binds_K (by k_in) rfl (by k_is) rfl rfl rfl); (case c5 => decide); (case kB => exact locs rfl); (case c2 => exact rfl); (case c3 => exact rfl); (case c4 => exact rfl); k_whole; intro g' L' h' hg' FG' F' N' B' X' T'; (try dsimp only); (try k_lift B'); (try k_fold))))
local macro_rules | `(tactic| k_room) => `(tactic| ktr_room)
theorem lg0 (w : World) (k : Int) (t : Tok) (h0 : 0 ≤ k) (h1 : k < 253) : Pure w 2 16 1069 [.int k t] (fun _ _ r => ∃ t', r = .int 1 t') := by
  unfold Pure
  k_fill
  intro p loose mean mg mb dp un gd cn cs a ccd cl outer A₀ base h₀ L m s Q E B F X T hk hd hu hret
  ktr_enter
  k_steps
  all_goals first
    | exact hret _ _ _ (pure_keep (by assumption) (by k_asm)) ⟨_, rfl⟩
    | (exfalso; omega)
theorem lg1 (w : World) (t : Tok) : Pure w 2 16 1069 [.int 253 t] (fun _ _ r => ∃ t', r = .int 3 t') := by
  unfold Pure
  k_fill
  intro p loose mean mg mb dp un gd cn cs a ccd cl outer A₀ base h₀ L m s Q E B F X T hk hd hu hret
  ktr_enter
  k_steps
  all_goals first
    | exact hret _ _ _ (pure_keep (by assumption) (by k_asm)) ⟨_, rfl⟩
theorem lg2 (w : World) (t : Tok) : Pure w 2 16 1069 [.int 254 t] (fun _ _ r => ∃ t', r = .int 5 t') := by
  unfold Pure
  k_fill
  intro p loose mean mg mb dp un gd cn cs a ccd cl outer A₀ base h₀ L m s Q E B F X T hk hd hu hret
  ktr_enter
  k_steps
  all_goals first
    | exact hret _ _ _ (pure_keep (by assumption) (by k_asm)) ⟨_, rfl⟩
theorem lg3 (w : World) (t : Tok) : Pure w 2 16 1069 [.int 255 t] (fun _ _ r => ∃ t', r = .int 9 t') := by
  unfold Pure
  k_fill
  intro p loose mean mg mb dp un gd cn cs a ccd cl outer A₀ base h₀ L m s Q E B F X T hk hd hu hret
  ktr_enter
  k_steps
  all_goals first
    | exact hret _ _ _ (pure_keep (by assumption) (by k_asm)) ⟨_, rfl⟩
end Mine
end

section
open PySem PySem.W PyProof.Rows PySem.Calls
set_option maxRecDepth 100000
set_option maxHeartbeats 8000000
namespace Mine
local macro_rules | `(tactic| k_room) => `(tactic| ktr_room)
local macro_rules | `(tactic| wtm_at "x call ref") => `(tactic| (k_here; (with_reducible show wpAny _ _ (call (Value.ref 1069) [Value.int _ _] []) _ _ _); k_dflt (first
  | (refine' Pure.use (lg0 _ _ _ ?c1 ?c2) ?kB ?kF ?kX ?kN ?kT ?kK ?kD ?kU ?_; (case c1 => omega); (case c2 => omega); (case kB => k_asm); (case kF => k_asm); (case kX => k_asm); (case kN => k_asm); (case kT => k_asm); (case kK => first | exact rfl | assumption); (case kD => ktr_room); (case kU => ktr_units); k_whole)
  | (refine' Pure.use (lg1 _ _) ?kB ?kF ?kX ?kN ?kT ?kK ?kD ?kU ?_; (case kB => k_asm); (case kF => k_asm); (case kX => k_asm); (case kN => k_asm); (case kT => k_asm); (case kK => first | exact rfl | assumption); (case kD => ktr_room); (case kU => ktr_units); k_whole)
  | (refine' Pure.use (lg2 _ _) ?kB ?kF ?kX ?kN ?kT ?kK ?kD ?kU ?_; (case kB => k_asm); (case kF => k_asm); (case kX => k_asm); (case kN => k_asm); (case kT => k_asm); (case kK => first | exact rfl | assumption); (case kD => ktr_room); (case kU => ktr_units); k_whole)
  | (refine' Pure.use (lg3 _ _) ?kB ?kF ?kX ?kN ?kT ?kK ?kD ?kU ?_; (case kB => k_asm); (case kF => k_asm); (case kX => k_asm); (case kN => k_asm); (case kT => k_asm); (case kK => first | exact rfl | assumption); (case kD => ktr_room); (case kU => ktr_units); k_whole)); intro r' h' tk' F' N' hr'; (k_dflt (obtain ⟨t', e'⟩ := hr'; subst e')); (try k_sweep); (try dsimp only); (try k_fold)))
theorem kind0a (w : World) (cs : Scope) (hcs : cs = lawScope w) (sb : List Stmt) (hst : sb = forBody ((forBody (lawSt w 5)).getD 1 (.Pass default)))  :
  ∀ (p : Program) (loose : List PySem.Str) (mean : ExcName → Option Value) (mg mb : PySem.Str → Option Value) (dp un : Nat) (gd : Option (List Code)) (a : Addr) (ccd : Value) (cR cP cS : Addr) (outer : List Env) (A₀ : Around)
    (base h₀ : Heap) (L : Addr) (m : PySem.Str → Option Value) (news : List (Addr × Obj)) (Dt : Addr) (tv : List Value) (s : Shared) (Q : Flow → Shared → Prop) (E : Value → Shared → Prop),
    Below A₀ base outer h₀ → Fr h₀ L s.heap m → (Mine.kk.heap_1 w.params).In h₀ → News h₀ L s.heap ((Dt, LCg.lst tv) :: news) → Top p loose mean mg mb h₀ → dp + 12 < recursionLimit → un + 200 < cLine →
    ∀ (d : Int) (tk0 tp to : Tok) (o : Array UInt8) (os rs : List Int) (pl : Int), 0 ≤ d ∧ d < 253 → KBw.bInts o = os → os.length ≤ 1000 → 0 ≤ pl → pl < os.length → os.getD pl.toNat 0 = d → pl + 1 ≤ os.length → (os.drop pl.toNat).take 1 = [d] → (∀ p ∈ news, p.1 ≠ Dt) → tv.length ≤ 8 → m (PySem.Str.ofString "kind") = some (.int 0 tk0) → m (PySem.Str.ofString "octets") = some (.bytes o to) → m (PySem.Str.ofString "place") = some (.int pl tp) → m (PySem.Str.ofString "told") = some (.ref Dt) →
    (∀ (t' t2 : Tok) (h' : Heap) (tk' : Nat) (m' : PySem.Str → Option Value), Fr h₀ L h' m' → News h₀ L h' ((Dt, LCg.lst (tv ++ [.int d t'])) :: news) → m' (PySem.Str.ofString "place") = some (.int (pl + 1) t2) → Kept [(PySem.Str.ofString "size"), (PySem.Str.ofString "place"), (PySem.Str.ofString "item")] m m' → Q .next { s with heap := h', toks := tk' }) →
    wpT (model PySem.Challenge.rw_vn0014_01.prog w) (ktrTop dp un gd (PySem.Str.ofString "law") cs L a ccd [(PySem.Str.ofString "rows", cR), (PySem.Str.ofString "plain", cP), (PySem.Str.ofString "shorts", cS)] outer) (execs sb (envX (PySem.Str.ofString "law") cs L a ccd [(PySem.Str.ofString "rows", cR), (PySem.Str.ofString "plain", cP), (PySem.Str.ofString "shorts", cS)])) Q E s := by
  k_fill
  (conv at hcs => rhs; whnf)
  (conv at hst => rhs; whnf)
  subst hcs
  subst hst
  intro p loose mean mg mb dp un gd a ccd cR cP cS outer A₀ base h₀ L m news Dt tv s Q E B F X N T hd hu d tk0 tp to o os rs pl hrg ho hoz hp0 hp1 hpg hp2 hcut hDt htl hm1 hm2 hm3 hm4 hret
  have K0 : Kept [PySem.Str.ofString "size", PySem.Str.ofString "place", PySem.Str.ofString "item"] m (fun y => if y = PySem.Str.ofString "kind" then some (.int 0 tk0) else if y = PySem.Str.ofString "octets" then some (.bytes o to) else if y = PySem.Str.ofString "place" then some (.int pl tp) else if y = PySem.Str.ofString "told" then some (.ref Dt) else m y) := by
    rw [form4_eq hm1 hm2 hm3 hm4]
    exact fun _ _ => rfl
  replace F := fr_form4 F hm1 hm2 hm3 hm4
  refine wpT_execs (wpT_If ?_)
  refine wpT.of ?_
  k_steps
  refine wpT_execsN ?_
  k_steps
  refine ⟨by first | rfl | trivial, ?_⟩
  refine wpT_execs (wpT_Expr (wpT_CallAttr1 (id := "list.append") (x := .ref Dt) (fun _ _ => ⟨_, .inr (.inl rfl), Looks.of_pure rfl⟩) ?_ rfl))
  k_steps
  refine ⟨rfl, ?_⟩
  refine wpT_CallName1 (K := Mine.kk.heap_1 w.params) (fv := .ref 613) rfl (by kernel_rfl) ?_
  k_steps
  refine ⟨rfl, ?_⟩
  k_steps
  refine ⟨by k_in, ?_⟩
  refine fb w _ _ d (by omega) (by omega) (cut_pl 1 ho hp0 hp2 (hcut.trans (by rw [compact, if_pos hrg.2]))) _ _ _ _ _ _ _ _ _ _ _ _ _ _ _ _ _ _ _ _ _ _ _ (by k_asm) (by k_asm) (by k_asm) (by k_asm) (by k_asm) rfl (by omega) (by omega) ?_
  intro r h6 tk6 F6 N6 hr
  obtain ⟨t6, rfl⟩ := hr
  have hD6 := N6 (Dt, LCg.lst tv) (.head _)
  refine append_at hD6.1 (fun h7 hs7 hD7 => ?_) (by rw [List.size_toArray]; exact Nat.le_trans htl (by decide))
  have F7 := F6.change hs7 hD6.2.1 hD6.2.2
  have N7 : News h₀ L h7 ((Dt, LCg.lst (tv ++ [.int d t6])) :: news) := fun p hp => by
    rcases List.mem_cons.mp hp with rfl | hp
    · exact ⟨hD7.trans (congrArg some (LCg.lst_snoc tv _)), hD6.2⟩
    · exact ⟨hs7.extBut _ _ (hDt p hp) (N6 p (.tail _ hp)).1, (N6 p (.tail _ hp)).2⟩
  clear N6 F6 hD6 hs7 hD7
  refine ⟨rfl, ?_⟩
  refine wpT.of ?_
  k_steps
  first
    | refine wpT.of (wpAny_execs_nil (wpT.of (wpAny_execs_nil ?_)))
    | (refine wpT.of (wpAny_execs_nil ?_); first | refine wpT.of (wpAny_execs_nil ?_) | skip)
  all_goals first
    | exact hret _ _ _ _ _ (by assumption) (by assumption) (by rfl) (kept_set (kept_set K0 (by decide +kernel)) (by decide +kernel))
end Mine
end

section
open PySem PySem.W PyProof.Rows PySem.Calls
set_option maxRecDepth 100000
set_option maxHeartbeats 8000000
namespace Mine
local macro_rules | `(tactic| k_room) => `(tactic| ktr_room)
local macro_rules | `(tactic| wtm_at "x call ref") => `(tactic| (k_here; (with_reducible show wpAny _ _ (call (Value.ref 1069) [Value.int _ _] []) _ _ _); k_dflt (first
  | (refine' Pure.use (lg0 _ _ _ ?c1 ?c2) ?kB ?kF ?kX ?kN ?kT ?kK ?kD ?kU ?_; (case c1 => omega); (case c2 => omega); (case kB => k_asm); (case kF => k_asm); (case kX => k_asm); (case kN => k_asm); (case kT => k_asm); (case kK => first | exact rfl | assumption); (case kD => ktr_room); (case kU => ktr_units); k_whole)
  | (refine' Pure.use (lg1 _ _) ?kB ?kF ?kX ?kN ?kT ?kK ?kD ?kU ?_; (case kB => k_asm); (case kF => k_asm); (case kX => k_asm); (case kN => k_asm); (case kT => k_asm); (case kK => first | exact rfl | assumption); (case kD => ktr_room); (case kU => ktr_units); k_whole)
  | (refine' Pure.use (lg2 _ _) ?kB ?kF ?kX ?kN ?kT ?kK ?kD ?kU ?_; (case kB => k_asm); (case kF => k_asm); (case kX => k_asm); (case kN => k_asm); (case kT => k_asm); (case kK => first | exact rfl | assumption); (case kD => ktr_room); (case kU => ktr_units); k_whole)
  | (refine' Pure.use (lg3 _ _) ?kB ?kF ?kX ?kN ?kT ?kK ?kD ?kU ?_; (case kB => k_asm); (case kF => k_asm); (case kX => k_asm); (case kN => k_asm); (case kT => k_asm); (case kK => first | exact rfl | assumption); (case kD => ktr_room); (case kU => ktr_units); k_whole)); intro r' h' tk' F' N' hr'; (k_dflt (obtain ⟨t', e'⟩ := hr'; subst e')); (try k_sweep); (try dsimp only); (try k_fold)))
theorem kind0b (w : World) (cs : Scope) (hcs : cs = lawScope w) (sb : List Stmt) (hst : sb = forBody ((forBody (lawSt w 5)).getD 1 (.Pass default)))  :
  ∀ (p : Program) (loose : List PySem.Str) (mean : ExcName → Option Value) (mg mb : PySem.Str → Option Value) (dp un : Nat) (gd : Option (List Code)) (a : Addr) (ccd : Value) (cR cP cS : Addr) (outer : List Env) (A₀ : Around)
    (base h₀ : Heap) (L : Addr) (m : PySem.Str → Option Value) (news : List (Addr × Obj)) (Dt : Addr) (tv : List Value) (s : Shared) (Q : Flow → Shared → Prop) (E : Value → Shared → Prop),
    Below A₀ base outer h₀ → Fr h₀ L s.heap m → (Mine.kk.heap_1 w.params).In h₀ → News h₀ L s.heap ((Dt, LCg.lst tv) :: news) → Top p loose mean mg mb h₀ → dp + 12 < recursionLimit → un + 200 < cLine →
    ∀ (d : Int) (tk0 tp to : Tok) (o : Array UInt8) (os rs : List Int) (pl : Int), 253 ≤ d ∧ d < 65536 → KBw.bInts o = os → os.length ≤ 1000 → 0 ≤ pl → pl < os.length → os.getD pl.toNat 0 = 253 → pl + 3 ≤ os.length → (os.drop pl.toNat).take 3 = 253 :: KTBy.little 2 d → (∀ p ∈ news, p.1 ≠ Dt) → tv.length ≤ 8 → m (PySem.Str.ofString "kind") = some (.int 0 tk0) → m (PySem.Str.ofString "octets") = some (.bytes o to) → m (PySem.Str.ofString "place") = some (.int pl tp) → m (PySem.Str.ofString "told") = some (.ref Dt) →
    (∀ (t' t2 : Tok) (h' : Heap) (tk' : Nat) (m' : PySem.Str → Option Value), Fr h₀ L h' m' → News h₀ L h' ((Dt, LCg.lst (tv ++ [.int d t'])) :: news) → m' (PySem.Str.ofString "place") = some (.int (pl + 3) t2) → Kept [(PySem.Str.ofString "size"), (PySem.Str.ofString "place"), (PySem.Str.ofString "item")] m m' → Q .next { s with heap := h', toks := tk' }) →
    wpT (model PySem.Challenge.rw_vn0014_01.prog w) (ktrTop dp un gd (PySem.Str.ofString "law") cs L a ccd [(PySem.Str.ofString "rows", cR), (PySem.Str.ofString "plain", cP), (PySem.Str.ofString "shorts", cS)] outer) (execs sb (envX (PySem.Str.ofString "law") cs L a ccd [(PySem.Str.ofString "rows", cR), (PySem.Str.ofString "plain", cP), (PySem.Str.ofString "shorts", cS)])) Q E s := by
  k_fill
  (conv at hcs => rhs; whnf)
  (conv at hst => rhs; whnf)
  subst hcs
  subst hst
  intro p loose mean mg mb dp un gd a ccd cR cP cS outer A₀ base h₀ L m news Dt tv s Q E B F X N T hd hu d tk0 tp to o os rs pl hrg ho hoz hp0 hp1 hpg hp2 hcut hDt htl hm1 hm2 hm3 hm4 hret
  have K0 : Kept [PySem.Str.ofString "size", PySem.Str.ofString "place", PySem.Str.ofString "item"] m (fun y => if y = PySem.Str.ofString "kind" then some (.int 0 tk0) else if y = PySem.Str.ofString "octets" then some (.bytes o to) else if y = PySem.Str.ofString "place" then some (.int pl tp) else if y = PySem.Str.ofString "told" then some (.ref Dt) else m y) := by
    rw [form4_eq hm1 hm2 hm3 hm4]
    exact fun _ _ => rfl
  replace F := fr_form4 F hm1 hm2 hm3 hm4
  refine wpT_execs (wpT_If ?_)
  refine wpT.of ?_
  k_steps
  refine wpT_execsN ?_
  k_steps
  refine ⟨by first | rfl | trivial, ?_⟩
  refine wpT_execs (wpT_Expr (wpT_CallAttr1 (id := "list.append") (x := .ref Dt) (fun _ _ => ⟨_, .inr (.inl rfl), Looks.of_pure rfl⟩) ?_ rfl))
  k_steps
  refine ⟨rfl, ?_⟩
  refine wpT_CallName1 (K := Mine.kk.heap_1 w.params) (fv := .ref 613) rfl (by kernel_rfl) ?_
  k_steps
  refine ⟨rfl, ?_⟩
  k_steps
  refine ⟨by k_in, ?_⟩
  refine fb w _ _ d (by omega) (by omega) (cut_pl 3 ho hp0 hp2 (hcut.trans (by rw [compact, if_neg (by omega), if_pos hrg.2]))) _ _ _ _ _ _ _ _ _ _ _ _ _ _ _ _ _ _ _ _ _ _ _ (by k_asm) (by k_asm) (by k_asm) (by k_asm) (by k_asm) rfl (by omega) (by omega) ?_
  intro r h6 tk6 F6 N6 hr
  obtain ⟨t6, rfl⟩ := hr
  have hD6 := N6 (Dt, LCg.lst tv) (.head _)
  refine append_at hD6.1 (fun h7 hs7 hD7 => ?_) (by rw [List.size_toArray]; exact Nat.le_trans htl (by decide))
  have F7 := F6.change hs7 hD6.2.1 hD6.2.2
  have N7 : News h₀ L h7 ((Dt, LCg.lst (tv ++ [.int d t6])) :: news) := fun p hp => by
    rcases List.mem_cons.mp hp with rfl | hp
    · exact ⟨hD7.trans (congrArg some (LCg.lst_snoc tv _)), hD6.2⟩
    · exact ⟨hs7.extBut _ _ (hDt p hp) (N6 p (.tail _ hp)).1, (N6 p (.tail _ hp)).2⟩
  clear N6 F6 hD6 hs7 hD7
  refine ⟨rfl, ?_⟩
  refine wpT.of ?_
  k_steps
  first
    | refine wpT.of (wpAny_execs_nil (wpT.of (wpAny_execs_nil ?_)))
    | (refine wpT.of (wpAny_execs_nil ?_); first | refine wpT.of (wpAny_execs_nil ?_) | skip)
  all_goals first
    | exact hret _ _ _ _ _ (by assumption) (by assumption) (by rfl) (kept_set (kept_set K0 (by decide +kernel)) (by decide +kernel))
end Mine
end

section
open PySem PySem.W PyProof.Rows PySem.Calls
set_option maxRecDepth 100000
set_option maxHeartbeats 8000000
namespace Mine
local macro_rules | `(tactic| k_room) => `(tactic| ktr_room)
local macro_rules | `(tactic| wtm_at "x call ref") => `(tactic| (k_here; (with_reducible show wpAny _ _ (call (Value.ref 1069) [Value.int _ _] []) _ _ _); k_dflt (first
  | (refine' Pure.use (lg0 _ _ _ ?c1 ?c2) ?kB ?kF ?kX ?kN ?kT ?kK ?kD ?kU ?_; (case c1 => omega); (case c2 => omega); (case kB => k_asm); (case kF => k_asm); (case kX => k_asm); (case kN => k_asm); (case kT => k_asm); (case kK => first | exact rfl | assumption); (case kD => ktr_room); (case kU => ktr_units); k_whole)
  | (refine' Pure.use (lg1 _ _) ?kB ?kF ?kX ?kN ?kT ?kK ?kD ?kU ?_; (case kB => k_asm); (case kF => k_asm); (case kX => k_asm); (case kN => k_asm); (case kT => k_asm); (case kK => first | exact rfl | assumption); (case kD => ktr_room); (case kU => ktr_units); k_whole)
  | (refine' Pure.use (lg2 _ _) ?kB ?kF ?kX ?kN ?kT ?kK ?kD ?kU ?_; (case kB => k_asm); (case kF => k_asm); (case kX => k_asm); (case kN => k_asm); (case kT => k_asm); (case kK => first | exact rfl | assumption); (case kD => ktr_room); (case kU => ktr_units); k_whole)
  | (refine' Pure.use (lg3 _ _) ?kB ?kF ?kX ?kN ?kT ?kK ?kD ?kU ?_; (case kB => k_asm); (case kF => k_asm); (case kX => k_asm); (case kN => k_asm); (case kT => k_asm); (case kK => first | exact rfl | assumption); (case kD => ktr_room); (case kU => ktr_units); k_whole)); intro r' h' tk' F' N' hr'; (k_dflt (obtain ⟨t', e'⟩ := hr'; subst e')); (try k_sweep); (try dsimp only); (try k_fold)))
theorem kind0c (w : World) (cs : Scope) (hcs : cs = lawScope w) (sb : List Stmt) (hst : sb = forBody ((forBody (lawSt w 5)).getD 1 (.Pass default)))  :
  ∀ (p : Program) (loose : List PySem.Str) (mean : ExcName → Option Value) (mg mb : PySem.Str → Option Value) (dp un : Nat) (gd : Option (List Code)) (a : Addr) (ccd : Value) (cR cP cS : Addr) (outer : List Env) (A₀ : Around)
    (base h₀ : Heap) (L : Addr) (m : PySem.Str → Option Value) (news : List (Addr × Obj)) (Dt : Addr) (tv : List Value) (s : Shared) (Q : Flow → Shared → Prop) (E : Value → Shared → Prop),
    Below A₀ base outer h₀ → Fr h₀ L s.heap m → (Mine.kk.heap_1 w.params).In h₀ → News h₀ L s.heap ((Dt, LCg.lst tv) :: news) → Top p loose mean mg mb h₀ → dp + 12 < recursionLimit → un + 200 < cLine →
    ∀ (d : Int) (tk0 tp to : Tok) (o : Array UInt8) (os rs : List Int) (pl : Int), 65536 ≤ d ∧ d < 4294967296 → KBw.bInts o = os → os.length ≤ 1000 → 0 ≤ pl → pl < os.length → os.getD pl.toNat 0 = 254 → pl + 5 ≤ os.length → (os.drop pl.toNat).take 5 = 254 :: KTBy.little 4 d → (∀ p ∈ news, p.1 ≠ Dt) → tv.length ≤ 8 → m (PySem.Str.ofString "kind") = some (.int 0 tk0) → m (PySem.Str.ofString "octets") = some (.bytes o to) → m (PySem.Str.ofString "place") = some (.int pl tp) → m (PySem.Str.ofString "told") = some (.ref Dt) →
    (∀ (t' t2 : Tok) (h' : Heap) (tk' : Nat) (m' : PySem.Str → Option Value), Fr h₀ L h' m' → News h₀ L h' ((Dt, LCg.lst (tv ++ [.int d t'])) :: news) → m' (PySem.Str.ofString "place") = some (.int (pl + 5) t2) → Kept [(PySem.Str.ofString "size"), (PySem.Str.ofString "place"), (PySem.Str.ofString "item")] m m' → Q .next { s with heap := h', toks := tk' }) →
    wpT (model PySem.Challenge.rw_vn0014_01.prog w) (ktrTop dp un gd (PySem.Str.ofString "law") cs L a ccd [(PySem.Str.ofString "rows", cR), (PySem.Str.ofString "plain", cP), (PySem.Str.ofString "shorts", cS)] outer) (execs sb (envX (PySem.Str.ofString "law") cs L a ccd [(PySem.Str.ofString "rows", cR), (PySem.Str.ofString "plain", cP), (PySem.Str.ofString "shorts", cS)])) Q E s := by
  k_fill
  (conv at hcs => rhs; whnf)
  (conv at hst => rhs; whnf)
  subst hcs
  subst hst
  intro p loose mean mg mb dp un gd a ccd cR cP cS outer A₀ base h₀ L m news Dt tv s Q E B F X N T hd hu d tk0 tp to o os rs pl hrg ho hoz hp0 hp1 hpg hp2 hcut hDt htl hm1 hm2 hm3 hm4 hret
  have K0 : Kept [PySem.Str.ofString "size", PySem.Str.ofString "place", PySem.Str.ofString "item"] m (fun y => if y = PySem.Str.ofString "kind" then some (.int 0 tk0) else if y = PySem.Str.ofString "octets" then some (.bytes o to) else if y = PySem.Str.ofString "place" then some (.int pl tp) else if y = PySem.Str.ofString "told" then some (.ref Dt) else m y) := by
    rw [form4_eq hm1 hm2 hm3 hm4]
    exact fun _ _ => rfl
  replace F := fr_form4 F hm1 hm2 hm3 hm4
  refine wpT_execs (wpT_If ?_)
  refine wpT.of ?_
  k_steps
  refine wpT_execsN ?_
  k_steps
  refine ⟨by first | rfl | trivial, ?_⟩
  refine wpT_execs (wpT_Expr (wpT_CallAttr1 (id := "list.append") (x := .ref Dt) (fun _ _ => ⟨_, .inr (.inl rfl), Looks.of_pure rfl⟩) ?_ rfl))
  k_steps
  refine ⟨rfl, ?_⟩
  refine wpT_CallName1 (K := Mine.kk.heap_1 w.params) (fv := .ref 613) rfl (by kernel_rfl) ?_
  k_steps
  refine ⟨rfl, ?_⟩
  k_steps
  refine ⟨by k_in, ?_⟩
  refine fb w _ _ d (by omega) (by omega) (cut_pl 5 ho hp0 hp2 (hcut.trans (by rw [compact, if_neg (by omega), if_neg (by omega), if_pos hrg.2]))) _ _ _ _ _ _ _ _ _ _ _ _ _ _ _ _ _ _ _ _ _ _ _ (by k_asm) (by k_asm) (by k_asm) (by k_asm) (by k_asm) rfl (by omega) (by omega) ?_
  intro r h6 tk6 F6 N6 hr
  obtain ⟨t6, rfl⟩ := hr
  have hD6 := N6 (Dt, LCg.lst tv) (.head _)
  refine append_at hD6.1 (fun h7 hs7 hD7 => ?_) (by rw [List.size_toArray]; exact Nat.le_trans htl (by decide))
  have F7 := F6.change hs7 hD6.2.1 hD6.2.2
  have N7 : News h₀ L h7 ((Dt, LCg.lst (tv ++ [.int d t6])) :: news) := fun p hp => by
    rcases List.mem_cons.mp hp with rfl | hp
    · exact ⟨hD7.trans (congrArg some (LCg.lst_snoc tv _)), hD6.2⟩
    · exact ⟨hs7.extBut _ _ (hDt p hp) (N6 p (.tail _ hp)).1, (N6 p (.tail _ hp)).2⟩
  clear N6 F6 hD6 hs7 hD7
  refine ⟨rfl, ?_⟩
  refine wpT.of ?_
  k_steps
  first
    | refine wpT.of (wpAny_execs_nil (wpT.of (wpAny_execs_nil ?_)))
    | (refine wpT.of (wpAny_execs_nil ?_); first | refine wpT.of (wpAny_execs_nil ?_) | skip)
  all_goals first
    | exact hret _ _ _ _ _ (by assumption) (by assumption) (by rfl) (kept_set (kept_set K0 (by decide +kernel)) (by decide +kernel))
end Mine
end

section
open PySem PySem.W PyProof.Rows PySem.Calls
set_option maxRecDepth 100000
set_option maxHeartbeats 8000000
namespace Mine
local macro_rules | `(tactic| k_room) => `(tactic| ktr_room)
local macro_rules | `(tactic| wtm_at "x call ref") => `(tactic| (k_here; (with_reducible show wpAny _ _ (call (Value.ref 1069) [Value.int _ _] []) _ _ _); k_dflt (first
  | (refine' Pure.use (lg0 _ _ _ ?c1 ?c2) ?kB ?kF ?kX ?kN ?kT ?kK ?kD ?kU ?_; (case c1 => omega); (case c2 => omega); (case kB => k_asm); (case kF => k_asm); (case kX => k_asm); (case kN => k_asm); (case kT => k_asm); (case kK => first | exact rfl | assumption); (case kD => ktr_room); (case kU => ktr_units); k_whole)
  | (refine' Pure.use (lg1 _ _) ?kB ?kF ?kX ?kN ?kT ?kK ?kD ?kU ?_; (case kB => k_asm); (case kF => k_asm); (case kX => k_asm); (case kN => k_asm); (case kT => k_asm); (case kK => first | exact rfl | assumption); (case kD => ktr_room); (case kU => ktr_units); k_whole)
  | (refine' Pure.use (lg2 _ _) ?kB ?kF ?kX ?kN ?kT ?kK ?kD ?kU ?_; (case kB => k_asm); (case kF => k_asm); (case kX => k_asm); (case kN => k_asm); (case kT => k_asm); (case kK => first | exact rfl | assumption); (case kD => ktr_room); (case kU => ktr_units); k_whole)
  | (refine' Pure.use (lg3 _ _) ?kB ?kF ?kX ?kN ?kT ?kK ?kD ?kU ?_; (case kB => k_asm); (case kF => k_asm); (case kX => k_asm); (case kN => k_asm); (case kT => k_asm); (case kK => first | exact rfl | assumption); (case kD => ktr_room); (case kU => ktr_units); k_whole)); intro r' h' tk' F' N' hr'; (k_dflt (obtain ⟨t', e'⟩ := hr'; subst e')); (try k_sweep); (try dsimp only); (try k_fold)))
theorem kind0e (w : World) (cs : Scope) (hcs : cs = lawScope w) (sb : List Stmt) (hst : sb = forBody ((forBody (lawSt w 5)).getD 1 (.Pass default)))  :
  ∀ (p : Program) (loose : List PySem.Str) (mean : ExcName → Option Value) (mg mb : PySem.Str → Option Value) (dp un : Nat) (gd : Option (List Code)) (a : Addr) (ccd : Value) (cR cP cS : Addr) (outer : List Env) (A₀ : Around)
    (base h₀ : Heap) (L : Addr) (m : PySem.Str → Option Value) (news : List (Addr × Obj)) (Dt : Addr) (tv : List Value) (s : Shared) (Q : Flow → Shared → Prop) (E : Value → Shared → Prop),
    Below A₀ base outer h₀ → Fr h₀ L s.heap m → (Mine.kk.heap_1 w.params).In h₀ → News h₀ L s.heap ((Dt, LCg.lst tv) :: news) → Top p loose mean mg mb h₀ → dp + 12 < recursionLimit → un + 200 < cLine →
    ∀ (d : Int) (tk0 tp to : Tok) (o : Array UInt8) (os rs : List Int) (pl : Int), 4294967296 ≤ d ∧ d < 18446744073709551616 → KBw.bInts o = os → os.length ≤ 1000 → 0 ≤ pl → pl < os.length → os.getD pl.toNat 0 = 255 → pl + 9 ≤ os.length → (os.drop pl.toNat).take 9 = 255 :: KTBy.little 8 d → (∀ p ∈ news, p.1 ≠ Dt) → tv.length ≤ 8 → m (PySem.Str.ofString "kind") = some (.int 0 tk0) → m (PySem.Str.ofString "octets") = some (.bytes o to) → m (PySem.Str.ofString "place") = some (.int pl tp) → m (PySem.Str.ofString "told") = some (.ref Dt) →
    (∀ (t' t2 : Tok) (h' : Heap) (tk' : Nat) (m' : PySem.Str → Option Value), Fr h₀ L h' m' → News h₀ L h' ((Dt, LCg.lst (tv ++ [.int d t'])) :: news) → m' (PySem.Str.ofString "place") = some (.int (pl + 9) t2) → Kept [(PySem.Str.ofString "size"), (PySem.Str.ofString "place"), (PySem.Str.ofString "item")] m m' → Q .next { s with heap := h', toks := tk' }) →
    wpT (model PySem.Challenge.rw_vn0014_01.prog w) (ktrTop dp un gd (PySem.Str.ofString "law") cs L a ccd [(PySem.Str.ofString "rows", cR), (PySem.Str.ofString "plain", cP), (PySem.Str.ofString "shorts", cS)] outer) (execs sb (envX (PySem.Str.ofString "law") cs L a ccd [(PySem.Str.ofString "rows", cR), (PySem.Str.ofString "plain", cP), (PySem.Str.ofString "shorts", cS)])) Q E s := by
  k_fill
  (conv at hcs => rhs; whnf)
  (conv at hst => rhs; whnf)
  subst hcs
  subst hst
  intro p loose mean mg mb dp un gd a ccd cR cP cS outer A₀ base h₀ L m news Dt tv s Q E B F X N T hd hu d tk0 tp to o os rs pl hrg ho hoz hp0 hp1 hpg hp2 hcut hDt htl hm1 hm2 hm3 hm4 hret
  have K0 : Kept [PySem.Str.ofString "size", PySem.Str.ofString "place", PySem.Str.ofString "item"] m (fun y => if y = PySem.Str.ofString "kind" then some (.int 0 tk0) else if y = PySem.Str.ofString "octets" then some (.bytes o to) else if y = PySem.Str.ofString "place" then some (.int pl tp) else if y = PySem.Str.ofString "told" then some (.ref Dt) else m y) := by
    rw [form4_eq hm1 hm2 hm3 hm4]
    exact fun _ _ => rfl
  replace F := fr_form4 F hm1 hm2 hm3 hm4
  refine wpT_execs (wpT_If ?_)
  refine wpT.of ?_
  k_steps
  refine wpT_execsN ?_
  k_steps
  refine ⟨by first | rfl | trivial, ?_⟩
  refine wpT_execs (wpT_Expr (wpT_CallAttr1 (id := "list.append") (x := .ref Dt) (fun _ _ => ⟨_, .inr (.inl rfl), Looks.of_pure rfl⟩) ?_ rfl))
  k_steps
  refine ⟨rfl, ?_⟩
  refine wpT_CallName1 (K := Mine.kk.heap_1 w.params) (fv := .ref 613) rfl (by kernel_rfl) ?_
  k_steps
  refine ⟨rfl, ?_⟩
  k_steps
  refine ⟨by k_in, ?_⟩
  refine fb w _ _ d (by omega) (by omega) (cut_pl 9 ho hp0 hp2 (hcut.trans (by rw [compact, if_neg (by omega), if_neg (by omega), if_neg (by omega)]))) _ _ _ _ _ _ _ _ _ _ _ _ _ _ _ _ _ _ _ _ _ _ _ (by k_asm) (by k_asm) (by k_asm) (by k_asm) (by k_asm) rfl (by omega) (by omega) ?_
  intro r h6 tk6 F6 N6 hr
  obtain ⟨t6, rfl⟩ := hr
  have hD6 := N6 (Dt, LCg.lst tv) (.head _)
  refine append_at hD6.1 (fun h7 hs7 hD7 => ?_) (by rw [List.size_toArray]; exact Nat.le_trans htl (by decide))
  have F7 := F6.change hs7 hD6.2.1 hD6.2.2
  have N7 : News h₀ L h7 ((Dt, LCg.lst (tv ++ [.int d t6])) :: news) := fun p hp => by
    rcases List.mem_cons.mp hp with rfl | hp
    · exact ⟨hD7.trans (congrArg some (LCg.lst_snoc tv _)), hD6.2⟩
    · exact ⟨hs7.extBut _ _ (hDt p hp) (N6 p (.tail _ hp)).1, (N6 p (.tail _ hp)).2⟩
  clear N6 F6 hD6 hs7 hD7
  refine ⟨rfl, ?_⟩
  refine wpT.of ?_
  k_steps
  first
    | refine wpT.of (wpAny_execs_nil (wpT.of (wpAny_execs_nil ?_)))
    | (refine wpT.of (wpAny_execs_nil ?_); first | refine wpT.of (wpAny_execs_nil ?_) | skip)
  all_goals first
    | exact hret _ _ _ _ _ (by assumption) (by assumption) (by rfl) (kept_set (kept_set K0 (by decide +kernel)) (by decide +kernel))
end Mine
end

section
open PySem PySem.W PyProof.Rows PySem.Calls
set_option maxRecDepth 100000
set_option maxHeartbeats 8000000
namespace Mine
local macro_rules | `(tactic| k_room) => `(tactic| ktr_room)
local macro_rules | `(tactic| wtm_at "x call ref") => `(tactic| (k_here; (with_reducible show wpAny _ _ (call (Value.ref 1035) [Value.bytes _ _, Value.int _ _] []) _ _ _); k_dflt (refine' Pure.use (ci1 _ _ _ _ _ _ ?c1 ?c2 ?c3 ?c4 ?c5) ?kB ?kF ?kX ?kN ?kT ?kK ?kD ?kU ?_; (case c1 => kba_ints2); (case c2 => omega); (case c3 => omega); (case c4 => omega); (case c5 => assumption); (case kB => k_asm); (case kF => k_asm); (case kX => k_asm); (case kN => k_asm); (case kT => k_asm); (case kK => first | exact rfl | assumption); (case kD => ktr_room); (case kU => ktr_units); k_whole); intro r' h' tk' F' N' hr'; (obtain ⟨x', b', t', y', e', u', ex', hx1', hx2', he', hci'⟩ := hr'; subst ex'; subst he'; (have N' := news_add (by assumption) N' hx1' hx2'); (have hxn' := news_ne (by assumption) hx1'); clear hx1' hx2'); (have hci2 := Eq.trans hci' (by assumption)); clear hci'; (try k_sweep); (try dsimp only); (try k_fold)))
theorem kind1a (w : World) (cs : Scope) (hcs : cs = lawScope w) (sb : List Stmt) (hst : sb = forBody ((forBody (lawSt w 5)).getD 1 (.Pass default)))  :
  ∀ (p : Program) (loose : List PySem.Str) (mean : ExcName → Option Value) (mg mb : PySem.Str → Option Value) (dp un : Nat) (gd : Option (List Code)) (a : Addr) (ccd : Value) (cR cP cS : Addr) (outer : List Env) (A₀ : Around)
    (base h₀ : Heap) (L : Addr) (m : PySem.Str → Option Value) (news : List (Addr × Obj)) (Dt : Addr) (tv : List Value) (s : Shared) (Q : Flow → Shared → Prop) (E : Value → Shared → Prop),
    Below A₀ base outer h₀ → Fr h₀ L s.heap m → (Mine.kk.heap_1 w.params).In h₀ → News h₀ L s.heap ((Dt, LCg.lst tv) :: news) → Top p loose mean mg mb h₀ → dp + 12 < recursionLimit → un + 200 < cLine →
    ∀ (d : Int) (tk0 tp to : Tok) (o : Array UInt8) (os : List Int) (pl : Int), KBw.bInts o = os → os.length ≤ 1000 → 0 ≤ pl → pl < os.length → os.getD pl.toNat 0 < 128 → ∀ (l : List Int), [os.getD pl.toNat 0] = l → l.length ≤ 8 → KFB.value l = d → (l.length = 0 ∨ l.getD 0 0 ≠ 0) → pl + 1 ≤ os.length → (∀ p ∈ news, p.1 ≠ Dt) → tv.length ≤ 8 → m (PySem.Str.ofString "kind") = some (.int 1 tk0) → m (PySem.Str.ofString "octets") = some (.bytes o to) → m (PySem.Str.ofString "place") = some (.int pl tp) → m (PySem.Str.ofString "told") = some (.ref Dt) →
    (∀ (t' t2 : Tok) (h' : Heap) (tk' : Nat) (m' : PySem.Str → Option Value), Fr h₀ L h' m' → News h₀ L h' ((Dt, LCg.lst (tv ++ [.int d t'])) :: news) → m' (PySem.Str.ofString "place") = some (.int (pl + 1) t2) → Kept [(PySem.Str.ofString "size"), (PySem.Str.ofString "place"), (PySem.Str.ofString "item")] m m' → Q .next { s with heap := h', toks := tk' }) →
    wpT (model PySem.Challenge.rw_vn0014_01.prog w) (ktrTop dp un gd (PySem.Str.ofString "law") cs L a ccd [(PySem.Str.ofString "rows", cR), (PySem.Str.ofString "plain", cP), (PySem.Str.ofString "shorts", cS)] outer) (execs sb (envX (PySem.Str.ofString "law") cs L a ccd [(PySem.Str.ofString "rows", cR), (PySem.Str.ofString "plain", cP), (PySem.Str.ofString "shorts", cS)])) Q E s := by
  k_fill
  (conv at hcs => rhs; whnf)
  (conv at hst => rhs; whnf)
  subst hcs
  subst hst
  intro p loose mean mg mb dp un gd a ccd cR cP cS outer A₀ base h₀ L m news Dt tv s Q E B F X N T hd hu d tk0 tp to o os pl ho hoz hp0 hp1 h2 l hcut hl8 hv h4 hp2 hDt htl hm1 hm2 hm3 hm4 hret
  have K0 : Kept [PySem.Str.ofString "size", PySem.Str.ofString "place", PySem.Str.ofString "item"] m (fun y => if y = PySem.Str.ofString "kind" then some (.int 1 tk0) else if y = PySem.Str.ofString "octets" then some (.bytes o to) else if y = PySem.Str.ofString "place" then some (.int pl tp) else if y = PySem.Str.ofString "told" then some (.ref Dt) else m y) := by
    rw [form4_eq hm1 hm2 hm3 hm4]
    exact fun _ _ => rfl
  replace F := fr_form4 F hm1 hm2 hm3 hm4
  refine wpT_execs (wpT_If ?_)
  refine wpT.of ?_
  k_steps
  refine wpT.of ?_
  k_steps
  have FF := (by assumption : Fr h₀ L _ _)
  have NN := (by assumption : News h₀ L _ (_ :: (Dt, LCg.lst tv) :: news))
  have XX := (by assumption : ∀ p ∈ (Dt, LCg.lst tv) :: news, p.1 ≠ _)
  have hD6 : _ ∧ _ := NN (Dt, LCg.lst tv) (.tail _ (.head _))
  dsimp only at hD6
  obtain ⟨hD6a, hD6b, hD6c⟩ := hD6
  refine append_at hD6a (fun h7 hs7 hD7 => ?_) (by rw [List.size_toArray]; exact Nat.le_trans htl (by decide))
  have F7 := FF.change hs7 hD6b hD6c
  subst hv
  have N7 := news_append NN XX hDt hs7 hD7
  clear NN FF hD6a hD6b hD6c hs7 hD7 XX
  k_steps
  refine wpT.of (wpAny_execs_nil ?_)
  exact hret _ _ _ _ _ (by assumption) (news_t1 (by assumption)) (by rfl) (kept_set (kept_set K0 (by decide +kernel)) (by decide +kernel))
end Mine
end

section
open PySem PySem.W PyProof.Rows PySem.Calls
set_option maxRecDepth 100000
set_option maxHeartbeats 8000000
namespace Mine
local macro_rules | `(tactic| k_room) => `(tactic| ktr_room)
local macro_rules | `(tactic| wtm_at "x call ref") => `(tactic| (k_here; (with_reducible show wpAny _ _ (call (Value.ref 1035) [Value.bytes _ _, Value.int _ _] []) _ _ _); k_dflt (refine' Pure.use (ci2 _ _ _ _ _ _ _ ?c1 ?c2 ?c3 ?c4 ?c5 ?c6 ?c7 ?c8) ?kB ?kF ?kX ?kN ?kT ?kK ?kD ?kU ?_; (case c1 => kba_ints2); (case c7 => assumption); (case c8 => assumption); (case c2 => omega); (case c3 => omega); (case c4 => omega); (case c5 => omega); (case c6 => omega); (case kB => k_asm); (case kF => k_asm); (case kX => k_asm); (case kN => k_asm); (case kT => k_asm); (case kK => first | exact rfl | assumption); (case kD => ktr_room); (case kU => ktr_units); k_whole); intro r' h' tk' F' N' hr'; (obtain ⟨x', b', t', y', e', u', ex', hx1', hx2', he', hci'⟩ := hr'; subst ex'; subst he'; (have N' := news_add (by assumption) N' hx1' hx2'); (have hxn' := news_ne (by assumption) hx1'); clear hx1' hx2'); (have hci2 := Eq.trans hci' (by assumption)); clear hci'; (try k_sweep); (try dsimp only); (try k_fold)))
theorem kind1b (w : World) (cs : Scope) (hcs : cs = lawScope w) (sb : List Stmt) (hst : sb = forBody ((forBody (lawSt w 5)).getD 1 (.Pass default)))  :
  ∀ (p : Program) (loose : List PySem.Str) (mean : ExcName → Option Value) (mg mb : PySem.Str → Option Value) (dp un : Nat) (gd : Option (List Code)) (a : Addr) (ccd : Value) (cR cP cS : Addr) (outer : List Env) (A₀ : Around)
    (base h₀ : Heap) (L : Addr) (m : PySem.Str → Option Value) (news : List (Addr × Obj)) (Dt : Addr) (tv : List Value) (s : Shared) (Q : Flow → Shared → Prop) (E : Value → Shared → Prop),
    Below A₀ base outer h₀ → Fr h₀ L s.heap m → (Mine.kk.heap_1 w.params).In h₀ → News h₀ L s.heap ((Dt, LCg.lst tv) :: news) → Top p loose mean mg mb h₀ → dp + 12 < recursionLimit → un + 200 < cLine →
    ∀ (d : Int) (tk0 tp to : Tok) (o : Array UInt8) (os : List Int) (pl : Int), KBw.bInts o = os → os.length ≤ 1000 → 0 ≤ pl → pl < os.length → ∀ (n : Int), 0 ≤ n → n ≤ 8 → pl + 1 + n ≤ os.length → os.getD pl.toNat 0 = 128 + n → (n = 1 → 128 ≤ os.getD (pl + 1).toNat 0) → ∀ (l : List Int), (os.drop (pl + 1).toNat).take n.toNat = l → l.length ≤ 8 → KFB.value l = d → (l.length = 0 ∨ l.getD 0 0 ≠ 0) → (∀ p ∈ news, p.1 ≠ Dt) → tv.length ≤ 8 → m (PySem.Str.ofString "kind") = some (.int 1 tk0) → m (PySem.Str.ofString "octets") = some (.bytes o to) → m (PySem.Str.ofString "place") = some (.int pl tp) → m (PySem.Str.ofString "told") = some (.ref Dt) →
    (∀ (t' t2 : Tok) (h' : Heap) (tk' : Nat) (m' : PySem.Str → Option Value), Fr h₀ L h' m' → News h₀ L h' ((Dt, LCg.lst (tv ++ [.int d t'])) :: news) → m' (PySem.Str.ofString "place") = some (.int (pl + 1 + n) t2) → Kept [(PySem.Str.ofString "size"), (PySem.Str.ofString "place"), (PySem.Str.ofString "item")] m m' → Q .next { s with heap := h', toks := tk' }) →
    wpT (model PySem.Challenge.rw_vn0014_01.prog w) (ktrTop dp un gd (PySem.Str.ofString "law") cs L a ccd [(PySem.Str.ofString "rows", cR), (PySem.Str.ofString "plain", cP), (PySem.Str.ofString "shorts", cS)] outer) (execs sb (envX (PySem.Str.ofString "law") cs L a ccd [(PySem.Str.ofString "rows", cR), (PySem.Str.ofString "plain", cP), (PySem.Str.ofString "shorts", cS)])) Q E s := by
  k_fill
  (conv at hcs => rhs; whnf)
  (conv at hst => rhs; whnf)
  subst hcs
  subst hst
  intro p loose mean mg mb dp un gd a ccd cR cP cS outer A₀ base h₀ L m news Dt tv s Q E B F X N T hd hu d tk0 tp to o os pl ho hoz hp0 hp1 n hn0 hn8 hp2 h2 h3 l hcut hl8 hv h4 hDt htl hm1 hm2 hm3 hm4 hret
  have K0 : Kept [PySem.Str.ofString "size", PySem.Str.ofString "place", PySem.Str.ofString "item"] m (fun y => if y = PySem.Str.ofString "kind" then some (.int 1 tk0) else if y = PySem.Str.ofString "octets" then some (.bytes o to) else if y = PySem.Str.ofString "place" then some (.int pl tp) else if y = PySem.Str.ofString "told" then some (.ref Dt) else m y) := by
    rw [form4_eq hm1 hm2 hm3 hm4]
    exact fun _ _ => rfl
  replace F := fr_form4 F hm1 hm2 hm3 hm4
  refine wpT_execs (wpT_If ?_)
  refine wpT.of ?_
  k_steps
  refine wpT.of ?_
  k_steps
  have FF := (by assumption : Fr h₀ L _ _)
  have NN := (by assumption : News h₀ L _ (_ :: (Dt, LCg.lst tv) :: news))
  have XX := (by assumption : ∀ p ∈ (Dt, LCg.lst tv) :: news, p.1 ≠ _)
  have hD6 : _ ∧ _ := NN (Dt, LCg.lst tv) (.tail _ (.head _))
  dsimp only at hD6
  obtain ⟨hD6a, hD6b, hD6c⟩ := hD6
  refine append_at hD6a (fun h7 hs7 hD7 => ?_) (by rw [List.size_toArray]; exact Nat.le_trans htl (by decide))
  have F7 := FF.change hs7 hD6b hD6c
  subst hv
  have N7 := news_append NN XX hDt hs7 hD7
  clear NN FF hD6a hD6b hD6c hs7 hD7 XX
  k_steps
  refine wpT.of (wpAny_execs_nil ?_)
  exact hret _ _ _ _ _ (by assumption) (news_t1 (by assumption)) (by rfl) (kept_set (kept_set K0 (by decide +kernel)) (by decide +kernel))
end Mine
end

section
open PySem PySem.W PyProof.Rows PySem.Calls
set_option maxRecDepth 100000
set_option maxHeartbeats 8000000
namespace Mine
local macro_rules | `(tactic| k_room) => `(tactic| ktr_room)
theorem turn5 (w : World) (cs : Scope) (hcs : cs = lawScope w) (sb : List Stmt) (hst : sb = forBody ((forBody (lawSt w 5)).getD 1 (.Pass default)))  :
  ∀ (p : Program) (loose : List PySem.Str) (mean : ExcName → Option Value) (mg mb : PySem.Str → Option Value) (dp un : Nat) (gd : Option (List Code)) (a : Addr) (ccd : Value) (cR cP cS : Addr) (outer : List Env) (A₀ : Around)
    (base h₀ : Heap) (L : Addr) (m : PySem.Str → Option Value) (news : List (Addr × Obj)) (Dt : Addr) (tv : List Value) (s : Shared) (Q : Flow → Shared → Prop) (E : Value → Shared → Prop),
    Below A₀ base outer h₀ → Fr h₀ L s.heap m → (Mine.kk.heap_1 w.params).In h₀ → News h₀ L s.heap ((Dt, LCg.lst tv) :: news) → Top p loose mean mg mb h₀ → dp + 12 < recursionLimit → un + 200 < cLine →
    ∀ (kk : Nat) (d : Int) (tk0 tp to : Tok) (o : Array UInt8) (os rest : List Int) (pl : Int), kk = 0 ∨ kk = 1 → 0 ≤ d → d < 18446744073709551616 → KBw.bInts o = os → os.length ≤ 1000 → 0 ≤ pl → os.drop pl.toNat = piece kk d ++ rest → (∀ p ∈ news, p.1 ≠ Dt) → tv.length ≤ 8 → m (PySem.Str.ofString "kind") = some (.int (kk : Int) tk0) → m (PySem.Str.ofString "octets") = some (.bytes o to) → m (PySem.Str.ofString "place") = some (.int pl tp) → m (PySem.Str.ofString "told") = some (.ref Dt) →
    (∀ (t' t2 : Tok) (h' : Heap) (tk' : Nat) (m' : PySem.Str → Option Value), Fr h₀ L h' m' → News h₀ L h' ((Dt, LCg.lst (tv ++ [.int d t'])) :: news) → m' (PySem.Str.ofString "place") = some (.int (pl + (piece kk d).length) t2) → Kept [(PySem.Str.ofString "size"), (PySem.Str.ofString "place"), (PySem.Str.ofString "item")] m m' → Q .next { s with heap := h', toks := tk' }) →
    wpT (model PySem.Challenge.rw_vn0014_01.prog w) (ktrTop dp un gd (PySem.Str.ofString "law") cs L a ccd [(PySem.Str.ofString "rows", cR), (PySem.Str.ofString "plain", cP), (PySem.Str.ofString "shorts", cS)] outer) (execs sb (envX (PySem.Str.ofString "law") cs L a ccd [(PySem.Str.ofString "rows", cR), (PySem.Str.ofString "plain", cP), (PySem.Str.ofString "shorts", cS)])) Q E s := by
  intro p loose mean mg mb dp un gd a ccd cR cP cS outer A₀ base h₀ L m news Dt tv s Q E B F X N T hd hu kk d tk0 tp to o os rest pl hk h0 h1 ho hoz hp0 hdr hDt htl hm1 hm2 hm3 hm4 hret
  have pz := piece_len (k := kk) h0 h1
  have ln := pc_len hdr pz.1
  have g0 := pc_get hdr (i := 0) (by omega)
  have cu := pc_cut hdr
  rw [Nat.add_zero] at g0
  rcases hk with rfl | rfl
  · simp only [piece, if_true] at g0 cu ln pz hret
    have ce : compact d = compact d := rfl
    by_cases a1 : d < 253
    · have ce : compact d = [d] := by rw [compact, if_pos a1]
      rw [ce] at g0 cu ln hret
      simp only [List.length_singleton] at cu ln hret
      exact kind0a w cs hcs sb hst p loose mean mg mb dp un gd a ccd cR cP cS outer A₀ base h₀ L m news Dt tv s Q E B F X N T hd hu d tk0 tp to o os [] pl ⟨h0, a1⟩ ho hoz hp0 (by omega) g0 (by omega) cu hDt htl hm1 hm2 hm3 hm4 hret
    by_cases a2 : d < 65536
    · have ce : compact d = 253 :: KTBy.little 2 d := by rw [compact, if_neg a1, if_pos a2]
      rw [ce] at g0 cu ln hret
      simp only [List.length_cons, KTBy.little_length] at cu ln hret
      exact kind0b w cs hcs sb hst p loose mean mg mb dp un gd a ccd cR cP cS outer A₀ base h₀ L m news Dt tv s Q E B F X N T hd hu d tk0 tp to o os [] pl ⟨by omega, a2⟩ ho hoz hp0 (by omega) g0 (by omega) cu hDt htl hm1 hm2 hm3 hm4 hret
    by_cases a3 : d < 4294967296
    · have ce : compact d = 254 :: KTBy.little 4 d := by rw [compact, if_neg a1, if_neg a2, if_pos a3]
      rw [ce] at g0 cu ln hret
      simp only [List.length_cons, KTBy.little_length] at cu ln hret
      exact kind0c w cs hcs sb hst p loose mean mg mb dp un gd a ccd cR cP cS outer A₀ base h₀ L m news Dt tv s Q E B F X N T hd hu d tk0 tp to o os [] pl ⟨by omega, a3⟩ ho hoz hp0 (by omega) g0 (by omega) cu hDt htl hm1 hm2 hm3 hm4 hret
    · have ce : compact d = 255 :: KTBy.little 8 d := by rw [compact, if_neg a1, if_neg a2, if_neg a3]
      rw [ce] at g0 cu ln hret
      simp only [List.length_cons, KTBy.little_length] at cu ln hret
      exact kind0e w cs hcs sb hst p loose mean mg mb dp un gd a ccd cR cP cS outer A₀ base h₀ L m news Dt tv s Q E B F X N T hd hu d tk0 tp to o os [] pl ⟨by omega, h1⟩ ho hoz hp0 (by omega) g0 (by omega) cu hDt htl hm1 hm2 hm3 hm4 hret
  · simp only [piece, if_neg (show ¬ ((1 : Nat) = 0) by decide)] at g0 cu ln pz hret hdr
    have b8 := be_le8 h0 h1
    have bv := val_be h0
    have bl := be_lead h0
    by_cases a1 : (be d).length = 1 ∧ (be d).getD 0 0 < 128
    · rw [rlpOf, if_pos a1] at g0 cu ln hret hdr
      rw [a1.1] at cu ln hret
      exact kind1a w cs hcs sb hst p loose mean mg mb dp un gd a ccd cR cP cS outer A₀ base h₀ L m news Dt tv s Q E B F X N T hd hu d tk0 tp to o os pl ho hoz hp0 (by omega) (by rw [g0]; exact a1.2) (be d) (by
        obtain ⟨x, hx⟩ : ∃ x, be d = [x] := List.length_eq_one_iff.mp a1.1
        rw [g0, hx]; rfl) b8 bv bl (by omega) hDt htl hm1 hm2 hm3 hm4 hret
    · have g1 := fun (hi : 1 < (be d).length + 1) => pc_get hdr (i := 1) (by rw [rlpOf, if_neg a1]; exact hi)
      have hdr2 := hdr
      rw [rlpOf, if_neg a1] at g0 g1 cu ln hret hdr
      simp only [List.length_cons] at cu ln hret
      refine kind1b w cs hcs sb hst p loose mean mg mb dp un gd a ccd cR cP cS outer A₀ base h₀ L m news Dt tv s Q E B F X N T hd hu d tk0 tp to o os pl ho hoz hp0 (by omega) ((be d).length : Int) (by omega) (by omega) (by omega) (by rw [g0]; rfl) (fun hn => ?_) (be d) ?_ b8 bv bl hDt htl hm1 hm2 hm3 hm4 (fun t' t2 h' tk' m' F' N' e K' => hret t' t2 h' tk' m' F' N' (e.trans (by congr 2; push_cast; omega)) K')
      · have n1 : (be d).length = 1 := by omega
        rw [show (pl + 1).toNat = pl.toNat + 1 by omega, g1 (by omega)]
        show 128 ≤ (be d).getD 0 0
        exact Int.not_lt.mp fun x => a1 ⟨n1, x⟩
      · rw [show (pl + 1).toNat = pl.toNat + 1 by omega, Int.toNat_natCast, ← List.drop_drop, hdr]
        show ((be d) ++ rest).take (be d).length = be d
        rw [List.take_left]
end Mine
end

section
open PySem PySem.W PyProof.Rows PySem.Calls
set_option maxRecDepth 100000
set_option maxHeartbeats 8000000
namespace Mine
local macro_rules | `(tactic| k_room) => `(tactic| ktr_room)
theorem flat_take {ds : List Int} {pv : List Value} {o : Array UInt8} {kd : Nat → Nat} (R : Row ds pv o kd) : KBw.bInts o = restOf ds kd 0 := by
  rw [R.oct, restOf, List.drop_zero]
theorem loop5 (w : World) (cs : Scope) (hcs : cs = lawScope w) (st : Stmt) (hst : st = (forBody (lawSt w 5)).getD 1 (.Pass default)) :
  ∀ (p : Program) (loose : List PySem.Str) (mean : ExcName → Option Value) (mg mb : PySem.Str → Option Value) (dp un : Nat) (gd : Option (List Code)) (a : Addr) (ccd : Value) (cR cP cS : Addr) (outer : List Env) (A₀ : Around)
    (base h₀ : Heap) (L : Addr) (m : PySem.Str → Option Value) (news : List (Addr × Obj)) (Dt P : Addr) (q : Obj) (s : Shared) (Q : Flow → Shared → Prop) (E : Value → Shared → Prop),
    Below A₀ base outer h₀ → Fr h₀ L s.heap m → (Mine.kk.heap_1 w.params).In h₀ → News h₀ L s.heap ((Dt, LCg.lst []) :: (P, q) :: news) → Top p loose mean mg mb h₀ → dp + 12 < recursionLimit → un + 200 < cLine →
    ∀ (pv : List Value) (ds : List Int) (o : Array UInt8) (kd : Nat → Nat) (tp to : Tok), LstO q pv → Row ds pv o kd → (∀ i, kd i = 0 ∨ kd i = 1) → (∀ d ∈ ds, 0 ≤ d ∧ d < 18446744073709551616) → ds.length ≤ 8 → (∀ p ∈ (P, q) :: news, p.1 ≠ Dt) → m (PySem.Str.ofString "pattern") = some (.ref P) → m (PySem.Str.ofString "octets") = some (.bytes o to) → m (PySem.Str.ofString "place") = some (.int 0 tp) → m (PySem.Str.ofString "told") = some (.ref Dt) →
    (∀ (tv : List Value) (t2 : Tok) (h' : Heap) (tk' : Nat) (m' : PySem.Str → Option Value), Fr h₀ L h' m' → News h₀ L h' ((Dt, LCg.lst tv) :: (P, q) :: news) → IntsAre tv ds → m' (PySem.Str.ofString "place") = some (.int ((KBw.bInts o).length : Int) t2) → Kept [(PySem.Str.ofString "kind"), (PySem.Str.ofString "size"), (PySem.Str.ofString "place"), (PySem.Str.ofString "item")] m m' → Q .next { s with heap := h', toks := tk' }) →
    wpT (model PySem.Challenge.rw_vn0014_01.prog w) (ktrTop dp un gd (PySem.Str.ofString "law") cs L a ccd [(PySem.Str.ofString "rows", cR), (PySem.Str.ofString "plain", cP), (PySem.Str.ofString "shorts", cS)] outer) (exec st (envX (PySem.Str.ofString "law") cs L a ccd [(PySem.Str.ofString "rows", cR), (PySem.Str.ofString "plain", cP), (PySem.Str.ofString "shorts", cS)])) Q E s := by
  k_fill
  intro p loose mean mg mb dp un gd a ccd cR cP cS outer A₀ base h₀ L m news Dt P q s Q E B F X N T hd hu pv ds o kd tp to hq R hkd hds hz hDt hm1 hm2 hm3 hm4 hret
  have e : st = .For (forTgt st) (forIter st) (forBody st) [] (forPos st) := by rw [hst]; rfl
  rw [e]
  clear e
  have bd := fun (m : PySem.Str → Option Value) (news : List (Addr × Obj)) (tv : List Value) (s : Shared) (Q : Flow → Shared → Prop) (E : Value → Shared → Prop) F N => turn5 w cs hcs (forBody st) (by rw [hst]) p loose mean mg mb dp un gd a ccd cR cP cS outer A₀ base h₀ L m news Dt tv s Q E B F X N T hd hu
  have hT : forTgt st = forTgt ((forBody (lawSt w 5)).getD 1 (.Pass default)) := by rw [hst]
  have hG : forIter st = forIter ((forBody (lawSt w 5)).getD 1 (.Pass default)) := by rw [hst]
  generalize forTgt st = tgt at hT ⊢
  generalize forIter st = itr at hG ⊢
  generalize forPos st = ps
  generalize forBody st = body at bd ⊢
  clear hst
  (conv at hT => rhs; whnf)
  (conv at hG => rhs; whnf)
  subst hT
  subst hG
  revert bd
  (conv at hcs => rhs; whnf)
  subst hcs
  intro bd
  have K0 : Kept [PySem.Str.ofString "kind", PySem.Str.ofString "size", PySem.Str.ofString "place", PySem.Str.ofString "item"] m m := fun _ _ => rfl
  refine wpT_For ?_
  replace F := fr_form F hm1
  k_steps
  rw [← m_form hm1] at F
  obtain ⟨hqc, nq, hqd⟩ := hq
  have hLL : s.heap.IsList P pv.toArray := ⟨_, (N _ (.tail _ (.head _))).1, hqc, nq, hqd⟩
  refine wpAny_pyIter_list hLL ?_
  have ltI : ∀ (p : Addr × Obj), p ∈ (Dt, LCg.lst []) :: (P, q) :: news → @LT.lt Nat _ p.1 s.heap.objs.size := fun p hp => Heap.lt_size (N p hp).1
  have hos : (KBw.bInts o).length ≤ 1000 := by rw [flat_take R]; exact rest_len hds hz
  have hof := flat_take R
  generalize hOS : KBw.bInts o = os at hos hret hof
  refine seq_loop (I := s.heap.objs.size) (ax := P) (oax := q) (n := pv.toArray.size) (fun i m' nw => ∃ (tv : List Value) (pl : Int) (t2 : Tok), nw = (Dt, LCg.lst tv) :: (P, q) :: news ∧ Kept [PySem.Str.ofString "kind", PySem.Str.ofString "size", PySem.Str.ofString "place", PySem.Str.ofString "item"] m m' ∧ m' (PySem.Str.ofString "place") = some (.int pl t2) ∧ 0 ≤ pl ∧ pl ≤ os.length ∧ IntsAre tv (ds.take i) ∧ os.drop pl.toNat = restOf ds kd i)
    (Walks.list rfl _ P (Nat.ne_of_lt (ltI _ (.tail _ (.head _)))) pv.toArray) (fun i h st => by obtain ⟨o, q, _⟩ := st.1; exact ⟨o, q⟩) (fun i s' v Q' st hq => wpAny_pure hq) (fun i m' nw hj => by obtain ⟨tv, pl, t2, rfl, _⟩ := hj; exact .tail _ (.head _))
    (Nat.ne_of_gt F.ns.lt) (next_is_new F) (F.push _) (N.grown fun _ _ e => Heap.get?_push_of_some _ e) ⟨⟨_, Heap.get?_push_size _ rfl, rfl, rfl⟩, by obtain ⟨o', e1, e2⟩ := hLL; exact ⟨o', Heap.get?_push_of_some _ e1, e2⟩⟩ (fun p hp => Nat.ne_of_lt (ltI p hp)) ⟨[], 0, tp, rfl, K0, hm3, by omega, by omega, .nil, hof⟩ ?turn ?done
  case done =>
    rintro h tk m' nw F' N' ⟨tv, pl, t2, rfl, K', hp', hp0, hp1, hI, hdr⟩
    rw [List.size_toArray, R.len] at hI hdr
    rw [rest_end] at hdr
    rw [List.take_length] at hI
    have : os.length ≤ pl.toNat := List.drop_eq_nil_iff.mp hdr
    obtain rfl : pl = os.length := by omega
    exact hret tv t2 h tk m' F' N' hI hp' K'
  case turn =>
    rintro i v m' nw h tk oI hi hP0 ⟨tv, pl, t2, rfl, K', hp', hp0, hp1, hI, hdr⟩ off F2 N2
    rw [List.size_toArray, R.len] at hi
    obtain ⟨tkv, rfl⟩ := R.get i v (by simpa using hP0)
    rw [rest_cons hi] at hdr
    have hd1 := ds_at (P := fun d => 0 ≤ d ∧ d < 18446744073709551616) hds (by decide) i
    refine wpAny_assign_Name (wpAny_storeName_local rfl F2.ns (fun h2 hn hs => ?_) rfl)
    have F3 := F2.set hn hs
    have N3 := N2.set hs
    refine bd _ ((P, q) :: news ++ [(s.heap.objs.size, oI)]) tv _ _ _ F3 N3 (kd i) (ds.getD i 0) tkv t2 to o os _ pl (hkd i) hd1.1 hd1.2 hOS hos hp0 hdr (fun p hp => ?_) ?_ (by rfl) ?_ ?_ ?_ ?_
    · rcases List.mem_append.mp hp with hp | hp
      · exact hDt p hp
      · rw [List.mem_singleton.mp hp]
        exact (Nat.ne_of_gt (ltI _ (.head _)))
    · have := hI.length
      rw [List.length_take] at this
      omega
    · exact (K' _ (by decide +kernel)).trans hm2
    · exact hp'
    · exact (K' _ (by decide +kernel)).trans hm4
    · intro t' t3 h' tk' m3 F4 N4 hp4 K4
      have pl4 := pc_len hdr (piece_len hd1.1 hd1.2).1
      refine ⟨h', tk', m3, (Dt, LCg.lst (tv ++ [Value.int (ds.getD i 0) t'])) :: (P, q) :: news, rfl, F4, N4, fun p hp => ?_, tv ++ [Value.int (ds.getD i 0) t'], pl + (piece (kd i) (ds.getD i 0)).length, t3, rfl, fun z hz => ?_, hp4, by omega, by omega, ints_snoc hI hi, ?_⟩
      · rcases List.mem_cons.mp hp with rfl | hp
        · exact off (Dt, LCg.lst tv) (.head _)
        · exact off p (.tail _ hp)
      · refine (K4 z ?_).trans ((if_neg ?_).trans (K' z hz))
        · simp only [List.contains_cons, Bool.or_eq_false_iff] at hz ⊢
          exact hz.2
        · intro e
          rw [e] at hz
          exact absurd hz (by decide +kernel)
      · rw [show (pl + ((piece (kd i) (ds.getD i 0)).length : Int)).toNat = pl.toNat + (piece (kd i) (ds.getD i 0)).length by omega]
        exact pc_next hdr
end Mine
end

section
open PySem PySem.W PyProof.Rows PySem.Calls
set_option maxRecDepth 100000
set_option maxHeartbeats 8000000
namespace Mine
local macro_rules | `(tactic| k_room) => `(tactic| ktr_room)
theorem a5 (w : World) (cs : Scope) (hcs : cs = lawScope w) (st : Stmt) (hst : st = (forBody (lawSt w 5)).getD 0 (.Pass default)) :
  ∀ (p : Program) (loose : List PySem.Str) (mean : ExcName → Option Value) (mg mb : PySem.Str → Option Value) (dp un : Nat) (gd : Option (List Code)) (a : Addr) (ccd : Value) (cR cP cS : Addr) (outer : List Env) (A₀ : Around)
    (base h₀ : Heap) (L : Addr) (m : PySem.Str → Option Value) (news : List (Addr × Obj)) (s : Shared) (Q : Flow → Shared → Prop) (E : Value → Shared → Prop),
    Below A₀ base outer h₀ → Fr h₀ L s.heap m → (Mine.kk.heap_1 w.params).In h₀ → News h₀ L s.heap news → Top p loose mean mg mb h₀ → dp + 12 < recursionLimit → un + 200 < cLine →
    (∀ (Dt : Addr) (t2 : Tok) (h' : Heap) (tk' : Nat) (m' : PySem.Str → Option Value), Fr h₀ L h' m' → News h₀ L h' ((Dt, LCg.lst []) :: news) → (∀ p ∈ news, p.1 ≠ Dt) → m' (PySem.Str.ofString "place") = some (.int 0 t2) → m' (PySem.Str.ofString "told") = some (.ref Dt) → Kept [(PySem.Str.ofString "told"), (PySem.Str.ofString "place")] m m' → Q .next { s with heap := h', toks := tk' }) →
    wpAny (model PySem.Challenge.rw_vn0014_01.prog w) (ktrTop dp un gd (PySem.Str.ofString "law") cs L a ccd [(PySem.Str.ofString "rows", cR), (PySem.Str.ofString "plain", cP), (PySem.Str.ofString "shorts", cS)] outer) (exec st (envX (PySem.Str.ofString "law") cs L a ccd [(PySem.Str.ofString "rows", cR), (PySem.Str.ofString "plain", cP), (PySem.Str.ofString "shorts", cS)])) Q E s := by
  k_fill
  (conv at hcs => rhs; whnf)
  (conv at hst => rhs; whnf)
  subst hcs
  subst hst
  intro p loose mean mg mb dp un gd a ccd cR cP cS outer A₀ base h₀ L m news  s Q E B F X N T hd hu hret
  have K0 : Kept [PySem.Str.ofString "told", PySem.Str.ofString "place"] m m := fun _ _ => rfl
  have off : ∀ p ∈ news, p.1 < s.heap.objs.size := fun p hp => Heap.lt_size (N p hp).1
  k_steps
  rename_i l h4 l1 D2 h3 l2 h2 h1 h0 F' N'
  exact hret l _ _ _ _ F' (news_t1 N') (fun p hp => Nat.ne_of_lt (l1 p hp)) (by rfl) (by rfl) (kept_set (kept_set K0 (by decide +kernel)) (by decide +kernel))
end Mine
end

section
open PySem PySem.W PyProof.Rows PySem.Calls
set_option maxRecDepth 100000
set_option maxHeartbeats 8000000
namespace Mine
local macro_rules | `(tactic| k_room) => `(tactic| ktr_room)
theorem c5 (w : World) (cs : Scope) (hcs : cs = lawScope w) (st : Stmt) (hst : st = (forBody (lawSt w 5)).getD 2 (.Pass default)) :
  ∀ (p : Program) (loose : List PySem.Str) (mean : ExcName → Option Value) (mg mb : PySem.Str → Option Value) (dp un : Nat) (gd : Option (List Code)) (a : Addr) (ccd : Value) (cR cP cS : Addr) (outer : List Env) (A₀ : Around)
    (base h₀ : Heap) (L : Addr) (m : PySem.Str → Option Value) (news : List (Addr × Obj)) (Dt D : Addr) (tv ys : List Value) (s : Shared) (Q : Flow → Shared → Prop) (E : Value → Shared → Prop),
    Below A₀ base outer h₀ → Fr h₀ L s.heap m → (Mine.kk.heap_1 w.params).In h₀ → News h₀ L s.heap ((Dt, LCg.lst tv) :: (D, LCg.lst ys) :: news) → Top p loose mean mg mb h₀ → dp + 12 < recursionLimit → un + 200 < cLine →
    ∀ (ds : List Int) (o : Array UInt8) (os : List Int) (tp to : Tok), IntsAre tv ds → IntsAre ys ds → ds.length ≤ 8 → KBw.bInts o = os → os.length ≤ 1000 → m (PySem.Str.ofString "values") = some (.ref D) → m (PySem.Str.ofString "octets") = some (.bytes o to) → m (PySem.Str.ofString "place") = some (.int (os.length : Int) tp) → m (PySem.Str.ofString "told") = some (.ref Dt) →
    (∀ (h' : Heap) (tk' : Nat), Fr h₀ L h' m → News h₀ L h' ((Dt, LCg.lst tv) :: (D, LCg.lst ys) :: news) → Q .next { s with heap := h', toks := tk' }) →
    wpAny (model PySem.Challenge.rw_vn0014_01.prog w) (ktrTop dp un gd (PySem.Str.ofString "law") cs L a ccd [(PySem.Str.ofString "rows", cR), (PySem.Str.ofString "plain", cP), (PySem.Str.ofString "shorts", cS)] outer) (exec st (envX (PySem.Str.ofString "law") cs L a ccd [(PySem.Str.ofString "rows", cR), (PySem.Str.ofString "plain", cP), (PySem.Str.ofString "shorts", cS)])) Q E s := by
  k_fill
  (conv at hcs => rhs; whnf)
  (conv at hst => rhs; whnf)
  subst hcs
  subst hst
  intro p loose mean mg mb dp un gd a ccd cR cP cS outer A₀ base h₀ L m news Dt D tv ys s Q E B F X N T hd hu ds o os tp to hI1 hI2 hz ho hoz hm1 hm2 hm3 hm4 hret
  replace F := fr_form4 F hm1 hm2 hm3 hm4
  k_steps
  all_goals first
    | exact absurd rfl (by assumption)
    | (rw [form4_eq hm1 hm2 hm3 hm4] at F; exact hret _ _ F N)
end Mine
end

section
open PySem PySem.W PyProof.Rows PySem.Calls
set_option maxRecDepth 100000
set_option maxHeartbeats 8000000
namespace Mine
local macro_rules | `(tactic| k_room) => `(tactic| ktr_room)
local macro_rules | `(tactic| wtm_at "x getMethod bytes") => `(tactic| (k_here; with_reducible refine gm_join ?_))
local macro_rules | `(tactic| wtm_at "x call builtin:bytes.join") => `(tactic| (k_here; (with_reducible show wpAny _ _ (call (Value.builtin "bytes.join") [Value.bytes _ _, Value.ref _]) _ _ _); k_dflt (refine' join_call ?c1 ?c2 ?c3 ?_; (case c1 => exact News.isList (by k_asm) (by k_mem)); (case c2 => first | exact PF.b (by assumption) | assumption); (case c3 => omega); k_whole); intro c' t' k' hc'))
local macro_rules | `(tactic| wtm_at "x CompSrc") => `(tactic| (k_here; refine csx_stop ?_))
theorem news_more {h₀ h : Heap} {L : Addr} {x : Addr × Obj} {l : List (Addr × Obj)} (N : News h₀ L h l) (hm : x ∈ l) : News h₀ L h (x :: l) := fun p hp => by
  rcases List.mem_cons.mp hp with rfl | hp
  · exact N _ hm
  · exact N p hp
theorem mod2 (i : Nat) : Int.fmod (0 + (i : Int)) 2 = ((i % 2 : Nat) : Int) := by
  rw [Int.fmod_eq_emod_of_nonneg _ (by decide)]
  omega
theorem it5 (w : World) (cs : Scope) (hcs : cs = lawScope w) (it : Expr) (hit : it = forIter (lawSt w 5)) :
  ∀ (p : Program) (loose : List PySem.Str) (mean : ExcName → Option Value) (mg mb : PySem.Str → Option Value) (dp un : Nat) (gd : Option (List Code)) (a : Addr) (ccd : Value) (cR cP cS : Addr) (outer : List Env) (A₀ : Around)
    (base h₀ : Heap) (L : Addr) (m : PySem.Str → Option Value) (news : List (Addr × Obj)) (D D1 D2 : Addr) (ys ys1 ys2 : List Value) (ds : List Int) (oR oP oS : Obj) (s : Shared) (Q : Value → Shared → Prop) (E : Value → Shared → Prop),
    Below A₀ base outer h₀ → Fr h₀ L s.heap m → (Mine.kk.heap_1 w.params).In h₀ → News h₀ L s.heap ((D2, LCg.lst ys2) :: (D1, LCg.lst ys1) :: (D, LCg.lst ys) :: (cR, oR) :: (cP, oP) :: (cS, oS) :: news) → Top p loose mean mg mb h₀ → dp + 12 < recursionLimit → un + 200 < cLine →
    m (PySem.Str.ofString "values") = some (.ref D) → oS.data = .cell (some (.ref D1)) → oP.data = .cell (some (.ref D2)) → IntsAre ys ds → 1 ≤ ds.length → ds.length ≤ 8 → BA compact ys1 ds → BA (fun i => rlpOf (be i)) ys2 ds → PF ys1 → PF ys2 → (∀ i : Nat, (pcs ds i).length ≤ 1000) →
    (∀ (T T1 T2 T3 P1 P2 P3 : Addr) (o1 o2 o3 : Array UInt8) (u1 u2 u3 : Tok) (pv1 pv2 pv3 : List Value) (q1 q2 q3 : Obj) (h' : Heap) (tk' : Nat), Fr h₀ L h' m →
      News h₀ L h' ((T, { cls := .type "tuple", data := .seq #[.ref T1, .ref T2, .ref T3] }) :: (T1, { cls := .type "tuple", data := .seq #[.bytes o1 u1, .ref P1] }) :: (T2, { cls := .type "tuple", data := .seq #[.bytes o2 u2, .ref P2] }) :: (T3, { cls := .type "tuple", data := .seq #[.bytes o3 u3, .ref P3] }) :: (P1, q1) :: (P2, q2) :: (P3, q3) :: (D2, LCg.lst ys2) :: (D1, LCg.lst ys1) :: (D, LCg.lst ys) :: (cR, oR) :: (cP, oP) :: (cS, oS) :: news) →
      LstO q1 pv1 → LstO q2 pv2 → LstO q3 pv3 → Row ds pv1 o1 (fun _ => 0) → Row ds pv2 o2 (fun _ => 1) → Row ds pv3 o3 (fun i => i % 2) → Q (.ref T) { s with heap := h', toks := tk' }) →
    wpAny (model PySem.Challenge.rw_vn0014_01.prog w) (ktrTop dp un gd (PySem.Str.ofString "law") cs L a ccd [(PySem.Str.ofString "rows", cR), (PySem.Str.ofString "plain", cP), (PySem.Str.ofString "shorts", cS)] outer) (eval it (envX (PySem.Str.ofString "law") cs L a ccd [(PySem.Str.ofString "rows", cR), (PySem.Str.ofString "plain", cP), (PySem.Str.ofString "shorts", cS)])) Q E s := by
  k_fill
  (conv at hcs => rhs; whnf)
  (conv at hit => rhs; whnf)
  subst hcs
  subst hit
  intro p loose mean mg mb dp un gd a ccd cR cP cS outer A₀ base h₀ L m news D D1 D2 ys ys1 ys2 ds oR oP oS s Q E B F X N T hd hu hm hS hP hI hl1 hl8 ha1 ha2 pf1 pf2 hpz hret
  have hz1 := ha1.len
  have hz2 := ha2.len
  replace F := fr_form F hm
  k_steps
  unfold CSX
  refine LCg.CompSrc.range (by rfl) (by k_asm) (by k_asm) (by assumption) (small_one (by omega) (by omega) (by omega) (by omega)) (rangeSize_nat _ _) (by rw [PySem.sizeLine_eq]; omega) ?_
  intro g'
  dsimp only
  refine compRest_rel (fun i y => ∃ b t, y = .bytes b t ∧ KBw.bInts b = pcs ds i) trivial ?step ?fin _ 0 [] (Nat.zero_add _) rfl (fun j y hy => by simp at hy)
  case step =>
    intro i v I oI C oC Dx m₂ h tk ys' Q' E' hi hP' hC hx F N off ne hQ
    obtain ⟨t, rfl⟩ := hP'
    have N1 := news_more (news_more (news_more (news_more (news_more N (x := (D1, LCg.lst ys1)) (by k_dflt k_mem)) (x := (D2, LCg.lst ys2)) (by k_dflt k_mem)) (x := (cS, oS)) (by k_dflt k_mem)) (x := (cP, oP)) (by k_dflt k_mem)) (x := (C, oC)) (by k_dflt k_mem)
    have hi8 : i < ds.length := by omega
    have hB1 : (True : Prop) := trivial
    with_reducible refine el5 w _ ?e1 _ ?e2 _ ?e3 p loose mean mg mb dp un gd a ccd cR cP cS outer A₀ base h₀ L _ news _ _ _ B (by k_dflt trivial) X (by k_dflt trivial) T hd hu i C oC m₂ t D1 D2 ys1 ys2 ds oP oS _ F N1 hC hx hi8 hl8 hS hP ha1 ha2 fun b t' h' tk' F' N' hb => ?_
    case e1 => rfl
    case e2 => rfl
    case e3 => rfl
    exact hQ _ _ _ F' (news_t1 (news_t1 (news_t1 (news_t1 (news_t1 N'))))) ⟨b, t', rfl, hb⟩
  intro ys3 hy3 hr3
  intro D3 h3 tk3 F3 N3 o3
  simp only [LCg.Off1, and_true] at o3
  have hy3' : ys3.length = ds.length := by rw [hy3, Int.sub_zero, Int.toNat_natCast]
  have hb3 : ∀ v ∈ ys3, ∃ b t, v = .bytes b t ∧ b.size ≤ 1000 := by
    intro v hv
    obtain ⟨i, hi, e⟩ := List.getElem_of_mem hv
    obtain ⟨b, t, e2, hb⟩ := hr3 i v (by rw [List.getElem?_eq_getElem hi, e])
    exact ⟨b, t, e2, by rw [← KBw.ints_length, hb]; exact hpz i⟩
  k_steps
  unfold CSX
  refine LCg.CompSrc.range (by rfl) (by k_asm) (by k_asm) (by assumption) (small_one (by omega) (by omega) (by omega) (by omega)) (rangeSize_nat _ _) (by rw [PySem.sizeLine_eq]; omega) ?_
  intro g2
  dsimp only
  refine compRest_rel (fun i y => ∃ t, y = .int ((i % 2 : Nat) : Int) t) trivial ?step2 ?fin2 _ 0 [] (Nat.zero_add _) rfl (fun j y hy => by simp at hy)
  case step2 =>
    intro i v I oI C oC Dx m₂ h tk ys' Q' E' hi hP' hC hx F N off ne hQ
    obtain ⟨t, rfl⟩ := hP'
    clear off
    k_steps
    all_goals first
      | exact hQ _ _ _ (by assumption) (by assumption) ⟨_, by rw [mod2]⟩
  intro ys4 hy4 hr4
  intro D4 h4 tk4 F4 N4 o4
  simp only [LCg.Off1, and_true] at o4
  k_steps
  have hn : ((ds.length : Nat) : Int).toNat = ds.length := Int.toNat_natCast _
  refine hret _ _ _ _ _ _ _ _ _ _ _ _ _ _ _ _ _ _ _ _ _ (fr_back hm (by assumption)) (pick5 (by assumption)) ⟨rfl, _, rfl⟩ ⟨rfl, _, rfl⟩ ⟨rfl, _, rfl⟩ ⟨?_, ?_, ?_⟩ ⟨?_, ?_, ?_⟩ ⟨?_, ?_, ?_⟩
  · rw [rep_flat, List.length_replicate, hn]
  · exact fun i v hv => ⟨_, rep_get hv⟩
  · exact (by assumption : KBw.bInts _ = (ys1.map octs).flatten).trans (by rw [map_octs hz1 ha1.get]; rfl)
  · rw [rep_flat, List.length_replicate, hn]
  · exact fun i v hv => ⟨_, rep_get hv⟩
  · exact (by assumption : KBw.bInts _ = (ys2.map octs).flatten).trans (by rw [map_octs hz2 ha2.get]; rfl)
  · rw [hy4, Int.sub_zero, Int.toNat_natCast]
  · exact hr4
  · exact (by assumption : KBw.bInts _ = (ys3.map octs).flatten).trans (by
      rw [map_octs hy3' hr3]
      congr 1)
end Mine
end

section
open PySem PySem.W PyProof.Rows PySem.Calls
set_option maxRecDepth 100000
set_option maxHeartbeats 8000000
namespace Mine
local macro_rules | `(tactic| k_room) => `(tactic| ktr_room)
theorem a5o {A : Around} {tgt : Expr} {prog : Program} {w : World} {I T : Addr} {k : Nat} {v : Value} {s : Shared} {Q : Unit → Shared → Prop} {E : Value → Shared → Prop} (hn : ∃ x c p, tgt = .Tuple x c p) (h : s.heap.IsTupleIter I T k) (hq : Q () s) : wpAny (model prog w) A (letOwnedTupleGo tgt (.ref I) v) Q E s := by
  obtain ⟨x, c, p, rfl⟩ := hn
  obtain ⟨o, ho, hc, hd⟩ := h
  cases v with
  | ref a =>
    refine wpAny_bind (wpAny_load ho ?_)
    obtain ⟨oc, od, dat, sl⟩ := o
    cases hc
    cases hd
    exact wpAny_pure hq
  | _ => exact wpAny_pure hq
theorem asg2 {prog : Program} {w : World} {A : Around} {E : Value → Shared → Prop} {s : Shared} {env : Env} {h₀ : Heap} {L T : Addr} {m : PySem.Str → Option Value} {news : List (Addr × Obj)} {nx ny : PySem.Str} {p1 p2 pt : Pos} {c : Nat} {x y : Value} {Q : Unit → Shared → Prop}
    (hh : A.handled = none) (hkx : env.kindOf nx = some .local) (hky : env.kindOf ny = some .local) (hp : (env.scope.kind == .class || (env.scope.kind == .module && env.locals != env.globals)) = false) (hL : env.locals = L)
    (F : Fr h₀ L s.heap m) (N : News h₀ L s.heap news) (hT : s.heap.IsTuple T #[x, y])
    (h : ∀ h', Fr h₀ L h' (fun z => if z = ny then some y else if z = nx then some x else m z) → News h₀ L h' news → Q () { s with heap := h', toks := s.toks + 1 + 1 }) : wpAny (model prog w) A (assign (.Tuple [.Name nx p1, .Name ny p2] c pt) env (.ref T)) Q E s := by
  subst hL
  refine wpAny_assign_Tuple hh hT rfl rfl fun h₃ hx₃ => ?_
  have up : ∀ a o, s.heap.get? a = some o → h₃.get? a = some o := fun a o e => hx₃ a o (Nat.ne_of_lt (Heap.lt_size e)) e
  have F₃ : Fr h₀ env.locals h₃ m := ⟨F.ns.at' fun o e => up _ o e, fun b o e => up b o (F.keep b o e), F.above⟩
  have A₃ : News h₀ env.locals h₃ news := fun p hp => ⟨up _ _ (N p hp).1, (N p hp).2⟩
  show wpAny _ A (do holding [y] (assign (.Name nx p1) env x); do holding [] (assign (.Name ny p2) env y); pure ()) _ _ _
  refine wpAny_bind (wpAny_holding (wpAny_assign_Name (wpAny_storeName_local hkx F₃.ns (fun h₄ hn₄ hs₄ => ?_) hp)))
  have F₄ := F₃.set hn₄ hs₄
  have A₄ := A₃.set hs₄
  refine wpAny_bind (wpAny_holding (wpAny_assign_Name (wpAny_storeName_local hky F₄.ns (fun h₅ hn₅ hs₅ => wpAny_pure ?_) hp)))
  exact h _ (F₄.set hn₅ hs₅) (A₄.set hs₅)
theorem kept_to {l l' : List PySem.Str} {m m' : PySem.Str → Option Value} (k : Kept l m m') (h : ∀ z, l'.contains z = false → l.contains z = false) : Kept l' m m' := fun z hz => k z (h z hz)
theorem kept_tr {l : List PySem.Str} {m m' m'' : PySem.Str → Option Value} (k : Kept l m m') (k' : Kept l m' m'') : Kept l m m'' := fun z hz => (k' z hz).trans (k z hz)
theorem con_sub {l l' : List PySem.Str} (h : ∀ x ∈ l, x ∈ l') : ∀ z, l'.contains z = false → l.contains z = false := fun z hz => by
  rw [← Bool.not_eq_true, List.contains_iff_mem] at hz ⊢
  exact fun x => hz (h z x)
def row5S : List PySem.Str := [(PySem.Str.ofString "told"), (PySem.Str.ofString "place"), (PySem.Str.ofString "kind"), (PySem.Str.ofString "size"), (PySem.Str.ofString "item")]
theorem row5 (w : World) (cs : Scope) (hcs : cs = lawScope w) (sb : List Stmt) (hsb : sb = (forBody (lawSt w 5))) :
  ∀ (p : Program) (loose : List PySem.Str) (mean : ExcName → Option Value) (mg mb : PySem.Str → Option Value) (dp un : Nat) (gd : Option (List Code)) (a : Addr) (ccd : Value) (cR cP cS : Addr) (outer : List Env) (A₀ : Around)
    (base h₀ : Heap) (L : Addr) (m : PySem.Str → Option Value) (news : List (Addr × Obj)) (D P : Addr) (ys : List Value) (q : Obj) (s : Shared) (Q : Flow → Shared → Prop) (E : Value → Shared → Prop),
    Below A₀ base outer h₀ → Fr h₀ L s.heap m → (Mine.kk.heap_1 w.params).In h₀ → News h₀ L s.heap ((D, LCg.lst ys) :: (P, q) :: news) → Top p loose mean mg mb h₀ → dp + 12 < recursionLimit → un + 200 < cLine →
    ∀ (pv : List Value) (ds : List Int) (o : Array UInt8) (kd : Nat → Nat) (to : Tok), LstO q pv → Row ds pv o kd → (∀ i, kd i = 0 ∨ kd i = 1) → (∀ d ∈ ds, 0 ≤ d ∧ d < 18446744073709551616) → ds.length ≤ 8 → IntsAre ys ds → m (PySem.Str.ofString "values") = some (.ref D) → m (PySem.Str.ofString "pattern") = some (.ref P) → m (PySem.Str.ofString "octets") = some (.bytes o to) →
    (∀ (h' : Heap) (tk' : Nat) (m' : PySem.Str → Option Value), Fr h₀ L h' m' → News h₀ L h' ((D, LCg.lst ys) :: (P, q) :: news) → Kept row5S m m' → Q .next { s with heap := h', toks := tk' }) →
    wpT (model PySem.Challenge.rw_vn0014_01.prog w) (ktrTop dp un gd (PySem.Str.ofString "law") cs L a ccd [(PySem.Str.ofString "rows", cR), (PySem.Str.ofString "plain", cP), (PySem.Str.ofString "shorts", cS)] outer) (execs sb (envX (PySem.Str.ofString "law") cs L a ccd [(PySem.Str.ofString "rows", cR), (PySem.Str.ofString "plain", cP), (PySem.Str.ofString "shorts", cS)])) Q E s := by
  intro p loose mean mg mb dp un gd a ccd cR cP cS outer A₀ base h₀ L m news D P ys q s Q E B F X N T hd hu pv ds o kd to hq R hkd hds hz hI hm1 hm2 hm3 hret
  have e : sb = [(forBody (lawSt w 5)).getD 0 (.Pass default), (forBody (lawSt w 5)).getD 1 (.Pass default), (forBody (lawSt w 5)).getD 2 (.Pass default)] := by rw [hsb]; rfl
  rw [e]
  clear e
  have hos : (KBw.bInts o).length ≤ 1000 := by rw [flat_take R]; exact rest_len hds hz
  with_reducible refine wpT_execs (wpT.of (a5 w cs hcs _ rfl p loose mean mg mb dp un gd a ccd cR cP cS outer A₀ base h₀ L m _ s _ _ B F X N T hd hu fun Dt t2 h1 tk1 m1 F1 N1 off hp1 ht1 K1 => ?_))
  dsimp only
  with_reducible refine wpT_execs (loop5 w cs hcs _ rfl p loose mean mg mb dp un gd a ccd cR cP cS outer A₀ base h₀ L m1 ((D, LCg.lst ys) :: news) Dt P q _ _ _ B F1 X ?n1 T hd hu pv ds o kd t2 to hq R hkd hds hz ?n2 ?n3 ?n4 hp1 ht1 fun tv t3 h2 tk2 m2 F2 N2 hI2 hp2 K2 => ?_)
  case n1 => exact fun p hp => N1 p (by simp only [List.mem_cons] at hp ⊢; rcases hp with h | h | h | h <;> simp [h])
  case n2 => exact fun p hp => off p (by simp only [List.mem_cons] at hp ⊢; rcases hp with h | h | h <;> simp [h])
  case n3 => exact (K1 _ (by decide +kernel)).trans hm2
  case n4 => exact (K1 _ (by decide +kernel)).trans hm3
  dsimp only
  with_reducible refine wpT_execs (wpT.of (c5 w cs hcs _ rfl p loose mean mg mb dp un gd a ccd cR cP cS outer A₀ base h₀ L m2 ((P, q) :: news) Dt D tv ys _ _ _ B F2 X ?n1 T hd hu ds o _ t3 to hI2 hI hz rfl hos ?v1 ?v2 hp2 ?v3 fun h3 tk3 F3 N3 => ?_))
  case n1 => exact fun p hp => N2 p (by simp only [List.mem_cons] at hp ⊢; rcases hp with h | h | h | h <;> simp [h])
  case v1 => exact (K2 _ (by decide +kernel)).trans ((K1 _ (by decide +kernel)).trans hm1)
  case v2 => exact (K2 _ (by decide +kernel)).trans ((K1 _ (by decide +kernel)).trans hm3)
  case v3 => exact (K2 _ (by decide +kernel)).trans ht1
  exact wpT.of (wpAny_execs_nil (hret h3 tk3 m2 F3 (news_t1 N3) (kept_tr (kept_to K1 (con_sub (by decide +kernel))) (kept_to K2 (con_sub (by decide +kernel))))))
def st5S : List PySem.Str := [(PySem.Str.ofString "octets"), (PySem.Str.ofString "pattern"), (PySem.Str.ofString "told"), (PySem.Str.ofString "place"), (PySem.Str.ofString "kind"), (PySem.Str.ofString "size"), (PySem.Str.ofString "item")]
theorem st5 (w : World) (cs : Scope) (hcs : cs = lawScope w) :
  ∀ (p : Program) (loose : List PySem.Str) (mean : ExcName → Option Value) (mg mb : PySem.Str → Option Value) (dp un : Nat) (gd : Option (List Code)) (a : Addr) (ccd : Value) (cR cP cS : Addr) (outer : List Env) (A₀ : Around)
    (base h₀ : Heap) (L : Addr) (m : PySem.Str → Option Value) (news : List (Addr × Obj)) (D D1 D2 : Addr) (ys ys1 ys2 : List Value) (ds : List Int) (oR oP oS : Obj) (s : Shared) (Q : Flow → Shared → Prop) (E : Value → Shared → Prop),
    Below A₀ base outer h₀ → Fr h₀ L s.heap m → (Mine.kk.heap_1 w.params).In h₀ → News h₀ L s.heap ((D2, LCg.lst ys2) :: (D1, LCg.lst ys1) :: (D, LCg.lst ys) :: (cR, oR) :: (cP, oP) :: (cS, oS) :: news) → Top p loose mean mg mb h₀ → dp + 12 < recursionLimit → un + 200 < cLine →
    m (PySem.Str.ofString "values") = some (.ref D) → oS.data = .cell (some (.ref D1)) → oP.data = .cell (some (.ref D2)) → IntsAre ys ds → 1 ≤ ds.length → ds.length ≤ 8 → BA compact ys1 ds → BA (fun i => rlpOf (be i)) ys2 ds → PF ys1 → PF ys2 → (∀ d ∈ ds, 0 ≤ d ∧ d < 18446744073709551616) →
    (∀ (h' : Heap) (tk' : Nat) (m' : PySem.Str → Option Value), Fr h₀ L h' m' → News h₀ L h' ((D2, LCg.lst ys2) :: (D1, LCg.lst ys1) :: (D, LCg.lst ys) :: (cR, oR) :: (cP, oP) :: (cS, oS) :: news) → Kept st5S m m' → Q .next { s with heap := h', toks := tk' }) →
    wpT (model PySem.Challenge.rw_vn0014_01.prog w) (ktrTop dp un gd (PySem.Str.ofString "law") cs L a ccd [(PySem.Str.ofString "rows", cR), (PySem.Str.ofString "plain", cP), (PySem.Str.ofString "shorts", cS)] outer) (exec (lawSt w 5) (envX (PySem.Str.ofString "law") cs L a ccd [(PySem.Str.ofString "rows", cR), (PySem.Str.ofString "plain", cP), (PySem.Str.ofString "shorts", cS)])) Q E s := by
  intro p loose mean mg mb dp un gd a ccd cR cP cS outer A₀ base h₀ L m news D D1 D2 ys ys1 ys2 ds oR oP oS s Q E B F X N T hd hu hm hS hP hI hl1 hl8 ha1 ha2 pf1 pf2 hds hret
  have e : lawSt w 5 = .For (forTgt (lawSt w 5)) (forIter (lawSt w 5)) (forBody (lawSt w 5)) [] (forPos (lawSt w 5)) := by rfl
  rw [e]
  clear e
  have hpz : ∀ i : Nat, (pcs ds i).length ≤ 1000 := fun i => by
    have h := ds_at (P := fun d => 0 ≤ d ∧ d < 18446744073709551616) hds (by decide) i
    have l := piece_len (k := i % 2) h.1 h.2
    unfold pcs
    unfold piece at l
    omega
  have bd := fun (m : PySem.Str → Option Value) (news : List (Addr × Obj)) (D P : Addr) (ys : List Value) (q : Obj) (s : Shared) (Q : Flow → Shared → Prop) (E : Value → Shared → Prop) F N => row5 w cs hcs _ rfl p loose mean mg mb dp un gd a ccd cR cP cS outer A₀ base h₀ L m news D P ys q s Q E B F X N T hd hu
  have itr := fun (Q : Value → Shared → Prop) (E : Value → Shared → Prop) => it5 w cs hcs _ rfl p loose mean mg mb dp un gd a ccd cR cP cS outer A₀ base h₀ L m news D D1 D2 ys ys1 ys2 ds oR oP oS s Q E B F X N T hd hu hm hS hP hI hl1 hl8 ha1 ha2 pf1 pf2 hpz
  have hfs : ∀ x, foldedSetIterable (forIter (lawSt w 5)) (envX (PySem.Str.ofString "law") cs L a ccd [(PySem.Str.ofString "rows", cR), (PySem.Str.ofString "plain", cP), (PySem.Str.ofString "shorts", cS)]) x = pure x := by intro _; rfl
  generalize hT : forTgt (lawSt w 5) = tgt
  generalize forIter (lawSt w 5) = itx at itr hfs ⊢
  generalize forPos (lawSt w 5) = ps
  generalize forBody (lawSt w 5) = body at bd ⊢
  (conv at hT => lhs; whnf)
  subst hT
  revert bd itr hfs
  (conv at hcs => rhs; whnf)
  subst hcs
  intro itr hfs bd
  refine wpT_For (itr _ _ fun T0 T1 T2 T3 P1 P2 P3 o1 o2 o3 u1 u2 u3 pv1 pv2 pv3 q1 q2 q3 h1 tk1 F1 N1 lo1 lo2 lo3 R1 R2 R3 => ?_) hfs
  clear itr hfs
  have hTT : h1.IsTuple T0 #[.ref T1, .ref T2, .ref T3] := ⟨_, (N1 _ (.head _)).1, rfl, _, rfl⟩
  refine wpAny_pyIter_tuple hTT ?_
  have ltI : ∀ (p : Addr × Obj), p ∈ ((T0, ({ cls := .type "tuple", data := .seq #[.ref T1, .ref T2, .ref T3] } : Obj)) :: (T1, { cls := .type "tuple", data := .seq #[.bytes o1 u1, .ref P1] }) :: (T2, { cls := .type "tuple", data := .seq #[.bytes o2 u2, .ref P2] }) :: (T3, { cls := .type "tuple", data := .seq #[.bytes o3 u3, .ref P3] }) :: (P1, q1) :: (P2, q2) :: (P3, q3) :: (D2, LCg.lst ys2) :: (D1, LCg.lst ys1) :: (D, LCg.lst ys) :: (cR, oR) :: (cP, oP) :: (cS, oS) :: news) → @LT.lt Nat _ p.1 h1.objs.size := fun p hp => Heap.lt_size (N1 p hp).1
  have K0 : Kept st5S m m := fun _ _ => rfl
  refine seq_loop (I := h1.objs.size) (ax := T0) (oax := ({ cls := .type "tuple", data := .seq #[.ref T1, .ref T2, .ref T3] } : Obj)) (n := 3) (fun i m' nw => Kept st5S m m' ∧ nw = ((T0, ({ cls := .type "tuple", data := .seq #[.ref T1, .ref T2, .ref T3] } : Obj)) :: (T1, { cls := .type "tuple", data := .seq #[.bytes o1 u1, .ref P1] }) :: (T2, { cls := .type "tuple", data := .seq #[.bytes o2 u2, .ref P2] }) :: (T3, { cls := .type "tuple", data := .seq #[.bytes o3 u3, .ref P3] }) :: (P1, q1) :: (P2, q2) :: (P3, q3) :: (D2, LCg.lst ys2) :: (D1, LCg.lst ys1) :: (D, LCg.lst ys) :: (cR, oR) :: (cP, oP) :: (cS, oS) :: news))
    (Walks.tuple rfl _ T0 (Nat.ne_of_lt (ltI _ (.head _))) #[.ref T1, .ref T2, .ref T3]) (fun i h st => by obtain ⟨o, q, _⟩ := st.1; exact ⟨o, q⟩) (fun i s' v Q' st hq => a5o ⟨_, _, _, rfl⟩ st.1 hq) (fun i m' nw hj => by obtain ⟨_, rfl⟩ := hj; exact .head _)
    (Nat.ne_of_gt F1.ns.lt) (next_is_new F1) (F1.push _) (N1.grown fun _ _ e => Heap.get?_push_of_some _ e) ⟨⟨_, Heap.get?_push_size _ rfl, rfl, rfl⟩, hTT.push _⟩ (fun p hp => Nat.ne_of_lt (ltI p hp)) ⟨K0, rfl⟩ ?turn ?done
  case done =>
    rintro h tk m' nw F' N' ⟨K', rfl⟩
    exact hret h tk m' F' (fun p hp => N' p (by simp only [List.mem_cons] at hp ⊢; rcases hp with h | h | h | h | h | h | h <;> simp [h])) K'
  case turn =>
    rintro i v m' nw h tk oI hi hP0 ⟨K', rfl⟩ off F2 N2
    have split : ∃ Ti o u P q pv kd, v = .ref Ti ∧ (Ti, ({ cls := .type "tuple", data := .seq #[.bytes o u, .ref P] } : Obj)) ∈ ((T0, ({ cls := .type "tuple", data := .seq #[.ref T1, .ref T2, .ref T3] } : Obj)) :: (T1, { cls := .type "tuple", data := .seq #[.bytes o1 u1, .ref P1] }) :: (T2, { cls := .type "tuple", data := .seq #[.bytes o2 u2, .ref P2] }) :: (T3, { cls := .type "tuple", data := .seq #[.bytes o3 u3, .ref P3] }) :: (P1, q1) :: (P2, q2) :: (P3, q3) :: (D2, LCg.lst ys2) :: (D1, LCg.lst ys1) :: (D, LCg.lst ys) :: (cR, oR) :: (cP, oP) :: (cS, oS) :: news) ∧ (P, q) ∈ ((T0, ({ cls := .type "tuple", data := .seq #[.ref T1, .ref T2, .ref T3] } : Obj)) :: (T1, { cls := .type "tuple", data := .seq #[.bytes o1 u1, .ref P1] }) :: (T2, { cls := .type "tuple", data := .seq #[.bytes o2 u2, .ref P2] }) :: (T3, { cls := .type "tuple", data := .seq #[.bytes o3 u3, .ref P3] }) :: (P1, q1) :: (P2, q2) :: (P3, q3) :: (D2, LCg.lst ys2) :: (D1, LCg.lst ys1) :: (D, LCg.lst ys) :: (cR, oR) :: (cP, oP) :: (cS, oS) :: news) ∧ LstO q pv ∧ Row ds pv o kd ∧ (∀ i, kd i = 0 ∨ kd i = 1) := by
      have : i = 0 ∨ i = 1 ∨ i = 2 := by omega
      rcases this with rfl | rfl | rfl
      · exact ⟨T1, o1, u1, P1, q1, pv1, _, by simpa using hP0.symm, by simp, by simp, lo1, R1, fun _ => .inl rfl⟩
      · exact ⟨T2, o2, u2, P2, q2, pv2, _, by simpa using hP0.symm, by simp, by simp, lo2, R2, fun _ => .inr rfl⟩
      · exact ⟨T3, o3, u3, P3, q3, pv3, _, by simpa using hP0.symm, by simp, by simp, lo3, R3, fun i => by omega⟩
    obtain ⟨Ti, o, u, P, q, pv, kd, rfl, hTi, hPi, lo, R, hkd⟩ := split
    have hTT2 : h.IsTuple Ti #[.bytes o u, .ref P] := ⟨_, (N2 _ (List.mem_append_left _ hTi)).1, rfl, _, rfl⟩
    refine asg2 rfl rfl rfl rfl rfl F2 N2 hTT2 fun h3 F3 N3 => ?_
    refine bd _ (((T0, ({ cls := .type "tuple", data := .seq #[.ref T1, .ref T2, .ref T3] } : Obj)) :: (T1, { cls := .type "tuple", data := .seq #[.bytes o1 u1, .ref P1] }) :: (T2, { cls := .type "tuple", data := .seq #[.bytes o2 u2, .ref P2] }) :: (T3, { cls := .type "tuple", data := .seq #[.bytes o3 u3, .ref P3] }) :: (P1, q1) :: (P2, q2) :: (P3, q3) :: (D2, LCg.lst ys2) :: (D1, LCg.lst ys1) :: (D, LCg.lst ys) :: (cR, oR) :: (cP, oP) :: (cS, oS) :: news) ++ [(h1.objs.size, oI)]) D P ys q _ _ _ F3 (fun p hp => ?sub) pv ds o kd u lo R hkd hds hl8 hI ?v1 ?v2 ?v3 fun h4 tk4 m4 F4 N4 K4 => ?_
    case sub =>
      rcases List.mem_cons.mp hp with rfl | hp
      · exact N3 _ (List.mem_append_left _ (by simp))
      rcases List.mem_cons.mp hp with rfl | hp
      · exact N3 _ (List.mem_append_left _ hPi)
      · exact N3 _ hp
    case v1 => exact (K' _ (by decide +kernel)).trans hm
    case v2 => rfl
    case v3 => rfl
    exact ⟨h4, tk4, m4, ((T0, ({ cls := .type "tuple", data := .seq #[.ref T1, .ref T2, .ref T3] } : Obj)) :: (T1, { cls := .type "tuple", data := .seq #[.bytes o1 u1, .ref P1] }) :: (T2, { cls := .type "tuple", data := .seq #[.bytes o2 u2, .ref P2] }) :: (T3, { cls := .type "tuple", data := .seq #[.bytes o3 u3, .ref P3] }) :: (P1, q1) :: (P2, q2) :: (P3, q3) :: (D2, LCg.lst ys2) :: (D1, LCg.lst ys1) :: (D, LCg.lst ys) :: (cR, oR) :: (cP, oP) :: (cS, oS) :: news), rfl, F4, news_t1 (news_t1 N4), off, kept_tr (kept_set (kept_set K' (by decide +kernel)) (by decide +kernel)) (kept_to K4 (con_sub (by decide +kernel))), rfl⟩
end Mine
end

section
open PySem PySem.W PyProof.Rows PySem.Calls
set_option maxRecDepth 100000
set_option maxHeartbeats 4000000
namespace Mine
section
variable {prog : Program} {w : World} {A : Around} {s : Shared} {env : Env} {outer : List Env} {h₀ h : Heap} {L e : Addr} {m : PySem.Str → Option Value} {x : PySem.Str} {np : Pos} {b₀ : Stmt} {suite : List Stmt} {pos : Pos} {news : List (Addr × Obj)} {Q : Flow → Shared → Prop}
theorem news_app1 {h₀ h h7 : Heap} {L Dt : Addr} {tv : List Value} {v : Value} {news : List (Addr × Obj)} (N : News h₀ L h ((Dt, LCg.lst tv) :: news)) (hDt : ∀ p ∈ news, p.1 ≠ Dt) (hs : Heap.SameBut Dt h h7)
    (hD : h7.get? Dt = some { cls := .type "list", data := .seq (tv.toArray.push v) (tv.length + 1) }) : News h₀ L h7 ((Dt, LCg.lst (tv ++ [v])) :: news) := fun p hp => by
  rcases List.mem_cons.mp hp with rfl | hp
  · exact ⟨hD.trans (congrArg some (LCg.lst_snoc tv v)), (N _ (.head _)).2⟩
  · exact ⟨hs.extBut _ _ (hDt p hp) (N p (.tail _ hp)).1, (N p (.tail _ hp)).2⟩
/-- what a caught exception leaves -/
theorem caught_come {cls : Value} (hA : A.frames = some (env :: outer)) (hf : env.frame = some L) (F : Fr h₀ L h m) (hsm : h.UpToSlots s.heap) (R : RaisedN h₀ (env :: outer) e cls news s.heap)
    (k : ∀ h₅ o B a0, Fr h₀ L h₅ m → h₅.get? e = some o → o.cls = cls → Heap.FlyingW B (env :: outer) e cls a0 h₅ → (∀ h₆, Heap.FlyingW B (env :: outer) e cls a0 h₆ → h₅.UpToSlots h₆ → Fr h₀ L h₆ m ∧ News h₀ L h₆ news) →
      wpAny (model prog w) A (handleBy (.ref e) env [.ExceptHandler (some (.Name x np)) none (b₀ :: suite) pos]) Q NoE { s with heap := h₅ }) :
    wpAny (model prog w) A (noteFrame (.ref e) env) (fun _ s₂ => wpAny (model prog w) A (setFlight (.ref e) none) (fun _ s₃ =>
      wpAny (model prog w) A (handleBy (.ref e) env [.ExceptHandler (some (.Name x np)) none (b₀ :: suite) pos]) Q NoE s₃) NoE s₂) NoE s := by
  obtain ⟨B, a0, hB, hl, hfl⟩ := R
  have hL : B.get? L = none := by
    obtain ⟨_, ⟨L', _, hf', hn', _⟩, _⟩ := hfl.2.2.1
    obtain rfl : L = L' := Option.some.inj (hf.symm.trans hf')
    exact hn'
  refine wpAny_looks_onW hA hf hfl fun h4 held4 sm4 => wpAny_landsW held4 fun h5 fl5 sm5 => ?_
  have sm := hsm.trans (sm4.trans sm5)
  have base5 := flyingW_base hB fl5
  obtain ⟨o, ho, hoc⟩ := base5.there
  refine k h5 o B a0 (F.of_stays base5.1 sm) ho hoc fl5 fun h6 fl6 sm6 => ⟨F.of_stays (flyingW_base hB fl6).1 (sm.trans sm6), fun q hq => ⟨fl6.1 _ _ (hl q hq).1, fun z => ?_, (hl q hq).2⟩⟩
  have := (hl q hq).1
  rw [z, hL] at this
  cases this
/-- a class of the builtins -/
theorem caught_law {X T' : String} (hA : A.frames = some (env :: outer)) (hf : env.frame = some L) (F : Fr h₀ L h m) (hsm : h.UpToSlots s.heap) (R : RaisedN h₀ (env :: outer) e (.type X) news s.heap)
    (hexc : isSubtype (.type T') (.type "BaseException") = pure true) (hnt : isSubtype (.type ((Manifest.find? T').elim "type" fun y => y.metatype)) (.type "tuple") = pure false) (hsub : isSubtype (.type X) (.type T') = pure true)
    (hn : ∀ (s₁ : Shared) (Q' : Value → Shared → Prop) (E' : Value → Shared → Prop), Fr h₀ L s₁.heap m → Q' (.type T') s₁ → wpAny (model prog w) (A.mark (some (.ref e))) (eval (.Name x np) env) Q' E' s₁)
    (k : ∀ h', Fr h₀ L h' m → News h₀ L h' news → wpAny (model prog w) (A.mark (some (.ref e))) (execs (b₀ :: suite) env) Q NoE { s with heap := h' }) :
    wpAny (model prog w) A (noteFrame (.ref e) env) (fun _ s₂ => wpAny (model prog w) A (setFlight (.ref e) none) (fun _ s₃ =>
      wpAny (model prog w) A (handleBy (.ref e) env [.ExceptHandler (some (.Name x np)) none (b₀ :: suite) pos]) Q NoE s₃) NoE s₂) NoE s := by
  refine caught_come hA hf F hsm R fun h5 o B a0 F5 ho hoc fl5 nx => ?_
  refine wpAny_handleBy_builtin (X := X) (T := T') (b := true) hexc hnt hsub (hn _ _ _ F5 ⟨rfl, ⟨o, ho, hoc⟩, lands_againW fl5 fun h6 fl6 sm6 => ?_⟩)
  exact wpAny_passesOwnAt PassesOwnAt.never (k h6 (nx h6 fl6 sm6).1 (nx h6 fl6 sm6).2)
/-- a class of the program's own -/
theorem caught_own {C N : Addr} {nm qn : PySem.Str} {bs bm : List Value} {hdct : Bool} {sn : List PySem.Str} {sub : List Value} {ab : Bool} {col : Option Bool} {dd : Option Addr} {k0 k1 k2 k3 k5 : Option Value} {newId : String}
    (hA : A.frames = some (env :: outer)) (hf : env.frame = some L) (F : Fr h₀ L h m) (hsm : h.UpToSlots s.heap) (R : RaisedN h₀ (env :: outer) e (.ref C) news s.heap)
    (hC : h₀.get? C = some (excClassObj nm qn C N bs bm hdct sn sub ab col dd k0 k1 k2 k3 k5 newId)) (hb : bm.contains (.type "BaseException") = true)
    (hn : ∀ (s₁ : Shared) (Q' : Value → Shared → Prop) (E' : Value → Shared → Prop), Fr h₀ L s₁.heap m → Q' (.ref C) s₁ → wpAny (model prog w) (A.mark (some (.ref e))) (eval (.Name x np) env) Q' E' s₁)
    (k : ∀ h', Fr h₀ L h' m → News h₀ L h' news → wpAny (model prog w) (A.mark (some (.ref e))) (execs (b₀ :: suite) env) Q NoE { s with heap := h' }) :
    wpAny (model prog w) A (noteFrame (.ref e) env) (fun _ s₂ => wpAny (model prog w) A (setFlight (.ref e) none) (fun _ s₃ =>
      wpAny (model prog w) A (handleBy (.ref e) env [.ExceptHandler (some (.Name x np)) none (b₀ :: suite) pos]) Q NoE s₃) NoE s₂) NoE s := by
  refine caught_come hA hf F hsm R fun h5 o B a0 F5 ho hoc fl5 nx => ?_
  refine wpAny_handleBy_cons (codeAny_handlers_test (hn _ _ _ F5 ?_)) (by intro q; cases q)
  refine wpAny_excMatches_sub_self (F5.keep _ _ hC) ho hoc hb (codeAny_handlers_suite ?_)
  refine lands_againW fl5 fun h6 fl6 sm6 => ?_
  exact wpAny_passesOwnAt PassesOwnAt.never (k h6 (nx h6 fl6 sm6).1 (nx h6 fl6 sm6).2)
end
end Mine
end

section
open PySem PySem.W PyProof.Rows PySem.Calls
set_option maxRecDepth 100000
set_option maxHeartbeats 8000000
namespace Mine
local macro_rules | `(tactic| k_room) => `(tactic| ktr_room)
theorem st6 (w : World) (cs : Scope) (hcs : cs = lawScope w) (st : Stmt) (hst : st = lawSt w 6) :
  ∀ (p : Program) (loose : List PySem.Str) (mean : ExcName → Option Value) (mg mb : PySem.Str → Option Value) (dp un : Nat) (gd : Option (List Code)) (a : Addr) (ccd : Value) (cR cP cS : Addr) (outer : List Env) (A₀ : Around)
    (h₀ : Heap) (L : Addr) (m : PySem.Str → Option Value) (news : List (Addr × Obj)) (s : Shared) (Q : Flow → Shared → Prop),
    Below A₀ h₀ outer h₀ → Fr h₀ L s.heap m → (Mine.kk.heap_1 w.params).In h₀ → News h₀ L s.heap news → Top p loose mean mg mb h₀ → dp + 12 < recursionLimit → un + 200 < cLine →
    (∀ (Rf : Addr) (h' : Heap) (tk' : Nat) (m' : PySem.Str → Option Value), Fr h₀ L h' m' → News h₀ L h' ((Rf, LCg.lst []) :: news) → (∀ p ∈ news, p.1 ≠ Rf) → m' (PySem.Str.ofString "refused") = some (.ref Rf) → Kept [(PySem.Str.ofString "refused")] m m' → Q .next { s with heap := h', toks := tk' }) →
    wpT (model PySem.Challenge.rw_vn0014_01.prog w) (ktrTop dp un gd (PySem.Str.ofString "law") cs L a ccd [(PySem.Str.ofString "rows", cR), (PySem.Str.ofString "plain", cP), (PySem.Str.ofString "shorts", cS)] outer) (exec st (envX (PySem.Str.ofString "law") cs L a ccd [(PySem.Str.ofString "rows", cR), (PySem.Str.ofString "plain", cP), (PySem.Str.ofString "shorts", cS)])) Q NoE s := by
  k_fill
  (conv at hcs => rhs; whnf)
  (conv at hst => rhs; whnf)
  subst hcs
  subst hst
  intro p loose mean mg mb dp un gd a ccd cR cP cS outer A₀ h₀ L m news  s Q B F X N T hd hu hret
  have K0 : Kept [PySem.Str.ofString "refused"] m m := fun _ _ => rfl
  refine wpT.of ?_
  k_steps
  rename_i l h4 l1 h3 F' N'
  exact hret _ _ _ _ (by assumption) (by assumption) (fun p hp => Nat.ne_of_lt (l1 p hp)) (by rfl) (kept_set K0 (by decide +kernel))
end Mine
end

section
open PySem PySem.W PyProof.Rows PySem.Calls
set_option maxRecDepth 100000
set_option maxHeartbeats 8000000
namespace Mine
local macro_rules | `(tactic| k_room) => `(tactic| ktr_room)
local macro_rules | `(tactic| wtm_at "x binaryOp Add bytes bytes") => `(tactic| (k_here; refine csx_stop ?_))
theorem st7 (w : World) (cs : Scope) (hcs : cs = lawScope w) (st : Stmt) (hst : st = lawSt w 7) :
  ∀ (p : Program) (loose : List PySem.Str) (mean : ExcName → Option Value) (mg mb : PySem.Str → Option Value) (dp un : Nat) (gd : Option (List Code)) (a : Addr) (ccd : Value) (cR cP cS : Addr) (outer : List Env) (A₀ : Around)
    (h₀ : Heap) (L : Addr) (m : PySem.Str → Option Value) (news : List (Addr × Obj)) (Rf D1 : Addr) (rv ys1 : List Value) (ds : List Int) (oS : Obj) (s : Shared) (Q : Flow → Shared → Prop),
    Below A₀ h₀ outer h₀ → Fr h₀ L s.heap m → (Mine.kk.heap_1 w.params).In h₀ → News h₀ L s.heap ((Rf, LCg.lst rv) :: (D1, LCg.lst ys1) :: (cS, oS) :: news) → Top p loose mean mg mb h₀ → dp + 12 < recursionLimit → un + 200 < cLine →
    oS.data = .cell (some (.ref D1)) → BA compact ys1 ds → 1 ≤ ds.length → ds.length ≤ 8 → (∀ d ∈ ds, 0 ≤ d ∧ d < 18446744073709551616) → m (PySem.Str.ofString "refused") = some (.ref Rf) → rv.length ≤ 3 → (∀ p ∈ (D1, LCg.lst ys1) :: (cS, oS) :: news, p.1 ≠ Rf) →
    (∀ (t : Tok) (h' : Heap) (tk' : Nat), Fr h₀ L h' m → News h₀ L h' ((Rf, LCg.lst (rv ++ [.int 0 t])) :: (D1, LCg.lst ys1) :: (cS, oS) :: news) → Q .next { s with heap := h', toks := tk' }) →
    wpT (model PySem.Challenge.rw_vn0014_01.prog w) (ktrTop dp un gd (PySem.Str.ofString "law") cs L a ccd [(PySem.Str.ofString "rows", cR), (PySem.Str.ofString "plain", cP), (PySem.Str.ofString "shorts", cS)] outer) (exec st (envX (PySem.Str.ofString "law") cs L a ccd [(PySem.Str.ofString "rows", cR), (PySem.Str.ofString "plain", cP), (PySem.Str.ofString "shorts", cS)])) Q NoE s := by
  k_fill
  (conv at hcs => rhs; whnf)
  (conv at hst => rhs; whnf)
  subst hcs
  subst hst
  intro p loose mean mg mb dp un gd a ccd cR cP cS outer A₀ h₀ L m news Rf D1 rv ys1 ds oS s Q B F X N T hd hu hS ha1 hl1 hl8 hds hm hrv off hret
  replace F := fr_form F hm
  have hdd := ds_at (P := fun d => 0 ≤ d ∧ d < 18446744073709551616) hds (by decide) 0
  refine wpT_Try ?_
  refine wpT_execs (wpT_Expr (wpT_CallName1 (K := Mine.kk.heap_1 w.params) (fv := .ref 613) rfl (by kernel_rfl) ?_))
  k_steps
  refine ⟨rfl, ?_⟩
  k_steps
  unfold CSX
  rename_i b t hb
  refine KBa.add_K hb (KBw.ints_list _) (by have := compact_len (i := ds.getD (Int.toNat 0) 0); simp only [List.length_map, List.length_cons, List.length_nil]; omega) ?_
  intro t2 k2 hb2
  dsimp only
  refine ⟨by k_in, ?_⟩
  refine fb_more w _ _ (ds.getD 0 0) hdd.1 hdd.2 hb2 _ _ _ _ _ _ _ _ _ _ _ _ _ _ _ _ _ _ _ _ _ _ _ (by k_asm) (by k_asm) (by k_asm) N (by k_asm) rfl (by omega) (by omega) ?_
  intro e h6 g tk6 F6 R6 U6
  refine caught_law rfl rfl F6 U6 R6 PySem.F.isExc_ValueError PySem.F.notTuple_ValueError (by rw [PySem.W.Fast.te16098473122060591676]; kernel_rfl) ?hn ?k
  case hn =>
    intro s1 Q1 E1 F1 hQ1
    k_steps
    exact hQ1
  case k =>
    intro h7 F7 N7
    k_steps
    have hD := N7 (Rf, LCg.lst rv) (.head _)
    dsimp only at hD
    obtain ⟨hDa, hDb, hDc⟩ := hD
    refine append_at hDa (fun h8 hs8 hD8 => ?_) (by rw [List.size_toArray]; exact Nat.le_trans hrv (by decide))
    have F8 := F7.change hs8 hDb hDc
    have N8 := news_app1 N7 off hs8 hD8
    clear F7 N7 hDa hDb hDc hs8 hD8 N
    k_steps
    rw [← m_form hm] at F8
    exact hret _ _ _ F8 N8
end Mine
end

section
open PySem PySem.W PyProof.Rows PySem.Calls
set_option maxRecDepth 100000
set_option maxHeartbeats 8000000
namespace Mine
local macro_rules | `(tactic| k_room) => `(tactic| ktr_room)
theorem neg_cases {i : Int} (h : i < 0) (h2 : -5 ≤ i) : i = -1 ∨ i = -2 ∨ i = -3 ∨ i = -4 ∨ i = -5 := by omega
local macro_rules | `(tactic| wtm_at "x call builtin:str.format") => `(tactic| (k_here; (with_reducible show wpAny _ _ (call _ [_, Value.int ?i _]) _ _ _); k_dflt (obtain h' | h' | h' | h' | h' := neg_cases (by assumption : _ < (0 : Int)) (by assumption) <;> subst h')))
theorem tbn (w : World) (i : Int) (t : Tok) (hi : i < 0) (hi2 : -5 ≤ i) : RaiseC w 2 30 56 [.int i t] (.type "ValueError") := by
  unfold RaiseC
  k_fill
  intro p loose mean mg mb dp un gd cn cs a ccd cl outer A₀ base h₀ L m news s Q E B F X N T hk hd hu hret
  obtain ⟨ck, cnm, cg, cc, cm⟩ := cs
  change ck = _ at hk
  subst hk
  refine wpAny_call ?_
  k_dflt k_enter
  k_steps
  all_goals first
    | exact hret _ _ _ _ (by assumption) (by assumption) (by assumption)
    | (exfalso; omega)
end Mine
end

section
open PySem PySem.W PyProof.Rows PySem.Calls
set_option maxRecDepth 100000
set_option maxHeartbeats 8000000
namespace Mine
local macro_rules | `(tactic| k_room) => `(tactic| ktr_room)
theorem mod5 (x : Int) : -1 - x.fmod 5 < 0 ∧ -5 ≤ -1 - x.fmod 5 := by
  rw [Int.fmod_eq_emod_of_nonneg _ (by decide)]
  omega
theorem fr_un2 {h₀ h : Heap} {L : Addr} {m : PySem.Str → Option Value} {x1 x2 : PySem.Str} {v1 v2 : Value} (e1 : m x1 = some v1) (e2 : m x2 = some v2) (F : Fr h₀ L h (fun y => if y = x1 then some v1 else if y = x2 then some v2 else m y)) : Fr h₀ L h m := by
  have e : (fun y => if y = x1 then some v1 else if y = x2 then some v2 else m y) = m := by
    funext y
    by_cases h1 : y = x1
    · rw [if_pos h1, h1, e1]
    · rw [if_neg h1]
      by_cases h2 : y = x2
      · rw [if_pos h2, h2, e2]
      · rw [if_neg h2]
  rw [e] at F
  exact F
local macro_rules | `(tactic| wtm_at "x call ref") => `(tactic| (k_here; (with_reducible show wpAny _ _ (call (Value.ref 56) _ []) _ _ _); refine csx_stop ?_))
theorem st8 (w : World) (cs : Scope) (hcs : cs = lawScope w) (st : Stmt) (hst : st = lawSt w 8) :
  ∀ (p : Program) (loose : List PySem.Str) (mean : ExcName → Option Value) (mg mb : PySem.Str → Option Value) (dp un : Nat) (gd : Option (List Code)) (a : Addr) (ccd : Value) (cR cP cS : Addr) (outer : List Env) (A₀ : Around)
    (h₀ : Heap) (L : Addr) (m : PySem.Str → Option Value) (news : List (Addr × Obj)) (Rf Dg : Addr) (rv dv : List Value) (dgs : List Int) (s : Shared) (Q : Flow → Shared → Prop),
    Below A₀ h₀ outer h₀ → Fr h₀ L s.heap m → (Mine.kk.heap_1 w.params).In h₀ → News h₀ L s.heap ((Rf, LCg.lst rv) :: (Dg, LCg.lst dv) :: news) → Top p loose mean mg mb h₀ → dp + 12 < recursionLimit → un + 200 < cLine →
    IntsAre dv dgs → dgs.length = 9 → m (PySem.Str.ofString "refused") = some (.ref Rf) → m (PySem.Str.ofString "digits") = some (.ref Dg) → rv.length ≤ 3 → (∀ p ∈ (Dg, LCg.lst dv) :: news, p.1 ≠ Rf) →
    (∀ (t : Tok) (h' : Heap) (tk' : Nat), Fr h₀ L h' m → News h₀ L h' ((Rf, LCg.lst (rv ++ [.int 1 t])) :: (Dg, LCg.lst dv) :: news) → Q .next { s with heap := h', toks := tk' }) →
    wpT (model PySem.Challenge.rw_vn0014_01.prog w) (ktrTop dp un gd (PySem.Str.ofString "law") cs L a ccd [(PySem.Str.ofString "rows", cR), (PySem.Str.ofString "plain", cP), (PySem.Str.ofString "shorts", cS)] outer) (exec st (envX (PySem.Str.ofString "law") cs L a ccd [(PySem.Str.ofString "rows", cR), (PySem.Str.ofString "plain", cP), (PySem.Str.ofString "shorts", cS)])) Q NoE s := by
  k_fill
  (conv at hcs => rhs; whnf)
  (conv at hst => rhs; whnf)
  subst hcs
  subst hst
  intro p loose mean mg mb dp un gd a ccd cR cP cS outer A₀ h₀ L m news Rf Dg rv dv dgs s Q B F X N T hd hu hI hz hm hm2 hrv off hret
  replace F := fr_form F hm
  replace F := fr_form F (x := PySem.Str.ofString "digits") (v := .ref Dg) (by show (if _ then _ else _) = _; rw [if_neg (by decide), hm2])
  refine wpT_Try ?_
  refine wpT_execs (wpT.of ?_)
  k_steps
  unfold CSX
  refine tbn w _ _ ?c1 ?c2 _ _ _ _ _ _ _ _ _ _ _ _ _ _ _ _ _ _ _ _ _ _ _ (by k_asm) (by k_asm) (by k_asm) N (by k_asm) rfl (by omega) (by omega) ?_
  case c1 => exact (mod5 _).1
  case c2 => exact (mod5 _).2
  intro e h6 g tk6 F6 R6 U6
  replace F6 := fr_form (fr_un2 hm2 hm F6) hm
  refine caught_law rfl rfl F6 U6 R6 PySem.F.isExc_ValueError PySem.F.notTuple_ValueError (by rw [PySem.W.Fast.te16098473122060591676]; kernel_rfl) ?hn ?k
  case hn =>
    intro s1 Q1 E1 F1 hQ1
    k_steps
    exact hQ1
  case k =>
    intro h7 F7 N7
    k_steps
    have hD := N7 (Rf, LCg.lst rv) (.head _)
    dsimp only at hD
    obtain ⟨hDa, hDb, hDc⟩ := hD
    refine append_at hDa (fun h8 hs8 hD8 => ?_) (by rw [List.size_toArray]; exact Nat.le_trans hrv (by decide))
    have F8 := F7.change hs8 hDb hDc
    have N8 := news_app1 N7 off hs8 hD8
    clear F7 N7 hDa hDb hDc hs8 hD8 N
    k_steps
    rw [← m_form hm] at F8
    exact hret _ _ _ F8 N8
end Mine
end

section
open PySem PySem.W PyProof.Rows PySem.Calls
set_option maxRecDepth 100000
set_option maxHeartbeats 8000000
namespace Mine
local macro_rules | `(tactic| k_room) => `(tactic| ktr_room)
local macro_rules | `(tactic| wtm_at "x exec Raise some none") => `(tactic| (k_here; k_dflt (refine' raise694 ?hh ?_; (case hh => rfl))))
theorem sern (w : World) (i : Int) (t : Tok) (hi : i < 0) (hi2 : -5 ≤ i) : RaiseC w 8 100 819 [.ref 835, .int i t] (.ref 694) := by
  unfold RaiseC
  k_fill
  intro p loose mean mg mb dp un gd cn cs a ccd cl outer A₀ base h₀ L m news s Q E B F X N T hk hd hu hret
  obtain ⟨ck, cnm, cg, cc, cm⟩ := cs
  change ck = _ at hk
  subst hk
  refine wpAny_call ?_
  k_dflt k_enter
  k_steps
  all_goals (try (exfalso; omega))
  rename_i g' L' h' FG F' N' B' X' T' _ _ _
  have hX := X'.keeps F'.keep
  refine call694 (by ktr_room) hX (T'.keeps F'.keep) ?_
  intro h2 tk2 e dx a0 keep new he
  refine ⟨e, dx, a0, rfl, hX.keeps keep, he, ?_⟩
  refine leave_exc B' F' N' keep new he rfl rfl rfl ?_
  intro h3 R3 U3
  exact hret e h3 g' tk2 FG R3 U3
end Mine
end

section
open PySem PySem.W PyProof.Rows PySem.Calls
set_option maxRecDepth 100000
set_option maxHeartbeats 8000000
namespace Mine
local macro_rules | `(tactic| k_room) => `(tactic| ktr_room)
local macro_rules | `(tactic| wtm_at "x call ref") => `(tactic| (k_here; (with_reducible show wpAny _ _ (call (Value.ref 819) _ []) _ _ _); refine csx_stop ?_))
theorem st9 (w : World) (cs : Scope) (hcs : cs = lawScope w) (st : Stmt) (hst : st = lawSt w 9) :
  ∀ (p : Program) (loose : List PySem.Str) (mean : ExcName → Option Value) (mg mb : PySem.Str → Option Value) (dp un : Nat) (gd : Option (List Code)) (a : Addr) (ccd : Value) (cR cP cS : Addr) (outer : List Env) (A₀ : Around)
    (h₀ : Heap) (L : Addr) (m : PySem.Str → Option Value) (news : List (Addr × Obj)) (Rf Dg : Addr) (rv dv : List Value) (dgs : List Int) (s : Shared) (Q : Flow → Shared → Prop),
    Below A₀ h₀ outer h₀ → Fr h₀ L s.heap m → (Mine.kk.heap_1 w.params).In h₀ → News h₀ L s.heap ((Rf, LCg.lst rv) :: (Dg, LCg.lst dv) :: news) → Top p loose mean mg mb h₀ → dp + 12 < recursionLimit → un + 200 < cLine →
    IntsAre dv dgs → dgs.length = 9 → m (PySem.Str.ofString "refused") = some (.ref Rf) → m (PySem.Str.ofString "digits") = some (.ref Dg) → rv.length ≤ 3 → (∀ p ∈ (Dg, LCg.lst dv) :: news, p.1 ≠ Rf) →
    (∀ (t : Tok) (h' : Heap) (tk' : Nat), Fr h₀ L h' m → News h₀ L h' ((Rf, LCg.lst (rv ++ [.int 2 t])) :: (Dg, LCg.lst dv) :: news) → Q .next { s with heap := h', toks := tk' }) →
    wpT (model PySem.Challenge.rw_vn0014_01.prog w) (ktrTop dp un gd (PySem.Str.ofString "law") cs L a ccd [(PySem.Str.ofString "rows", cR), (PySem.Str.ofString "plain", cP), (PySem.Str.ofString "shorts", cS)] outer) (exec st (envX (PySem.Str.ofString "law") cs L a ccd [(PySem.Str.ofString "rows", cR), (PySem.Str.ofString "plain", cP), (PySem.Str.ofString "shorts", cS)])) Q NoE s := by
  k_fill
  (conv at hcs => rhs; whnf)
  (conv at hst => rhs; whnf)
  subst hcs
  subst hst
  intro p loose mean mg mb dp un gd a ccd cR cP cS outer A₀ h₀ L m news Rf Dg rv dv dgs s Q B F X N T hd hu hI hz hm hm2 hrv off hret
  replace F := fr_form F hm
  replace F := fr_form F (x := PySem.Str.ofString "digits") (v := .ref Dg) (by show (if _ then _ else _) = _; rw [if_neg (by decide), hm2])
  refine wpT_Try ?_
  refine wpT_execs (wpT.of ?_)
  k_steps
  unfold CSX
  refine sern w _ _ ?c1 ?c2 _ _ _ _ _ _ _ _ _ _ _ _ _ _ _ _ _ _ _ _ _ _ _ (by k_asm) (by k_asm) (by k_asm) N (by k_asm) rfl (by omega) (by omega) ?_
  case c1 => exact (mod5 _).1
  case c2 => exact (mod5 _).2
  intro e h6 g tk6 F6 R6 U6
  replace F6 := fr_form (fr_un2 hm2 hm F6) hm
  refine caught_own rfl rfl F6 U6 R6 (X 694 _ rfl) (by decide) ?hn ?k
  case hn =>
    intro s1 Q1 E1 F1 hQ1
    k_steps
    exact hQ1
  case k =>
    intro h7 F7 N7
    k_steps
    have hD := N7 (Rf, LCg.lst rv) (.head _)
    dsimp only at hD
    obtain ⟨hDa, hDb, hDc⟩ := hD
    refine append_at hDa (fun h8 hs8 hD8 => ?_) (by rw [List.size_toArray]; exact Nat.le_trans hrv (by decide))
    have F8 := F7.change hs8 hDb hDc
    have N8 := news_app1 N7 off hs8 hD8
    clear F7 N7 hDa hDb hDc hs8 hD8 N
    k_steps
    rw [← m_form hm] at F8
    exact hret _ _ _ F8 N8
end Mine
end

section
open PySem PySem.W PyProof.Rows PySem.Calls
set_option maxRecDepth 100000
set_option maxHeartbeats 8000000
namespace Mine
local macro_rules | `(tactic| k_room) => `(tactic| ktr_room)
theorem st10 (w : World) (cs : Scope) (hcs : cs = lawScope w) (st : Stmt) (hst : st = lawSt w 10) :
  ∀ (p : Program) (loose : List PySem.Str) (mean : ExcName → Option Value) (mg mb : PySem.Str → Option Value) (dp un : Nat) (gd : Option (List Code)) (a : Addr) (ccd : Value) (cR cP cS : Addr) (outer : List Env) (A₀ : Around)
    (h₀ : Heap) (L : Addr) (m : PySem.Str → Option Value) (news : List (Addr × Obj)) (Rf : Addr) (rv : List Value) (s : Shared) (Q : Flow → Shared → Prop),
    Below A₀ h₀ outer h₀ → Fr h₀ L s.heap m → (Mine.kk.heap_1 w.params).In h₀ → News h₀ L s.heap ((Rf, LCg.lst rv) :: news) → Top p loose mean mg mb h₀ → dp + 12 < recursionLimit → un + 200 < cLine →
    IntsAre rv [0, 1, 2] → m (PySem.Str.ofString "refused") = some (.ref Rf) →
    (∀ (h' : Heap) (tk' : Nat) (m' : PySem.Str → Option Value), Fr h₀ L h' m' → Q (.ret (.bool true)) { s with heap := h', toks := tk' }) →
    wpT (model PySem.Challenge.rw_vn0014_01.prog w) (ktrTop dp un gd (PySem.Str.ofString "law") cs L a ccd [(PySem.Str.ofString "rows", cR), (PySem.Str.ofString "plain", cP), (PySem.Str.ofString "shorts", cS)] outer) (exec st (envX (PySem.Str.ofString "law") cs L a ccd [(PySem.Str.ofString "rows", cR), (PySem.Str.ofString "plain", cP), (PySem.Str.ofString "shorts", cS)])) Q NoE s := by
  k_fill
  (conv at hcs => rhs; whnf)
  (conv at hst => rhs; whnf)
  subst hcs
  subst hst
  intro p loose mean mg mb dp un gd a ccd cR cP cS outer A₀ h₀ L m news Rf rv s Q B F X N T hd hu hI hm hret
  replace F := fr_form F hm
  refine wpT.of ?_
  k_steps
  all_goals first
    | exact hret _ _ _ (by assumption)
end Mine
end

section
open PySem PySem.W PyProof.Rows PySem.Calls
set_option maxRecDepth 100000
set_option maxHeartbeats 8000000
namespace Mine
local macro_rules | `(tactic| k_room) => `(tactic| ktr_room)
theorem ne_of_data {h₀ h : Heap} {L x c : Addr} {vs : List Value} {o : Obj} {u : Option Value} {led : List (Addr × Obj)} (N : News h₀ L h led) (hx : (x, LCg.lst vs) ∈ led) (hc : (c, o) ∈ led) (hd : o.data = .cell u) : @Ne Nat x c := fun e => by
  have e1 := (N _ hx).1
  have e2 := (N _ hc).1
  have e3 : x = c := e
  subst e3
  rw [show h.get? x = some (LCg.lst vs) from e1] at e2
  injection e2 with e2
  rw [← show LCg.lst vs = o from e2] at hd
  cases hd
theorem law_all (w : World) (cs : Scope) (hcs : cs = lawScope w) :
  ∀ (p : Program) (loose : List PySem.Str) (mean : ExcName → Option Value) (mg mb : PySem.Str → Option Value) (dp un : Nat) (gd : Option (List Code)) (a : Addr) (ccd : Value) (cR cP cS : Addr) (outer : List Env) (A₀ : Around)
    (h₀ : Heap) (L : Addr) (m : PySem.Str → Option Value) (oR oP oS : Obj) (s : Shared) (Q : Flow → Shared → Prop) (sl : Addr) (vs : List Value) (ks : List Int) (uR uP uS : Option Value),
    Below A₀ h₀ outer h₀ → Fr h₀ L s.heap m → (Mine.kk.heap_1 w.params).In h₀ → News h₀ L s.heap [(cR, oR), (cP, oP), (cS, oS)] → Top p loose mean mg mb h₀ → dp + 12 < recursionLimit → un + 200 < cLine →
    @Ne Nat cS cP → @Ne Nat cP cR → @Ne Nat cS cR → oR.data = .cell uR → oP.data = .cell uP → oS.data = .cell uS → IntsAre vs ks → ks.length ≤ 63 → h₀.IsList sl vs.toArray → m (PySem.Str.ofString "script") = some (.ref sl) →
    (∀ (h' : Heap) (tk' : Nat) (m' : PySem.Str → Option Value), Fr h₀ L h' m' → Q (.ret (.bool true)) { s with heap := h', toks := tk' }) →
    wpT (model PySem.Challenge.rw_vn0014_01.prog w) (ktrTop dp un gd (PySem.Str.ofString "law") cs L a ccd [(PySem.Str.ofString "rows", cR), (PySem.Str.ofString "plain", cP), (PySem.Str.ofString "shorts", cS)] outer) (execs (lawBody w) (envX (PySem.Str.ofString "law") cs L a ccd [(PySem.Str.ofString "rows", cR), (PySem.Str.ofString "plain", cP), (PySem.Str.ofString "shorts", cS)])) Q NoE s := by
  intro p loose mean mg mb dp un gd a ccd cR cP cS outer A₀ h₀ L m oR oP oS s Q sl vs ks uR uP uS B F X N T hd hu n1 n2 n3 dR dP dS hI hz hL hm hret
  rw [law_split]
  with_reducible refine wpT_execs (wpT.of (st0 w cs hcs _ rfl sl vs ks hI hz p loose mean mg mb dp un gd a ccd cR cP cS outer A₀ h₀ h₀ L m _ s _ _ B F X N T hd hu hL hm fun Dg dv dgs h1 tk1 m1 F1 N1 hm1 _ hI1 hz1 => ?_))
  dsimp only
  with_reducible refine wpT_execs (wpT.of (st1 w cs hcs _ rfl p loose mean mg mb dp un gd a ccd cR cP cS outer A₀ h₀ h₀ L m1 _ _ _ _ B F1 X N1 T hd hu Dg dv dgs (by k_dflt (exact .head _)) hm1 hI1 hz1 fun D ys ds h2 tk2 m2 F2 N2 hm2 ho2 hI2 hl1 hl8 hr => ?_))
  dsimp only
  have hm2d := (ho2 _ (by decide)).trans hm1
  clear N N1
  have eR := ne_of_data N2 (x := D) (c := cR) (.head _) (by simp) dR
  have eP := ne_of_data N2 (x := D) (c := cP) (.head _) (by simp) dP
  have eS := ne_of_data N2 (x := D) (c := cS) (.head _) (by simp) dS
  have gR := ne_of_data N2 (x := Dg) (c := cR) (vs := dv) (by simp) (by simp) dR
  have gP := ne_of_data N2 (x := Dg) (c := cP) (vs := dv) (by simp) (by simp) dP
  have gS := ne_of_data N2 (x := Dg) (c := cS) (vs := dv) (by simp) (by simp) dS
  with_reducible refine wpT_execs (wpT.of (st2g w cs hcs _ rfl p loose mean mg mb dp un gd a ccd cR cP cS outer A₀ h₀ h₀ L m2 Dg (LCg.lst dv) D ys ds oR oP oS uP uS _ _ _ B F2 X (by k_dflt (exact fun p hp => N2 p (by simp only [List.mem_cons, List.not_mem_nil, or_false] at hp ⊢; rcases hp with h | h | h | h | h <;> simp [h]))) T hd hu n1 n2 n3 eS eP eR ⟨gS, gP, gR⟩ dP dS hm2 hI2 hl1 hl8 hr fun D1 D2 ys1 ys2 oP' oS' h3 tk3 F3 N3 dS' dP' a1 a2 => ?_))
  dsimp only
  clear N2 F1 F2
  with_reducible refine wpT_execs (st3 w cs hcs (turn3 w cs hcs) p loose mean mg mb dp un gd a ccd cR cP cS outer A₀ h₀ h₀ L m2 [(Dg, LCg.lst dv)] D D1 D2 ys ys1 ys2 ds oR oP' oS' _ _ _ B F3 X N3 T hd hu hm2 dS' dP' hI2 hl8 hr a1 a2 fun h4 tk4 m4 F4 N4 K4 => ?_)
  dsimp only
  have f1R := ne_of_data N4 (x := D1) (c := cR) (vs := ys1) (by simp) (by simp) dR
  have f1P := ne_of_data N4 (x := D1) (c := cP) (vs := ys1) (by simp) (by simp) dP'
  have f1S := ne_of_data N4 (x := D1) (c := cS) (vs := ys1) (by simp) (by simp) dS'
  have f2R := ne_of_data N4 (x := D2) (c := cR) (vs := ys2) (by simp) (by simp) dR
  have f2P := ne_of_data N4 (x := D2) (c := cP) (vs := ys2) (by simp) (by simp) dP'
  have f2S := ne_of_data N4 (x := D2) (c := cS) (vs := ys2) (by simp) (by simp) dS'
  with_reducible refine wpT_execs (st4g w cs hcs p loose mean mg mb dp un gd a ccd cR cP cS outer A₀ h₀ h₀ L m4 Dg (LCg.lst dv) D D1 D2 ys ys1 ys2 ds oR oP' oS' _ _ _ B F4 X N4 T hd hu n1 n2 n3 eS eP eR ⟨gS, gP, gR⟩ ⟨f1S, f1P, f1R⟩ ⟨f2S, f2P, f2R⟩ dS' dP' ⟨_, dR⟩ (by rw [a1.len]; exact hl8) (by rw [a2.len]; exact hl8) (pf_short a1) (pf_plain a2 hr) fun oR' h5 tk5 F5 N5 => ?_)
  dsimp only
  with_reducible refine wpT_execs (st5 w cs hcs p loose mean mg mb dp un gd a ccd cR cP cS outer A₀ h₀ h₀ L m4 [(Dg, LCg.lst dv)] D D1 D2 ys ys1 ys2 ds oR' oP' oS' _ _ _ B F5 X N5 T hd hu (by k_dflt (exact (K4 _ (by decide +kernel)).trans hm2)) dS' dP' hI2 hl1 hl8 a1 a2 (pf_short a1) (pf_plain a2 hr) hr fun h6 tk6 m6 F6 N6 K6 => ?_)
  dsimp only
  clear N3 N4 N5 F3 F4 F5
  with_reducible refine wpT_execs (st6 w cs hcs _ rfl p loose mean mg mb dp un gd a ccd cR cP cS outer A₀ h₀ L m6 _ _ _ B F6 X N6 T hd hu fun Rf h7 tk7 m7 F7 N7 off hm7 K7 => ?_)
  dsimp only
  have hm7d : m7 (PySem.Str.ofString "digits") = some (.ref Dg) := (K7 _ (by decide +kernel)).trans ((K6 _ (by decide +kernel)).trans ((K4 _ (by decide +kernel)).trans hm2d))
  with_reducible refine wpT_execs (st7 w cs hcs _ rfl p loose mean mg mb dp un gd a ccd cR cP cS outer A₀ h₀ L m7 [(Dg, LCg.lst dv)] Rf D1 [] ys1 ds oS' _ _ B F7 X (by k_dflt (exact fun p hp => N7 p (by simp only [List.mem_cons, List.not_mem_nil, or_false] at hp ⊢; rcases hp with h | h | h | h <;> simp [h]))) T hd hu dS' a1 hl1 hl8 hr hm7 (by decide) (by k_dflt (exact fun p hp => off p (by simp only [List.mem_cons, List.not_mem_nil, or_false] at hp ⊢; rcases hp with h | h | h <;> simp [h]))) fun t0 h8 tk8 F8 N8 => ?_)
  dsimp only
  have offg : ∀ p ∈ [(Dg, LCg.lst dv)], p.1 ≠ Rf := fun p hp => off p (by simp only [List.mem_cons, List.not_mem_nil, or_false] at hp ⊢; simp [hp])
  with_reducible refine wpT_execs (st8 w cs hcs _ rfl p loose mean mg mb dp un gd a ccd cR cP cS outer A₀ h₀ L m7 [] Rf Dg _ dv dgs _ _ B F8 X (by k_dflt (exact fun p hp => N8 p (by rcases List.mem_cons.mp hp with h | h; exact h ▸ .head _; exact .tail _ (.tail _ (.tail _ h))))) T hd hu hI1 hz1 hm7 hm7d (by simp) offg fun t1 h9 tk9 F9 N9 => ?_)
  dsimp only
  with_reducible refine wpT_execs (st9 w cs hcs _ rfl p loose mean mg mb dp un gd a ccd cR cP cS outer A₀ h₀ L m7 [] Rf Dg _ dv dgs _ _ B F9 X N9 T hd hu hI1 hz1 hm7 hm7d (by simp) offg fun t2 h10 tk10 F10 N10 => ?_)
  dsimp only
  with_reducible refine wpT_execs (st10 w cs hcs _ rfl p loose mean mg mb dp un gd a ccd cR cP cS outer A₀ h₀ L m7 [(Dg, LCg.lst dv)] Rf _ _ _ B F10 X N10 T hd hu (by k_dflt (exact .cons _ _ (.cons _ _ (.cons _ _ .nil)))) hm7 fun h11 tk11 m11 F11 => ?_)
  exact hret _ _ _ F11
end Mine
end

section
open PySem PySem.W PyProof.Rows PySem.Calls
set_option maxRecDepth 100000
set_option maxHeartbeats 8000000
namespace Mine
noncomputable def HK : Hook := kHook Mine.kk.heap_1 aks (fun _ => by kernel_rfl)
theorem law_args (w : World) (s₀ s₁ : Shared) (args : List WData) (vals : List Value) (as : List Addr) (hpre : PySem.Challenge.rw_vn0014_01.row.toRowW.claim.pre args = true) (hlay : WData.layableAll args = true) (hrd : ReadsAllW PySem.Challenge.rw_vn0014_01.row.toRowW.records (classAt s₀.heap) s₁.heap vals args as) (hwl : WellAll w.params s₁.heap vals args) (hlo : ∀ a ∈ as, (a == sysModules) = false) :
    ∃ (sl : Addr) (vs : List Value) (ks : List Int), vals = [.ref sl] ∧ s₁.heap.IsList sl vs.toArray ∧ IntsAre vs ks ∧ ks.length ≤ 63 ∧ ∀ s' : Shared, (∀ b o, s₁.heap.get? b = some o → s'.heap.get? b = some o) → s'.os = s₁.os → s'.gens = #[] → GoodW PySem.Challenge.rw_vn0014_01.row.toRowW.claim (classAt s₀.heap) (ExcName.means s₀.heap) args s₁ (.ok (.ret (.bool true))) s' := by
  w_on
  wrow_args hpre hlay hrd hwl hlo
  rename_i hL _ _ _ hI _ hc _
  refine ⟨_, _, _, rfl, hL, hI, by omega, fun s' hk ho hg => ?_⟩
  refine ⟨.inl ⟨_, _, [], rfl, raisesW_false ?_, ReadsW.bool _, ?_, fun _ => ⟨List.nodup_nil, fun _ h => nomatch h⟩⟩, hk, ho, hg⟩
  · wrow_none_raised
  · wrow_post
theorem law_go (w : World) (s₀ s₁ : Shared) (mg mb : PySem.Str → Option Value) (G : Ground qq loo PySem.Challenge.rw_vn0014_01.row.toRowW.records (XL qq lvv) w s₀ mg mb s₁.heap) (Y : Hook.says HK w s₁.heap) (a : Addr) (hmg : mg (PySem.Str.ofString "law") = some (.ref a)) (hg : s₁.gens = #[])
    (args : List WData) (vals : List Value) (as : List Addr) (hpre : PySem.Challenge.rw_vn0014_01.row.toRowW.claim.pre args = true) (hlay : WData.layableAll args = true) (hrd : ReadsAllW PySem.Challenge.rw_vn0014_01.row.toRowW.records (classAt s₀.heap) s₁.heap vals args as) (hwl : WellAll w.params s₁.heap vals args) (hlo : ∀ a ∈ as, (a == sysModules) = false) :
    wpT (model PySem.Challenge.rw_vn0014_01.prog w) callerA (PySem.call (.ref a) vals) (fun v s' => GoodW PySem.Challenge.rw_vn0014_01.row.toRowW.claim (classAt s₀.heap) (ExcName.means s₀.heap) args s₁ (.ok (.ret v)) s')
      (fun e s' => GoodW PySem.Challenge.rw_vn0014_01.row.toRowW.claim (classAt s₀.heap) (ExcName.means s₀.heap) args s₁ (.error e) s') s₁ := by
  have X : (Mine.kk.heap_1 w.params).In s₁.heap := kIn_of Y
  have T := G.T
  have e : mg (PySem.Str.ofString "law") = some (.ref 1074) := mg_of X T.g (by kernel_rfl)
  obtain rfl : a = 1074 := by
    rw [hmg] at e
    injection e with e
    injection e
  obtain ⟨sl, vs, ks, rfl, hL, hI, hz, good⟩ := law_args w s₀ s₁ args vals as hpre hlay hrd hwl hlo
  refine wpT_call (law_enter w s₁ X T.nolimit sl _ fun ccd h₁ tk m oR oP oS uR uP uS cR cP cS F N n1 n2 n3 dR dP dS hm => ?_)
  exact law_all w _ rfl qq _ _ mg mb (1 + claimMargin + 1) 7 (some []) 1074 ccd cR cP cS [] callerA s₁.heap s₁.heap.objs.size m oR oP oS { s₁ with heap := h₁, toks := tk } _ sl vs ks uR uP uS (below_caller _) F X N T (by decide) (by decide) n1 n2 n3 dR dP dS hI hz hL hm
    (fun h' tk' m' F' => good { s₁ with heap := h', toks := tk' } F'.keep rfl hg)
end Mine
end

section
open PySem PySem.W PyProof.Rows PySem.Calls
set_option maxRecDepth 100000
set_option maxHeartbeats 8000000
namespace Mine
theorem left_of {p q : Program} {loose : List PySem.Str} {Xt : Shared → Bool} {α : Type} {Yf : Shared → α} {Ya : World → α} {N : Nat} {g0 : Bool} {H₀ : Params → Heap} {gs₀ : Array GenState} {d₀ : Drawn} {k₀ : Nat} {m₀ : Nat} {ann : Option Value} {S₁ : World → OsState → Shared}
    (open_ : ∀ w : World, (fencedOpening treeTable p w N).map (fun s => (s.heap, s.gens, s.drawn, s.toks)) = some (H₀ w.params, gs₀, d₀, k₀))
    (size : ∀ w : World, ((H₀ w.params).isNs mainGlobals && gs₀.size == 0, (H₀ w.params).objs.size, (H₀ w.params).nsMap mainGlobals "__annotations__") = (true, m₀, ann))
    (run : ∀ (w : World) (os : OsState), topRun treeTable p w m₀ ann N ⟨H₀ w.params, gs₀, d₀, k₀, os⟩ (topStub p) = some (S₁ w os))
    (look1 : ∀ w os, (staticsOk (importedModules p.main.body) (H₀ w.params) (S₁ w os).heap && namesBound p (S₁ w os).heap && gensDone (S₁ w os) && laidKept (H₀ w.params) (S₁ w os).heap) = true)
    (look2 : ∀ w os, openSeen q loose (importedModules p.main.body) Xt g0 (S₁ w os) = openGood q loose) (look3 : ∀ w os, Yf (S₁ w os) = Ya w) : LeftO p q loose Xt Yf Ya N g0 := fun w => by
  obtain ⟨⟨h, gs, d, k, os⟩, e, e'⟩ := Option.map_eq_some_iff.mp (open_ w)
  obtain ⟨rfl, rfl, rfl, rfl⟩ : h = H₀ w.params ∧ gs = gs₀ ∧ d = d₀ ∧ k = k₀ := by simpa using e'
  obtain ⟨z1, z2, z3⟩ : _ ∧ _ ∧ _ := by simpa only [Prod.mk.injEq] using size w
  have r := run w os
  have t : topFrom treeTable p w N ⟨H₀ w.params, gs, d, k, os⟩ = some (S₁ w os) := by
    unfold topFrom
    dsimp only
    rw [z1, z2, z3, r]
    show (match staticsOk (importedModules p.main.body) (H₀ w.params) (S₁ w os).heap && namesBound p (S₁ w os).heap && gensDone (S₁ w os) && laidKept (H₀ w.params) (S₁ w os).heap with | true => _ | false => _) = _
    rw [look1 w os]
  unfold openEnds
  rw [e]
  show (topFrom treeTable p w N _).map _ = _
  rw [t]
  exact congrArg some (Prod.ext (look2 w os) (look3 w os))
theorem midRun {n : Nat} (w : World) (os : OsState) (h : segGoT treeTable PySem.Challenge.pw_vn0014_01 w 39 (some (.ref 6)) 1 n (pre24 w os) midTh = some (St 1 w os, T1 w os)) :
    segRun treeTable PySem.Challenge.pw_vn0014_01 w 39 (some (.ref 6)) 1 (n + (2499 + (2499 + (2499 + (2499 + (2499 + 52)))))) (pre24 w os).abs midTh = some (.next, (pre25 w os).abs, cB, posM) :=
  seg_go (segGo_of h) (seg_go (segGo_of (chunk_1 w os)) (seg_go (segGo_of (chunk_52 w os)) (seg_go (segGo_of (chunk_103 w os)) (seg_go (segGo_of (chunk_154 w os)) (seg_go (segGo_of (chunk_205 w os)) (segRun_of (midEnd w os)))))))
theorem runW {n : Nat} (hn : n ≤ 153) (w : World) (os : OsState) (h : segGoT treeTable PySem.Challenge.pw_vn0014_01 w 39 (some (.ref 6)) 1 n (pre24 w os) midTh = some (St 1 w os, T1 w os)) :
    topRun treeTable PySem.Challenge.pw_vn0014_01 w 39 (some (.ref 6)) 42150 ⟨H0 w.params, #[], {}, 313, os⟩ (topStub PySem.Challenge.pw_vn0014_01) = some (Sfin w os).abs := by
  have k1 := piece_app (rest := []) (segRun_of (sufT w os)) (finT w os)
  have k2 := piece_app (rest := sufSt ++ []) (l := midSt) (midRun w os h) k1
  have k2' := piece_app (rest := midSt ++ (sufSt ++ [])) (l := exSt) (segRun_of (exT w os)) k2
  have k3 := Mine.Pre.chain PySem.Challenge.pw_vn0014_01 (behindTheImports PySem.Challenge.pw_vn0014_01) w os (exSt ++ (midSt ++ (sufSt ++ []))) _ _ k2'
  rw [← bodyT] at k3
  have k4 := piece_block (blkT w os) k3
  have k5 := go_top (preT w os) k4
  generalize hM : (12 + _ : Nat) = M at k5
  have hle : M ≤ 42150 := by
    rw [← hM]
    simp only [Nat.add_eq]
    omega
  have k6 := topRun_mono (42150 - M) _ _ _ _ k5
  rw [Nat.add_sub_cancel' hle] at k6
  exact k6
def RunsTo (w : World) : Prop := ∀ os, topRun treeTable PySem.Challenge.pw_vn0014_01 w 39 (some (.ref 6)) 42150 ⟨H0 w.params, #[], {}, 313, os⟩ (topStub PySem.Challenge.pw_vn0014_01) = some (Sfin w os).abs
theorem runT (w : World) : RunsTo w :=
  byRow2 "special-get-raises" (P := RunsTo)
    (fun w => byRow2 "comprehension-iter-twice" (P := fun w => RunsTo (w.withFollow "special-get-raises" false)) (fun w os => runW (by decide) _ os (mid0_false_false w os)) (fun w os => runW (by decide) _ os (mid0_true_false w os)) w)
    (fun w => byRow2 "comprehension-iter-twice" (P := fun w => RunsTo (w.withFollow "special-get-raises" true)) (fun w os => runW (by decide) _ os (mid0_false_true w os)) (fun w os => runW (by decide) _ os (mid0_true_true w os)) w) w
theorem leftT : LeftO PySem.Challenge.pw_vn0014_01 qq loo (fun s => xlAt qq lvv s && recOk (RowW.records PySem.Challenge.rw_vn0014_01.row.toRowW) s) (Hook.obs HK) (Hook.val HK) 42150 false :=
  left_of opn sizes runT look1 look2 look3
theorem head (hw : PySem.Challenge.rw_vn0014_01.row.toRowW.promised) : PySem.Challenge.rw_vn0014_01.Holds := by
  w_on
  o_law
  refine law_row (q := qq) (loose := loo) (Xt := fun s => xlAt qq lvv s && recOk (RowW.records PySem.Challenge.rw_vn0014_01.row.toRowW) s) (XP := XL qq lvv) (Yf := Hook.obs HK) (Ya := Hook.val HK) (YP := Hook.says HK) (N := 42150) leftT (Hook.of HK) (Hook.keeps HK) (fun s e => xl_of s (Bool.and_eq_true_iff.mp e).1) XL.keeps (by rfl) (by rfl) (by rfl) (fun s e => recFacts_of (Bool.and_eq_true_iff.mp e).2) (by rfl) (by first | assumption | decide +kernel) (by decide +kernel) ⟨rfl, rfl, rfl, rfl, rfl, by decide +kernel⟩ hw ?hc
  case hc =>
    intro w s₀ s₁ mg mb G Y a o pm cd doc dV kV _ _ _ _ hmg hg args vals as hpre hlay hrd hwl hlo
    exact law_go w s₀ s₁ mg mb G Y a hmg hg args vals as hpre hlay hrd hwl hlo
end Mine
end

end

set_option maxRecDepth 100000 in
set_option maxHeartbeats 8000000 in
theorem PySem.Challenge.cw_vn0014_01_holds : PySem.Challenge.rw_vn0014_01.Holds := by
  exact Mine.head (PySem.W.RowW.promised_of_found (by decide +kernel))
