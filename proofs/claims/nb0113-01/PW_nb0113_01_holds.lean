import PyProof.Rows.All
import Wide.All
import OpenK.AllK
import Wide.FinOn
import PySem.SetOps
import PyProof.SetScanFacts
import PySem.Challenge.RW_nb0113_01
set_option Elab.async false
set_option maxRecDepth 100000
section
open PySem PySem.W PyProof.Rows
namespace Mine
/-- the row's program -/
abbrev PR : Program := PySem.Challenge.rw_nb0113_01.row.prog
def stA (i : Nat) : Stmt := (PySem.Challenge.pw_nb0113_01.main.body)[i]?.getD (.Pass ⟨0, 0, 0, 0⟩)
def sName : Stmt → PySem.Str
  | .FunctionDef n .. => n
  | _ => ""
def sArgs : Stmt → Arguments
  | .FunctionDef _ a .. => a
  | _ => ⟨[], [], none, [], [], none, []⟩
def sBody : Stmt → List Stmt
  | .FunctionDef _ _ b .. => b
  | _ => []
def sScope : Stmt → Scope
  | .FunctionDef _ _ _ _ _ _ sc .. => sc
  | _ => { kind := .function, names := [], isGenerator := false, isCoroutine := false }
/-- the function object that the top's i-th statement leaves -/
def fO (i : Nat) (m : String) (tk : Nat) (cd : Nat) : Obj :=
  Obj.mk (Value.type "function") none (Data.func (FuncData.mk (sName (stA i)) (sName (stA i)) (sArgs (stA i)) (FuncBody.stmts (sBody (stA i))) (sScope (stA i)) 3 [] Value.none Value.none Value.none (Value.str (Str.ofString m) tk) none (Value.ref cd) Value.none 0)) #[]
def KK : Params → Frag := fun P =>
  (nat_lit 2, Obj.mk Value.none none (Data.dict #[]) #[]) ::
  (nat_lit 3, Obj.mk (Value.type "dict") none (Data.dict #[DictEntry.mk (PyData.keyHash P (Str.ofString "__name__")) (Value.str (Str.ofString "__name__") 165) (Value.str (Str.ofString "law_nb0113_01") 436), DictEntry.mk (PyData.keyHash P (Str.ofString "__doc__")) (Value.str (Str.ofString "__doc__") 166) Value.none, DictEntry.mk (PyData.keyHash P (Str.ofString "__package__")) (Value.str (Str.ofString "__package__") 167) Value.none, DictEntry.mk (PyData.keyHash P (Str.ofString "__loader__")) (Value.str (Str.ofString "__loader__") 168) (Value.builtin "__main__.__loader__#opaque"), DictEntry.mk (PyData.keyHash P (Str.ofString "__spec__")) (Value.str (Str.ofString "__spec__") 169) Value.none, DictEntry.mk (PyData.keyHash P (Str.ofString "__annotations__")) (Value.str (Str.ofString "__annotations__") 170) (Value.ref 6), DictEntry.mk (PyData.keyHash P (Str.ofString "__builtins__")) (Value.str (Str.ofString "__builtins__") 171) (Value.ref 4), DictEntry.mk (PyData.keyHash P (Str.ofString "__file__")) (Value.str (Str.ofString "__file__") 173) (Value.str (Str.ofString "/claim/cut.py") 172), DictEntry.mk (PyData.keyHash P (Str.ofString "__cached__")) (Value.str (Str.ofString "__cached__") 174) Value.none, DictEntry.mk (PyData.keyHash P (Str.ofString "_build_localename")) (Value.str (Str.ofString "_build_localename") 197) (Value.ref 21), DictEntry.mk (PyData.keyHash P (Str.ofString "ASCII_CTRL")) (Value.str (Str.ofString "ASCII_CTRL") 343) (Value.ref 38), DictEntry.mk (PyData.keyHash P (Str.ofString "ILLEGAL_BASIC_STR_CHARS")) (Value.str (Str.ofString "ILLEGAL_BASIC_STR_CHARS") 347) (Value.ref 43), DictEntry.mk (PyData.keyHash P (Str.ofString "ILLEGAL_LITERAL_STR_CHARS")) (Value.str (Str.ofString "ILLEGAL_LITERAL_STR_CHARS") 348) (Value.ref 43), DictEntry.mk (PyData.keyHash P (Str.ofString "ILLEGAL_COMMENT_CHARS")) (Value.str (Str.ofString "ILLEGAL_COMMENT_CHARS") 349) (Value.ref 43), DictEntry.mk (PyData.keyHash P (Str.ofString "TOML_WS")) (Value.str (Str.ofString "TOML_WS") 355) (Value.ref 44), DictEntry.mk (PyData.keyHash P (Str.ofString "TOML_WS_AND_NEWLINE")) (Value.str (Str.ofString "TOML_WS_AND_NEWLINE") 359) (Value.ref 52), DictEntry.mk (PyData.keyHash P (Str.ofString "TOMLDecodeError")) (Value.str (Str.ofString "TOMLDecodeError") 377) (Value.ref 62), DictEntry.mk (PyData.keyHash P (Str.ofString "skip_chars")) (Value.str (Str.ofString "skip_chars") 386) (Value.ref 72), DictEntry.mk (PyData.keyHash P (Str.ofString "skip_until")) (Value.str (Str.ofString "skip_until") 398) (Value.ref 79), DictEntry.mk (PyData.keyHash P (Str.ofString "skip_comment")) (Value.str (Str.ofString "skip_comment") 407) (Value.ref 86), DictEntry.mk (PyData.keyHash P (Str.ofString "skip_comments_and_array_ws")) (Value.str (Str.ofString "skip_comments_and_array_ws") 416) (Value.ref 93), DictEntry.mk (PyData.keyHash P (Str.ofString "parse_literal_str")) (Value.str (Str.ofString "parse_literal_str") 425) (Value.ref 100), DictEntry.mk (PyData.keyHash P (Str.ofString "suffixed_err")) (Value.str (Str.ofString "suffixed_err") 435) (Value.ref 107), DictEntry.mk (PyData.keyHash P (Str.ofString "_law_file")) (Value.str (Str.ofString "_law_file") 458) (Value.ref 114), DictEntry.mk (PyData.keyHash P (Str.ofString "_law_read")) (Value.str (Str.ofString "_law_read") 464) (Value.ref 119), DictEntry.mk (PyData.keyHash P (Str.ofString "_law_due")) (Value.str (Str.ofString "_law_due") 478) (Value.ref 126), DictEntry.mk (PyData.keyHash P (Str.ofString "law")) (Value.str (Str.ofString "law") 484) (Value.ref 131)] 27) #[]) ::
  (nat_lit 6, Obj.mk (Value.type "dict") none (Data.dict #[]) #[]) ::
  (nat_lit 15, Obj.mk (Value.type "tuple") none (Data.seq #[]) #[]) ::
  (nat_lit 17, Obj.mk (Value.type "tuple") none (Data.seq #[Value.str (Str.ofString "localetuple") 192, Value.str (Str.ofString "language") 193, Value.str (Str.ofString "encoding") 194]) #[]) ::
  (nat_lit 18, Obj.mk (Value.type "tuple") none (Data.seq #[]) #[]) ::
  (nat_lit 20, Obj.mk (Value.type "code") none (Data.fields #[Value.str (Str.ofString "_build_localename") 189, Value.str (Str.ofString "_build_localename") 190, Value.str (Str.ofString "/claim/cut.py") 191, Value.int 2 0, Value.int 1 0, Value.int 0 0, Value.int 0 0, Value.int 3 0, Value.ref 15, Value.bool true, Value.int 181 0, Value.ref 16, Value.none, Value.ref 17, Value.ref 18, Value.ref 19, Value.int 195 0, Value.int 2 0, Value.str (Str.ofString "/claim/cut.py") 196]) #[]) ::
  (nat_lit 21, fO 1 "cpy313.locale" 187 20) ::
  (nat_lit 53, Obj.mk (Value.type "tuple") none (Data.seq #[Value.type "ValueError"]) #[]) ::
  (nat_lit 60, Obj.mk (Value.type "tuple") none (Data.seq #[]) #[]) ::
  (nat_lit 61, Obj.mk (Value.type "dict") none (Data.dict #[DictEntry.mk (PyData.keyHash P (Str.ofString "__module__")) (Value.str (Str.ofString "__module__") 367) (Value.str (Str.ofString "cpy313.tomllib._parser") 198), DictEntry.mk (PyData.keyHash P (Str.ofString "__firstlineno__")) (Value.str (Str.ofString "__firstlineno__") 371) (Value.int 20 370), DictEntry.mk (PyData.keyHash P (Str.ofString "__static_attributes__")) (Value.str (Str.ofString "__static_attributes__") 372) (Value.ref 60), DictEntry.mk (PyData.keyHash P (Str.ofString "__weakref__")) (Value.str (Str.ofString "__weakref__") 374) (Value.ref 63), DictEntry.mk (PyData.keyHash P (Str.ofString "__doc__")) (Value.str (Str.ofString "__doc__") 375) Value.none] 3) #[]) ::
  (nat_lit 62, Obj.mk (Value.type "type") none (Data.cls (ClassData.mk (Str.ofString "TOMLDecodeError") [Value.type "ValueError"] [Value.ref 62, Value.type "ValueError", Value.type "Exception", Value.type "BaseException", Value.type "object"] 61 (Str.ofString "TOMLDecodeError") true [] [] false none false)) #[some (Value.ref 53), none, some (Value.str (Str.ofString "TOMLDecodeError") 360), some (Value.str (Str.ofString "TOMLDecodeError") 368), some (Value.builtin "ValueError.__new__"), some (Value.bool true)]) ::
  (nat_lit 63, Obj.mk (Value.type "getset_descriptor") none (Data.fields #[Value.str (Str.ofString "__weakref__") 373, Value.ref 62, Value.builtin "ExceptionGroup.__weakref__", Value.none]) #[]) ::
  (nat_lit 66, Obj.mk (Value.type "tuple") none (Data.seq #[]) #[]) ::
  (nat_lit 68, Obj.mk (Value.type "tuple") none (Data.seq #[Value.str (Str.ofString "src") 381, Value.str (Str.ofString "pos") 382, Value.str (Str.ofString "chars") 383]) #[]) ::
  (nat_lit 69, Obj.mk (Value.type "tuple") none (Data.seq #[]) #[]) ::
  (nat_lit 71, Obj.mk (Value.type "code") none (Data.fields #[Value.str (Str.ofString "skip_chars") 378, Value.str (Str.ofString "skip_chars") 379, Value.str (Str.ofString "/claim/cut.py") 380, Value.int 22 0, Value.int 3 0, Value.int 0 0, Value.int 0 0, Value.int 3 0, Value.ref 66, Value.bool true, Value.int 181 0, Value.ref 67, Value.none, Value.ref 68, Value.ref 69, Value.ref 70, Value.int 384 0, Value.int 22 0, Value.str (Str.ofString "/claim/cut.py") 385]) #[]) ::
  (nat_lit 72, fO 10 "cpy313.tomllib._parser" 198 71) ::
  (nat_lit 73, Obj.mk (Value.type "tuple") none (Data.seq #[]) #[]) ::
  (nat_lit 75, Obj.mk (Value.type "tuple") none (Data.seq #[Value.str (Str.ofString "src") 390, Value.str (Str.ofString "pos") 391, Value.str (Str.ofString "expect") 392, Value.str (Str.ofString "error_on") 393, Value.str (Str.ofString "error_on_eof") 394, Value.str (Str.ofString "new_pos") 395]) #[]) ::
  (nat_lit 76, Obj.mk (Value.type "tuple") none (Data.seq #[]) #[]) ::
  (nat_lit 78, Obj.mk (Value.type "code") none (Data.fields #[Value.str (Str.ofString "skip_until") 387, Value.str (Str.ofString "skip_until") 388, Value.str (Str.ofString "/claim/cut.py") 389, Value.int 29 0, Value.int 3 0, Value.int 0 0, Value.int 2 0, Value.int 3 0, Value.ref 73, Value.bool true, Value.int 181 0, Value.ref 74, Value.none, Value.ref 75, Value.ref 76, Value.ref 77, Value.int 396 0, Value.int 29 0, Value.str (Str.ofString "/claim/cut.py") 397]) #[]) ::
  (nat_lit 79, fO 11 "cpy313.tomllib._parser" 198 78) ::
  (nat_lit 80, Obj.mk (Value.type "tuple") none (Data.seq #[]) #[]) ::
  (nat_lit 82, Obj.mk (Value.type "tuple") none (Data.seq #[Value.str (Str.ofString "src") 402, Value.str (Str.ofString "pos") 403, Value.str (Str.ofString "char") 404]) #[]) ::
  (nat_lit 83, Obj.mk (Value.type "tuple") none (Data.seq #[]) #[]) ::
  (nat_lit 85, Obj.mk (Value.type "code") none (Data.fields #[Value.str (Str.ofString "skip_comment") 399, Value.str (Str.ofString "skip_comment") 400, Value.str (Str.ofString "/claim/cut.py") 401, Value.int 41 0, Value.int 2 0, Value.int 0 0, Value.int 0 0, Value.int 3 0, Value.ref 80, Value.bool true, Value.int 181 0, Value.ref 81, Value.none, Value.ref 82, Value.ref 83, Value.ref 84, Value.int 405 0, Value.int 41 0, Value.str (Str.ofString "/claim/cut.py") 406]) #[]) ::
  (nat_lit 86, fO 12 "cpy313.tomllib._parser" 198 85) ::
  (nat_lit 87, Obj.mk (Value.type "tuple") none (Data.seq #[]) #[]) ::
  (nat_lit 89, Obj.mk (Value.type "tuple") none (Data.seq #[Value.str (Str.ofString "src") 411, Value.str (Str.ofString "pos") 412, Value.str (Str.ofString "pos_before_skip") 413]) #[]) ::
  (nat_lit 90, Obj.mk (Value.type "tuple") none (Data.seq #[]) #[]) ::
  (nat_lit 92, Obj.mk (Value.type "code") none (Data.fields #[Value.str (Str.ofString "skip_comments_and_array_ws") 408, Value.str (Str.ofString "skip_comments_and_array_ws") 409, Value.str (Str.ofString "/claim/cut.py") 410, Value.int 49 0, Value.int 2 0, Value.int 0 0, Value.int 0 0, Value.int 3 0, Value.ref 87, Value.bool true, Value.int 181 0, Value.ref 88, Value.none, Value.ref 89, Value.ref 90, Value.ref 91, Value.int 414 0, Value.int 49 0, Value.str (Str.ofString "/claim/cut.py") 415]) #[]) ::
  (nat_lit 93, fO 13 "cpy313.tomllib._parser" 198 92) ::
  (nat_lit 94, Obj.mk (Value.type "tuple") none (Data.seq #[]) #[]) ::
  (nat_lit 96, Obj.mk (Value.type "tuple") none (Data.seq #[Value.str (Str.ofString "src") 420, Value.str (Str.ofString "pos") 421, Value.str (Str.ofString "start_pos") 422]) #[]) ::
  (nat_lit 97, Obj.mk (Value.type "tuple") none (Data.seq #[]) #[]) ::
  (nat_lit 99, Obj.mk (Value.type "code") none (Data.fields #[Value.str (Str.ofString "parse_literal_str") 417, Value.str (Str.ofString "parse_literal_str") 418, Value.str (Str.ofString "/claim/cut.py") 419, Value.int 56 0, Value.int 2 0, Value.int 0 0, Value.int 0 0, Value.int 3 0, Value.ref 94, Value.bool true, Value.int 181 0, Value.ref 95, Value.none, Value.ref 96, Value.ref 97, Value.ref 98, Value.int 423 0, Value.int 56 0, Value.str (Str.ofString "/claim/cut.py") 424]) #[]) ::
  (nat_lit 100, fO 14 "cpy313.tomllib._parser" 198 99) ::
  (nat_lit 101, Obj.mk (Value.type "tuple") none (Data.seq #[]) #[]) ::
  (nat_lit 103, Obj.mk (Value.type "tuple") none (Data.seq #[Value.str (Str.ofString "src") 429, Value.str (Str.ofString "pos") 430, Value.str (Str.ofString "msg") 431, Value.str (Str.ofString "coord_repr") 432]) #[]) ::
  (nat_lit 104, Obj.mk (Value.type "tuple") none (Data.seq #[]) #[]) ::
  (nat_lit 106, Obj.mk (Value.type "code") none (Data.fields #[Value.str (Str.ofString "suffixed_err") 426, Value.str (Str.ofString "suffixed_err") 427, Value.str (Str.ofString "/claim/cut.py") 428, Value.int 61 0, Value.int 3 0, Value.int 0 0, Value.int 0 0, Value.int 3 0, Value.ref 101, Value.bool true, Value.int 181 0, Value.ref 102, Value.none, Value.ref 103, Value.ref 104, Value.ref 105, Value.int 433 0, Value.int 61 0, Value.str (Str.ofString "/claim/cut.py") 434]) #[]) ::
  (nat_lit 107, fO 15 "cpy313.tomllib._parser" 198 106) ::
  (nat_lit 108, Obj.mk (Value.type "tuple") none (Data.seq #[]) #[]) ::
  (nat_lit 110, Obj.mk (Value.type "tuple") none (Data.seq #[Value.str (Str.ofString "draws") 441, Value.str (Str.ofString "gaps") 442, Value.str (Str.ofString "text") 443, Value.str (Str.ofString "plans") 444, Value.str (Str.ofString "x") 445, Value.str (Str.ofString "language") 446, Value.str (Str.ofString "encoding") 447, Value.str (Str.ofString "pieces") 448, Value.str (Str.ofString "kind") 449, Value.str (Str.ofString "sign") 450, Value.str (Str.ofString "start") 451, Value.str (Str.ofString "place") 452, Value.str (Str.ofString "i") 453, Value.str (Str.ofString "piece") 454, Value.str (Str.ofString "last") 455]) #[]) ::
  (nat_lit 111, Obj.mk (Value.type "tuple") none (Data.seq #[]) #[]) ::
  (nat_lit 113, Obj.mk (Value.type "code") none (Data.fields #[Value.str (Str.ofString "_law_file") 438, Value.str (Str.ofString "_law_file") 439, Value.str (Str.ofString "/claim/cut.py") 440, Value.int 74 0, Value.int 1 0, Value.int 0 0, Value.int 0 0, Value.int 3 0, Value.ref 108, Value.bool true, Value.int 181 0, Value.ref 109, Value.none, Value.ref 110, Value.ref 111, Value.ref 112, Value.int 456 0, Value.int 74 0, Value.str (Str.ofString "/claim/cut.py") 457]) #[]) ::
  (nat_lit 114, fO 17 "law_nb0113_01" 436 113) ::
  (nat_lit 115, Obj.mk (Value.type "tuple") none (Data.seq #[]) #[]) ::
  (nat_lit 118, Obj.mk (Value.type "code") none (Data.fields #[Value.str (Str.ofString "_law_read") 459, Value.str (Str.ofString "_law_read") 460, Value.str (Str.ofString "/claim/cut.py") 461, Value.int 103 0, Value.int 3 0, Value.int 0 0, Value.int 0 0, Value.int 3 0, Value.ref 115, Value.bool true, Value.int 181 0, Value.ref 116, Value.none, Value.none, Value.none, Value.ref 117, Value.int 462 0, Value.int 103 0, Value.str (Str.ofString "/claim/cut.py") 463]) #[]) ::
  (nat_lit 119, fO 18 "law_nb0113_01" 436 118) ::
  (nat_lit 120, Obj.mk (Value.type "tuple") none (Data.seq #[]) #[]) ::
  (nat_lit 122, Obj.mk (Value.type "tuple") none (Data.seq #[Value.str (Str.ofString "text") 468, Value.str (Str.ofString "pieces") 469, Value.str (Str.ofString "kind") 470, Value.str (Str.ofString "place") 471, Value.str (Str.ofString "end") 472, Value.str (Str.ofString "lines") 473, Value.str (Str.ofString "words") 474, Value.str (Str.ofString "parts") 475]) #[]) ::
  (nat_lit 123, Obj.mk (Value.type "tuple") none (Data.seq #[]) #[]) ::
  (nat_lit 125, Obj.mk (Value.type "code") none (Data.fields #[Value.str (Str.ofString "_law_due") 465, Value.str (Str.ofString "_law_due") 466, Value.str (Str.ofString "/claim/cut.py") 467, Value.int 118 0, Value.int 5 0, Value.int 0 0, Value.int 0 0, Value.int 3 0, Value.ref 120, Value.bool true, Value.int 181 0, Value.ref 121, Value.none, Value.ref 122, Value.ref 123, Value.ref 124, Value.int 476 0, Value.int 118 0, Value.str (Str.ofString "/claim/cut.py") 477]) #[]) ::
  (nat_lit 126, fO 19 "law_nb0113_01" 436 125) ::
  (nat_lit 127, Obj.mk (Value.type "tuple") none (Data.seq #[]) #[]) ::
  (nat_lit 130, Obj.mk (Value.type "code") none (Data.fields #[Value.str (Str.ofString "law") 479, Value.str (Str.ofString "law") 480, Value.str (Str.ofString "/claim/cut.py") 481, Value.int 131 0, Value.int 1 0, Value.int 0 0, Value.int 0 0, Value.int 3 0, Value.ref 127, Value.bool true, Value.int 181 0, Value.ref 128, Value.none, Value.none, Value.none, Value.ref 129, Value.int 482 0, Value.int 131 0, Value.str (Str.ofString "/claim/cut.py") 483]) #[]) ::
  (nat_lit 131, fO 20 "law_nb0113_01" 436 130) :: []

/-- the view: the top's statements but the two `__name__` lines that are written over -/
def VV : Program := { PySem.Challenge.pw_nb0113_01 with main := { PySem.Challenge.pw_nb0113_01.main with body := [stA 1, stA 3, stA 4, stA 5, stA 6, stA 7, stA 8, stA 9, stA 10, stA 11, stA 12, stA 13, stA 14, stA 15, stA 17, stA 18, stA 19, stA 20] } }
abbrev LL : List PySem.Str := [Str.ofString "ASCII_CTRL", Str.ofString "ILLEGAL_BASIC_STR_CHARS", Str.ofString "ILLEGAL_LITERAL_STR_CHARS", Str.ofString "ILLEGAL_COMMENT_CHARS", Str.ofString "TOML_WS", Str.ofString "TOML_WS_AND_NEWLINE"]
/-- every name that the top binds -/
abbrev LG : List PySem.Str := [Str.ofString "ASCII_CTRL", Str.ofString "ILLEGAL_BASIC_STR_CHARS", Str.ofString "ILLEGAL_LITERAL_STR_CHARS", Str.ofString "ILLEGAL_COMMENT_CHARS", Str.ofString "TOML_WS", Str.ofString "TOML_WS_AND_NEWLINE", Str.ofString "_build_localename", Str.ofString "skip_chars", Str.ofString "skip_until", Str.ofString "skip_comment", Str.ofString "skip_comments_and_array_ws", Str.ofString "parse_literal_str", Str.ofString "suffixed_err", Str.ofString "_law_file", Str.ofString "_law_read", Str.ofString "_law_due", Str.ofString "law", Str.ofString "TOMLDecodeError"]
end Mine
end
section
open PySem PySem.W PyProof.Rows PySem.Calls
namespace Mine
/-- the walk stands still here -/
def Halt (P : Prop) : Prop := P
theorem Halt.mk {P : Prop} (h : Halt P) : P := h
theorem Halt.out {P : Prop} (h : P) : Halt P := h
theorem map_self {m : PySem.Str → Option Value} {x : PySem.Str} {v : Option Value} (h : m x = v) : (fun y => if y = x then v else m y) = m := by
  funext y
  by_cases e : y = x
  · subst e; rw [if_pos rfl, h]
  · rw [if_neg e]
theorem map_two {m : PySem.Str → Option Value} {x : PySem.Str} {v v' : Option Value} : (fun y => if y = x then v else (if y = x then v' else m y)) = fun y => if y = x then v else m y := by
  funext y
  by_cases e : y = x
  · rw [if_pos e, if_pos e]
  · rw [if_neg e, if_neg e, if_neg e]
/-- what a turn of a counting while leaves -/
def UpStep (h₀ : Heap) (L : Addr) (s : Shared) (m : PySem.Str → Option Value) (x : PySem.Str) (news : List (Addr × Obj)) (k j : Nat) (f : Flow) (s₃ : Shared) : Prop :=
  f = .next ∧ ∃ h' tk t, s₃ = { s with heap := h', toks := tk } ∧ Fr h₀ L h' (fun y => if y = x then some (.int ((j + 1 : Nat) : Int) t) else m y) ∧ News h₀ L h' news ∧ j + 1 ≤ k
theorem UpStep.mk' {h₀ h' : Heap} {L : Addr} {s : Shared} {m : PySem.Str → Option Value} {x : PySem.Str} {news : List (Addr × Obj)} {k j tk : Nat} {v : Int} {t : Tok} {v₀ : Option Value}
    (F : Fr h₀ L h' (fun y => if y = x then some (.int v t) else (if y = x then v₀ else m y))) (N : News h₀ L h' news) (hv : v = ((j + 1 : Nat) : Int)) (hk : j + 1 ≤ k) :
    UpStep h₀ L s m x news k j .next { s with heap := h', toks := tk } := by
  subst hv
  rw [map_two] at F
  exact ⟨rfl, h', tk, t, rfl, F, N, hk⟩
theorem step2_next {h₀ h' : Heap} {L : Addr} {s : Shared} {J : Nat → (PySem.Str → Option Value) → List (Addr × Obj) → Prop} {Q : Flow → Shared → Prop} {n n' tk : Nat} {m₂ : PySem.Str → Option Value} {news₂ : List (Addr × Obj)}
    (F : Fr h₀ L h' m₂) (N : News h₀ L h' news₂) (hn : n' < n) (hJ : J n' m₂ news₂) : WhileStep2 h₀ L s J Q n .next { s with heap := h', toks := tk } :=
  ⟨h', tk, m₂, news₂, n', rfl, F, N, hn, hJ⟩
section
variable {prog : Program} {w : World} {A : Around} {E : Value → Shared → Prop} {Q : Flow → Shared → Prop} {s : Shared} {env : Env} {h₀ : Heap} {L : Addr}
theorem while_up {test : PySem.Expr} {body : List Stmt} {pos : Pos} {m : PySem.Str → Option Value} {news : List (Addr × Obj)} (x : PySem.Str) (lo k : Nat) {t₀ : Tok}
    (F : Fr h₀ L s.heap m) (N : News h₀ L s.heap news) (hx : m x = some (.int lo t₀)) (hlk : lo ≤ k)
    (turn : ∀ j t h₁ tk₁, lo ≤ j → j ≤ k → Fr h₀ L h₁ (fun y => if y = x then some (.int (j : Nat) t) else m y) → News h₀ L h₁ news →
      wpAny (model prog w) A (isTrue test env (eval test env)) (fun b s₂ =>
        if b = true then wpAny (model prog w) A (execs body env) (UpStep h₀ L s m x news k j) E s₂ else Q .next s₂) E { s with heap := h₁, toks := tk₁ })
    (hE : PassesOwn (model prog w) A env E := by passes_own) :
    wpAny (model prog w) A (exec (.While test body [] pos) env) Q E s := by
  refine While_inv (fun n m₁ news₁ => news₁ = news ∧ ∃ (j : Nat) (t : Tok), n = k - j ∧ lo ≤ j ∧ j ≤ k ∧ m₁ = fun y => if y = x then some (.int (j : Nat) t) else m y) (n₀ := k - lo) F N
    ⟨rfl, lo, t₀, rfl, Nat.le_refl _, hlk, (map_self hx).symm⟩ ?_ hE
  rintro n m₁ news₁ h₁ tk₁ F₁ N₁ ⟨rfl, j, t, rfl, hj1, hj2, rfl⟩
  refine wpAny_mono (turn j t h₁ tk₁ hj1 hj2 F₁ N₁) (fun b s₂ h₂ => ?_) (fun _ _ x => x)
  cases b with
  | false => simpa using h₂
  | true =>
    simp only [if_true] at h₂ ⊢
    refine wpAny_mono h₂ (fun f s₃ h₃ => ?_) (fun _ _ x => x)
    obtain ⟨rfl, h', tk, t', rfl, F', N', hjk⟩ := h₃
    exact ⟨rfl, h', tk, _, news₁, k - (j + 1), rfl, F', N', by omega, rfl, j + 1, t', rfl, by omega, hjk, rfl⟩
end
section
variable {prog : Program} {w : World} {K : Type} [DecidableEq K] {knd : KeyKind prog w K}
theorem froz_keeps {h h' : Heap} {a : Addr} {S : K → Bool} {n : Nat} (hS : FrozAt knd h a S n) (k : ∀ b o, h.get? b = some o → h'.get? b = some o) : FrozAt knd h' a S n := by
  obtain ⟨es, ep, t, ho, r⟩ := hS
  exact ⟨es, ep, t, k _ _ ho, r⟩
end
/-- a call whose ways meet: what it gives, then the rest once -/
theorem split_call {M : Model} {A : Around} {t : Sem Value} {Q E : Value → Shared → Prop} {s : Shared} {g : Heap} {L : Addr} {m : PySem.Str → Option Value} {news : List (Addr × Obj)} {V : Value → Prop} (F : Fr g L s.heap m) (N : News g L s.heap news)
    (call : Fr g L s.heap m → News g L s.heap news → wpAny M A t (fun v s' => ∃ h tk, V v ∧ s' = { s with heap := h, toks := tk } ∧ Fr g L h m ∧ News g L h news) (fun _ _ => False) s)
    (rest : ∀ v h tk, V v → Fr g L h m → News g L h news → Q v { s with heap := h, toks := tk }) : wpAny M A t Q E s :=
  wpAny_mono (call F N) (fun v s' ⟨h, tk, hv, e, F', N'⟩ => by rw [e]; exact rest v h tk hv F' N') (fun _ _ x => x.elim)
theorem news_up {h₀ g h : Heap} {L L' : Addr} {m : PySem.Str → Option Value} {news : List (Addr × Obj)} (FG : Fr h₀ L g m) (N : News g L' h news) : News h₀ L h news := fun p hp => by
  obtain ⟨h1, h2, h3⟩ := N p hp
  refine ⟨h1, fun e => ?_, ?_⟩
  · obtain ⟨o, _, _, ho, _⟩ := FG.ns
    rw [e, ho] at h3; cases h3
  · cases hq : h₀.get? p.1 with
    | none => rfl
    | some o => rw [FG.keep _ _ hq] at h3; cases h3
theorem item_at {x : PySem.Str} {i : Nat} {c : Nat} (h : x.cps[i]? = some c) : Txt.item x (i : Int) = ⟨#[c]⟩ := by
  unfold Txt.item
  have hlt : i < x.length := (Array.getElem?_eq_some_iff.mp h).1
  have : Txt.charAt x (i : Int) = some c := by
    have e : seqIndex? (i : Int) x.length = some i := by
      unfold seqIndex?
      have hj : (if (i : Int) < 0 then (i : Int) + (x.length : Int) else (i : Int)) = (i : Int) := if_neg (by omega)
      simp only [hj]
      rw [if_pos (by simp only [Bool.and_eq_true, decide_eq_true_eq]; omega)]
      rfl
    unfold Txt.charAt
    rw [e]; exact h
  rw [this]; rfl
end Mine
end
section
open PySem PySem.W PyProof.Rows PySem.Calls
set_option maxHeartbeats 4000000
namespace Mine
def wsS (x : PySem.Str) : Bool := x == ⟨#[32]⟩ || x == ⟨#[9]⟩ || x == ⟨#[10]⟩
theorem skip_chars_ok {w : World} {A A₀ : Around} {base h₀ : Heap} {outer : List Env} {env : Env} {L : Addr} {m : PySem.Str → Option Value} {news : List (Addr × Obj)} {s : Shared} {Q E : Value → Shared → Prop} {mg mb : PySem.Str → Option Value} {mean : ExcName → Option Value}
  (B : Below A₀ base outer h₀) (F : Fr h₀ L s.heap m) (X : (KK w.params).In h₀) (N : News h₀ L s.heap news) (T : Top topProg LG mean mg mb h₀)
  (hA : A.frames = some (env :: outer)) (hf : env.frame = some L) (hke : env.scope.kind = .function) (hd : A.depth + 1 < recursionLimit) (hu : A.units + 8 < cLine)
  (hS : FrozAt (strKind PR w) h₀ 52 wsS 3) (src : PySem.Str) (pos k : Nat) (hlen : src.length ≤ 100000) (t1 t2 : Tok)
  (hws : ∀ j, pos ≤ j → j < k → ∃ c, src.cps[j]? = some c ∧ wsS ⟨#[c]⟩ = true) (hpk : pos ≤ k) (hend : ∃ c, src.cps[k]? = some c ∧ wsS ⟨#[c]⟩ = false)
  (hret : ∀ t h' tk', Fr h₀ L h' m → News h₀ L h' news → Q (.int k t) {s with heap := h', toks := tk'}) :
  wpAny (model PR w) A (call (.ref 72) [.str src t1, .int pos t2, .ref 52]) Q E s := by
  have kf0 : PySem.Challenge.rw_nb0113_01 = PySem.Challenge.rw_nb0113_01 ∧ KK = KK := by (k_fill; exact ⟨rfl, rfl⟩)
  clear kf0
  obtain ⟨ck, hck, hck'⟩ := hend
  have hkl : k < src.length := (Array.getElem?_eq_some_iff.mp hck).1
  refine wpAny_call ?_
  k_dflt (refine' code_def ?k1 ?k2 ?k3 ?k4 ?k5 ?kA ?kF ?kK ?k6 ?k7 ?k8 ?k9 ?kB ?_ ?c2 ?c3 ?c4 ?c5; (case kA => exact hA); (case kF => exact hf); (case kK => assumption); (case k1 => k_asm); (case k2 => k_asm); (case k3 => k_asm); (case k4 => k_asm); (case k5 => k_asm); (case k6 => k_is); (case k7 => k_is); (case k8 => omega); (case k9 => exact BindsTo.of_eq rfl); (case c5 => decide); (case kB => exact locs rfl); (case c2 => exact rfl); (case c3 => exact rfl); (case c4 => exact rfl); k_whole)
  intro g' L' h' FG' F' N' B' X' T'
  have hS' := froz_keeps hS FG'.keep
  (with_unfolding_all show wpAny _ _ (execs [_, _] _) _ _ _)
  (try dsimp only); (try k_lift B'); (try k_fold)
  walk1
  walk1
  walk1
  walk1
  refine while_up (Str.ofString "pos") pos k F' N' rfl hpk ?_
  intro j t h₁ tk₁ hj1 hj2 F₁ N₁
  clear F' N'
  by_cases hjk : j = k
  · subst hjk
    have hcs : wsS (Txt.item src (j : Int)) = false := by rw [item_at hck]; exact hck'
    k_steps
    all_goals exact hret _ _ _ (by k_asm) (by k_asm)
  · obtain ⟨c, hc, hcw⟩ := hws j hj1 (by omega)
    have hcs : wsS (Txt.item src (j : Int)) = true := by rw [item_at hc]; exact hcw
    k_steps
    exact UpStep.mk' (by k_asm) (by k_asm) (by omega) (by omega)
end Mine
end
section
open PySem PySem.W PyProof.Rows PySem.Calls PySem.Builtin PySem.Builtin.Str
namespace Mine
/-- the text of one sign -/
abbrev one (c : Nat) : PySem.Str := ⟨#[c]⟩
abbrev cl (x : PySem.Str) : List Nat := x.cps.toList
theorem cl_len (x : PySem.Str) : (cl x).length = x.length := by simp [cl, Str.length]
theorem subAt_one (x : PySem.Str) (c i : Nat) : subAt x (one c) i = ((cl x)[i]? == some c) := by
  rw [StrLaws.subAt_eq]
  show (List.take 1 (List.drop i (cl x)) == [c]) = _
  rw [Bool.eq_iff_iff, StrLaws.take1_drop]
  simp
/-- the places of c in [lo, hi) -/
def places (l : List Nat) (c lo hi : Nat) : List Nat := (List.range' lo (hi - lo)).filter fun i => l[i]? == some c
theorem occ_run (x : PySem.Str) (c hi limit : Nat) : ∀ (n a free : Nat) (acc : Array Nat), free ≤ a → acc.size + n ≤ limit →
    (forIn (List.range' a n) (acc, free) (StrLaws.occBody x (one c) hi limit)).run.fst.toList = acc.toList ++ (List.range' a n).filter (fun i => decide (i + 1 ≤ hi) && ((cl x)[i]? == some c))
  | 0, a, free, acc, _, _ => by simp
  | n + 1, a, free, acc, hf, hl => by
    rw [List.range'_succ, List.forIn_cons]
    unfold StrLaws.occBody
    rw [subAt_one]
    have hlen : (one c).length = 1 := rfl
    rw [hlen]
    by_cases h1 : a + 1 ≤ hi ∧ ((cl x)[a]? == some c) = true
    · rw [if_pos ⟨⟨⟨by show acc.size < limit; omega, hf⟩, h1.1⟩, h1.2⟩]
      have ih := occ_run x c hi limit n (a + 1) (a + 1) (acc.push a) (Nat.le_refl _) (by simp; omega)
      have e : (decide (a + 1 ≤ hi) && ((cl x)[a]? == some c)) = true := by rw [h1.2, Bool.and_true]; exact decide_eq_true h1.1
      rw [List.filter_cons, if_pos e]
      show (forIn (List.range' (a + 1) n) (acc.push a, a + 1) (StrLaws.occBody x (one c) hi limit)).run.fst.toList = _
      rw [ih]
      simp
    · rw [if_neg (fun h => h1 ⟨h.1.2, h.2⟩)]
      have ih := occ_run x c hi limit n (a + 1) free acc (by omega) (by omega)
      have e : ¬ (decide (a + 1 ≤ hi) && ((cl x)[a]? == some c)) = true := fun h => h1 (by
        simp only [Bool.and_eq_true, decide_eq_true_eq] at h; exact h)
      rw [List.filter_cons, if_neg e]
      show (forIn (List.range' (a + 1) n) (acc, free) (StrLaws.occBody x (one c) hi limit)).run.fst.toList = _
      rw [ih]
theorem occ_all (x : PySem.Str) (c lo hi limit : Nat) (hl : hi + 1 ≤ limit) : occurrences x (one c) lo hi limit = places (cl x) c lo hi := by
  rw [StrLaws.occ_eq, occ_run x c hi limit _ _ _ _ (Nat.le_refl _) (by simp; omega)]
  unfold places
  by_cases h : lo ≤ hi
  · rw [show hi + 1 - lo = (hi - lo) + 1 by omega, List.range'_concat, List.filter_append]
    have e : List.filter (fun i => decide (i + 1 ≤ hi) && ((cl x)[i]? == some c)) [lo + 1 * (hi - lo)] = [] := by
      rw [List.filter_cons, if_neg (by simp only [Bool.and_eq_true, decide_eq_true_eq, not_and]; omega)]; rfl
    rw [e, List.append_nil]
    simp only [List.nil_append]
    refine List.filter_congr fun i hi' => ?_
    have := List.mem_range'_1.mp hi'
    rw [decide_eq_true (by omega), Bool.true_and]
  · rw [show hi - lo = 0 by omega]
    have : hi + 1 - lo = 0 ∨ hi + 1 - lo = 0 := by omega
    rw [show hi + 1 - lo = 0 by omega]
    simp
theorem last_run (x : PySem.Str) (c hi : Nat) : ∀ (n a : Nat) (acc : Option Nat),
    (forIn (List.range' a n) acc (StrLaws.lastBody x (one c) hi)).run = (((List.range' a n).filter (fun i => decide (i + 1 ≤ hi) && ((cl x)[i]? == some c))).getLast?).or acc
  | 0, a, acc => by simp
  | n + 1, a, acc => by
    rw [List.range'_succ, List.forIn_cons]
    unfold StrLaws.lastBody
    rw [subAt_one]
    have hlen : (one c).length = 1 := rfl
    rw [hlen]
    by_cases h1 : a + 1 ≤ hi ∧ ((cl x)[a]? == some c) = true
    · rw [if_pos ⟨h1.1, h1.2⟩]
      have ih := last_run x c hi n (a + 1) (some a)
      have e : (decide (a + 1 ≤ hi) && ((cl x)[a]? == some c)) = true := by rw [h1.2, Bool.and_true]; exact decide_eq_true h1.1
      rw [List.filter_cons, if_pos e]
      show (forIn (List.range' (a + 1) n) (some a) (StrLaws.lastBody x (one c) hi)).run = _
      rw [ih, List.getLast?_cons]
      cases (List.filter (fun i => decide (i + 1 ≤ hi) && ((cl x)[i]? == some c)) (List.range' (a + 1) n)).getLast? <;> rfl
    · rw [if_neg (fun h => h1 ⟨h.1, h.2⟩)]
      have ih := last_run x c hi n (a + 1) acc
      have e : ¬ (decide (a + 1 ≤ hi) && ((cl x)[a]? == some c)) = true := fun h => h1 (by
        simp only [Bool.and_eq_true, decide_eq_true_eq] at h; exact h)
      rw [List.filter_cons, if_neg e]
      exact ih
theorem last_all (x : PySem.Str) (c lo hi : Nat) : lastOccurrence x (one c) lo hi = (places (cl x) c lo hi).getLast? := by
  rw [StrLaws.last_eq, last_run]
  unfold places
  by_cases h : lo ≤ hi
  · rw [show hi + 1 - lo = (hi - lo) + 1 by omega, List.range'_concat, List.filter_append]
    have e : List.filter (fun i => decide (i + 1 ≤ hi) && ((cl x)[i]? == some c)) [lo + 1 * (hi - lo)] = [] := by
      rw [List.filter_cons, if_neg (by simp only [Bool.and_eq_true, decide_eq_true_eq, not_and]; omega)]; rfl
    rw [e, List.append_nil, Option.or_none]
    congr 1
    refine List.filter_congr fun i hi' => ?_
    have := List.mem_range'_1.mp hi'
    rw [decide_eq_true (by omega), Bool.true_and]
  · rw [show hi - lo = 0 by omega, show hi + 1 - lo = 0 by omega]
    simp
end Mine
end
section
open PySem PySem.W PyProof.Rows PySem.Calls PySem.Builtin PySem.Builtin.Str
namespace Mine
theorem from_nat (n a : Nat) : fromIndex n (a : Int) = a := by
  unfold fromIndex
  rw [if_neg (by omega)]
  omega
theorem gives_count4 (x y : PySem.Str) (a b : Int) (t u ta tb : Tok) : Gives («str.count» ⟨[.str x t, .str y u, .int a ta, .int b tb], []⟩) (.int (occurrences x y (fromIndex x.length a) (min (fromIndex x.length b) x.length) (x.length + 1)).length) := by
  show Gives (retInt (occurrences x y (fromIndex x.length a) (min (fromIndex x.length b) x.length) (x.length + 1)).length) _
  exact .of_eq rfl
theorem gives_rindex4 (x y : PySem.Str) (a b : Int) (t u ta tb : Tok) (i : Nat) (h : lastOccurrence x y (fromIndex x.length a) (min (fromIndex x.length b) x.length) = some i) : Gives («str.rindex» ⟨[.str x t, .str y u, .int a ta, .int b tb], []⟩) (.int i) := by
  show Gives (match lastOccurrence x y (fromIndex x.length a) (min (fromIndex x.length b) x.length) with | some i => retInt i | none => (do rule "str.rindex.not-found"; raiseError "ValueError" "substring not found")) _
  rw [h]
  exact .of_eq rfl
theorem gives_index3 (x y : PySem.Str) (a : Int) (t u ta : Tok) (i : Nat) (rest : List Nat) (h : occurrences x y (fromIndex x.length a) x.length 1 = i :: rest) : Gives («str.index» ⟨[.str x t, .str y u, .int a ta], []⟩) (.int i) := by
  show Gives (match occurrences x y (fromIndex x.length a) (min x.length x.length) 1 with | i :: _ => retInt i | [] => (do rule "str.index.not-found"; raiseError "ValueError" "substring not found")) _
  rw [Nat.min_self, h]
  exact .of_eq rfl
theorem raises_index3 (x y : PySem.Str) (a : Int) (t u ta : Tok) (h : occurrences x y (fromIndex x.length a) x.length 1 = []) : Meets («str.index» ⟨[.str x t, .str y u, .int a ta], []⟩) (raisesNew "ValueError") := by
  intro prog w A R s hS
  show wpAny _ _ (match occurrences x y (fromIndex x.length a) (min x.length x.length) 1 with | i :: _ => retInt i | [] => _) _ _ s
  rw [Nat.min_self, h]
  first
    | exact wpAny_bind (wpAny_rule (by exact_raiseError plainExc_ValueError hS.1 hS.2))
    | exact wpAny_bind (wpAny_rule (wpAny_bind (by exact_raiseError plainExc_ValueError hS.1 hS.2)))
section
variable {prog : Program} {w : World} {A : Around} {E : Value → Shared → Prop} {s : Shared} {x y : PySem.Str} {t u ta tb : Tok} {Q : Value → Shared → Prop}
theorem call_count4 {b : Nat} {c : Nat} (hb : b ≤ x.length) (hq : Q (.int ((places (cl x) c 0 b).length : Nat) s.toks) { s with toks := s.toks + 1 }) :
    wpAny (model prog w) A (call (.builtin "str.count") [.str x t, .str (one c) u, .int 0 ta, .int (b : Int) tb]) Q E s := by
  refine call_gives F.slot_str_count (typeIs_str _ _ _) F.entry_str_count (F.args_str_count_4 _ _ _ _) (gives_count4 x (one c) 0 b t u ta tb) ?_
  rw [from_nat, show fromIndex x.length 0 = 0 from rfl, Nat.min_eq_left hb, occ_all _ _ _ _ _ (by omega)]
  exact hq
theorem call_rindex4 {b c i : Nat} (hb : b ≤ x.length) (hi : (places (cl x) c 0 b).getLast? = some i) (hq : Q (.int (i : Nat) s.toks) { s with toks := s.toks + 1 }) :
    wpAny (model prog w) A (call (.builtin "str.rindex") [.str x t, .str (one c) u, .int 0 ta, .int (b : Int) tb]) Q E s := by
  refine call_gives F.slot_str_rindex (typeIs_str _ _ _) F.entry_str_rindex (F.args_str_rindex_4 _ _ _ _) (gives_rindex4 x (one c) 0 b t u ta tb i ?_) hq
  rw [from_nat, show fromIndex x.length 0 = 0 from rfl, Nat.min_eq_left hb, last_all]
  exact hi
theorem call_index3 {a c i : Nat} (hai : a ≤ i) (hi : (cl x)[i]? = some c) (hno : ∀ k, a ≤ k → k < i → (cl x)[k]? ≠ some c) (hq : Q (.int (i : Nat) s.toks) { s with toks := s.toks + 1 }) :
    wpAny (model prog w) A (call (.builtin "str.index") [.str x t, .str (one c) u, .int (a : Int) ta]) Q E s := by
  have hat : ∀ k, StrLaws.At x (one c) x.length k ↔ (cl x)[k]? = some c := fun k => by
    unfold StrLaws.At
    rw [subAt_one]
    constructor
    · intro h; simpa using h.2
    · intro h
      have hk : k < (cl x).length := (List.getElem?_eq_some_iff.mp h).1
      rw [cl_len] at hk
      exact ⟨by show k + 1 ≤ _; omega, by simpa using h⟩
  rcases StrLaws.occ_head_from x (one c) a 1 (Nat.le_refl _) with ⟨_, h2⟩ | ⟨j, r, h1, h2, h3, h4⟩
  · exact absurd ((hat i).mpr hi) (h2 i hai)
  · have : j = i := by
      rcases Nat.lt_trichotomy j i with h | h | h
      · exact absurd ((hat j).mp h3) (hno j h2 h)
      · exact h
      · exact absurd ((hat i).mpr hi) (h4 i hai h)
    subst this
    exact call_gives F.slot_str_index (typeIs_str _ _ _) F.entry_str_index (F.args_str_index_3 _ _ _) (gives_index3 x (one c) a t u ta j r (by rw [from_nat]; exact h1)) hq
theorem at_iff (x : PySem.Str) (c k : Nat) : StrLaws.At x (one c) x.length k ↔ (cl x)[k]? = some c := by
  unfold StrLaws.At
  rw [subAt_one]
  constructor
  · intro h; simpa using h.2
  · intro h
    have hk : k < (cl x).length := (List.getElem?_eq_some_iff.mp h).1
    rw [cl_len] at hk
    exact ⟨by show k + 1 ≤ _; omega, by simpa using h⟩
theorem call_index3_none {a c : Nat} (hA : A.handled = none) (hno : ∀ k, a ≤ k → (cl x)[k]? ≠ some c) (hq : ∀ h' tk e, Heap.NewExc s.heap h' e "ValueError" → E (.ref e) { s with heap := h', toks := tk }) :
    wpAny (model prog w) A (call (.builtin "str.index") [.str x t, .str (one c) u, .int (a : Int) ta]) Q E s := by
  rcases StrLaws.occ_head_from x (one c) a 1 (Nat.le_refl _) with ⟨h1, _⟩ | ⟨j, r, h1, h2, h3, h4⟩
  · exact call_meets F.slot_str_index (typeIs_str _ _ _) F.entry_str_index (F.args_str_index_3 _ _ _) (raises_index3 x (one c) a t u ta (by rw [from_nat]; exact h1)) ⟨hA, hq⟩
  · exact absurd ((at_iff x c j).mp h3) (hno j h2)
end
namespace G
theorem slot_isdisjoint : Slot "frozenset" "isdisjoint" "frozenset.isdisjoint" :=
  .of (owner := "frozenset") (n := "isdisjoint") (by rw [typeLookup_type, builtinLookup_eq_fast]; kernel_rfl) (by decide +kernel) (by decide +kernel) (by decide +kernel)
    (by first | exact .inl (by decide +kernel) | exact .inr (by decide +kernel)) (by rw [isSubtype_type]; kernel_rfl)
theorem type_isdisjoint : typeOf (.builtin "frozenset.isdisjoint") = pure (.type "method_descriptor") := by show builtinType _ = _; rw [builtinType_eq_fast]; kernel_rfl
theorem entry_isdisjoint : entryFor table "frozenset.isdisjoint" = some Builtin.«frozenset.isdisjoint» := entryFor_of_tree (by kernel_rfl)
theorem entry_isdisjoint_loop : entryFor table "frozenset.isdisjoint.loop" = some Builtin.«frozenset.isdisjoint.loop» := entryFor_of_tree (by kernel_rfl)
theorem plain_isdisjoint_loop : plainId "frozenset.isdisjoint.loop" = true := by decide +kernel
theorem args_isdisjoint (a b : Value) : argsOk "frozenset.isdisjoint" ⟨[a, b], []⟩ := by unfold argsOk; kernel_rfl
theorem plainAttrs_frozenset : PlainAttrs "frozenset" :=
  ⟨⟨"object.__getattribute__", by rw [typeLookup_type, builtinLookup_eq_fast]; kernel_rfl, by decide +kernel⟩, by rw [typeLookup_type, builtinLookup_eq_fast]; kernel_rfl⟩
end G
section
variable {prog : Program} {w : World} {A : Around} {E : Value → Shared → Prop} {s : Shared} {h₀ : Heap} {L a : Addr} {m : PySem.Str → Option Value} {S : PySem.Str → Bool} {n : Nat}
theorem getMethod_isdisjoint {pl : Sem Bool} {Q : Value × List Value → Shared → Prop} (F : Fr h₀ L s.heap m) (hS : FrozAt (strKind prog w) h₀ a S n) (h : Q (.builtin "frozenset.isdisjoint", [.ref a]) s) :
    wpAny (model prog w) A (getMethod (.ref a) "isdisjoint" pl) Q E s := by
  obtain ⟨es, ep, t, ho, _⟩ := hS
  have ho := F.keep _ _ ho
  exact getMethod_builtin ⟨_, ho, rfl⟩ G.plainAttrs_frozenset G.slot_isdisjoint G.type_isdisjoint (fun b e => by injection e with e; subst e; exact ⟨_, ho, rfl⟩) h
/-- the loop over the text's signs -/
theorem isdisj_loop {x : PySem.Str} {I : Addr} {St : Nat → Heap → Prop} {R : Result → Shared → Prop} (hb : n < 4096)
    (W : Walks prog w A.in1 I [I] [I] x.cps.size (SignAt x) St) (hne : a ≠ I) :
    ∀ (k i : Nat) (s : Shared), x.cps.size - i = k → i ≤ x.cps.size → St i s.heap → FrozAt (strKind prog w) s.heap a S n →
      (∀ h' tk, (∀ b o, b ≠ I → s.heap.get? b = some o → h'.get? b = some o) → R (.ok (.ret (.bool (((cl x).drop i).all fun c => !S (one c))))) { s with heap := h', toks := tk }) →
      codeAny (model prog w) A (.builtin "frozenset.isdisjoint.loop" ⟨[.ref a, .ref I], []⟩) R s := by
  intro k
  induction k with
  | zero =>
    intro i s hk hi hst hS hR
    have hin : i = x.cps.size := by omega
    subst hin
    refine codeAny_builtin G.entry_isdisjoint_loop ?_
    rw [Around.under_plainId G.plain_isdisjoint_loop _]
    show wpAny _ A.in1 (pyNext (.ref I) >>= _) _ _ s
    refine wpAny_bind (W.done s _ _ hst fun h' tk hk' => ?_)
    show wpAny _ A.in1 (ret (Value.bool true)) _ _ _
    have := hR h' tk (fun b o hbI e => hk' b o (by simpa using hbI) e)
    rw [List.drop_of_length_le (by simp [cl])] at this
    exact wpAny_pure this
  | succ k ih =>
    intro i s hk hi hst hS hR
    have hlt : i < x.cps.size := by omega
    refine codeAny_builtin G.entry_isdisjoint_loop ?_
    rw [Around.under_plainId G.plain_isdisjoint_loop _]
    show wpAny _ A.in1 (pyNext (.ref I) >>= _) _ _ s
    refine wpAny_bind (W.item i s _ _ hlt hst fun v h' tk hP hst' hk' => ?_)
    obtain ⟨c, u, hc, rfl⟩ := hP
    have hS' : FrozAt (strKind prog w) h' a S n := by
      obtain ⟨es, ep, t, ho, r⟩ := hS
      exact ⟨es, ep, t, hk' _ _ (by simpa using hne) ho, r⟩
    have hdrop : (cl x).drop i = c :: (cl x).drop (i + 1) := by
      have h2 : (cl x)[i]? = some c := by simpa [cl] using hc
      obtain ⟨h3, h4⟩ := List.getElem?_eq_some_iff.mp h2
      rw [List.drop_eq_getElem_cons h3, h4]
    obtain ⟨es, ep, t, ho, hel, hmem, hn, hf⟩ := hS'
    show wpAny _ A.in1 (holding [Value.str (one c) u] (setContains a (.str (one c) u)) >>= _) _ _ _
    refine wpAny_bind (wpAny_holding ?_)
    unfold setContains
    refine wpAny_holding ?_
    refine wpAny_bind ((strKind prog w).pyHash (k := one c) (isStrOf_self (one c) u) ?_)
    refine wpAny_bind (setFind_any (knd := strKind prog w) (k := one c) (s := { s with heap := h', toks := tk + 1 }) (isStrOf_self (one c) u) rfl ho rfl hel hmem (by rw [hn]; exact hb) hf fun r hr => ?_)
    refine wpAny_pure ?_
    rw [hr]
    cases hSc : S (one c) with
    | true =>
      show wpAny _ A.in1 (ret (Value.bool false)) _ _ _
      have := hR h' (tk + 1) (fun b o hbI e => hk' b o (by simpa using hbI) e)
      rw [hdrop, List.all_cons, hSc] at this
      exact wpAny_pure this
    | false =>
      show wpAny _ A.in1 (again _) _ _ _
      refine wpAny_pure ⟨plainId_quiet G.plain_isdisjoint_loop _, ih (i + 1) _ (by omega) hlt hst' ⟨es, ep, t, ho, hel, hmem, hn, hf⟩ fun h'' tk'' hk'' => ?_⟩
      have := hR h'' tk'' (fun b o hbI e => hk'' b o hbI (hk' b o (by simpa using hbI) e))
      rw [hdrop, List.all_cons, hSc] at this
      exact this
theorem isdisj {x : PySem.Str} {t : Tok} {Q : Value → Shared → Prop} (F : Fr h₀ L s.heap m) (hS : FrozAt (strKind prog w) h₀ a S n) (hb : n < 4096) (hh : A.handled = none)
    (hQ : ∀ h' tk, (∀ b o, s.heap.get? b = some o → h'.get? b = some o) → Q (.bool ((cl x).all fun c => !S (one c))) { s with heap := h', toks := tk }) :
    wpAny (model prog w) A (call (.builtin "frozenset.isdisjoint") [.ref a, .str x t]) Q E s := by
  have hS₁ := froz_keeps hS F.keep
  obtain ⟨es, ep, tt, ho, hr⟩ := id hS₁
  refine call_meetsIn (S := fun A' R s' => A' = A ∧ s' = s ∧ R = wants Q E) G.slot_isdisjoint ⟨_, ho, rfl⟩ G.entry_isdisjoint (G.args_isdisjoint _ _) ?_ ⟨rfl, rfl, rfl⟩
  rintro A' R s' ⟨rfl, rfl, rfl⟩
  unfold Builtin.«frozenset.isdisjoint» Builtin.Frozenset.oneOther
  simp only [List.isEmpty_nil, bind_assoc]
  unfold Builtin.Frozenset.addrOf
  refine wpAny_bind (wpAny_pure ?_)
  refine wpAny_bind (wpAny_pure ?_)
  have he : (Value.str x t == Value.ref a) = false := by rfl
  dsimp only
  rw [he]
  simp only [Bool.false_eq_true, ↓reduceIte]
  refine wpAny_bind (wpAny_of_eq (show typeOf (Value.str x t) = pure (.type "str") from rfl) ?_)
  have h1 : ((Value.type "str" == Value.type "set" || Value.type "str" == Value.type "frozenset") = true) = False := by
    have : (Value.type "str" == Value.type "set" || Value.type "str" == Value.type "frozenset") = false := by decide +kernel
    rw [this]; simp
  simp only [h1, if_false]
  have hlt : a < s'.heap.objs.size := Heap.lt_size ho
  refine wpAny_bind (wpAny_pyIter_str fun o St hW hSt => ?_)
  refine wpAny_pure ⟨plainId_quiet G.plain_isdisjoint_loop _, ?_⟩
  refine isdisj_loop (x := x) hb (hW _ hh) (Nat.ne_of_lt hlt) _ 0 _ rfl (Nat.zero_le _) hSt (froz_keeps hS₁ fun b o e => Heap.get?_push_of_some _ e) fun h' tk hk => ?_
  exact hQ h' tk fun b o e => hk b o (Nat.ne_of_lt (Heap.lt_size e)) (Heap.get?_push_of_some _ e)
end
theorem slice_nat (x : PySem.Str) {a b : Nat} (hab : a ≤ b) (hb : b ≤ x.length) : Txt.slice x (some (a : Int)) (some (b : Int)) = ⟨(((cl x).drop a).take (b - a)).toArray⟩ := by
  show StrLaws.sliceText x (some (a : Int)) (some (b : Int)) = _
  exact StrLaws.sliceText_nat x hab hb
theorem slice_to (x : PySem.Str) {b : Nat} (hb : b ≤ x.length) : Txt.slice x none (some (b : Int)) = ⟨((cl x).take b).toArray⟩ := by
  show StrLaws.sliceText x none (some (b : Int)) = _
  rw [StrLaws.sliceText_to ⟨by omega, by show (b : Int) ≤ ((cl x).length : Int); rw [cl_len]; omega⟩]
  simp [cl]
theorem slice_from (x : PySem.Str) {a : Nat} (ha : a ≤ x.length) : Txt.slice x (some (a : Int)) none = ⟨((cl x).drop a).toArray⟩ := by
  show StrLaws.sliceText x (some (a : Int)) none = _
  rw [StrLaws.sliceText_from ⟨by omega, by show (a : Int) ≤ ((cl x).length : Int); rw [cl_len]; omega⟩]
  simp only [cl, Int.toNat_natCast]
  congr 2
  rw [List.take_of_length_le]
  simp
end Mine
end
section
open PySem PySem.W PyProof.Rows PySem.Calls
set_option maxHeartbeats 4000000
namespace Mine
def ill (c : Nat) : Bool := (decide (c < 32) || c == 127) && c != 9
def illS (x : PySem.Str) : Bool := (List.range 128).any fun c => ill c && x == one c
theorem illS_one (c : Nat) : illS (one c) = ill c := by
  unfold illS
  cases h : ill c with
  | true =>
    rw [List.any_eq_true]
    refine ⟨c, ?_, ?_⟩
    · rw [List.mem_range]
      unfold ill at h
      simp only [Bool.and_eq_true, Bool.or_eq_true, decide_eq_true_eq, beq_iff_eq] at h
      omega
    · rw [h]; simp
  | false =>
    rw [Bool.eq_false_iff]
    intro h'
    rw [List.any_eq_true] at h'
    obtain ⟨d, _, hd⟩ := h'
    rw [Bool.and_eq_true] at hd
    have : one c = one d := by simpa using hd.2
    have e : c = d := by simpa [one] using this
    rw [e, hd.1] at h
    cases h
theorem skip_until_ok {w : World} {A A₀ : Around} {base h₀ : Heap} {outer : List Env} {env : Env} {L : Addr} {m : PySem.Str → Option Value} {news : List (Addr × Obj)} {s : Shared} {Q E : Value → Shared → Prop} {mg mb : PySem.Str → Option Value} {mean : ExcName → Option Value}
  (B : Below A₀ base outer h₀) (F : Fr h₀ L s.heap m) (X : (KK w.params).In h₀) (N : News h₀ L s.heap news) (T : Top topProg LG mean mg mb h₀)
  (hA : A.frames = some (env :: outer)) (hf : env.frame = some L) (hke : env.scope.kind = .function) (hd : A.depth + 1 < recursionLimit) (hu : A.units + 8 < cLine) (hh : A.handled = none)
  (hS : FrozAt (strKind PR w) h₀ 43 illS 32) (src : PySem.Str) (pos i c : Nat) (b : Bool) (hlen : src.length ≤ 100000) (t1 t2 t3 : Tok)
  (hpi : pos ≤ i) (hi : (cl src)[i]? = some c) (hno : ∀ k, pos ≤ k → k < i → (cl src)[k]? ≠ some c) (hok : ∀ k d, pos ≤ k → k < i → (cl src)[k]? = some d → ill d = false)
  (hret : ∀ t h' tk', Fr h₀ L h' m → News h₀ L h' news → Q (.int i t) {s with heap := h', toks := tk'}) :
  wpAny (model PR w) A (call (.ref 79) [.str src t1, .int pos t2, .str (one c) t3] [(Str.ofString "error_on", .ref 43), (Str.ofString "error_on_eof", .bool b)]) Q E s := by
  have kf0 : PySem.Challenge.rw_nb0113_01 = PySem.Challenge.rw_nb0113_01 ∧ KK = KK := by (k_fill; exact ⟨rfl, rfl⟩)
  clear kf0
  have hil : i < src.length := by
    have := (List.getElem?_eq_some_iff.mp hi).1
    rwa [cl_len] at this
  refine wpAny_call ?_
  k_dflt (refine' code_def ?k1 ?k2 ?k3 ?k4 ?k5 ?kA ?kF ?kK ?k6 ?k7 ?k8 ?k9 ?kB ?_ ?c2 ?c3 ?c4 ?c5; (case kA => exact hA); (case kF => exact hf); (case kK => assumption); (case k1 => k_asm); (case k2 => k_asm); (case k3 => k_asm); (case k4 => k_asm); (case k5 => k_asm); (case k6 => k_is); (case k7 => k_is); (case k8 => omega); (case k9 => exact BindsTo.of_eq rfl); (case c5 => decide); (case kB => exact locs rfl); (case c2 => exact rfl); (case c3 => exact rfl); (case c4 => exact rfl); k_whole)
  intro g' L' h' FG' F' N' B' X' T'
  have hS' := froz_keeps hS FG'.keep
  replace F' : Fr g' L' h' (fun y => List.lookup y [(Str.ofString "error_on_eof", .bool b), (Str.ofString "error_on", .ref 43), (Str.ofString "expect", .str (one c) t3), (Str.ofString "pos", .int pos t2), (Str.ofString "src", .str src t1)]) := F'
  (with_unfolding_all show wpAny _ _ (execs [_, _, _] _) _ _ _)
  (try dsimp only); (try k_lift B'); (try k_fold)
  k_steps
  refine call_index3 hpi hi hno ?_
  k_steps
  refine getMethod_isdisjoint (by k_asm) hS' ?_
  k_steps
  rename Fr g' L' _ _ => F₂
  rename News g' L' _ _ => N₂
  refine isdisj F₂ hS' (by decide) hh ?_
  intro h₃ tk₃ hk₃
  have F₃ := Fr.keeps F₂ hk₃
  have N₃ : News g' L' h₃ news := fun p hp => ⟨hk₃ _ _ (N₂ p hp).1, (N₂ p hp).2⟩
  have hall : ((cl (Txt.slice src (some (pos : Int)) (some (i : Int)))).all fun c => !illS (one c)) = true := by
    rw [slice_nat src hpi (Nat.le_of_lt hil), List.all_eq_true]
    intro c hc
    simp only [cl] at hc
    obtain ⟨n, hn, e⟩ := List.getElem_of_mem hc
    have h2 : (((src.cps.toList.drop pos).take (i - pos)))[n]? = some c := by rw [List.getElem?_eq_getElem hn, e]
    rw [List.getElem?_take] at h2
    split at h2
    · rename_i hlt
      rw [List.getElem?_drop] at h2
      rw [illS_one, hok (pos + n) c (by omega) (by omega) h2]; rfl
    · cases h2
  rw [hall]
  clear F₂ N₂
  k_steps
  exact hret _ _ _ (by k_asm) (by k_asm)
end Mine
end
section
open PySem PySem.SetTable
namespace Mine
def lcg (N i : Nat) : Nat := (i * 5 + 1) % N
noncomputable def orb (N : Nat) : Nat → Nat → List Nat
  | 0, _ => []
  | n + 1, i => i :: orb N n (lcg N i)
def Full (N : Nat) : Prop := ∀ i, i < N → ∀ j, j < N → j ∈ orb N N i
/-- the orbit as a number's bits -/
noncomputable def om (N : Nat) : Nat → Nat → Nat → Nat
  | 0, _, acc => acc
  | n + 1, 0, acc => om N n (lcg N 0) (acc ||| 2 ^ 0)
  | n + 1, k + 1, acc => om N n (lcg N (k + 1)) (acc ||| 2 ^ (k + 1))
theorem om_bit (N j : Nat) : ∀ n i acc, (om N n i acc).testBit j = true → acc.testBit j = true ∨ j ∈ orb N n i := by
  intro n
  induction n with
  | zero => intro i acc h; exact .inl (by simpa [om] using h)
  | succ n ih =>
    intro i acc h
    have h' : (om N n (lcg N i) (acc ||| 2 ^ i)).testBit j = true := by cases i <;> exact h
    rcases ih _ _ h' with h | h
    · rw [Nat.testBit_or, Bool.or_eq_true] at h
      rcases h with h | h
      · exact .inl h
      · rw [Nat.testBit_two_pow, decide_eq_true_eq] at h
        exact .inr (h ▸ .head _)
    · exact .inr (.tail _ h)
noncomputable def fullB (N : Nat) : Bool := (List.range N).all fun i => om N N i 0 == 2 ^ N - 1
theorem full_of {N : Nat} (h : fullB N = true) : Full N := by
  intro i hi j hj
  have := List.all_eq_true.mp h i (List.mem_range.mpr hi)
  rcases om_bit N j N i 0 (by rw [beq_iff_eq.mp this, Nat.testBit_two_pow_sub_one]; simpa using hj) with h | h
  · simp at h
  · exact h
theorem full8 : fullB 8 = true := by decide +kernel
theorem full128 : fullB 128 = true := by decide +kernel
/-- the places that the search for a free slot looks at -/
noncomputable def sq (mask : Nat) : Nat → Nat × Nat → Nat × Nat
  | 0, x => x
  | n + 1, x => sq mask n (leap mask x.1 x.2)
theorem free_none {mask : Nat} {owner : Array (Option Nat)} : ∀ {fuel i p : Nat}, layClean.free mask owner fuel i p = none → ∀ n, n < fuel → (owner.getD (sq mask n (i, p)).1 (some 0)).isNone = false
  | 0, _, _, _, n, h => absurd h (Nat.not_lt_zero _)
  | fuel + 1, i, p, h, n, hn => by
    unfold layClean.free at h
    cases hf : (List.range (runEnd mask i + 1 - i)).find? fun k => (owner.getD (i + k) (some 0)).isNone with
    | some k => rw [hf] at h; cases h
    | none =>
      rw [hf] at h
      cases n with
      | zero =>
        have h0 := List.find?_eq_none.mp hf 0 (List.mem_range.mpr (by unfold runEnd; split <;> omega))
        rw [Nat.add_zero] at h0
        exact Bool.not_eq_true _ ▸ h0
      | succ n => exact free_none (i := (leap mask i p).1) (p := (leap mask i p).2) h n (by omega)
theorem free_at {mask : Nat} {owner : Array (Option Nat)} : ∀ {fuel i p j : Nat}, layClean.free mask owner fuel i p = some j → (owner.getD j (some 0)).isNone = true
  | 0, _, _, _, h => by cases h
  | fuel + 1, i, p, j, h => by
    unfold layClean.free at h
    cases hf : (List.range (runEnd mask i + 1 - i)).find? fun k => (owner.getD (i + k) (some 0)).isNone with
    | some k =>
      rw [hf] at h
      obtain rfl : i + k = j := by simpa using h
      simpa using List.find?_some hf
    | none =>
      rw [hf] at h
      exact free_at (i := (leap mask i p).1) (p := (leap mask i p).2) h
theorem sq_add (mask : Nat) : ∀ (n m : Nat) (x : Nat × Nat), sq mask (n + m) x = sq mask m (sq mask n x)
  | 0, m, x => by rw [Nat.zero_add]; rfl
  | n + 1, m, x => by rw [Nat.add_right_comm]; exact sq_add mask n m _
theorem sq_snd (mask : Nat) : ∀ (n : Nat) (x : Nat × Nat), (sq mask n x).2 = x.2 / 32 ^ n
  | 0, x => by simp [sq]
  | n + 1, x => by
    show (sq mask n (leap mask x.1 x.2)).2 = _
    rw [sq_snd mask n]
    show x.2 / 32 / 32 ^ n = _
    rw [Nat.div_div_eq_div_mul, Nat.pow_succ, Nat.mul_comm]
theorem sq_lt (mask : Nat) : ∀ (n : Nat) (x : Nat × Nat), x.1 < mask + 1 → (sq mask n x).1 < mask + 1
  | 0, _, h => h
  | n + 1, x, _ => sq_lt mask n _ (Nat.mod_lt _ (Nat.succ_pos _))
theorem sq_orb {mask : Nat} : ∀ (N i p j : Nat), p < 32 → j ∈ orb (mask + 1) N i → ∃ n, n < N ∧ (sq mask n (i, p)).1 = j
  | 0, _, _, _, _, h => by cases h
  | N + 1, i, p, j, hp, h => by
    rcases List.mem_cons.mp h with rfl | h
    · exact ⟨0, Nat.succ_pos _, rfl⟩
    · have hq : p / 32 = 0 := Nat.div_eq_of_lt hp
      have e : leap mask i p = (lcg (mask + 1) i, 0) := by
        unfold leap lcg
        rw [hq, Nat.add_zero]
      obtain ⟨n, hn, hj⟩ := sq_orb N (lcg (mask + 1) i) 0 j (by decide) h
      refine ⟨n + 1, by omega, ?_⟩
      show (sq mask n (leap mask i p)).1 = j
      rw [e]
      exact hj
theorem bits_lt (h : Int) : bits h < 2 ^ 64 := by
  unfold bits
  have h1 := Int.emod_nonneg h (show (2 ^ 64 : Int) ≠ 0 by decide)
  have h2 := Int.emod_lt_of_pos h (show (0 : Int) < 2 ^ 64 by decide)
  omega
theorem free_ok {mask : Nat} (hF : Full (mask + 1)) {owner : Array (Option Nat)} {j₀ : Nat} (hj : j₀ < mask + 1) (hn : (owner.getD j₀ (some 0)).isNone = true) (h : Int) :
    ∃ j, layClean.free mask owner (turns mask) (bits h % (mask + 1)) (bits h) = some j := by
  cases hf : layClean.free mask owner (turns mask) (bits h % (mask + 1)) (bits h) with
  | some j => exact ⟨j, rfl⟩
  | none =>
    exfalso
    have hall := free_none hf
    have hb := bits_lt h
    have h12 : (sq mask 12 (bits h % (mask + 1), bits h)).2 < 32 := by
      rw [sq_snd]
      dsimp only
      have : (32 : Nat) ^ 12 = 2 ^ 60 := by decide
      rw [this]
      omega
    have hlt := sq_lt mask 12 (bits h % (mask + 1), bits h) (Nat.mod_lt _ (Nat.succ_pos _))
    obtain ⟨n, hn', e⟩ := sq_orb (mask := mask) (mask + 1) _ _ j₀ h12 (hF _ hlt j₀ hj)
    have := hall (12 + n) (by unfold turns; omega)
    rw [sq_add] at this
    rw [show (sq mask n (sq mask 12 (bits h % (mask + 1), bits h))).1 = j₀ from e, hn] at this
    cases this
/-- the owners so far -/
structure Own (mask n : Nat) (owner : Array (Option Nat)) : Prop where
  size : owner.size = mask + 1
  perm : List.Perm (owner.toList.filterMap id) (List.range n)
theorem Own.room {mask n : Nat} {owner : Array (Option Nat)} (o : Own mask n owner) (hn : n ≤ mask) : ∃ j, j < mask + 1 ∧ (owner.getD j (some 0)).isNone = true := by
  by_cases h : ∃ j, ∃ hj : j < owner.size, owner[j] = none
  · obtain ⟨j, hj, e⟩ := h
    refine ⟨j, by rw [← o.size]; exact hj, ?_⟩
    rw [Array.getD_eq_getD_getElem?, Array.getElem?_eq_getElem hj, e]
    rfl
  · exfalso
    have hall : ∀ x ∈ owner.toList, (id x : Option Nat).isSome = true := by
      intro x hx
      obtain ⟨j, hj, e⟩ := List.mem_iff_getElem.mp hx
      cases x with
      | some _ => rfl
      | none => exact absurd ⟨j, by simpa using hj, by simpa using e⟩ h
    have hlen : (owner.toList.filterMap id).length = owner.toList.length := by
      rw [List.length_filterMap_eq_countP]
      exact List.countP_eq_length.mpr hall
    have := o.perm.length_eq
    rw [hlen, List.length_range, Array.length_toList, o.size] at this
    omega
theorem perm_set : ∀ {l : List (Option Nat)} {j k : Nat}, l[j]? = some none → List.Perm ((l.set j (some k)).filterMap id) (k :: l.filterMap id)
  | [], j, k, h => by simp at h
  | x :: l, 0, k, h => by
    obtain rfl : x = none := by simpa using h
    simp
  | x :: l, j + 1, k, h => by
    have ih := perm_set (l := l) (j := j) (k := k) (by simpa using h)
    rw [List.set_cons_succ]
    cases x with
    | none => simpa using ih
    | some y =>
      simp only [List.filterMap_cons, id]
      exact (List.Perm.cons y ih).trans (List.Perm.swap _ _ _)
theorem Own.put {mask n j : Nat} {owner : Array (Option Nat)} (o : Own mask n owner) (hj : (owner.getD j (some 0)).isNone = true) : Own mask (n + 1) (owner.setIfInBounds j (some n)) := by
  refine ⟨by simp [o.size], ?_⟩
  rw [Array.toList_setIfInBounds]
  have hl : owner.toList[j]? = some none := by
    rw [Array.getElem?_toList]
    rw [Array.getD_eq_getD_getElem?] at hj
    cases h : owner[j]? with
    | none => rw [h] at hj; simp at hj
    | some x => rw [h] at hj; simp at hj; rw [hj]
  refine (perm_set hl).trans ?_
  rw [List.range_succ]
  exact (List.Perm.cons n o.perm).trans (List.perm_append_singleton n (List.range n)).symm
theorem lay_fold {mask : Nat} (hF : Full (mask + 1)) : ∀ (hs : List Int) (n : Nat) (owner : Array (Option Nat)), Own mask n owner → n + hs.length ≤ mask + 1 →
    ∃ owner', hs.foldl (fun acc h => (do
      let (owner, k) ← acc
      let j ← layClean.free mask owner (turns mask) (bits h % (mask + 1)) (bits h)
      pure (owner.setIfInBounds j (some k), k + 1) : Option (Array (Option Nat) × Nat))) (some (owner, n)) = some (owner', n + hs.length) ∧ Own mask (n + hs.length) owner'
  | [], n, owner, o, _ => ⟨owner, rfl, o⟩
  | h :: hs, n, owner, o, hl => by
    rw [List.length_cons] at hl
    obtain ⟨j₀, hj, hn⟩ := o.room (by omega)
    obtain ⟨j, e⟩ := free_ok hF hj hn h
    obtain ⟨owner', e', o'⟩ := lay_fold hF hs (n + 1) _ (o.put (free_at e)) (by omega)
    refine ⟨owner', ?_, by rw [List.length_cons, show n + (hs.length + 1) = n + 1 + hs.length by omega]; exact o'⟩
    rw [List.foldl_cons, List.length_cons, show n + (hs.length + 1) = n + 1 + hs.length by omega, ← e']
    congr 1
    show Option.bind (layClean.free mask owner (turns mask) (bits h % (mask + 1)) (bits h)) _ = _
    rw [e]
    rfl
theorem range_getD {owner : Array (Option Nat)} {m : Nat} (hs : owner.size = m) : ((List.range m).filterMap fun j => (owner.getD j none).map (j, ·)).map (·.2) = owner.toList.filterMap id := by
  subst hs
  rw [List.map_filterMap]
  have : owner.toList = (List.range owner.size).map fun j => owner.getD j none := by
    apply List.ext_getElem
    · simp
    · intro i h1 h2
      simp only [List.getElem_map, List.getElem_range, Array.getElem_toList]
      rw [Array.getD_eq_getD_getElem?, Array.getElem?_eq_getElem (by simpa using h1)]
      rfl
  conv => rhs; rw [this]
  rw [List.filterMap_map]
  congr 1
  funext j
  show _ = owner.getD j none
  cases owner.getD j none <;> rfl
/-- a clean table always finds its places -/
theorem laid_ok {mask finger moves : Nat} {led plain : Bool} (hF : Full (mask + 1)) (hs : Array Int) (hl : hs.size ≤ mask) :
    ∃ t order, laid mask finger moves led plain hs = some (t, order) ∧ List.Perm order.toList (List.range hs.size) ∧ t.fits hs.size = true ∧ t.mask = mask ∧ t.dummies = #[] := by
  have o0 : Own mask 0 (Array.replicate (mask + 1) none) := ⟨by simp, by simp⟩
  obtain ⟨owner, e, o⟩ := lay_fold hF hs.toList 0 _ o0 (by rw [Nat.zero_add, Array.length_toList]; omega)
  have hc : layClean mask hs = some owner := by
    unfold layClean
    rw [← Array.foldl_toList]
    rw [e]
    rfl
  rw [Nat.zero_add, Array.length_toList] at o
  refine ⟨_, _, by unfold laid; rw [hc]; rfl, ?_, ?_, rfl, rfl⟩
  · rw [List.toList_toArray, range_getD o.size]
    exact o.perm
  · have hlen : ((List.range (mask + 1)).filterMap fun j => (owner.getD j none).map (j, ·)).length = hs.size := by
      have := congrArg List.length (range_getD o.size)
      rw [List.length_map] at this
      rw [this, o.perm.length_eq, List.length_range]
    simp only [fits, fill, List.size_toArray, List.length_map, hlen, List.size_toArray, List.length_nil]
    simp
    omega
end Mine
end
section
open PySem PySem.W PyProof.Rows PySem.Calls
namespace Mine
abbrev pw : Program := PySem.Challenge.pw_nb0113_01
noncomputable def s0 (w : World) (os : OsState) : Shared := ⟨boot_heap w.params, #[], boot_drawn, boot_toks, os⟩
def goN (w : World) (n : Nat) (s : Shared) (t : Thread) : Run := runNI (denote treeTable) pw w n s t
def obAt : Run → Nat → Obj
  | .running s _, j => (s.heap.objs[j]?).getD default
  | _, _ => default
/-- the environment of the module's body -/
def benv : Env := { scope := pw.main.scope, locals := mainNs, globals := mainNs, cells := [], code := .ref 13, frame := some 14 }
def bcode : Code := .body (behindTheImports pw) benv
/-- the statements from the i-th on, as the machine stands at them -/
def NT (i : Nat) (p : Pos) : Thread :=
  ⟨((execs ((behindTheImports pw).drop i) benv).onRaise (leaving benv)).bind (fun f => (Sem.pure (Fin.done f) : Sem Fin)), bcode, p, [topFrame default]⟩
noncomputable def hp (w : World) (l : List Obj) : Heap := ⟨⟨l⟩, (boot_heap w.params).life⟩
noncomputable def sh (w : World) (os : OsState) (g : Array GenState) (k : Nat) (l : List Obj) : Shared := ⟨hp w l, g, boot_drawn, k, os⟩
def de (P : Params) (k : String) (t : Nat) (v : Value) : DictEntry := ⟨PyData.keyHash P (Str.ofString k), .str (Str.ofString k) t, v⟩
/-- the module's names -/
def gl0 (P : Params) (nm : String) (t : Nat) : List DictEntry :=
  [de P "__name__" 165 (.str (Str.ofString nm) t), de P "__doc__" 166 .none, de P "__package__" 167 .none, de P "__loader__" 168 (.builtin "__main__.__loader__#opaque"), de P "__spec__" 169 .none, de P "__annotations__" 170 (.ref 6), de P "__builtins__" 171 (.ref 4), de P "__file__" 173 (.str (Str.ofString "/claim/cut.py") 172), de P "__cached__" 174 .none, de P "_build_localename" 197 (.ref 21)]
def dictO (l : List DictEntry) (n : Nat) : Obj := { cls := .type "dict", data := .dict ⟨l⟩ n }
def tabO (l : List Value) : Obj := { cls := .none, data := .fields ⟨l⟩ }
noncomputable def boots (P : Params) (o3 : Obj) : List Obj := [boot_o_0 P, boot_o_1 P, boot_o_2 P, o3, boot_o_4 P, boot_o_5 P, boot_o_6 P, boot_o_7 P, boot_o_8 P, boot_o_9 P, boot_o_10 P]
abbrev tb12 : List Value := [.int 2 0, .int 0 0, .ref 20]
def code13 : Obj := { cls := .type "code", data := .fields #[.str (Str.ofString "<module>") 182, .str (Str.ofString "<module>") 183, .str (Str.ofString "/claim/cut.py") 184, .int 1 0, .int 0 0, .int 0 0, .int 0 0, .int 0 0, .ref 11, .bool false, .int 181 0, .ref 12, .none, .none, .none, .none, .int 185 0, .int 1 0, .str (Str.ofString "/claim/cut.py") 186] }
def frame14 : Obj := { cls := .type "frame", slots := #[some (.ref 13), some (.ref 3), some (.ref 3), none, some (.str (Str.ofString "__main__") 164), none, some (.ref 0)] }
def kk (P : Params) (a : Nat) : Obj := ((KK P).lookup a).getD default
/-- the objects 11 to 21 -/
def low (P : Params) (ob : Nat → Obj) (t12 : List Value) : List Obj := [{ cls := .type "tuple", data := .seq #[] }, tabO t12, code13, frame14, kk P 15, tabO [], kk P 17, kk P 18, ob 19, kk P 20, kk P 21]
noncomputable def S3 (w : World) (os : OsState) (ob : Nat → Obj) : Shared :=
  sh w os #[] 200 (boots w.params (dictO (gl0 w.params "cpy313.tomllib._parser" 198) 10) ++ low w.params ob tb12)
noncomputable def R3 (w : World) (os : OsState) : Run := goN w 61 (s0 w os) (topStub pw)
theorem top3 (w : World) (os : OsState) : R3 w os = .running (S3 w os (obAt (R3 w os))) (NT 3 ⟨13, 0, 13, 8⟩) := by kernel_rfl
end Mine
end
section
open PySem PySem.W PyProof.Rows PySem.Calls
namespace Mine
def genE : PySem.Expr := match stA 3 with
  | .Assign _ (.BinOp (.Call _ [g] _ _) _ _ _) _ => g
  | _ => default
def genS : Scope := match genE with
  | .GeneratorExp _ _ s _ => s
  | _ => { kind := .function, names := [], isGenerator := false, isCoroutine := false }
def cenv : Env := { scope := genS, locals := 27, globals := 3, cells := [], qual := Str.ofString "<genexpr>.", func := none, code := .ref 26, frame := some 27 }
def kAt : Run → Nat → Result → Sem Fin
  | .running _ t, j => match t.stack[j]? with
    | some (.ret k ..) => k
    | _ => fun _ => .unsupported ""
  | _, _ => fun _ => .unsupported ""
def p14 : Pos := ⟨14, 13, 14, 51⟩
def loopC (a b : Nat) : Code := .builtin "set.update.loop" ⟨[.ref a, .ref b], []⟩
/-- the frames below the loop over x's items, that fills the set a -/
def stk (k : Nat → Result → Sem Fin) (a : Nat) (x : Value) (l : List Value) (p : Pos) : List Frame :=
  [.ret (k 0) none false [.ref a] (.builtin "frozenset.__new__" ⟨[.type "frozenset", x], []⟩) p [], .ret (k 1) none false [] (.builtin "type.__call__" ⟨[.type "frozenset", x], []⟩) p [], .ret (k 2) none false l bcode p [], topFrame default]
def setO (es : Array (Int × Value)) (ep : Nat) (t : SetTable) : Obj := { cls := .type "frozenset", data := .set es ep t }
def rgO (i : Nat) : Obj := { cls := .type "range_iterator", data := .fields #[.int i 0, .int ((32 - i : Nat) : Int) 0, .int 1 0] }
def fr27 (P : Params) (l : List DictEntry) (n : Nat) : Obj := { cls := .type "frame", data := .dict ⟨de P ".0" 208 (.ref 23) :: l⟩ n }
def gen28 : Obj := { cls := .type "generator", data := .fields #[.int 0 0, .str (Str.ofString "<genexpr>") 209, .str (Str.ofString "<genexpr>") 210] }
abbrev tb12a : List Value := [.int 2 0, .int 0 0, .ref 20, .int 14 0, .int 23 0, .ref 26]
noncomputable abbrev bootsA (P : Params) : List Obj := boots P (dictO (gl0 P "cpy313.tomllib._parser" 198) 10)
/-- the state while the first set is filled -/
noncomputable def SG (w : World) (os : OsState) (ob : Nat → Obj) (g : GenState) (k : Nat) (rg fr set : Obj) : Shared :=
  sh w os #[g] k (bootsA w.params ++ low w.params ob tb12a ++ [ob 22, rg, ob 24, ob 25, ob 26, fr, gen28, set])
def fresh29 (w : World) : Obj := setO #[] 0 (.fresh 0 0 (!w.params.followText "set-order"))
noncomputable def R3a (w : World) (os : OsState) (ob : Nat → Obj) : Run := goN w 86 (S3 w os ob) (NT 3 ⟨13, 0, 13, 8⟩)
def compC : Code := .compLoop genE 0 (.ref 23) .none cenv
def susp : GenState := .suspended (fun r => (((match r with | .send x => (Sem.pure x : Sem Value) | .throw e => raiseThrown e).bind (fun _ => (Sem.pure PUnit.unit : Sem PUnit))).bind (fun _ => again compC)).onRaise (leaving cenv)) [] compC ⟨14, 24, 14, 30⟩ [] false
def addT (a b : Nat) (x : Value) : Sem Fin := holding [x] (setAdd a x) >>= fun _ => again (loopC a b)
def chr1 (i t : Nat) : Value := .str ⟨#[i]⟩ t
noncomputable def SI (w : World) (os : OsState) (ob : Nat → Obj) (i k : Nat) (set : Obj) : Shared :=
  SG w os ob susp k (rgO (i + 1)) (fr27 w.params [de w.params "i" 212 (.int i (211 + 4 * i))] 2) set
def obs (ob : Nat → Obj) (a n : Nat) : List Obj := (List.range' a n).map ob
/-- a set of one text -/
def oneO (w : World) (c t : Nat) : Obj := setO #[(hashStr w ⟨#[c]⟩, chr1 c t)] 1 { mask := 7, place := #[SetTable.bits (hashStr w ⟨#[c]⟩) % 8], dummies := #[], finger := 0, led := !w.params.followText "set-order", moves := 0, plain := false }
def orC (a b : Nat) : Code := .builtin "frozenset.__or__" ⟨[.ref a, .ref b], []⟩
def subC (a b : Nat) : Code := .builtin "frozenset.__sub__" ⟨[.ref a, .ref b], []⟩
def l6 (a b : Nat) : List Value := [.ref a, .ref b, .ref a, .ref b, .ref a, .ref b]
def stk2 (k : Nat → Result → Sem Fin) (a b : Nat) (p : Pos) : List Frame := [.ret (k 0) none false (l6 a b) bcode p [], topFrame default]
/-- a state behind the first set -/
noncomputable def SK (w : World) (os : OsState) (ob : Nat → Obj) (k : Nat) (gl : List DictEntry) (n : Nat) (l : List Obj) : Shared :=
  sh w os #[.finished] k (boots w.params (dictO (gl0 w.params "cpy313.tomllib._parser" 198 ++ gl) n) ++ low w.params ob tb12a ++ l)
def p14w : Pos := ⟨14, 13, 14, 73⟩
noncomputable def S3b (w : World) (os : OsState) (ob : Nat → Obj) (set : Obj) : Shared := SK w os ob 343 [] 10 (obs ob 22 7 ++ set :: obs ob 30 4 ++ oneO w 127 341 :: obs ob 35 3)
noncomputable def R3b (w : World) (os : OsState) (ob₀ ob : Nat → Obj) (es : Array (Int × Value)) (ep : Nat) (t : SetTable) (p : Pos) : Run :=
  goN w 123 (SI w os ob 31 339 (setO es ep t)) ⟨denote treeTable (loopC 29 28), loopC 29 28, p, stk (kAt (R3a w os ob₀)) 29 (.ref 28) [] p14⟩
def g3 (P : Params) : List DictEntry := [de P "ASCII_CTRL" 343 (.ref 38)]
def g4 (P : Params) : List DictEntry := g3 P ++ [de P "ILLEGAL_BASIC_STR_CHARS" 347 (.ref 43)]
def g6 (P : Params) : List DictEntry := g4 P ++ [de P "ILLEGAL_LITERAL_STR_CHARS" 348 (.ref 43), de P "ILLEGAL_COMMENT_CHARS" 349 (.ref 43)]
def g7 (P : Params) : List DictEntry := g6 P ++ [de P "TOML_WS" 355 (.ref 44)]
def g8 (P : Params) : List DictEntry := g7 P ++ [de P "TOML_WS_AND_NEWLINE" 359 (.ref 52)]
def doneT (v : Nat) (c : Code) (p : Pos) (st : List Frame) : Thread := ⟨.pure (.done (.ret (.ref v))), c, p, st⟩
noncomputable def S4 (w : World) (os : OsState) (ob : Nat → Obj) (set : Obj) : Shared := SK w os ob 344 (g3 w.params) 11 (obs ob 22 16 ++ [set])
noncomputable def R3c (w : World) (os : OsState) (ob₀ ob₁ ob : Nat → Obj) (es₀ : Array (Int × Value)) (ep₀ : Nat) (t₀ : SetTable) (p₀ : Pos) (set : Obj) (p : Pos) : Run :=
  goN w 9 (SK w os ob 343 [] 10 (obs ob 22 16 ++ [set])) (doneT 38 (orC 29 34) p (stk2 (kAt (R3b w os ob₀ ob₁ es₀ ep₀ t₀ p₀)) 29 34 p14w))
def p15w : Pos := ⟨15, 26, 15, 54⟩
noncomputable def S4b (w : World) (os : OsState) (ob : Nat → Obj) (set : Obj) : Shared := SK w os ob 347 (g3 w.params) 11 (obs ob 22 16 ++ set :: oneO w 9 345 :: obs ob 40 3)
noncomputable def R4a (w : World) (os : OsState) (ob : Nat → Obj) (es : Array (Int × Value)) (ep : Nat) (t : SetTable) : Run := goN w 76 (S4 w os ob (setO es ep t)) (NT 4 ⟨14, 0, 14, 10⟩)
noncomputable def S7 (w : World) (os : OsState) (ob : Nat → Obj) (set : Obj) : Shared := SK w os ob 350 (g6 w.params) 14 (obs ob 22 21 ++ [set])
noncomputable def R4b (w : World) (os : OsState) (ob₀ ob : Nat → Obj) (es₀ : Array (Int × Value)) (ep₀ : Nat) (t₀ : SetTable) (set : Obj) (p : Pos) : Run :=
  goN w 29 (SK w os ob 347 (g3 w.params) 11 (obs ob 22 21 ++ [set])) (doneT 43 (subC 38 39) p (stk2 (kAt (R4a w os ob₀ es₀ ep₀ t₀)) 38 39 p15w))
def p18 : Pos := ⟨18, 10, 18, 26⟩
def wsV : Value := .str (Str.ofString " \t") 350
def siO (x : Value) (i : Nat) : Obj := { cls := .type "str_ascii_iterator", data := .fields #[x, .int i 0] }
noncomputable def S7a (w : World) (os : OsState) (ob : Nat → Obj) (k : Nat) (set s44 : Obj) : Shared := SK w os ob k (g6 w.params) 14 (obs ob 22 21 ++ [set, s44, siO wsV 2])
noncomputable def R7a (w : World) (os : OsState) (ob : Nat → Obj) (set : Obj) : Run := goN w 51 (S7 w os ob set) (NT 7 ⟨17, 0, 17, 21⟩)
noncomputable def S8 (w : World) (os : OsState) (ob : Nat → Obj) (set s44 : Obj) : Shared := SK w os ob 356 (g7 w.params) 15 (obs ob 22 21 ++ set :: s44 :: obs ob 45 3)
noncomputable def R7b (w : World) (os : OsState) (ob₀ ob : Nat → Obj) (set₀ set : Obj) (es : Array (Int × Value)) (ep : Nat) (t : SetTable) (p : Pos) : Run :=
  goN w 33 (S7a w os ob 355 set (setO es ep t)) ⟨denote treeTable (loopC 44 45), loopC 44 45, p, stk (kAt (R7a w os ob₀ set₀)) 44 wsV [] p18⟩
def p19w : Pos := ⟨19, 22, 19, 47⟩
noncomputable def S8b (w : World) (os : OsState) (ob : Nat → Obj) (set s44 : Obj) : Shared := SK w os ob 359 (g7 w.params) 15 (obs ob 22 21 ++ set :: s44 :: obs ob 45 3 ++ oneO w 10 357 :: obs ob 49 3)
noncomputable def R8a (w : World) (os : OsState) (ob : Nat → Obj) (set : Obj) (es : Array (Int × Value)) (ep : Nat) (t : SetTable) : Run := goN w 76 (S8 w os ob set (setO es ep t)) (NT 8 ⟨18, 0, 18, 7⟩)
noncomputable def S9 (w : World) (os : OsState) (ob : Nat → Obj) (set s52 : Obj) : Shared := SK w os ob 360 (g8 w.params) 16 (obs ob 22 21 ++ set :: obs ob 44 8 ++ [s52])
noncomputable def R8b (w : World) (os : OsState) (ob₀ ob : Nat → Obj) (set₀ : Obj) (es₀ : Array (Int × Value)) (ep₀ : Nat) (t₀ : SetTable) (set s52 : Obj) (p : Pos) : Run :=
  goN w 9 (SK w os ob 359 (g7 w.params) 15 (obs ob 22 21 ++ set :: obs ob 44 8 ++ [s52])) (doneT 52 (orC 44 48) p (stk2 (kAt (R8a w os ob₀ set₀ es₀ ep₀ t₀)) 44 48 p19w))
theorem segsA :
    (∀ (w : World) (os : OsState) (ob : Nat → Obj), R3a w os ob = .running (SG w os (obAt (R3a w os ob)) (.fresh (.compStart genE 0 (.ref 23) .none cenv)) 211 (rgO 0) (fr27 w.params [] 1) (fresh29 w))
    ⟨denote treeTable (loopC 29 28), loopC 29 28, p14, stk (kAt (R3a w os ob)) 29 (.ref 28) [] p14⟩) ∧
    (∀ (w : World) (os : OsState) (ob₀ ob : Nat → Obj) (es : Array (Int × Value)) (ep : Nat) (t : SetTable) (p : Pos),
    R3b w os ob₀ ob es ep t p = .running (S3b w os (obAt (R3b w os ob₀ ob es ep t p)) (setO es ep t)) ⟨denote treeTable (orC 29 34), orC 29 34, p14w, stk2 (kAt (R3b w os ob₀ ob es ep t p)) 29 34 p14w⟩) ∧
    (∀ (w : World) (os : OsState) (ob₀ ob₁ ob : Nat → Obj) (es₀ : Array (Int × Value)) (ep₀ : Nat) (t₀ : SetTable) (p₀ : Pos) (set : Obj) (p : Pos),
    R3c w os ob₀ ob₁ ob es₀ ep₀ t₀ p₀ set p = .running (S4 w os ob set) (NT 4 ⟨14, 0, 14, 10⟩)) := by
  refine ⟨?_, ?_⟩
  · refine byRow2 "special-get-raises" ?_ ?_
    · intro w os ob; kernel_rfl
    · intro w os ob; kernel_rfl
  refine ⟨?_, ?_⟩
  · refine byRow2 "special-get-raises" ?_ ?_
    · intro w os ob₀ ob es ep t p; kernel_rfl
    · intro w os ob₀ ob es ep t p; kernel_rfl
  refine byRow2 "special-get-raises" ?_ ?_
  · intro w os ob₀ ob₁ ob es₀ ep₀ t₀ p₀ set p; kernel_rfl
  · intro w os ob₀ ob₁ ob es₀ ep₀ t₀ p₀ set p; kernel_rfl
theorem seg3a : ∀ (w : World) (os : OsState) (ob : Nat → Obj), R3a w os ob = .running (SG w os (obAt (R3a w os ob)) (.fresh (.compStart genE 0 (.ref 23) .none cenv)) 211 (rgO 0) (fr27 w.params [] 1) (fresh29 w))
    ⟨denote treeTable (loopC 29 28), loopC 29 28, p14, stk (kAt (R3a w os ob)) 29 (.ref 28) [] p14⟩ := segsA.1
theorem seg3b : ∀ (w : World) (os : OsState) (ob₀ ob : Nat → Obj) (es : Array (Int × Value)) (ep : Nat) (t : SetTable) (p : Pos),
    R3b w os ob₀ ob es ep t p = .running (S3b w os (obAt (R3b w os ob₀ ob es ep t p)) (setO es ep t)) ⟨denote treeTable (orC 29 34), orC 29 34, p14w, stk2 (kAt (R3b w os ob₀ ob es ep t p)) 29 34 p14w⟩ := segsA.2.1
theorem seg3c : ∀ (w : World) (os : OsState) (ob₀ ob₁ ob : Nat → Obj) (es₀ : Array (Int × Value)) (ep₀ : Nat) (t₀ : SetTable) (p₀ : Pos) (set : Obj) (p : Pos),
    R3c w os ob₀ ob₁ ob es₀ ep₀ t₀ p₀ set p = .running (S4 w os ob set) (NT 4 ⟨14, 0, 14, 10⟩) := segsA.2.2
theorem segsB :
    (∀ (w : World) (os : OsState) (ob : Nat → Obj) (es : Array (Int × Value)) (ep : Nat) (t : SetTable),
    R4a w os ob es ep t = .running (S4b w os (obAt (R4a w os ob es ep t)) (setO es ep t)) ⟨denote treeTable (subC 38 39), subC 38 39, p15w, stk2 (kAt (R4a w os ob es ep t)) 38 39 p15w⟩) ∧
    (∀ (w : World) (os : OsState) (ob₀ ob : Nat → Obj) (es₀ : Array (Int × Value)) (ep₀ : Nat) (t₀ : SetTable) (set : Obj) (p : Pos),
    R4b w os ob₀ ob es₀ ep₀ t₀ set p = .running (S7 w os ob set) (NT 7 ⟨17, 0, 17, 21⟩)) ∧
    (∀ (w : World) (os : OsState) (ob : Nat → Obj) (set : Obj),
    R7a w os ob set = .running (S7a w os ob 354 set (oneO w 32 351)) ⟨addT 44 45 (chr1 9 353), loopC 44 45, p18, stk (kAt (R7a w os ob set)) 44 wsV [] p18⟩) ∧
    (∀ (w : World) (os : OsState) (ob₀ ob : Nat → Obj) (set₀ set : Obj) (es : Array (Int × Value)) (ep : Nat) (t : SetTable) (p : Pos),
    R7b w os ob₀ ob set₀ set es ep t p = .running (S8 w os (obAt (R7b w os ob₀ ob set₀ set es ep t p)) set (setO es ep t)) (NT 8 ⟨18, 0, 18, 7⟩)) ∧
    (∀ (w : World) (os : OsState) (ob : Nat → Obj) (set : Obj) (es : Array (Int × Value)) (ep : Nat) (t : SetTable),
    R8a w os ob set es ep t = .running (S8b w os (obAt (R8a w os ob set es ep t)) set (setO es ep t)) ⟨denote treeTable (orC 44 48), orC 44 48, p19w, stk2 (kAt (R8a w os ob set es ep t)) 44 48 p19w⟩) ∧
    (∀ (w : World) (os : OsState) (ob₀ ob : Nat → Obj) (set₀ : Obj) (es₀ : Array (Int × Value)) (ep₀ : Nat) (t₀ : SetTable) (set s52 : Obj) (p : Pos),
    R8b w os ob₀ ob set₀ es₀ ep₀ t₀ set s52 p = .running (S9 w os ob set s52) (NT 9 ⟨19, 0, 19, 19⟩)) := by
  refine ⟨?_, ?_⟩
  · refine byRow2 "special-get-raises" ?_ ?_
    · intro w os ob es ep t; kernel_rfl
    · intro w os ob es ep t; kernel_rfl
  refine ⟨?_, ?_⟩
  · refine byRow2 "special-get-raises" ?_ ?_
    · intro w os ob₀ ob es₀ ep₀ t₀ set p; kernel_rfl
    · intro w os ob₀ ob es₀ ep₀ t₀ set p; kernel_rfl
  refine ⟨?_, ?_⟩
  · refine byRow2 "special-get-raises" ?_ ?_
    · intro w os ob set; kernel_rfl
    · intro w os ob set; kernel_rfl
  refine ⟨?_, ?_⟩
  · refine byRow2 "special-get-raises" ?_ ?_
    · intro w os ob₀ ob set₀ set es ep t p; kernel_rfl
    · intro w os ob₀ ob set₀ set es ep t p; kernel_rfl
  refine ⟨?_, ?_⟩
  · refine byRow2 "special-get-raises" ?_ ?_
    · intro w os ob set es ep t; kernel_rfl
    · intro w os ob set es ep t; kernel_rfl
  refine byRow2 "special-get-raises" ?_ ?_
  · intro w os ob₀ ob set₀ es₀ ep₀ t₀ set s52 p; kernel_rfl
  · intro w os ob₀ ob set₀ es₀ ep₀ t₀ set s52 p; kernel_rfl
theorem seg4a : ∀ (w : World) (os : OsState) (ob : Nat → Obj) (es : Array (Int × Value)) (ep : Nat) (t : SetTable),
    R4a w os ob es ep t = .running (S4b w os (obAt (R4a w os ob es ep t)) (setO es ep t)) ⟨denote treeTable (subC 38 39), subC 38 39, p15w, stk2 (kAt (R4a w os ob es ep t)) 38 39 p15w⟩ := segsB.1
theorem seg4b : ∀ (w : World) (os : OsState) (ob₀ ob : Nat → Obj) (es₀ : Array (Int × Value)) (ep₀ : Nat) (t₀ : SetTable) (set : Obj) (p : Pos),
    R4b w os ob₀ ob es₀ ep₀ t₀ set p = .running (S7 w os ob set) (NT 7 ⟨17, 0, 17, 21⟩) := segsB.2.1
theorem seg7a : ∀ (w : World) (os : OsState) (ob : Nat → Obj) (set : Obj),
    R7a w os ob set = .running (S7a w os ob 354 set (oneO w 32 351)) ⟨addT 44 45 (chr1 9 353), loopC 44 45, p18, stk (kAt (R7a w os ob set)) 44 wsV [] p18⟩ := segsB.2.2.1
theorem seg7b : ∀ (w : World) (os : OsState) (ob₀ ob : Nat → Obj) (set₀ set : Obj) (es : Array (Int × Value)) (ep : Nat) (t : SetTable) (p : Pos),
    R7b w os ob₀ ob set₀ set es ep t p = .running (S8 w os (obAt (R7b w os ob₀ ob set₀ set es ep t p)) set (setO es ep t)) (NT 8 ⟨18, 0, 18, 7⟩) := segsB.2.2.2.1
theorem seg8a : ∀ (w : World) (os : OsState) (ob : Nat → Obj) (set : Obj) (es : Array (Int × Value)) (ep : Nat) (t : SetTable),
    R8a w os ob set es ep t = .running (S8b w os (obAt (R8a w os ob set es ep t)) set (setO es ep t)) ⟨denote treeTable (orC 44 48), orC 44 48, p19w, stk2 (kAt (R8a w os ob set es ep t)) 44 48 p19w⟩ := segsB.2.2.2.2.1
theorem seg8b : ∀ (w : World) (os : OsState) (ob₀ ob : Nat → Obj) (set₀ : Obj) (es₀ : Array (Int × Value)) (ep₀ : Nat) (t₀ : SetTable) (set s52 : Obj) (p : Pos),
    R8b w os ob₀ ob set₀ es₀ ep₀ t₀ set s52 p = .running (S9 w os ob set s52) (NT 9 ⟨19, 0, 19, 19⟩) := segsB.2.2.2.2.2
end Mine
end
section
open PySem PySem.W PyProof.Rows PySem.Calls
namespace Mine
theorem turn0 : ∀ (w : World) (os : OsState) (ob : Nat → Obj) (k : Nat → Result → Sem Fin) (es : Array (Int × Value)) (ep : Nat) (t : SetTable), ∃ n,
    goN w n (SG w os ob (.fresh (.compStart genE 0 (.ref 23) .none cenv)) 211 (rgO 0) (fr27 w.params [] 1) (setO es ep t)) ⟨denote treeTable (loopC 29 28), loopC 29 28, p14, stk k 29 (.ref 28) [] p14⟩ =
    .running (SI w os ob 0 214 (setO es ep t)) ⟨addT 29 28 (chr1 0 213), loopC 29 28, p14, stk k 29 (.ref 28) [] p14⟩ := by
  refine byRow2 "special-get-raises" ?_ ?_ <;> refine byRow2 "comprehension-iter-twice" ?_ ?_ <;> intro w os ob k es ep t
  · exact ⟨56, by kernel_rfl⟩
  · exact ⟨46, by kernel_rfl⟩
  · exact ⟨56, by kernel_rfl⟩
  · exact ⟨46, by kernel_rfl⟩
end Mine
end
section
open PySem PySem.W PyProof.Rows PySem.Calls
namespace Mine
theorem turns (w : World) (os : OsState) (ob : Nat → Obj) (k : Nat → Result → Sem Fin) (es : Array (Int × Value)) (ep : Nat) (t : SetTable) (p : Pos) : ∀ i, i < 31 →
    goN w 45 (SI w os ob i (215 + 4 * i) (setO es ep t)) ⟨denote treeTable (loopC 29 28), loopC 29 28, p, stk k 29 (.ref 28) [] p14⟩ =
    .running (SI w os ob (i + 1) (218 + 4 * i) (setO es ep t)) ⟨addT 29 28 (chr1 (i + 1) (217 + 4 * i)), loopC 29 28, p, stk k 29 (.ref 28) [] p14⟩
  | 0, _ => by kernel_rfl
  | 1, _ => by kernel_rfl
  | 2, _ => by kernel_rfl
  | 3, _ => by kernel_rfl
  | 4, _ => by kernel_rfl
  | 5, _ => by kernel_rfl
  | 6, _ => by kernel_rfl
  | 7, _ => by kernel_rfl
  | 8, _ => by kernel_rfl
  | 9, _ => by kernel_rfl
  | 10, _ => by kernel_rfl
  | 11, _ => by kernel_rfl
  | 12, _ => by kernel_rfl
  | 13, _ => by kernel_rfl
  | 14, _ => by kernel_rfl
  | 15, _ => by kernel_rfl
  | 16, _ => by kernel_rfl
  | 17, _ => by kernel_rfl
  | 18, _ => by kernel_rfl
  | 19, _ => by kernel_rfl
  | 20, _ => by kernel_rfl
  | 21, _ => by kernel_rfl
  | 22, _ => by kernel_rfl
  | 23, _ => by kernel_rfl
  | 24, _ => by kernel_rfl
  | 25, _ => by kernel_rfl
  | 26, _ => by kernel_rfl
  | 27, _ => by kernel_rfl
  | 28, _ => by kernel_rfl
  | 29, _ => by kernel_rfl
  | 30, _ => by kernel_rfl
  | n + 31, h => absurd h (by omega)
end Mine
end
section
open PySem PySem.W PyProof.Rows PySem.Calls
namespace Mine
def shOf (r : Run) : Shared := match r with
  | .running s _ => s
  | .halted _ s => s
noncomputable def R9 (w : World) (os : OsState) (ob : Nat → Obj) (set s52 : Obj) : Run := goN w 517 (S9 w os ob set s52) (NT 9 ⟨19, 0, 19, 19⟩)
noncomputable def SF (w : World) (os : OsState) (ob : Nat → Obj) (set s52 : Obj) : Shared := shOf (R9 w os ob set s52)
def gets (h : Heap) (l : List Nat) : List (Option Obj) := l.map h.get?
/-- what is seen of the state behind the top -/
noncomputable def looksAt (w : World) (s : Shared) :=
  (staticsOk (importedModules pw.main.body) (boot_heap w.params) s.heap && namesBound pw s.heap && gensDone s && laidKept (boot_heap w.params) s.heap, openSeen VV LL (importedModules pw.main.body) (xlAt VV []) false s, gets s.heap ((KK w.params).map (·.1)),
   gets s.heap [0, 1, 2, 4, 5, 6, 7, 8, 9, 10], gets s.heap [43, 52], s.gens, s.os, s.heap.life)
theorem ends9 (w : World) (os : OsState) (ob : Nat → Obj) (es : Array (Int × Value)) (ep : Nat) (t : SetTable) (es' : Array (Int × Value)) (ep' : Nat) (t' : SetTable) :
    (R9 w os ob (setO es ep t) (setO es' ep' t') = .running (SF w os ob (setO es ep t) (setO es' ep' t')) ⟨.pure (.done (.ret .none)), .builtin "claim.caller" {}, default, []⟩) ∧
    (looksAt w (SF w os ob (setO es ep t) (setO es' ep' t')) = (true, openGood VV LL, (KK w.params).map (fun p => some p.2), gets (boot_heap w.params) [0, 1, 2, 4, 5, 6, 7, 8, 9, 10], [some (setO es ep t), some (setO es' ep' t')], #[.finished], os, (boot_heap w.params).life)) := by
  refine ⟨?_, ?_⟩
  · kernel_rfl
  · kernel_rfl
theorem seg9 (w : World) (os : OsState) (ob : Nat → Obj) (es : Array (Int × Value)) (ep : Nat) (t : SetTable) (es' : Array (Int × Value)) (ep' : Nat) (t' : SetTable) : R9 w os ob (setO es ep t) (setO es' ep' t') = .running (SF w os ob (setO es ep t) (setO es' ep' t')) ⟨.pure (.done (.ret .none)), .builtin "claim.caller" {}, default, []⟩ := (ends9 w os ob es ep t es' ep' t').1
theorem looks9 (w : World) (os : OsState) (ob : Nat → Obj) (es : Array (Int × Value)) (ep : Nat) (t : SetTable) (es' : Array (Int × Value)) (ep' : Nat) (t' : SetTable) : looksAt w (SF w os ob (setO es ep t) (setO es' ep' t')) = (true, openGood VV LL, (KK w.params).map (fun p => some p.2), gets (boot_heap w.params) [0, 1, 2, 4, 5, 6, 7, 8, 9, 10], [some (setO es ep t), some (setO es' ep' t')], #[.finished], os, (boot_heap w.params).life) := (ends9 w os ob es ep t es' ep' t').2
end Mine
end
section
open PySem PySem.W PyProof.Rows PySem.Calls
namespace Mine
theorem upd_const {h : Heap} {a : Addr} {o o' : Obj} {f : Obj → Obj} (ho : h.get? a = some o) (hf : f o = o') : h.update a f = h.update a (fun _ => o') := by
  obtain ⟨objs, l⟩ := h
  have e : objs[a]? = some o := by
    unfold Heap.get? at ho
    dsimp only at ho
    split at ho
    · cases ho
    · exact ho
  show Heap.mk _ _ = Heap.mk _ _
  congr 1
  apply Array.ext
  · simp
  · intro i h1 h2
    rw [Array.getElem_modify, Array.getElem_modify]
    split
    · rename_i hi
      subst hi
      have hlt : a < objs.size := by simpa using h1
      have : objs[a] = o := by
        rw [Array.getElem?_eq_getElem hlt] at e
        exact Option.some.inj e
      rw [this]
      exact hf
    · rfl
theorem upd_upd {h : Heap} {a : Addr} {f : Obj → Obj} {o' : Obj} : (h.update a f).update a (fun _ => o') = h.update a (fun _ => o') := by
  obtain ⟨objs, l⟩ := h
  show Heap.mk _ _ = Heap.mk _ _
  congr 1
  apply Array.ext
  · simp
  · intro i h1 h2
    simp only [Array.getElem_modify]
    split <;> rfl
theorem get_upd {h : Heap} {a : Addr} {o : Obj} {es : Array (Int × Value)} {ep : Nat} {t : SetTable} (ho : h.get? a = some o) : (h.update a (fun _ => setO es ep t)).get? a = some (setO es ep t) :=
  Heap.get?_update_self (fun _ => setO es ep t) ho rfl
def el (w : World) (x : Nat × Nat) : Int × Value := (hashStr w ⟨#[x.1]⟩, chr1 x.1 x.2)
/-- these entries and this table are a set of the characters L -/
def Good (w : World) (L : List (Nat × Nat)) (es : Array (Int × Value)) (t : SetTable) : Prop := List.Perm es.toList (L.map (el w)) ∧ t.fits es.size = true
section
variable {w : World} {A : Around} {E : Value → Shared → Prop} {s : Shared} {a : Addr} {es : Array (Int × Value)} {ep : Nat} {t : SetTable} {L : List (Nat × Nat)}
theorem Good.size (g : Good w L es t) : es.size = L.length := by
  rw [← Array.length_toList, g.1.length_eq, List.length_map]
theorem is_chr (c tok : Nat) : (strKind PR w).is ⟨#[c]⟩ (chr1 c tok) = true := strKind_is PR w ⟨#[c]⟩ tok
theorem Good.elems (g : Good w L es t) : ElemsOf (strKind PR w) es.toList := by
  intro e he
  obtain ⟨x, _, rfl⟩ := List.mem_map.mp (g.1.mem_iff.mp he)
  exact ⟨⟨⟨#[x.1]⟩, is_chr x.1 x.2, rfl⟩, rfl⟩
theorem Good.mem (g : Good w L es t) (k : PySem.Str) : (∃ e ∈ es.toList, (strKind PR w).is k e.2 = true) ↔ ∃ x ∈ L, k = ⟨#[x.1]⟩ := by
  constructor
  · rintro ⟨e, he, hk⟩
    obtain ⟨x, hx, rfl⟩ := List.mem_map.mp (g.1.mem_iff.mp he)
    exact ⟨x, hx, (strKind PR w).inj _ _ _ hk (is_chr x.1 x.2)⟩
  · rintro ⟨x, hx, rfl⟩
    exact ⟨el w x, g.1.mem_iff.mpr (List.mem_map.mpr ⟨x, hx, rfl⟩), is_chr x.1 x.2⟩
theorem st_store {es' : Array (Int × Value)} {t' : SetTable} {Q : Unit → Shared → Prop} (ho : s.heap.get? a = some (setO es ep t)) (h : Q () { s with heap := s.heap.update a (fun _ => setO es' (ep + 1) t') }) (hz : es'.size ≤ sizeLine) :
    wpAny (model PR w) A (storeSet a es' t') Q E s := by
  refine wpAny_storeSet_of ho rfl ?_ hz
  rw [upd_const ho (o' := setO es' (ep + 1) t') (putSet_of es' t' rfl)]
  exact h
theorem add_tail {g : Bool → Sem Unit} (hg : ∀ (b : Bool) (s₁ : Shared) (Q' : Unit → Shared → Prop), Q' () s₁ → wpAny (model PR w) A (g b) Q' E s₁) {es1 : Array (Int × Value)} {t2 : SetTable} (ho : s.heap.get? a = some (setO es ep t)) (G : Good w L es1 t2) (hL : L.length < 1000) {wasDummy : Bool} {R : Option Bool → Shared → Prop}
    (h : ∀ es' ep' t', Good w L es' t' → R (some true) { s with heap := s.heap.update a (fun _ => setO es' ep' t') }) :
    wpAny (model PR w) A (do
        storeSet a es1 t2
        if (!wasDummy && t2.tooFull) = true then do
            g (relayAll t2 es1 (SetTable.grown es1.size)).2.2
            storeSet a (relayAll t2 es1 (SetTable.grown es1.size)).1 (relayAll t2 es1 (SetTable.grown es1.size)).2.1
            pure (some true)
          else pure (some true)) R E s := by
  have hsz : ∀ {e : Array (Int × Value)} {t : SetTable}, Good w L e t → e.size ≤ sizeLine := fun g => by rw [g.size, sizeLine_eq]; omega
  refine wpAny_bind (st_store ho ?_ (hsz G))
  split
  · have hp := relayAll_perm t2 es1 (SetTable.grown es1.size)
    have hfr := relayAll_fits t2 es1 (SetTable.grown es1.size)
    generalize relayAll t2 es1 (SetTable.grown es1.size) = Rl at hp hfr ⊢
    obtain ⟨es2, t3, gave2⟩ := Rl
    dsimp only at hp hfr ⊢
    have G2 : Good w L es2 t3 := ⟨hp.trans G.1, hfr⟩
    refine wpAny_bind (hg _ _ _ ?_)
    refine wpAny_bind (st_store (get_upd ho) ?_ (hsz G2))
    have := h es2 (ep + 1 + 1) t3 G2
    rw [upd_upd]
    exact wpAny_pure this
  · exact wpAny_pure (h _ _ _ G)
theorem add_ex {c tok : Nat} {Q : Bool → Shared → Prop} (ho : s.heap.get? a = some (setO es ep t)) (G : Good w L es t) (hc : ∀ x ∈ L, x.1 ≠ c) (hL : L.length < 900)
    (h : ∀ es' ep' t', Good w (L ++ [(c, tok)]) es' t' → Q true { s with heap := s.heap.update a (fun _ => setO es' ep' t') }) :
    wpAny (model PR w) A (setAddHashed a (chr1 c tok) (hashStr w ⟨#[c]⟩)) Q E s := by
  have hel := G.elems
  have hb : es.size < scanBound := by rw [G.size]; unfold scanBound; omega
  unfold setAddHashed setAddHashedIn
  refine wpAny_holding (wpAny_bind (wpAny_setState_of ho rfl G.2 ?_))
  dsimp only
  rw [byScan_of (knd := strKind PR w) (x := chr1 c tok) rfl hb hel]
  simp only [↓reduceIte]
  unfold setAddByScan
  refine wpAny_bind ?_
  refine wpAny_bind (wpAny_rule ?_)
  refine wpAny_bind (wpAny_setScan_of (knd := strKind PR w) (k := ⟨#[c]⟩) (is_chr c tok) ho rfl G.2 hel ?_)
  have hr : List.findIdx? (fun e => (strKind PR w).is ⟨#[c]⟩ e.2) es.toList = none := by
    rw [List.findIdx?_eq_none_iff]
    intro e he
    cases hk : (strKind PR w).is ⟨#[c]⟩ e.2 with
    | false => rfl
    | true =>
      obtain ⟨x, hx, e1⟩ := (G.mem ⟨#[c]⟩).mp ⟨e, he, hk⟩
      have : c = x.1 := by simpa using e1
      exact absurd this.symm (hc x hx)
  rw [hr]
  dsimp only
  have hgw : ∀ (b : Bool) {s₁ : Shared} {Q' : Unit → Shared → Prop}, Q' () s₁ → wpAny (model PR w) A (match b with | true => rule "set.scan.the-table-gave-way" | false => pure ()) Q' E s₁ :=
    fun b s₁ Q' hq => by cases b <;> first | exact wpAny_pure hq | exact wpAny_rule hq
  have hperm := layNew_perm t es (hashStr w ⟨#[c]⟩) (chr1 c tok)
  have hfits := layNew_fits t es (hashStr w ⟨#[c]⟩) (chr1 c tok)
  generalize layNew t es (hashStr w ⟨#[c]⟩) (chr1 c tok) = N at hperm hfits ⊢
  obtain ⟨es1, t1, wasDummy, gave⟩ := N
  dsimp only at hperm hfits ⊢
  rw [Array.toList_push] at hperm
  have hp1 : List.Perm es1.toList ((L ++ [(c, tok)]).map (el w)) := by
    rw [List.map_append]
    exact hperm.trans (List.Perm.append_right _ G.1)
  have hLL : (L ++ [(c, tok)]).length < 1000 := by rw [List.length_append]; simp; omega
  refine wpAny_bind (hgw _ ?_)
  split
  · refine wpAny_bind ?_
    rw [hashByValue_scannable 8 (x := chr1 c tok) rfl]
    refine wpAny_pure ?_
    refine add_tail ?_ ho (L := L ++ [(c, tok)]) ⟨hp1, ?_⟩ hLL ?_
    · intro b s₁ Q' hq; cases b <;> first | exact wpAny_pure hq | exact wpAny_rule hq
    · split
      · exact hfits
      · exact SetTable.fits_plain_off hfits
    · intro es' ep' t' G'; dsimp only; exact wpAny_pure (h _ _ _ G')
  · refine wpAny_bind (wpAny_pure ?_)
    simp only [↓reduceIte]
    refine add_tail ?_ ho (L := L ++ [(c, tok)]) ⟨hp1, hfits⟩ hLL ?_
    · intro b s₁ Q' hq; cases b <;> first | exact wpAny_pure hq | exact wpAny_rule hq
    · intro es' ep' t' G'; dsimp only; exact wpAny_pure (h _ _ _ G')
/-- one turn's adding -/
theorem addT_ex {b c tok : Nat} {Q : Fin → Shared → Prop} (ho : s.heap.get? a = some (setO es ep t)) (G : Good w L es t) (hc : ∀ x ∈ L, x.1 ≠ c) (hL : L.length < 900)
    (h : ∀ es' ep' t', Good w (L ++ [(c, tok)]) es' t' → Q (.again (loopC a b)) { s with heap := s.heap.update a (fun _ => setO es' ep' t'), toks := s.toks + 1 }) :
    wpAny (model PR w) A (addT a b (chr1 c tok)) Q E s := by
  unfold addT
  refine wpAny_bind (wpAny_holding ?_)
  unfold setAdd
  refine wpAny_holding ?_
  refine wpAny_bind ((strKind PR w).pyHash (k := ⟨#[c]⟩) (is_chr c tok) ?_)
  refine add_ex (s := { s with toks := s.toks + 1 }) ho G hc hL fun es' ep' t' G' => ?_
  exact wpAny_pure (h es' ep' t' G')
end
end Mine
end
section
open PySem PySem.W PyProof.Rows PySem.Calls
open PySem.Builtin
namespace Mine
theorem sub_fz_set : isSubtype (.type "frozenset") (.type "set") = pure false := by rw [isSubtype_type]; kernel_rfl
theorem sub_fz_fz : isSubtype (.type "frozenset") (.type "frozenset") = pure true := by rw [isSubtype_type]; kernel_rfl
theorem entry_or : entryFor table "frozenset.__or__" = some Builtin.«frozenset.__or__» := entryFor_of_tree (by kernel_rfl)
theorem entry_sub : entryFor table "frozenset.__sub__" = some Builtin.«frozenset.__sub__» := entryFor_of_tree (by kernel_rfl)
section
variable {w : World} {A : Around} {E : Value → Shared → Prop} {s : Shared} {a b : Addr} {es : Array (Int × Value)} {ep : Nat} {t : SetTable} {L : List (Nat × Nat)}
theorem fzT (ho : s.heap.get? a = some (setO es ep t)) : s.TypeIs (.ref a) "frozenset" := ⟨_, ho, rfl⟩
theorem any_set {Q : Bool → Shared → Prop} (ho : s.heap.get? a = some (setO es ep t)) (h : Q true s) : wpAny (model PR w) A (Frozenset.isAnySet (.ref a)) Q E s := by
  unfold Frozenset.isAnySet
  refine wpAny_bind (m := isInstance (.ref a) (.type "set")) (wpAny_isInstance (fzT ho) sub_fz_set ?_)
  exact wpAny_isInstance (fzT ho) sub_fz_fz h
theorem base_of {Q : Value → Shared → Prop} (ho : s.heap.get? a = some (setO es ep t)) (h : Q (.type "frozenset") s) : wpAny (model PR w) A (Frozenset.baseOf a) Q E s := by
  unfold Frozenset.baseOf
  refine wpAny_bind (wpAny_isInstance (fzT ho) sub_fz_set ?_)
  exact wpAny_pure h
def ledW (w : World) : Bool := !w.params.followText "set-order"
theorem new_set {Q : Value → Shared → Prop} (h : Q (.ref s.heap.objs.size) { s with heap := s.heap.push (setO #[] 0 (.fresh 0 0 (ledW w))) }) : wpAny (model PR w) A (newSet (.type "frozenset")) Q E s := by
  unfold newSet setsByText
  refine wpAny_bind (wpAny_bind (wpAny_askSetting (wpAny_pure ?_)))
  dsimp only
  simp only [newObj]
  exact wpAny_bind (wpAny_alloc (wpAny_pure h))
theorem any_both {Q : Bool → Shared → Prop} {es' : Array (Int × Value)} {ep' : Nat} {t' : SetTable} (ho : s.heap.get? a = some (setO es ep t)) (ho' : s.heap.get? b = some (setO es' ep' t')) (h : Q true s) :
    wpAny (model PR w) A (Frozenset.isAnySet (.ref a) <&&> Frozenset.isAnySet (.ref b)) Q E s := by
  refine wpAny_bind (m := Frozenset.isAnySet (.ref a)) (any_set ho ?_)
  exact any_set ho' h
theorem upd_push {h : Heap} {o o' : Obj} {f : Obj → Obj} (hf : f o = o') : (h.push o).update h.objs.size f = h.push o' := by
  obtain ⟨objs, l⟩ := h
  show Heap.mk _ _ = Heap.mk _ _
  congr 1
  apply Array.ext
  · simp
  · intro i h1 h2
    rw [Array.getElem_modify]
    split
    · rename_i hi
      subst hi
      simp [hf]
    · rename_i hi
      have hi' : objs.size ≠ i := hi
      have : i < objs.size := by simp at h1; omega
      rw [Array.getElem_push_lt this, Array.getElem_push_lt this]
def m127 (n : Nat) : Nat := if n = 2 then 7 else 127
theorem reord_perm {es : Array (Int × Value)} {order : Array Nat} (hp : List.Perm order.toList (List.range es.size)) : List.Perm (order.filterMap (es[·]?)).toList es.toList := by
  rw [Array.toList_filterMap]
  exact (hp.filterMap _).trans (by rw [filterMap_getElem?_range])
theorem relay_ex {wanted : Nat} {led : Bool} {Q : Unit → Shared → Prop} (ho : s.heap.get? a = some (setO #[] ep (.fresh 0 0 led))) (hw : SetTable.sizeAbove wanted = 128)
    (h : ∀ ep' t', t'.fits 0 = true → t'.mask = 127 → t'.dummies = #[] → Q () { s with heap := s.heap.update a (fun _ => setO #[] ep' t') }) :
    wpAny (model PR w) A (setRelay a wanted) Q E s := by
  unfold setRelay
  refine wpAny_bind (wpAny_setState_of ho rfl rfl ?_)
  dsimp only
  rw [hw, if_neg (by rw [sizeLine_eq]; omega)]
  obtain ⟨t1, order, e, hp, hf, hm, hd⟩ := laid_ok (mask := 127) (finger := 0) (moves := (SetTable.fresh 0 0 led).movedTo 127) (led := led) (plain := true) (full_of full128) #[] (by decide)
  have e' : SetTable.relaid (SetTable.fresh 0 0 led) (Array.map (fun x => x.fst) (#[] : Array (Int × Value))) wanted = some (t1, order) := by
    unfold SetTable.relaid
    rw [hw, show Array.map (fun x => x.fst) (#[] : Array (Int × Value)) = #[] from by simp]
    exact e
  rw [e']
  have hz : order.filterMap ((#[] : Array (Int × Value))[·]?) = #[] := by
    have := hp.length_eq
    simp at this
    subst this
    rfl
  refine wpAny_bind ?_
  with_unfolding_all refine (?_ : wpAny _ _ (if ((order.filterMap fun x => (#[] : Array (Int × Value))[x]?).size != (#[] : Array (Int × Value)).size) = true then _ else _) _ _ _)
  rw [hz]
  refine wpAny_pure ?_
  exact st_store ho (h _ _ hf hm hd) (Nat.zero_le _)
theorem room_ex {more : Nat} {led : Bool} {Q : Unit → Shared → Prop} (ho : s.heap.get? a = some (setO #[] ep (.fresh 0 0 led))) (hm : more = 2 ∨ more = 32 ∨ more = 33)
    (h : ∀ ep' t', t'.fits 0 = true → t'.mask = m127 more → t'.dummies = #[] → Q () { s with heap := s.heap.update a (fun _ => setO #[] ep' t') }) :
    wpAny (model PR w) A (setRoomFor a more) Q E s := by
  unfold setRoomFor
  refine wpAny_bind (wpAny_setState_of ho rfl rfl ?_)
  have same : s = { s with heap := s.heap.update a (fun _ => setO #[] ep (.fresh 0 0 led)) } := by
    rw [← upd_const (f := fun o => o) ho rfl]
    obtain ⟨⟨objs, l⟩, g, d, k, os⟩ := s
    show Shared.mk _ _ _ _ _ = Shared.mk ⟨objs.modify a (fun o => o), l⟩ _ _ _ _
    congr 2
    apply Array.ext
    · simp
    · intro i h1 h2
      rw [Array.getElem_modify]
      split <;> rfl
  rcases hm with rfl | rfl | rfl
  · have e : (SetTable.fresh 0 0 led).roomFor 2 = none := by cases led <;> decide
    dsimp only
    rw [e]
    refine wpAny_pure ?_
    rw [same]
    exact h ep _ rfl rfl rfl
  · have e : (SetTable.fresh 0 0 led).roomFor 32 = some 64 := by cases led <;> decide
    dsimp only
    rw [e]
    exact relay_ex ho (by decide) h
  · have e : (SetTable.fresh 0 0 led).roomFor 33 = some 66 := by cases led <;> decide
    dsimp only
    rw [e]
    exact relay_ex ho (by decide) h
theorem copy_ex {Q : Value → Shared → Prop} (ho : s.heap.get? a = some (setO es ep t)) (G : Good w L es t) (hL : L.length = 2 ∨ L.length = 32 ∨ L.length = 33)
    (h : ∀ es' ep' t', Good w L es' t' → t'.mask = m127 L.length → t'.dummies = #[] → Q (.ref s.heap.objs.size) { s with heap := s.heap.push (setO es' ep' t') }) :
    wpAny (model PR w) A (Frozenset.copyOf a) Q E s := by
  unfold Frozenset.copyOf
  refine wpAny_bind (base_of ho (wpAny_bind (new_set ?_)))
  refine wpAny_bind (wpAny_pure ?_)
  unfold setMerge
  have hlt : a < s.heap.objs.size := Heap.lt_size ho
  have hne : (s.heap.objs.size == a) = false := by
    rw [beq_eq_false_iff_ne]
    exact Nat.ne_of_gt hlt
  rw [hne]
  simp only [Bool.false_eq_true, if_false]
  have ho1 : (s.heap.push (setO #[] 0 (.fresh 0 0 (ledW w)))).get? a = some (setO es ep t) := Heap.get?_push_of_some _ ho
  have hr1 : (s.heap.push (setO #[] 0 (.fresh 0 0 (ledW w)))).get? s.heap.objs.size = some (setO #[] 0 (.fresh 0 0 (ledW w))) := Heap.get?_push_size _ rfl
  refine wpAny_bind ?_
  refine wpAny_bind (wpAny_setState_of ho1 rfl G.2 ?_)
  dsimp only
  have hsz := G.size
  rw [show es.isEmpty = false from by rw [Array.isEmpty, hsz, decide_eq_false_iff_not]; rcases hL with e | e | e <;> rw [e] <;> decide]
  simp only [Bool.false_eq_true, if_false]
  rw [hsz]
  refine wpAny_bind (room_ex hr1 hL ?_)
  intro ep1 ts hf hm hd
  rw [upd_push rfl]
  have hr2 : (s.heap.push (setO #[] ep1 ts)).get? s.heap.objs.size = some (setO #[] ep1 ts) := Heap.get?_push_size _ rfl
  refine wpAny_bind (wpAny_setState_of hr2 rfl hf ?_)
  dsimp only
  have hfill : ts.fill = 0 := by
    have : ts.place.size = 0 := by
      simp only [SetTable.fits, Bool.and_eq_true, beq_iff_eq] at hf
      exact hf.1
    unfold SetTable.fill
    rw [this, hd]
    rfl
  have hLm : L.length ≤ m127 L.length := by rcases hL with e | e | e <;> rw [e] <;> decide
  have hFull : Full (m127 L.length + 1) := by
    unfold m127
    split
    · exact full_of full8
    · exact full_of full128
  have hline : ∀ {e : Array (Int × Value)} {t : SetTable}, Good w L e t → e.size ≤ sizeLine := fun g => by rw [g.size, sizeLine_eq]; omega
  by_cases hroad : ts.mask = t.mask ∧ t.dummies = #[]
  · have er : ts.road t = .slotForSlot := by
      unfold SetTable.road
      rw [hfill, hroad.1, hroad.2]
      simp
    rw [er]
    dsimp only
    refine st_store hr2 ?_ (hline G)
    rw [upd_push rfl]
    exact wpAny_pure (h _ _ _ ⟨G.1, G.2⟩ (by rw [← hm, hroad.1]) hroad.2)
  · have er : ts.road t = .clean := by
      unfold SetTable.road
      rw [hfill]
      simp only [bne_self_eq_false, Bool.false_eq_true, if_false]
      rw [if_neg]
      intro hc
      rw [Bool.and_eq_true, beq_iff_eq, Array.isEmpty_iff] at hc
      exact hroad hc
    rw [er]
    dsimp only
    obtain ⟨t1, order, e, hp, hf1, hm1, hd1⟩ := laid_ok (mask := ts.mask) (finger := ts.finger) (moves := ts.moves) (led := ts.led && t.led) (plain := ts.plain && t.plain) (by rw [hm]; exact hFull) (es.map (·.1)) (by rw [Array.size_map, hsz, hm]; exact hLm)
    rw [e]
    rw [Array.size_map] at hp hf1
    have hpe := reord_perm hp
    have hse : (order.filterMap (es[·]?)).size = es.size := by rw [← Array.length_toList, hpe.length_eq, Array.length_toList]
    refine wpAny_bind ?_
    with_unfolding_all refine (?_ : wpAny _ _ (if ((order.filterMap fun x => es[x]?).size != es.size) = true then _ else _) _ _ _)
    rw [hse]
    simp only [bne_self_eq_false, Bool.false_eq_true, if_false]
    refine wpAny_pure ?_
    dsimp only
    have G1 : Good w L (order.filterMap (es[·]?)) t1 := ⟨hpe.trans G.1, by rw [hse]; exact hf1⟩
    refine st_store hr2 ?_ (hline G1)
    rw [upd_push rfl]
    exact wpAny_pure (h _ _ _ G1 (by rw [hm1, hm]) hd1)
end
end Mine
end
section
open PySem PySem.W PyProof.Rows PySem.Calls
open PySem.Builtin
namespace Mine
theorem pick_one {α : Type} (next : Nat → Nat) (x : α) : pickOrder next #[x] = #[x] := by
  simp [pickOrder, pickOrder.go, Nat.mod_one]
section
variable {w : World} {A : Around} {E : Value → Shared → Prop} {s : Shared} {a b : Addr} {es : Array (Int × Value)} {ep : Nat} {t : SetTable} {L : List (Nat × Nat)}
theorem walk_one {x : Int × Value} {Q : Array (Int × Value) → Shared → Prop} (ho : s.heap.get? b = some (setO #[x] ep t)) (hf : t.fits 1 = true) (h : Q #[x] s) : wpAny (model PR w) A (setWalk b) Q E s := by
  unfold setWalk setsByText
  refine wpAny_bind (wpAny_setState_of ho rfl hf ?_)
  dsimp only
  refine wpAny_bind (wpAny_bind (wpAny_askSetting (wpAny_pure ?_)))
  dsimp only
  split
  · refine wpAny_bind (wpAny_askSetting (wpAny_pure ?_))
    rw [pick_one]
    exact h
  · with_unfolding_all refine (?_ : wpAny _ _ (if (!t.plain && decide ((#[x] : Array (Int × Value)).size > 1)) = true then _ else _) _ _ _)
    rw [show decide ((#[x] : Array (Int × Value)).size > 1) = false from rfl, Bool.and_false]
    simp only [Bool.false_eq_true, if_false]
    refine wpAny_bind ?_
    with_unfolding_all refine (?_ : wpAny _ _ (if (!t.led && decide ((#[x] : Array (Int × Value)).size > 1)) = true then _ else _) _ _ _)
    rw [show decide ((#[x] : Array (Int × Value)).size > 1) = false from rfl, Bool.and_false]
    simp only [Bool.false_eq_true, if_false]
    exact wpAny_pure (wpAny_pure h)
theorem unseen_one {x : Int × Value} {others : List Addr} {filled : Option Addr} {Q : Array (Int × Value) → Shared → Prop} (ho : s.heap.get? b = some (setO #[x] ep t)) (hf : t.fits 1 = true) (h : Q #[x] s) :
    wpAny (model PR w) A (setWalkUnseen b others filled) Q E s := by
  unfold setWalkUnseen setsByText
  refine wpAny_bind (wpAny_setState_of ho rfl hf ?_)
  dsimp only
  refine wpAny_bind (wpAny_bind (wpAny_askSetting (wpAny_pure ?_)))
  rw [show decide ((#[x] : Array (Int × Value)).size ≤ 1) = true from rfl, Bool.or_true]
  simp only [if_true]
  exact walk_one ho hf h
theorem get_other {h : Heap} {a b : Addr} {f : Obj → Obj} {o : Obj} (hab : b ≠ a) (ho : h.get? b = some o) : (h.update a f).get? b = some o := (Heap.get?_update_ne _ _ _ _ hab).trans ho
theorem upd_from {id : String} {r c tok : Nat} {epb : Nat} {tb : SetTable} {Q : Unit → Shared → Prop} (hr : s.heap.get? r = some (setO es ep t)) (G : Good w L es t) (hm : t.mask = m127 L.length) (hd : t.dummies = #[]) (hL : L.length = 2 ∨ L.length = 32 ∨ L.length = 33)
    (ho : s.heap.get? b = some (setO #[el w (c, tok)] epb tb)) (hf : tb.fits 1 = true) (hrb : r ≠ b) (hc : ∀ x ∈ L, x.1 ≠ c)
    (h : ∀ es' ep' t', Good w (L ++ [(c, tok)]) es' t' → Q () { s with heap := s.heap.update r (fun _ => setO es' ep' t') }) :
    wpAny (model PR w) A (Frozenset.updateFrom id r (.ref b)) Q E s := by
  unfold Frozenset.updateFrom
  refine wpAny_bind (any_set ho ?_)
  simp only [if_true]
  refine wpAny_bind (wpAny_pure ?_)
  unfold Frozenset.merge
  refine wpAny_bind (wpAny_setEpoch_of ho rfl hf ?_)
  unfold setMerge
  rw [show (r == b) = false from by rw [beq_eq_false_iff_ne]; exact hrb]
  simp only [Bool.false_eq_true, if_false]
  refine wpAny_bind (wpAny_setState_of ho rfl hf ?_)
  dsimp only
  rw [show (#[el w (c, tok)] : Array (Int × Value)).isEmpty = false from rfl, show (#[el w (c, tok)] : Array (Int × Value)).size = 1 from rfl]
  simp only [Bool.false_eq_true, if_false]
  have hfill : t.fill = L.length := by
    have := G.2
    simp only [SetTable.fits, Bool.and_eq_true, beq_iff_eq] at this
    unfold SetTable.fill
    rw [this.1, hd, G.size]
    rfl
  have hroom : t.roomFor 1 = none := by
    unfold SetTable.roomFor
    rw [hfill, hm]
    rcases hL with e | e | e <;> rw [e] <;> rfl
  refine wpAny_bind ?_
  unfold setRoomFor
  refine wpAny_bind (wpAny_setState_of hr rfl G.2 ?_)
  dsimp only
  rw [hroom]
  refine wpAny_pure ?_
  refine wpAny_bind (wpAny_setState_of hr rfl G.2 ?_)
  dsimp only
  have hroad : t.road tb = .oneByOne := by
    unfold SetTable.road
    rw [hfill, if_pos]
    rcases hL with e | e | e <;> rw [e] <;> rfl
  rw [hroad]
  dsimp only
  refine wpAny_bind (unseen_one ho hf ?_)
  rw [List.forIn_toArray, List.forIn_cons]
  refine wpAny_bind (wpAny_bind ?_)
  refine wpAny_bind (wpAny_holding ?_)
  refine add_ex hr G hc (by rcases hL with e | e | e <;> rw [e] <;> decide) ?_
  intro es' ep' t' G'
  have ho2 : (s.heap.update r (fun _ => setO es' ep' t')).get? b = some (setO #[el w (c, tok)] epb tb) := get_other (Ne.symm hrb) ho
  refine wpAny_bind ?_
  unfold Frozenset.unchanged
  refine wpAny_bind (wpAny_setEpoch_of ho2 rfl hf ?_)
  simp only [bne_self_eq_false, Bool.false_eq_true, if_false]
  refine wpAny_pure ?_
  refine wpAny_bind (wpAny_setState_of ho2 rfl hf ?_)
  simp only [bne_self_eq_false, Bool.false_eq_true, if_false]
  refine wpAny_pure ?_
  dsimp only
  rw [List.forIn_nil]
  refine wpAny_pure (wpAny_pure ?_)
  exact h es' ep' t' G'
/-- the union of two sets -/
theorem or_ex {c tok epb : Nat} {tb : SetTable} {Q : Fin → Shared → Prop} (ho : s.heap.get? a = some (setO es ep t)) (G : Good w L es t) (hL : L.length = 2 ∨ L.length = 32 ∨ L.length = 33)
    (hb : s.heap.get? b = some (setO #[el w (c, tok)] epb tb)) (hf : tb.fits 1 = true) (hab : a ≠ b) (hc : ∀ x ∈ L, x.1 ≠ c)
    (h : ∀ es' ep' t', Good w (L ++ [(c, tok)]) es' t' → Q (.done (.ret (.ref s.heap.objs.size))) { s with heap := s.heap.push (setO es' ep' t') }) :
    wpAny (model PR w) A (Builtin.«frozenset.__or__» ⟨[.ref a, .ref b], []⟩) Q E s := by
  with_unfolding_all refine wpAny_bind (m := Frozenset.slot1 "__or__" ⟨[.ref a, .ref b], []⟩) (wpAny_pure ?_)
  dsimp only
  refine wpAny_bind (any_both ho hb ?_)
  simp only [Bool.not_true, Bool.false_eq_true, if_false]
  refine wpAny_bind (wpAny_pure ?_)
  refine wpAny_bind ?_
  with_unfolding_all refine wpAny_bind (m := Frozenset.copyOf a) ?_
  refine copy_ex ho G hL ?_
  intro es1 ep1 t1 G1 hm1 hd1
  rw [show (Value.ref b != Value.ref a) = true from by simp [Ne.symm hab]]
  simp only [if_true]
  refine wpAny_bind (wpAny_pure ?_)
  refine wpAny_bind (wpAny_holding ?_)
  have hlt : b < s.heap.objs.size := Heap.lt_size hb
  refine upd_from (r := s.heap.objs.size) (Heap.get?_push_size _ rfl) G1 hm1 hd1 hL (Heap.get?_push_of_some _ hb) hf (Nat.ne_of_gt hlt) hc ?_
  intro es' ep' t' G'
  rw [upd_push rfl]
  exact wpAny_pure (wpAny_pure (h es' ep' t' G'))
theorem erase_list {α : Type} (xs : Array α) (p : Nat) : (SetTable.eraseAt xs p).toList = xs.toList.take p ++ xs.toList.drop (p + 1) := by
  simp [SetTable.eraseAt, List.extract_eq_take_drop, List.take_of_length_le]
theorem erase_perm {α : Type} {xs : Array α} {p : Nat} (h : p < xs.toList.length) : List.Perm xs.toList (xs.toList[p] :: (SetTable.eraseAt xs p).toList) := by
  rw [erase_list]
  have e : xs.toList = xs.toList.take p ++ xs.toList[p] :: xs.toList.drop (p + 1) := by
    rw [← List.drop_eq_getElem_cons h, List.take_append_drop]
  exact (List.Perm.of_eq e).trans List.perm_middle
/-- a set but one of its texts -/
theorem disc_ex {r c tok tok' : Nat} {L₁ L₂ : List (Nat × Nat)} {Q : Bool → Shared → Prop} (hr : s.heap.get? r = some (setO es ep t)) (G : Good w (L₁ ++ (c, tok) :: L₂) es t) (hd : t.dummies = #[]) (hm : t.mask = 127) (hl : (L₁ ++ (c, tok) :: L₂).length ≤ 100) (hc : ∀ x ∈ L₁ ++ L₂, x.1 ≠ c)
    (h : ∀ es' ep' t', Good w (L₁ ++ L₂) es' t' → t'.mask = 127 → t'.dummies.size = 1 → Q true { s with heap := s.heap.update r (fun _ => setO es' ep' t') }) :
    wpAny (model PR w) A (setDiscardHashed r (chr1 c tok') (hashStr w ⟨#[c]⟩)) Q E s := by
  have hel := G.elems
  have hsz := G.size
  have hb : es.size < scanBound := by rw [hsz]; unfold scanBound; omega
  unfold setDiscardHashed setFind setFindIn
  refine wpAny_bind ?_
  refine wpAny_bind (wpAny_setState_of hr rfl G.2 ?_)
  dsimp only
  rw [byScan_of (knd := strKind PR w) (x := chr1 c tok') rfl hb hel]
  simp only [↓reduceIte]
  refine wpAny_bind (wpAny_rule ?_)
  refine wpAny_bind (wpAny_setScan_of (knd := strKind PR w) (k := ⟨#[c]⟩) (is_chr c tok') hr rfl G.2 hel ?_)
  cases hfi : List.findIdx? (fun e => (strKind PR w).is ⟨#[c]⟩ e.2) es.toList with
  | none =>
    exfalso
    obtain ⟨e, he, hk⟩ := (G.mem ⟨#[c]⟩).mpr ⟨(c, tok), by simp, rfl⟩
    have := List.findIdx?_eq_none_iff.mp hfi e he
    rw [hk] at this
    cases this
  | some j =>
    obtain ⟨hj, hpj, _⟩ := List.findIdx?_eq_some_iff_getElem.mp hfi
    dsimp only
    refine wpAny_pure ?_
    dsimp only
    refine wpAny_bind (wpAny_setState_of hr rfl G.2 ?_)
    dsimp only
    rw [Nat.zero_add]
    have hpe := erase_perm hj
    obtain ⟨x, hx, ex⟩ := List.mem_map.mp (G.1.mem_iff.mp (List.getElem_mem hj))
    have hxc : x.1 = c := by
      have h1 : (strKind PR w).is ⟨#[c]⟩ (el w x).2 = true := by rw [ex]; exact hpj
      have h2 := (strKind PR w).inj _ _ _ h1 (is_chr x.1 x.2)
      have : c = x.1 := by simpa using h2
      exact this.symm
    have hxe : x = (c, tok) := by
      rcases List.mem_append.mp hx with h | h
      · exact absurd hxc (hc x (List.mem_append_left _ h))
      · rcases List.mem_cons.mp h with h | h
        · exact h
        · exact absurd hxc (hc x (List.mem_append_right _ h))
    rw [← ex, hxe] at hpe
    have hpp : List.Perm (SetTable.eraseAt es j).toList ((L₁ ++ L₂).map (el w)) := by
      have h1 : List.Perm (el w (c, tok) :: (SetTable.eraseAt es j).toList) (el w (c, tok) :: (L₁ ++ L₂).map (el w)) := by
        refine hpe.symm.trans (G.1.trans ?_)
        rw [List.map_append, List.map_cons, List.map_append]
        exact List.perm_middle
      exact h1.cons_inv
    have hfit := G.2
    simp only [SetTable.fits, SetTable.fill, Bool.and_eq_true, beq_iff_eq, decide_eq_true_eq] at hfit
    have hjp : j < t.place.size := by rw [hfit.1, ← Array.length_toList]; exact hj
    have hes : (SetTable.eraseAt es j).size = (L₁ ++ L₂).length := by rw [← Array.length_toList, hpp.length_eq, List.length_map]
    have hpl : (SetTable.eraseAt t.place j).size = (L₁ ++ L₂).length := by
      have := congrArg List.length (erase_list t.place j)
      simp only [Array.length_toList, List.length_append, List.length_take, List.length_drop] at this
      rw [this, hfit.1, hsz]
      rw [hfit.1, hsz] at hjp
      simp only [List.length_append, List.length_cons] at hjp ⊢
      omega
    have hdrop : t.drop j = { t with place := SetTable.eraseAt t.place j, dummies := SetTable.insertAt t.dummies (SetTable.below t.dummies t.place[j]) t.place[j] } := by
      unfold SetTable.drop
      rw [Array.getElem?_eq_getElem hjp]
    have hds : (SetTable.insertAt t.dummies (SetTable.below t.dummies t.place[j]) t.place[j]).size = 1 := by
      rw [hd]
      simp [SetTable.insertAt]
    have G' : Good w (L₁ ++ L₂) (SetTable.eraseAt es j) (t.drop j) := by
      refine ⟨hpp, ?_⟩
      rw [hdrop]
      simp only [SetTable.fits, SetTable.fill, hes, hpl, hds, hm, beq_self_eq_true, Bool.true_and, decide_eq_true_eq]
      simp only [List.length_append, List.length_cons] at hl ⊢
      omega
    refine wpAny_bind (st_store hr ?_ ?_)
    · refine wpAny_bind (wpAny_point (wpAny_pure ?_))
      exact h _ _ _ G' (by rw [hdrop]; exact hm) (by rw [hdrop]; exact hds)
    · rw [hes, sizeLine_eq]
      simp only [List.length_append, List.length_cons] at hl ⊢
      omega
end
end Mine
end
section
open PySem PySem.W PyProof.Rows PySem.Calls
open PySem.Builtin
namespace Mine
section
variable {w : World} {A : Around} {E : Value → Shared → Prop} {s : Shared} {a b : Addr} {es : Array (Int × Value)} {ep : Nat} {t : SetTable} {L : List (Nat × Nat)}
theorem size_of {Q : Nat → Shared → Prop} (ho : s.heap.get? a = some (setO es ep t)) (hf : t.fits es.size = true) (h : Q es.size s) : wpAny (model PR w) A (Frozenset.sizeOf a) Q E s := by
  unfold Frozenset.sizeOf
  exact wpAny_bind (wpAny_setEntries_of ho rfl hf (wpAny_pure h))
theorem dupd_ex {id : String} {r c tok tok' epb : Nat} {tb : SetTable} {L₁ L₂ : List (Nat × Nat)} {Q : Unit → Shared → Prop} (hr : s.heap.get? r = some (setO es ep t)) (G : Good w (L₁ ++ (c, tok) :: L₂) es t) (hd : t.dummies = #[]) (hm : t.mask = 127) (hl : (L₁ ++ (c, tok) :: L₂).length ≤ 100) (hc : ∀ x ∈ L₁ ++ L₂, x.1 ≠ c)
    (hb : s.heap.get? b = some (setO #[el w (c, tok')] epb tb)) (hf : tb.fits 1 = true) (hrb : r ≠ b)
    (h : ∀ es' ep' t', Good w (L₁ ++ L₂) es' t' → Q () { s with heap := s.heap.update r (fun _ => setO es' ep' t') }) :
    wpAny (model PR w) A (Frozenset.differenceUpdate id r (.ref b)) Q E s := by
  unfold Frozenset.differenceUpdate
  rw [show (Value.ref b == Value.ref r) = false from by simp [Ne.symm hrb]]
  simp only [Bool.false_eq_true, if_false]
  refine wpAny_bind (any_set hb ?_)
  simp only [if_true]
  refine wpAny_bind (wpAny_pure ?_)
  refine wpAny_bind (size_of hb hf ?_)
  refine wpAny_bind (size_of hr G.2 ?_)
  rw [show (#[el w (c, tok')] : Array (Int × Value)).size = 1 from rfl]
  rw [if_neg (show ¬ (1 / 8 > es.size) from Nat.not_lt_zero _)]
  refine wpAny_bind (wpAny_setEpoch_of hb rfl hf ?_)
  refine wpAny_bind (wpAny_holding ?_)
  refine wpAny_bind (unseen_one hb hf ?_)
  rw [List.forIn_toArray, List.forIn_cons]
  refine wpAny_bind (wpAny_bind ?_)
  refine wpAny_bind (wpAny_holding ?_)
  refine disc_ex hr G hd hm hl hc ?_
  intro es' ep' t' G' hm' hd'
  have hb2 : (s.heap.update r (fun _ => setO es' ep' t')).get? b = some (setO #[el w (c, tok')] epb tb) := get_other (Ne.symm hrb) hb
  have hr2 : (s.heap.update r (fun _ => setO es' ep' t')).get? r = some (setO es' ep' t') := get_upd hr
  refine wpAny_bind ?_
  unfold Frozenset.unchanged
  refine wpAny_bind (wpAny_setEpoch_of hb2 rfl hf ?_)
  simp only [bne_self_eq_false, Bool.false_eq_true, if_false]
  refine wpAny_pure (wpAny_pure ?_)
  dsimp only
  rw [List.forIn_nil]
  refine wpAny_pure (wpAny_pure ?_)
  unfold setTidy
  refine wpAny_bind (wpAny_setState_of hr2 rfl G'.2 ?_)
  dsimp only
  rw [show t'.tooManyDummies = false from by unfold SetTable.tooManyDummies; rw [hm', hd']; rfl]
  simp only [Bool.false_eq_true, if_false]
  exact wpAny_pure (h es' ep' t' G')
/-- the difference -/
theorem sub_ex {c tok tok' epb : Nat} {tb : SetTable} {L₁ L₂ : List (Nat × Nat)} {Q : Fin → Shared → Prop} (ho : s.heap.get? a = some (setO es ep t)) (G : Good w (L₁ ++ (c, tok) :: L₂) es t) (hL : (L₁ ++ (c, tok) :: L₂).length = 33) (hc : ∀ x ∈ L₁ ++ L₂, x.1 ≠ c)
    (hb : s.heap.get? b = some (setO #[el w (c, tok')] epb tb)) (hf : tb.fits 1 = true) (hab : a ≠ b)
    (h : ∀ es' ep' t', Good w (L₁ ++ L₂) es' t' → Q (.done (.ret (.ref s.heap.objs.size))) { s with heap := s.heap.push (setO es' ep' t') }) :
    wpAny (model PR w) A (Builtin.«frozenset.__sub__» ⟨[.ref a, .ref b], []⟩) Q E s := by
  with_unfolding_all refine wpAny_bind (m := Frozenset.slot1 "__sub__" ⟨[.ref a, .ref b], []⟩) (wpAny_pure ?_)
  dsimp only
  refine wpAny_bind (any_both ho hb ?_)
  simp only [Bool.not_true, Bool.false_eq_true, if_false]
  refine wpAny_bind (wpAny_pure ?_)
  refine wpAny_bind ?_
  unfold Frozenset.difference
  dsimp only
  refine wpAny_bind (any_set hb ?_)
  simp only [Bool.not_true, Bool.false_and, Bool.false_eq_true, if_false, if_true]
  refine wpAny_bind (wpAny_pure ?_)
  refine wpAny_bind (size_of hb hf ?_)
  refine wpAny_bind (size_of ho G.2 ?_)
  rw [G.size, hL, show (#[el w (c, tok')] : Array (Int × Value)).size = 1 from rfl, if_pos (by decide)]
  refine wpAny_bind (wpAny_rule ?_)
  refine wpAny_bind ?_
  refine copy_ex ho G (.inr (.inr hL)) ?_
  intro es1 ep1 t1 G1 hm1 hd1
  refine wpAny_bind (wpAny_pure ?_)
  refine wpAny_bind (wpAny_holding ?_)
  have hlt : b < s.heap.objs.size := Heap.lt_size hb
  refine dupd_ex (r := s.heap.objs.size) (Heap.get?_push_size _ rfl) G1 hd1 (by rw [hm1, hL]; rfl) (by omega) hc (Heap.get?_push_of_some _ hb) hf (Nat.ne_of_gt hlt) ?_
  intro es' ep' t' G'
  rw [upd_push rfl]
  exact wpAny_pure (wpAny_pure (h es' ep' t' G'))
end
end Mine
end
section
open PySem PySem.W PyProof.Rows PySem.Calls
namespace Mine
theorem comes_wp {w : World} {t : Sem Fin} {c : Code} {p : Pos} {st : List Frame} {s : Shared} {Q : Fin → Shared → Prop} (h : ∀ A, wpAny (model PR w) A t Q (fun _ _ => False) s) :
    ∃ s' p' a, Comes (model PR w) s ⟨t, c, p, st⟩ s' ⟨.pure a, c, p', st⟩ ∧ Q a s' := by
  have hw := h ⟨(Ctx.of c st).handled, frameCount (Ctx.of c st).below + (Ctx.of c st).code.weight, none, none, (Ctx.of c st).units⟩ (Ctx.of c st) p ⟨rfl, Nat.le_refl _, (fun l hl => nomatch hl), (fun g hg => nomatch hg), Nat.le_refl _⟩
  obtain ⟨s', p', leaf, hc, hl⟩ := wp_comes (M := model PR w) (Ctx.fits_of c st) t _ _ p s hw
  rcases hl with ⟨a, rfl, hq⟩ | ⟨e, _, hf⟩
  · exact ⟨s', p', a, hc, hq⟩
  · exact hf.elim
theorem comes_go {w : World} {n : Nat} {s s' : Shared} {t t' : Thread} (h : goN w n s t = .running s' t') : Comes (model PR w) s t s' t' :=
  ⟨n, by
    show runNI (denote table) PR w n s t = _
    rw [table_eq_tree]
    exact h⟩
theorem again1 (w : World) (s : Shared) (a b : Nat) (c : Code) (p : Pos) (st : List Frame) : goN w 1 s ⟨.pure (.again (loopC a b)), c, p, st⟩ = .running s ⟨denote treeTable (loopC a b), loopC a b, p, st⟩ := by kernel_rfl
/-- one text is added -/
theorem comes_add {w : World} {a b c tok : Nat} {p : Pos} {st : List Frame} {s : Shared} {es : Array (Int × Value)} {ep : Nat} {t : SetTable} {L : List (Nat × Nat)} (ho : s.heap.get? a = some (setO es ep t)) (G : Good w L es t) (hc : ∀ x ∈ L, x.1 ≠ c) (hL : L.length < 900) :
    ∃ es' ep' t' p', Good w (L ++ [(c, tok)]) es' t' ∧ Comes (model PR w) s ⟨addT a b (chr1 c tok), loopC a b, p, st⟩ { s with heap := s.heap.update a (fun _ => setO es' ep' t'), toks := s.toks + 1 } ⟨denote treeTable (loopC a b), loopC a b, p', st⟩ := by
  obtain ⟨s', p', x, hcm, es', ep', t', G', rfl, rfl⟩ := comes_wp (c := loopC a b) (p := p) (st := st)
    (fun A => addT_ex (A := A) (b := b) (tok := tok) (E := fun _ _ => False) (Q := fun f s' => ∃ es' ep' t', Good w (L ++ [(c, tok)]) es' t' ∧ f = .again (loopC a b) ∧ s' = { s with heap := s.heap.update a (fun _ => setO es' ep' t'), toks := s.toks + 1 }) ho G hc hL fun es' ep' t' G' => ⟨es', ep', t', G', rfl, rfl⟩)
  exact ⟨es', ep', t', p', G', hcm.trans (comes_go (again1 w _ a b _ p' st))⟩
def chars (n : Nat) : List (Nat × Nat) := (List.range n).map fun j => (j, 213 + 4 * j)
theorem chars_succ (n : Nat) : chars (n + 1) = chars n ++ [(n, 213 + 4 * n)] := by
  unfold chars
  rw [List.range_succ, List.map_append]
  rfl
theorem chars_lt {n : Nat} : ∀ x ∈ chars n, x.1 < n := by
  intro x hx
  obtain ⟨j, hj, rfl⟩ := List.mem_map.mp hx
  exact List.mem_range.mp hj
theorem chars_len (n : Nat) : (chars n).length = n := by simp [chars]
theorem SI_get (w : World) (os : OsState) (ob : Nat → Obj) (i k : Nat) (es : Array (Int × Value)) (ep : Nat) (t : SetTable) : (SI w os ob i k (setO es ep t)).heap.get? 29 = some (setO es ep t) := by kernel_rfl
theorem SI_upd (w : World) (os : OsState) (ob : Nat → Obj) (i k : Nat) (o o' : Obj) : { SI w os ob i k o with heap := (SI w os ob i k o).heap.update 29 (fun _ => o'), toks := (SI w os ob i k o).toks + 1 } = SI w os ob i (k + 1) o' := by kernel_rfl
/-- the first set is filled -/
theorem filled (w : World) (os : OsState) (ob₀ : Nat → Obj) : ∃ ob, ∀ i, i < 32 → ∃ es ep t p, Good w (chars (i + 1)) es t ∧
    Comes (model PR w) (S3 w os ob₀) (NT 3 ⟨13, 0, 13, 8⟩) (SI w os ob i (215 + 4 * i) (setO es ep t)) ⟨denote treeTable (loopC 29 28), loopC 29 28, p, stk (kAt (R3a w os ob₀)) 29 (.ref 28) [] p14⟩ := by
  refine ⟨obAt (R3a w os ob₀), fun i => ?_⟩
  induction i with
  | zero =>
    intro _
    have h1 := comes_go (seg3a w os ob₀)
    obtain ⟨n, h2⟩ := turn0 w os (obAt (R3a w os ob₀)) (kAt (R3a w os ob₀)) #[] 0 (.fresh 0 0 (!w.params.followText "set-order"))
    obtain ⟨es', ep', t', p', G', h3⟩ := comes_add (w := w) (a := 29) (b := 28) (c := 0) (tok := 213) (p := p14) (st := stk (kAt (R3a w os ob₀)) 29 (.ref 28) [] p14) (L := [])
      (SI_get w os (obAt (R3a w os ob₀)) 0 214 #[] 0 (.fresh 0 0 (!w.params.followText "set-order"))) ⟨.nil, rfl⟩ (fun x hx => by cases hx) (by decide)
    rw [SI_upd] at h3
    exact ⟨es', ep', t', p', G', h1.trans ((comes_go h2).trans h3)⟩
  | succ i ih =>
    intro hi
    obtain ⟨es, ep, t, p, G, h1⟩ := ih (by omega)
    have h2 := comes_go (turns w os (obAt (R3a w os ob₀)) (kAt (R3a w os ob₀)) es ep t p i (by omega))
    obtain ⟨es', ep', t', p', G', h3⟩ := comes_add (w := w) (a := 29) (b := 28) (c := i + 1) (tok := 217 + 4 * i) (p := p) (st := stk (kAt (R3a w os ob₀)) 29 (.ref 28) [] p14)
      (SI_get w os (obAt (R3a w os ob₀)) (i + 1) (218 + 4 * i) es ep t) G (fun x hx => Nat.ne_of_lt (chars_lt x hx)) (by rw [chars_len]; omega)
    rw [SI_upd] at h3
    refine ⟨es', ep', t', p', ?_, h1.trans (h2.trans ?_)⟩
    · rw [chars_succ (i + 1), show 213 + 4 * (i + 1) = 217 + 4 * i by omega]
      exact G'
    · rw [show 215 + 4 * (i + 1) = 218 + 4 * i + 1 by omega]
      exact h3
end Mine
end
section
open PySem PySem.W PyProof.Rows PySem.Calls
namespace Mine
theorem den_or (a b : Nat) : denote treeTable (orC a b) = Builtin.«frozenset.__or__» ⟨[.ref a, .ref b], []⟩ := by kernel_rfl
theorem den_sub (a b : Nat) : denote treeTable (subC a b) = Builtin.«frozenset.__sub__» ⟨[.ref a, .ref b], []⟩ := by kernel_rfl
def tab1 (w : World) (c : Nat) : SetTable := { mask := 7, place := #[SetTable.bits (hashStr w ⟨#[c]⟩) % 8], dummies := #[], finger := 0, led := !w.params.followText "set-order", moves := 0, plain := false }
theorem oneO_eq (w : World) (c t : Nat) : oneO w c t = setO #[el w (c, t)] 1 (tab1 w c) := rfl
theorem one_good (w : World) (c t : Nat) : Good w [(c, t)] #[el w (c, t)] (tab1 w c) := ⟨.refl _, rfl⟩
theorem comes_or {w : World} {a b c tok : Nat} {p : Pos} {st : List Frame} {s : Shared} {es : Array (Int × Value)} {ep : Nat} {t : SetTable} {L : List (Nat × Nat)} (ho : s.heap.get? a = some (setO es ep t)) (G : Good w L es t) (hL : L.length = 2 ∨ L.length = 32 ∨ L.length = 33)
    (hb : s.heap.get? b = some (oneO w c tok)) (hab : a ≠ b) (hc : ∀ x ∈ L, x.1 ≠ c) (v : Nat) (hv : s.heap.objs.size = v) :
    ∃ es' ep' t' p', Good w (L ++ [(c, tok)]) es' t' ∧ Comes (model PR w) s ⟨denote treeTable (orC a b), orC a b, p, st⟩ { s with heap := s.heap.push (setO es' ep' t') } (doneT v (orC a b) p' st) := by
  rw [den_or]
  rw [oneO_eq] at hb
  obtain ⟨s', p', x, hcm, es', ep', t', G', rfl, rfl⟩ := comes_wp (c := orC a b) (p := p) (st := st)
    (fun A => or_ex (A := A) (E := fun _ _ => False) (Q := fun f s' => ∃ es' ep' t', Good w (L ++ [(c, tok)]) es' t' ∧ f = .done (.ret (.ref s.heap.objs.size)) ∧ s' = { s with heap := s.heap.push (setO es' ep' t') }) ho G hL hb rfl hab hc fun es' ep' t' G' => ⟨es', ep', t', G', rfl, rfl⟩)
  rw [hv] at hcm
  exact ⟨es', ep', t', p', G', hcm⟩
theorem comes_sub {w : World} {a b c tok tok' : Nat} {p : Pos} {st : List Frame} {s : Shared} {es : Array (Int × Value)} {ep : Nat} {t : SetTable} {L₁ L₂ : List (Nat × Nat)} (ho : s.heap.get? a = some (setO es ep t)) (G : Good w (L₁ ++ (c, tok) :: L₂) es t) (hL : (L₁ ++ (c, tok) :: L₂).length = 33)
    (hb : s.heap.get? b = some (oneO w c tok')) (hab : a ≠ b) (hc : ∀ x ∈ L₁ ++ L₂, x.1 ≠ c) (v : Nat) (hv : s.heap.objs.size = v) :
    ∃ es' ep' t' p', Good w (L₁ ++ L₂) es' t' ∧ Comes (model PR w) s ⟨denote treeTable (subC a b), subC a b, p, st⟩ { s with heap := s.heap.push (setO es' ep' t') } (doneT v (subC a b) p' st) := by
  rw [den_sub]
  rw [oneO_eq] at hb
  obtain ⟨s', p', x, hcm, es', ep', t', G', rfl, rfl⟩ := comes_wp (c := subC a b) (p := p) (st := st)
    (fun A => sub_ex (A := A) (E := fun _ _ => False) (Q := fun f s' => ∃ es' ep' t', Good w (L₁ ++ L₂) es' t' ∧ f = .done (.ret (.ref s.heap.objs.size)) ∧ s' = { s with heap := s.heap.push (setO es' ep' t') }) ho G hL hc hb rfl hab fun es' ep' t' G' => ⟨es', ep', t', G', rfl, rfl⟩)
  rw [hv] at hcm
  exact ⟨es', ep', t', p', G', hcm⟩
/-- other objects at some places -/
def ob2 (ob : Nat → Obj) (a : Nat) (x : Obj) (b : Nat) (y : Obj) (j : Nat) : Obj := if j = a then x else if j = b then y else ob j
theorem S3b_push (w : World) (os : OsState) (ob : Nat → Obj) (set o' : Obj) : { S3b w os ob set with heap := (S3b w os ob set).heap.push o' } = SK w os (ob2 ob 29 set 34 (oneO w 127 341)) 343 [] 10 (obs (ob2 ob 29 set 34 (oneO w 127 341)) 22 16 ++ [o']) := by kernel_rfl
theorem S4b_push (w : World) (os : OsState) (ob : Nat → Obj) (set o' : Obj) : { S4b w os ob set with heap := (S4b w os ob set).heap.push o' } = SK w os (ob2 ob 38 set 39 (oneO w 9 345)) 347 (g3 w.params) 11 (obs (ob2 ob 38 set 39 (oneO w 9 345)) 22 21 ++ [o']) := by kernel_rfl
theorem S8b_push (w : World) (os : OsState) (ob : Nat → Obj) (set s44 o' : Obj) : { S8b w os ob set s44 with heap := (S8b w os ob set s44).heap.push o' } = SK w os (ob2 ob 44 s44 48 (oneO w 10 357)) 359 (g7 w.params) 15 (obs (ob2 ob 44 s44 48 (oneO w 10 357)) 22 21 ++ set :: obs (ob2 ob 44 s44 48 (oneO w 10 357)) 44 8 ++ [o']) := by kernel_rfl
theorem S7a_upd (w : World) (os : OsState) (ob : Nat → Obj) (k : Nat) (set o o' : Obj) : { S7a w os ob k set o with heap := (S7a w os ob k set o).heap.update 44 (fun _ => o'), toks := (S7a w os ob k set o).toks + 1 } = S7a w os ob (k + 1) set o' := by kernel_rfl
theorem get3a (w : World) (os : OsState) (ob : Nat → Obj) (es : Array (Int × Value)) (ep : Nat) (t : SetTable) : (S3b w os ob (setO es ep t)).heap.get? 29 = some (setO es ep t) := by kernel_rfl
theorem get3b (w : World) (os : OsState) (ob : Nat → Obj) (set : Obj) : (S3b w os ob set).heap.get? 34 = some (oneO w 127 341) := by kernel_rfl
theorem get4a (w : World) (os : OsState) (ob : Nat → Obj) (es : Array (Int × Value)) (ep : Nat) (t : SetTable) : (S4b w os ob (setO es ep t)).heap.get? 38 = some (setO es ep t) := by kernel_rfl
theorem get4b (w : World) (os : OsState) (ob : Nat → Obj) (set : Obj) : (S4b w os ob set).heap.get? 39 = some (oneO w 9 345) := by kernel_rfl
theorem get7 (w : World) (os : OsState) (ob : Nat → Obj) (k : Nat) (set : Obj) : (S7a w os ob k set (oneO w 32 351)).heap.get? 44 = some (oneO w 32 351) := by kernel_rfl
theorem get8a (w : World) (os : OsState) (ob : Nat → Obj) (set : Obj) (es : Array (Int × Value)) (ep : Nat) (t : SetTable) : (S8b w os ob set (setO es ep t)).heap.get? 44 = some (setO es ep t) := by kernel_rfl
theorem get8b (w : World) (os : OsState) (ob : Nat → Obj) (set s44 : Obj) : (S8b w os ob set s44).heap.get? 48 = some (oneO w 10 357) := by kernel_rfl
theorem size3 (w : World) (os : OsState) (ob : Nat → Obj) (set : Obj) : (S3b w os ob set).heap.objs.size = 38 := by kernel_rfl
theorem size4 (w : World) (os : OsState) (ob : Nat → Obj) (set : Obj) : (S4b w os ob set).heap.objs.size = 43 := by kernel_rfl
theorem size8 (w : World) (os : OsState) (ob : Nat → Obj) (set s44 : Obj) : (S8b w os ob set s44).heap.objs.size = 52 := by kernel_rfl
/-- the control signs but the tab -/
def Lill : List (Nat × Nat) := chars 9 ++ ((List.range' 10 22).map fun j => (j, 213 + 4 * j)) ++ [(127, 341)]
def Lws : List (Nat × Nat) := [(32, 351), (9, 353), (10, 357)]
theorem chars_split : chars 32 ++ [(127, 341)] = chars 9 ++ (9, 249) :: (((List.range' 10 22).map fun j => (j, 213 + 4 * j)) ++ [(127, 341)]) := by decide
/-- the top comes to its end, and the two sets are as they are written -/
theorem top_comes (w : World) (os : OsState) : ∃ ob es ep t es' ep' t', Good w Lill es t ∧ Good w Lws es' t' ∧
    Comes (model PR w) (s0 w os) (topStub pw) (SF w os ob (setO es ep t) (setO es' ep' t')) ⟨.pure (.done (.ret .none)), .builtin "claim.caller" {}, default, []⟩ := by
  have h0 : Comes (model PR w) (s0 w os) (topStub pw) _ _ := comes_go (top3 w os)
  obtain ⟨ob₁, h⟩ := filled w os (obAt (R3 w os))
  obtain ⟨es, ep, t, p, G, h1⟩ := h 31 (by decide)
  have h2 := comes_go (seg3b w os (obAt (R3 w os)) ob₁ es ep t p)
  obtain ⟨es1, ep1, t1, p1, G1, h3⟩ := comes_or (w := w) (p := p14w) (st := stk2 (kAt (R3b w os (obAt (R3 w os)) ob₁ es ep t p)) 29 34 p14w) (get3a w os (obAt (R3b w os (obAt (R3 w os)) ob₁ es ep t p)) es ep t) G (.inr (.inl (chars_len 32))) (get3b w os _ _) (by decide)
    (fun x hx => Nat.ne_of_lt (Nat.lt_trans (chars_lt x hx) (by decide))) 38 (size3 w os _ _)
  rw [S3b_push] at h3
  have h4 := comes_go (seg3c w os (obAt (R3 w os)) ob₁ (ob2 (obAt (R3b w os (obAt (R3 w os)) ob₁ es ep t p)) 29 (setO es ep t) 34 (oneO w 127 341)) es ep t p (setO es1 ep1 t1) p1)
  generalize ob2 (obAt (R3b w os (obAt (R3 w os)) ob₁ es ep t p)) 29 (setO es ep t) 34 (oneO w 127 341) = ob₂ at h3 h4
  have h5 := comes_go (seg4a w os ob₂ es1 ep1 t1)
  rw [chars_split] at G1
  obtain ⟨es2, ep2, t2, p2, G2, h6⟩ := comes_sub (w := w) (p := p15w) (st := stk2 (kAt (R4a w os ob₂ es1 ep1 t1)) 38 39 p15w) (get4a w os (obAt (R4a w os ob₂ es1 ep1 t1)) es1 ep1 t1) G1 (by decide) (get4b w os _ _) (by decide)
    (by decide) 43 (size4 w os _ _)
  rw [S4b_push] at h6
  have h7 := comes_go (seg4b w os ob₂ (ob2 (obAt (R4a w os ob₂ es1 ep1 t1)) 38 (setO es1 ep1 t1) 39 (oneO w 9 345)) es1 ep1 t1 (setO es2 ep2 t2) p2)
  generalize ob2 (obAt (R4a w os ob₂ es1 ep1 t1)) 38 (setO es1 ep1 t1) 39 (oneO w 9 345) = ob₃ at h6 h7
  have h8 := comes_go (seg7a w os ob₃ (setO es2 ep2 t2))
  obtain ⟨es3, ep3, t3, p3, G3, h9⟩ := comes_add (w := w) (a := 44) (b := 45) (c := 9) (tok := 353) (p := p18) (st := stk (kAt (R7a w os ob₃ (setO es2 ep2 t2))) 44 wsV [] p18) ((get7 w os ob₃ 354 (setO es2 ep2 t2)).trans (congrArg some (oneO_eq w 32 351))) (one_good w 32 351) (by decide) (by decide)
  rw [S7a_upd] at h9
  have h10 := comes_go (seg7b w os ob₃ ob₃ (setO es2 ep2 t2) (setO es2 ep2 t2) es3 ep3 t3 p3)
  generalize obAt (R7b w os ob₃ ob₃ (setO es2 ep2 t2) (setO es2 ep2 t2) es3 ep3 t3 p3) = ob₄ at h10
  have h11 := comes_go (seg8a w os ob₄ (setO es2 ep2 t2) es3 ep3 t3)
  obtain ⟨es4, ep4, t4, p4, G4, h12⟩ := comes_or (w := w) (p := p19w) (st := stk2 (kAt (R8a w os ob₄ (setO es2 ep2 t2) es3 ep3 t3)) 44 48 p19w) (get8a w os (obAt (R8a w os ob₄ (setO es2 ep2 t2) es3 ep3 t3)) (setO es2 ep2 t2) es3 ep3 t3) G3 (.inl rfl) (get8b w os _ _ _) (by decide)
    (by decide) 52 (size8 w os _ _ _)
  rw [S8b_push] at h12
  have h13 := comes_go (seg8b w os ob₄ (ob2 (obAt (R8a w os ob₄ (setO es2 ep2 t2) es3 ep3 t3)) 44 (setO es3 ep3 t3) 48 (oneO w 10 357)) (setO es2 ep2 t2) es3 ep3 t3 (setO es2 ep2 t2) (setO es4 ep4 t4) p4)
  generalize ob2 (obAt (R8a w os ob₄ (setO es2 ep2 t2) es3 ep3 t3)) 44 (setO es3 ep3 t3) 48 (oneO w 10 357) = ob₅ at h12 h13
  have h14 := comes_go (seg9 w os ob₅ es2 ep2 t2 es4 ep4 t4)
  refine ⟨ob₅, es2, ep2, t2, es4, ep4, t4, ?_, G4, ?_⟩
  · have e : Lill = chars 9 ++ (((List.range' 10 22).map fun j => (j, 213 + 4 * j)) ++ [(127, 341)]) := by unfold Lill; rw [List.append_assoc]
    rw [e]
    exact G2
  · exact h0.trans (h1.trans (h2.trans (h3.trans (h4.trans (h5.trans (h6.trans (h7.trans (h8.trans (h9.trans (h10.trans (h11.trans (h12.trans (h13.trans h14)))))))))))))
end Mine
end
section
open PySem PySem.W PyProof.Rows PySem.Calls
namespace Mine
/-- a run of the reckoning machine is a run of the real one -/
theorem sched_of {p : Program} {w : World} {s s' : Shared} {t : Thread} {f : Flow} {c : Code} {pos : Pos} (hz : s.asleep) (hg : leftWithCleanup s'.gens = false) (hn : s'.NoSusp) (h : Comes (model p w) s t s' ⟨.pure (.done f), c, pos, []⟩) :
    ∃ n t', schedN (denote table) p w n (.single s t) = .running (.single s' t') ∧ through t' = true := by
  have hl : (model p w).runN 1 s' ⟨.pure (.done f), c, pos, []⟩ = .halted (.done f) s' := by
    obtain ⟨hp, gs, d, k, os⟩ := s'
    show (match stepI (denote table) p w ⟨hp, gs, d, k, os⟩ ⟨.pure (.done f), c, pos, []⟩ with | .go s' t' => runNI (denote table) p w 0 s' t' | .halt o s' => Run.halted o s') = _
    have e : stepI (denote table) p w ⟨hp, gs, d, k, os⟩ ⟨.pure (.done f), c, pos, []⟩ = finish (.done f) ⟨hp, gs, d, k, os⟩ := rfl
    rw [e]
    unfold finish
    rw [show leftWithCleanup (Shared.mk hp gs d k os).gens = false from hg]
    rfl
  obtain ⟨N, hN⟩ := h.halts hl
  obtain ⟨n, hr⟩ := h
  have hN' : runNI (denote table) p w N s t = .halted (.done f) s' := hN
  have hr' : runNI (denote table) p w n s t = .running s' ⟨.pure (.done f), c, pos, []⟩ := hr
  obtain ⟨s'', hR, _, hc⟩ := runNI_real (denote table) p w hN' rfl
  obtain ⟨σ, tau, hrr, hσ, htau⟩ := runNI_running_real hr'
  obtain rfl : σ = s' := Shared.eq_of_forget_eq' hσ hn
  refine ⟨n, tau, ?_, ?_⟩
  · rw [schedN_prefix (denote table) p w n s t hz, hrr]
    · rfl
    · intro k s₁ t₁ _ hk
      refine ⟨hc k s₁ t₁ hk, fun hx => ?_⟩
      have hk1 : runN (denote table) p w (k + 1) s t = .halted (.unsupported "lifetime:generator-with-cleanup-left-suspended") s₁ := by
        have : ∀ (k : Nat) (s : Shared) (t : Thread), runN (denote table) p w k s t = .running s₁ t₁ → runN (denote table) p w (k + 1) s t = .halted (.unsupported "lifetime:generator-with-cleanup-left-suspended") s₁ := by
          intro k
          induction k with
          | zero =>
            intro s t h
            have e : Run.running s t = .running s₁ t₁ := h
            injection e with e1 e2
            subst e1 e2
            simp only [runN, hx]
          | succ k ih =>
            intro s t h
            rw [runN] at h
            rw [runN]
            cases hs : step (denote table) p w s t with
            | go s₂ t₂ => rw [hs] at h; exact ih s₂ t₂ h
            | halt o s₂ => rw [hs] at h; cases h
        exact this k s t hk
      have a := runN_mono _ _ _ _ (k + 1) _ _ _ _ hR
      have b := runN_mono _ _ _ _ N _ _ _ _ hk1
      rw [Nat.add_comm, b] at a
      cases a
  · obtain ⟨cur, code, ps, stack⟩ := tau
    simp only [Thread.forget, Thread.mk.injEq, forgetAll] at htau
    obtain ⟨e2, e3, e4, e5⟩ := htau
    have hst : stack = [] := by cases stack with | nil => rfl | cons x xs => simp at e5
    subst hst e2 e3 e4
    rfl
theorem frozen_of {w : World} {h : Heap} {a : Addr} {es : Array (Int × Value)} {ep : Nat} {t : SetTable} {L : List (Nat × Nat)} {S : PySem.Str → Bool} (ho : h.get? a = some (setO es ep t)) (G : Good w L es t) (hS : ∀ k, S k = true ↔ ∃ x ∈ L, k = ⟨#[x.1]⟩) : FrozAt (strKind PR w) h a S L.length :=
  ⟨es, ep, t, ho, G.elems, fun k => (hS k).trans (G.mem k).symm, G.size, G.2⟩
theorem ws_mem (k : PySem.Str) : wsS k = true ↔ ∃ x ∈ Lws, k = ⟨#[x.1]⟩ := by
  simp only [wsS, Lws, Bool.or_eq_true, beq_iff_eq, List.mem_cons, List.not_mem_nil, or_false, exists_eq_or_imp, exists_eq_left, or_assoc]
theorem Lill_map : Lill.map (·.1) = (List.range 128).filter ill := by decide +kernel
theorem ill_mem (k : PySem.Str) : illS k = true ↔ ∃ x ∈ Lill, k = ⟨#[x.1]⟩ := by
  unfold illS
  rw [List.any_eq_true]
  constructor
  · rintro ⟨c, hc, h⟩
    rw [Bool.and_eq_true, beq_iff_eq] at h
    have : c ∈ Lill.map (·.1) := by rw [Lill_map]; exact List.mem_filter.mpr ⟨hc, h.1⟩
    obtain ⟨x, hx, rfl⟩ := List.mem_map.mp this
    exact ⟨x, hx, h.2⟩
  · rintro ⟨x, hx, rfl⟩
    have : x.1 ∈ (List.range 128).filter ill := by rw [← Lill_map]; exact List.mem_map.mpr ⟨x, hx, rfl⟩
    obtain ⟨h1, h2⟩ := List.mem_filter.mp this
    exact ⟨x.1, h1, by rw [h2]; simp [one]⟩
theorem opening_plain : opening pw = plainProg pw.main.scope.names := by kernel_rfl
theorem fence_plain : ∀ s, fenceModules? pw s = some s := fun s => by kernel_rfl
theorem chains_ok : chainsOk VV = true := by decide +kernel
theorem boot_ns (P : Params) : (boot_heap P).isNs mainGlobals = true ∧ (boot_heap P).objs.size = 11 ∧ (boot_heap P).nsMap mainGlobals "__annotations__" = some (.ref 6) := ⟨by kernel_rfl, by kernel_rfl, by kernel_rfl⟩
theorem low11 : ∀ n : Nat, n < 11 → n ≠ 3 → n ∈ [0, 1, 2, 4, 5, 6, 7, 8, 9, 10] := by decide
/-- what holds behind the top -/
def TopFacts (w : World) (h : Heap) : Prop := (KK w.params).In h ∧ FrozAt (strKind PR w) h 43 illS 32 ∧ FrozAt (strKind PR w) h 52 wsS 3
theorem TopFacts.keeps {w : World} {h h' : Heap} (x : TopFacts w h) (k : ∀ b o, h.get? b = some o → h'.get? b = some o) : TopFacts w h' := by
  obtain ⟨a, ⟨es, ep, t, ho, r⟩, ⟨es', ep', t', ho', r'⟩⟩ := x
  exact ⟨a.keeps k, ⟨es, ep, t, k _ _ ho, r⟩, ⟨es', ep', t', k _ _ ho', r'⟩⟩
theorem behind (w : World) : (∃ s, AfterRun (opening pw) w s) ∧ ∀ s, AfterRun (opening pw) w s → ∃ s₀, fenceModules? pw s = some s₀ ∧ s₀.gens = #[] ∧ ∃ s₁, TopRan pw w s₀ s₁ ∧ s₁.asleep ∧ leftWithCleanup s₁.gens = false ∧ s₁.heap.isNs mainGlobals = true ∧
      Ground VV LL [] (XL VV []) w s₁ (s₁.heap.nsMap mainGlobals) (s₁.heap.nsMap builtinsNs) s₁.heap ∧ TopFacts w s₁.heap := by
  have h := boot_open (N := 1000) opening_plain (by decide) fence_plain w
  rw [← table_eq_tree] at h
  obtain ⟨s₀, h2, e0⟩ := Option.map_eq_some_iff.mp h
  obtain ⟨s, h4, h5⟩ := Option.bind_eq_some_iff.mp h2
  have A := AfterImport.of_importEnds h4
  refine ⟨⟨s, A⟩, fun s' hs' => ?_⟩
  obtain rfl : s' = s := AfterImport.unique hs' A
  have z : s₀.asleep := Shared.asleep_of_life (fence_lifeW h5) A.life
  obtain ⟨hp, gs, d, k, os⟩ := s₀
  obtain ⟨rfl, rfl, rfl, rfl⟩ : hp = boot_heap w.params ∧ gs = #[] ∧ d = boot_drawn ∧ k = boot_toks := by simpa using e0
  obtain ⟨ob, es, ep, t, es', ep', t', G, G', hc⟩ := top_comes w os
  obtain ⟨l1, l2, l3, l4, l5, l6, l7, l8⟩ : _ ∧ _ ∧ _ ∧ _ ∧ _ ∧ _ ∧ _ ∧ _ := by simpa only [looksAt, Prod.mk.injEq] using looks9 w os ob es ep t es' ep' t'
  generalize SF w os ob (setO es ep t) (setO es' ep' t') = s₁ at hc l1 l2 l3 l4 l5 l6 l7 l8
  obtain ⟨G0, g0, g1, g2, g3, g4, g5⟩ := ground_of_open (q := VV) (loose := LL) (XP := XL VV []) (w := w) (fun s e => xl_of s e) chains_ok l2
  obtain ⟨l1, hlk⟩ := Bool.and_eq_true_iff.mp l1
  obtain ⟨l1, hgd⟩ := Bool.and_eq_true_iff.mp l1
  obtain ⟨hst, hnb⟩ := Bool.and_eq_true_iff.mp l1
  have hsus : s₁.NoSusp := by rw [Shared.NoSusp, l6]; intro x hx; simp at hx; subst hx; rfl
  have hcl : leftWithCleanup s₁.gens = false := by simpa using g0
  obtain ⟨b1, b2, b3⟩ := boot_ns w.params
  refine ⟨_, h5, rfl, s₁, ⟨sched_of z hcl hsus hc, l8, Shared.rest_eq l7, ?_, g2, statics_of_ok hst, g3, g4, g5, gens_of_done hgd, names_of_bound hnb, laid_of_kept hlk⟩, Shared.asleep_of_life l8 z, hcl, g1, G0, ?_⟩
  · intro b o hb hn
    have hlt : b < 11 := by have := Heap.lt_size hb; rwa [b2] at this
    have h3 : b ≠ 3 := fun q => hn (.inl q)
    have hgl : b ∈ [0, 1, 2, 4, 5, 6, 7, 8, 9, 10] := low11 b hlt h3
    have : s₁.heap.get? b = (boot_heap w.params).get? b := by
      unfold gets at l4
      exact List.map_inj_left.mp l4 b hgl
    rw [this]
    exact hb
  · unfold gets at l5
    simp only [List.map_cons, List.map_nil, List.cons.injEq, and_true] at l5
    exact ⟨Frag.in_of rfl l3, frozen_of l5.1 G ill_mem, frozen_of l5.2 G' ws_mem⟩
end Mine
end
section
open PySem PySem.W PyProof.Rows PySem.Calls
namespace Mine
/-- the end of the call: good, old tables may have grown, no generator is left -/
def GoodG (c : ClaimW) (cl : PySem.Str → Option Addr) (mean : ExcName → Option Value) (args : List WData) (s₁ : Shared) (r : Result) (s' : Shared) : Prop := GoodWG c cl mean args s₁ r s' ∧ s'.gens = #[]
theorem post_imp (w : World) {cw : ClaimW} {cl : PySem.Str → Option Addr} {mean : ExcName → Option Value} {args : List WData} {s₁ s' : Shared} {r : Result} {tabs : List (Addr × Addr)} (hT : TabsAt tabs s₁.heap) (hr : ∀ a x, cw.raises a x = false)
    (x : GoodW cw cl mean args { s₁ with heap := ghostOf s₁.heap tabs } r s' ∧ GrownAll tabs s'.heap) : GoodWG cw cl mean args s₁ r s' := by
  let M : Model := ⟨fun _ => leafOf r, default, w⟩
  have h : codeAny M ⟨none, 10, none, none, 10⟩ (.builtin "x" {}) (fun r s' => GoodW cw cl mean args { s₁ with heap := ghostOf s₁.heap tabs } r s' ∧ GrownAll tabs s'.heap) s' := by
    intro Γ p _ _
    rw [wpCode_iff_wp]
    cases r with
    | ok f => exact x
    | error e => exact x
  have h2 := kn_post hT hr h (Ctx.of (.builtin "x" {}) []) default rfl ⟨rfl, Nat.zero_le _, (fun l hl => nomatch hl), (fun g hg => nomatch hg), Nat.zero_le _⟩
  rw [wpCode_iff_wp] at h2
  cases r with
  | ok f => exact h2
  | error e => exact h2
theorem post2 {M : Model} {A : Around} {cd : Code} {s s₁ : Shared} {cw : ClaimW} {cl : PySem.Str → Option Addr} {mean : ExcName → Option Value} {args : List WData} {tabs : List (Addr × Addr)} (hT : TabsAt tabs s₁.heap) (hr : ∀ a x, cw.raises a x = false)
    (h : codeAny M A cd (fun r s' => GoodW cw cl mean args { s₁ with heap := ghostOf s₁.heap tabs } r s' ∧ GrownAll tabs s'.heap) s) : codeAny M A cd (GoodG cw cl mean args s₁) s :=
  codeAny_mono h fun _ _ x => ⟨post_imp M.w hT hr x, x.1.2.2.2⟩
theorem enter2 {M : Model} {A : Around} {s : Shared} {f : Value} {pos : List Value} {kw : List (PySem.Str × Value)} {c : ClaimW} {cl : PySem.Str → Option Addr} {mean : ExcName → Option Value} {args : List WData} {s₁ : Shared}
    (h : codeAny M A (.call f ⟨pos, kw⟩) (GoodG c cl mean args s₁) s) : wpAny M A (PySem.call f pos kw) (fun v s' => GoodG c cl mean args s₁ (.ok (.ret v)) s') (fun e s' => GoodG c cl mean args s₁ (.error e) s') s :=
  wpAny_call (codeAny_mono h fun res s' g => by rcases g.1.1 with ⟨v, _, _, rfl, _⟩ | ⟨e, _, _, rfl, _⟩ <;> exact g)
theorem GoodG.ends {c : ClaimW} {s₀ s₁ s' : Shared} {args : List WData} {vs : List Value} {as : List Addr} {r : Result} (hsame : c.same = none) (hwi : c.within = []) (hi : ∀ a b, c.ident a b = true)
    (hrd : ReadsAllW c.records (classAt s₀.heap) s₁.heap vs args as) (hold : ∀ a ∈ as, ∃ o, s₁.heap.get? a = some o) (hos₁ : s₁.os = s₀.os)
    (g : GoodG c (classAt s₀.heap) (ExcName.means s₀.heap) args { s₁ with gens := #[] } r s') : c.Ends s₀ args vs s₁ r s' ∧ s'.os = s₀.os ∧ s'.gens = #[] := by
  obtain ⟨⟨hcase, hK, hos, _⟩, hg'⟩ := g
  have hK' : OldK s₁.heap s'.heap := hK
  refine ⟨?_, hos.trans hos₁, hg'⟩
  rcases hcase with ⟨v, d, bs, rfl, hnr, hrv, hpost, hun⟩ | ⟨e, ob, cls, rfl, he, hcls, hpr, hnew⟩
  · exact .inl ⟨v, rfl, hnr, ⟨d, args, bs, as, hrv, hrd.keepsK fun b o e hc => hK'.get_of_cls e hc, hpost, fun hu => ⟨(hun hu).1, (hun hu).2, fun a ha hb' => by
      obtain ⟨o, ho⟩ := hold a hb'
      have := (hun hu).2 a ha
      rw [show s₁.heap.get? a = none from this] at ho; cases ho⟩, fun _ _ => hi _ _⟩, (fun i hi' => by rw [hsame] at hi'; cases hi'), (fun b o hb' _ _ => hK'.old b o hb'), fun i hi' => by rw [hwi] at hi'; cases hi'⟩
  · exact .inr ⟨e, ob, cls, rfl, he, hcls, hpr, hnew, fun b o hb' => hK'.old b o hb'⟩
end Mine
end
section
open PySem PySem.W PyProof.Rows PySem.Calls
namespace Mine
abbrev RR : OpenRow := PySem.Challenge.rw_nb0113_01.row
theorem row_ok : (opensWell RR.prog && (frees RR.toRowW && RR.within.isEmpty)) = true := by decide +kernel
theorem row_bare : RR.prog.bare := ⟨rfl, rfl, rfl, rfl, rfl, by decide +kernel⟩
/-- the law's call, from where the top has left things -/
abbrev WalkG (d : DefRec) (kwd : List (PySem.Str × PySem.Expr)) : Prop :=
  ∀ (w : World) (s₀ s₁ : Shared) (mg mb : PySem.Str → Option Value), Ground VV LL RR.records (XL VV []) w s₀ mg mb s₁.heap → TopFacts w s₁.heap → ∀ (a : Addr) (o : Obj) (pm cd doc dV kV : Value), s₁.heap.get? a = some o →
    o.data = .func { docDef d.name d.params d.body d.scope pm cd doc with defaults := dV, kwdefaults := kV } → s₁.heap.CodeRec cd d.name → Dflts mg s₁.heap d.params kwd dV kV → mg d.name = some (.ref a) → s₁.gens = #[] →
    ∀ (args : List WData) (vals : List Value) (as : List Addr), RR.toRowW.claim.pre args = true → WData.layableAll args = true → ReadsAllW RR.records (classAt s₀.heap) s₁.heap vals args as → WellAll w.params s₁.heap vals args → (∀ a ∈ as, (a == sysModules) = false) →
      wpAny (model RR.prog w) callerA (PySem.call (.ref a) vals) (fun v s' => GoodG RR.toRowW.claim (classAt s₀.heap) (ExcName.means s₀.heap) args s₁ (.ok (.ret v)) s')
        (fun e s' => GoodG RR.toRowW.claim (classAt s₀.heap) (ExcName.means s₀.heap) args s₁ (.error e) s') s₁
/-- the law holds if its call walks from where the top has left things -/
theorem holds_by {d : DefRec} {kwd : List (PySem.Str × PySem.Expr)} (hdef : defOf VV RR.name = some (d, kwd)) (hp : RR.prog.theDef RR.name = some (d.params, d.body, d.scope)) (hk : kwWritten? d.params.kwonlyargs d.params.kw_defaults = some kwd)
    (said : RR.wellSaid = true) (hw : RR.toRowW.promised) (call : WalkG d kwd) : RR.Holds := by
  obtain ⟨o1, k5⟩ := Bool.and_eq_true_iff.mp row_ok
  obtain ⟨k5, k6⟩ := Bool.and_eq_true_iff.mp k5
  obtain ⟨hsame, hu, ha, hap, hm⟩ := frees_parts k5
  refine ⟨said, hw, ⟨row_bare, o1, rfl⟩, hw.witness, fun w => ⟨(behind w).1, fun s' hs' => ?_⟩⟩
  obtain ⟨s₀, hf, hg0, s, hT, hz, hgens, hg, G0, y⟩ := (behind w).2 s' hs'
  have hT' := hT
  refine ⟨s₀, hf, hg0, s, hT, fun n hn => ?_, (fun x hx => nomatch hx), (fun x hx => nomatch hx), ?_⟩
  · obtain rfl : n = RR.name := List.mem_singleton.mp (show n ∈ [RR.name] from hn)
    exact pinned_of_view hg G0 hdef hp hk
  have G : Ground VV LL RR.records (XL VV []) w s _ _ s.heap := G0
  refine ClaimW.callFrom_of_specN (c := RR.toRowW.claim) hz hgens fun args hpre hlay ord hord => ?_
  obtain ⟨⟨vs, s₁⟩, hlaid⟩ := Option.isSome_iff_exists.mp (layAllW_isSome (P := w.params) (ord := ord) G.has args RR.args s (pre_splitW hpre).1)
  have keeps := layAllW_keeps _ _ _ hlaid
  have hal := layAllW_rest _ _ _ hlaid
  obtain ⟨as, hrd, hin, hold⟩ := reads_layAllW hord _ _ _ hlaid hlay s₁.heap (fun _ _ e => e)
  have G₁ := G.keeps XL.keeps keeps
  obtain ⟨a, o, pm, cd, doc, dV, kV, h1, h2, h3, h4, h5⟩ := G₁.fn hdef
  have h := call w s { s₁ with gens := #[] } _ _ G₁ (y.keeps keeps) a o pm cd doc dV kV h2 h3 h4 h5 (defOf_name hdef ▸ h1) rfl args vs as hpre hlay hrd (well_layAllW hord args s _ hlaid _ fun _ _ e => e)
    (fun a ha => beq_eq_false_iff_ne.mpr fun e => by have := (hin.2.2 a ha).1; subst e; exact absurd G.low (Nat.not_lt.mpr this))
  have hi := ident_freeW hu ha hap
  have hwi : RR.toRowW.claim.within = [] := List.isEmpty_iff.mp k6
  refine ⟨vs, s₁, hlaid, ?_⟩
  refine wpAny_bind (wpAny_nsGet G₁.T.g ?_)
  rw [h1]
  refine wpAny_bind (wpAny_mono h (fun v s' g => wpAny_pure ⟨_, rfl, ?_⟩) (fun e s' g => ?_))
  · have z := g.ends (c := RR.toRowW.claim) hsame hwi hi hrd hold hal.2.2.1
    exact ⟨z.1, z.2.1, z.2.2, fun q => ⟨namesKept_of hT' hg _ keeps fun b o e => g.1.2.1.old b o e, noTable rfl q⟩⟩
  · have z := g.ends (c := RR.toRowW.claim) hsame hwi hi hrd hold hal.2.2.1
    exact ⟨z.1, z.2.1, z.2.2, fun q => ⟨namesKept_of hT' hg _ keeps fun b o e => g.1.2.1.old b o e, noTable rfl q⟩⟩
end Mine
end
section
open PySem PySem.W PyProof.Rows PySem.Calls
set_option maxHeartbeats 4000000
namespace Mine
local macro_rules | `(tactic| walk_at "call ref") => `(tactic| ((with_reducible show wpAny _ _ (call (Value.ref 79) _ _) _ _ _); refine Halt.mk ?_))
theorem until_use {w : World} {A A₀ : Around} {base h₀ : Heap} {outer : List Env} {env : Env} {L : Addr} {m : PySem.Str → Option Value} {news : List (Addr × Obj)} {s : Shared} {Q E : Value → Shared → Prop} {mg mb : PySem.Str → Option Value} {mean : ExcName → Option Value}
  {src : PySem.Str} {pos i c : Nat} {b : Bool} {t1 t2 t3 : Tok} {pv : Int} {ex : PySem.Str} {kws : List (PySem.Str × Value)}
  (B : Below A₀ base outer h₀) (F : Fr h₀ L s.heap m) (X : (KK w.params).In h₀) (N : News h₀ L s.heap news) (T : Top topProg LG mean mg mb h₀)
  (hA : A.frames = some (env :: outer)) (hf : env.frame = some L) (hke : env.scope.kind = .function) (hd : A.depth + 1 < recursionLimit) (hu : A.units + 8 < cLine) (hh : A.handled = none)
  (hS : FrozAt (strKind PR w) h₀ 43 illS 32) (hlen : src.length ≤ 100000)
  (hpi : pos ≤ i) (hi : (cl src)[i]? = some c) (hno : ∀ k, pos ≤ k → k < i → (cl src)[k]? ≠ some c) (hok : ∀ k d, pos ≤ k → k < i → (cl src)[k]? = some d → ill d = false)
  (hpv : pv = (pos : Int)) (hex : ex = one c) (hkw : kws = [(Str.ofString "error_on", .ref 43), (Str.ofString "error_on_eof", .bool b)])
  (hret : ∀ t h' tk', Fr h₀ L h' m → News h₀ L h' news → Q (.int i t) {s with heap := h', toks := tk'}) :
  wpAny (model PR w) A (call (.ref 79) [.str src t1, .int pv t2, .str ex t3] kws) Q E s := by
  subst hpv hex hkw
  exact skip_until_ok B F X N T hA hf hke hd hu hh hS src pos i c b hlen t1 t2 t3 hpi hi hno hok hret
theorem skip_comment_ok {w : World} {A A₀ : Around} {base h₀ : Heap} {outer : List Env} {env : Env} {L : Addr} {m : PySem.Str → Option Value} {news : List (Addr × Obj)} {s : Shared} {Q E : Value → Shared → Prop} {mg mb : PySem.Str → Option Value} {mean : ExcName → Option Value}
  (B : Below A₀ base outer h₀) (F : Fr h₀ L s.heap m) (X : (KK w.params).In h₀) (N : News h₀ L s.heap news) (T : Top topProg LG mean mg mb h₀)
  (hA : A.frames = some (env :: outer)) (hf : env.frame = some L) (hke : env.scope.kind = .function) (hd : A.depth + 2 < recursionLimit) (hu : A.units + 16 < cLine) (hh : A.handled = none)
  (hS : FrozAt (strKind PR w) h₀ 43 illS 32) (src : PySem.Str) (pos r d : Nat) (hlen : src.length ≤ 100000) (t1 t2 : Tok)
  (hd' : (cl src)[pos]? = some d)
  (hr : (d ≠ 35 ∧ r = pos) ∨ (d = 35 ∧ pos < r ∧ (cl src)[r]? = some 10 ∧ (∀ k, pos < k → k < r → (cl src)[k]? ≠ some 10) ∧ ∀ k e, pos < k → k < r → (cl src)[k]? = some e → ill e = false))
  (hret : ∀ t h' tk', Fr h₀ L h' m → News h₀ L h' news → Q (.int r t) {s with heap := h', toks := tk'}) :
  wpAny (model PR w) A (call (.ref 86) [.str src t1, .int pos t2]) Q E s := by
  have kf0 : PySem.Challenge.rw_nb0113_01 = PySem.Challenge.rw_nb0113_01 ∧ KK = KK := by (k_fill; exact ⟨rfl, rfl⟩)
  clear kf0
  have hpl : pos < src.length := by
    have := (List.getElem?_eq_some_iff.mp hd').1
    rwa [cl_len] at this
  have hit : Txt.item src (pos : Int) = one d := item_at (by simpa [cl] using hd')
  refine wpAny_call ?_
  k_dflt (refine' code_def ?k1 ?k2 ?k3 ?k4 ?k5 ?kA ?kF ?kK ?k6 ?k7 ?k8 ?k9 ?kB ?_ ?c2 ?c3 ?c4 ?c5; (case kA => exact hA); (case kF => exact hf); (case kK => assumption); (case k1 => k_asm); (case k2 => k_asm); (case k3 => k_asm); (case k4 => k_asm); (case k5 => k_asm); (case k6 => k_is); (case k7 => k_is); (case k8 => omega); (case k9 => exact BindsTo.of_eq rfl); (case c5 => decide); (case kB => exact locs rfl); (case c2 => exact rfl); (case c3 => exact rfl); (case c4 => exact rfl); k_whole)
  intro g' L' h' FG' F' N' B' X' T'
  have hS' := froz_keeps hS FG'.keep
  replace F' : Fr g' L' h' (fun y => List.lookup y [(Str.ofString "pos", .int pos t2), (Str.ofString "src", .str src t1)]) := F'
  (with_unfolding_all show wpAny _ _ (execs [_, _, _] _) _ _ _)
  (try dsimp only); (try k_lift B'); (try k_fold)
  k_steps
  · refine Halt.out ?_
    have h35 : d = 35 := by
      rename (Txt.item src (pos : Int) == Str.ofString "#") = true => hx
      rw [hit, show Str.ofString "#" = one 35 from by decide +kernel] at hx
      simpa [one] using hx
    rcases hr with ⟨h, _⟩ | ⟨_, hr1, hr2, hr3, hr4⟩
    · exact absurd h35 h
    rename Fr g' L' _ _ => F₂
    rename News g' L' _ _ => N₂
    refine until_use (pos := pos + 1) (i := r) (c := 10) (b := false) B' F₂ X' N₂ T' (Around.frames_deeper hA) rfl rfl (by show A.depth + 1 + 1 < _; omega) (by show A.units + 3 + 8 < _; omega) hh hS' hlen (by omega) hr2 (fun k h1 h2 => hr3 k (by omega) h2) (fun k e h1 h2 => hr4 k e (by omega) h2) rfl (by decide +kernel) rfl ?_
    intro t h₃ tk₃ F₃ N₃
    clear F₂ N₂
    k_steps
    exact hret _ _ _ (by k_asm) (by k_asm)
  · have h35 : d ≠ 35 := by
      rename (Txt.item src (pos : Int) == Str.ofString "#") = false => hx
      rw [hit, show Str.ofString "#" = one 35 from by decide +kernel] at hx
      rintro rfl
      simp [one] at hx
    rcases hr with ⟨_, rfl⟩ | ⟨h, _⟩
    · exact hret _ _ _ (by k_asm) (by k_asm)
    · exact absurd h h35
end Mine
end
section
open PySem PySem.W PyProof.Rows PySem.Calls
set_option maxHeartbeats 4000000
namespace Mine
/-- what skip_comment makes of a place -/
def Comm (l : List Nat) (p r : Nat) : Prop :=
  ∃ d, l[p]? = some d ∧ ((d ≠ 35 ∧ r = p) ∨ (d = 35 ∧ p < r ∧ l[r]? = some 10 ∧ (∀ k, p < k → k < r → l[k]? ≠ some 10) ∧ ∀ k e, p < k → k < r → l[k]? = some e → ill e = false))
/-- what skip_chars makes of a place -/
def Ws (l : List Nat) (p q : Nat) : Prop :=
  p ≤ q ∧ (∀ j, p ≤ j → j < q → ∃ c, l[j]? = some c ∧ wsS (one c) = true) ∧ ∃ c, l[q]? = some c ∧ wsS (one c) = false
/-- from p the skipping ends at r -/
inductive Scan (l : List Nat) : Nat → Nat → Prop
  | stop {p : Nat} (h1 : Ws l p p) (h2 : Comm l p p) : Scan l p p
  | step {p q q' r : Nat} (h1 : Ws l p q) (h2 : Comm l q q') (h3 : q' ≠ p) (h : Scan l q' r) : Scan l p r
theorem Comm.le {l : List Nat} {p r : Nat} (h : Comm l p r) : p ≤ r := by
  obtain ⟨d, _, ⟨_, e⟩ | ⟨_, h, _⟩⟩ := h <;> omega
theorem Comm.lt {l : List Nat} {p r : Nat} (h : Comm l p r) : r < l.length := by
  obtain ⟨d, h1, ⟨_, e⟩ | ⟨_, _, h, _⟩⟩ := h
  · subst e; exact (List.getElem?_eq_some_iff.mp h1).1
  · exact (List.getElem?_eq_some_iff.mp h).1
theorem Scan.lt {l : List Nat} {p r : Nat} (h : Scan l p r) : p < l.length := by
  cases h with
  | stop h1 h2 => exact h2.lt
  | step h1 h2 h3 h => have := h2.lt; have := h2.le; have := h1.1; omega
local macro_rules | `(tactic| walk_at "call ref") => `(tactic| ((with_reducible show wpAny _ _ (call (Value.ref 72) _ _) _ _ _); refine Halt.mk ?_))
local macro_rules | `(tactic| walk_at "call ref") => `(tactic| ((with_reducible show wpAny _ _ (call (Value.ref 86) _ _) _ _ _); refine Halt.mk ?_))
theorem scan_ok {w : World} {A A₀ : Around} {base h₀ : Heap} {outer : List Env} {env : Env} {L : Addr} {m : PySem.Str → Option Value} {news : List (Addr × Obj)} {s : Shared} {Q E : Value → Shared → Prop} {mg mb : PySem.Str → Option Value} {mean : ExcName → Option Value}
  (B : Below A₀ base outer h₀) (F : Fr h₀ L s.heap m) (X : (KK w.params).In h₀) (N : News h₀ L s.heap news) (T : Top topProg LG mean mg mb h₀)
  (hA : A.frames = some (env :: outer)) (hf : env.frame = some L) (hke : env.scope.kind = .function) (hd : A.depth + 3 < recursionLimit) (hu : A.units + 24 < cLine) (hh : A.handled = none)
  (hS : FrozAt (strKind PR w) h₀ 43 illS 32) (hW : FrozAt (strKind PR w) h₀ 52 wsS 3) (src : PySem.Str) (pos r : Nat) (hlen : src.length ≤ 100000) (t1 t2 : Tok)
  (hr : Scan (cl src) pos r)
  (hret : ∀ t h' tk', Fr h₀ L h' m → News h₀ L h' news → Q (.int r t) {s with heap := h', toks := tk'}) :
  wpAny (model PR w) A (call (.ref 93) [.str src t1, .int pos t2]) Q E s := by
  have kf0 : PySem.Challenge.rw_nb0113_01 = PySem.Challenge.rw_nb0113_01 ∧ KK = KK := by (k_fill; exact ⟨rfl, rfl⟩)
  clear kf0
  refine wpAny_call ?_
  k_dflt (refine' code_def ?k1 ?k2 ?k3 ?k4 ?k5 ?kA ?kF ?kK ?k6 ?k7 ?k8 ?k9 ?kB ?_ ?c2 ?c3 ?c4 ?c5; (case kA => exact hA); (case kF => exact hf); (case kK => assumption); (case k1 => k_asm); (case k2 => k_asm); (case k3 => k_asm); (case k4 => k_asm); (case k5 => k_asm); (case k6 => k_is); (case k7 => k_is); (case k8 => omega); (case k9 => exact BindsTo.of_eq rfl); (case c5 => decide); (case kB => exact locs rfl); (case c2 => exact rfl); (case c3 => exact rfl); (case c4 => exact rfl); k_whole)
  intro g' L' h' FG' F' N' B' X' T'
  have hS' := froz_keeps hS FG'.keep
  have hW' := froz_keeps hW FG'.keep
  replace F' : Fr g' L' h' (fun y => List.lookup y [(Str.ofString "pos", .int pos t2), (Str.ofString "src", .str src t1)]) := F'
  (with_unfolding_all show wpAny _ _ (execs [_] _) _ _ _)
  (try dsimp only); (try k_lift B'); (try k_fold)
  walk1
  walk1
  refine While_inv2 (fun n m₁ news₁ => news₁ = news ∧ m₁ (Str.ofString "src") = some (.str src t1) ∧ ∃ (p : Nat) (t : Tok), n = (cl src).length - p ∧ m₁ (Str.ofString "pos") = some (.int p t) ∧ Scan (cl src) p r) (n₀ := (cl src).length - pos) F' N' ?h0 ?turn ?hE
  case h0 => exact ⟨rfl, rfl, pos, t2, rfl, rfl, hr⟩
  case turn =>
    rintro n m₁ news₁ h₁ tk₁ F₁ N₁ ⟨rfl, hm1, p, t, rfl, hm2, hsc⟩
    clear F' N' 
    rw [← map_self hm1, ← map_self hm2] at F₁
    have hpl := hsc.lt
    rw [cl_len] at hpl
    obtain ⟨q, q', hq1, hq2, hq3⟩ : ∃ q q', Ws (cl src) p q ∧ Comm (cl src) q q' ∧ ((q' = p ∧ p = r) ∨ (q' ≠ p ∧ Scan (cl src) q' r)) := by
      cases hsc with
      | stop h1 h2 => exact ⟨_, _, h1, h2, .inl ⟨rfl, rfl⟩⟩
      | step h1 h2 h3 h => exact ⟨_, _, h1, h2, .inr ⟨h3, h⟩⟩
    obtain ⟨hw1, hw2, hw3⟩ := hq1
    k_steps
    refine Halt.out ?_
    rename Fr g' L' _ _ => F₂
    rename News g' L' _ _ => N₂
    refine skip_chars_ok B' F₂ X' N₂ T' (Around.frames_deeper hA) rfl rfl (by show A.depth + 1 + 1 < _; omega) (by show A.units + 3 + 8 < _; omega) hW' src p q hlen t1 _ (fun j h1 h2 => by simpa [cl] using hw2 j h1 h2) hw1 (by simpa [cl] using hw3) ?_
    intro t₂ h₂ tk₂ F₃ N₃
    clear F₂ N₂
    k_steps
    refine Halt.out ?_
    rename Fr g' L' _ _ => F₂
    rename News g' L' _ _ => N₂
    obtain ⟨d, hd1, hd2⟩ := id hq2
    refine skip_comment_ok B' F₂ X' N₂ T' (Around.frames_deeper hA) rfl rfl (by show A.depth + 1 + 2 < _; omega) (by show A.units + 3 + 16 < _; omega) hh hS' src q q' d hlen t1 _ hd1 hd2 ?_
    intro t₄ h₄ tk₄ F₄ N₄
    clear F₂ N₂
    have hq4 := hq2.lt
    have hq5 := hq2.le
    rw [cl_len] at hq4
    k_steps
    · rename ((q' : Int) = (p : Int)) => hqp
      have hqp' : q' = p := by omega
      rcases hq3 with ⟨_, e2⟩ | ⟨e1, _⟩
      · dsimp only [WhileStep2]
        k_steps
        subst e2 hqp'
        exact hret _ _ _ (by k_asm) (by k_asm)
      · exact absurd hqp' e1
    · rename ((q' : Int) ≠ (p : Int)) => hqp
      rcases hq3 with ⟨e1, _⟩ | ⟨e1, e2⟩
      · exact absurd (by rw [e1]) hqp
      · refine step2_next (by k_asm) (by k_asm) ?_ ⟨rfl, ?_, q', t₄, rfl, rfl, e2⟩
        · rw [cl_len]; omega
        · rfl
  case hE => passes_own
end Mine
end
section
open PySem PySem.W PyProof.Rows PySem.Calls
set_option maxHeartbeats 4000000
namespace Mine
local macro_rules | `(tactic| walk_at "call ref") => `(tactic| ((with_reducible show wpAny _ _ (call (Value.ref 79) _ _) _ _ _); refine Halt.mk ?_))
theorem lit_ok {w : World} {A A₀ : Around} {base h₀ : Heap} {outer : List Env} {env : Env} {L : Addr} {m : PySem.Str → Option Value} {news : List (Addr × Obj)} {s : Shared} {Q E : Value → Shared → Prop} {mg mb : PySem.Str → Option Value} {mean : ExcName → Option Value}
  (B : Below A₀ base outer h₀) (F : Fr h₀ L s.heap m) (X : (KK w.params).In h₀) (N : News h₀ L s.heap news) (T : Top topProg LG mean mg mb h₀)
  (hA : A.frames = some (env :: outer)) (hf : env.frame = some L) (hke : env.scope.kind = .function) (hd : A.depth + 2 < recursionLimit) (hu : A.units + 16 < cLine) (hh : A.handled = none)
  (hS : FrozAt (strKind PR w) h₀ 43 illS 32) (src : PySem.Str) (pos i : Nat) (hlen : src.length ≤ 100000) (t1 t2 : Tok)
  (hpi : pos < i) (hi : (cl src)[i]? = some 39) (hno : ∀ k, pos < k → k < i → (cl src)[k]? ≠ some 39) (hok : ∀ k d, pos < k → k < i → (cl src)[k]? = some d → ill d = false)
  (hret : ∀ D t t' h' tk', Fr h₀ L h' m → News h₀ L h' ((D, { cls := Value.type "tuple", data := Data.seq #[.int ((i + 1 : Nat) : Int) t, .str ⟨(((cl src).drop (pos + 1)).take (i - (pos + 1))).toArray⟩ t'] }) :: news) → (∀ p ∈ news, p.1 < D) → Q (.ref D) {s with heap := h', toks := tk'}) :
  wpAny (model PR w) A (call (.ref 100) [.str src t1, .int pos t2]) Q E s := by
  have kf0 : PySem.Challenge.rw_nb0113_01 = PySem.Challenge.rw_nb0113_01 ∧ KK = KK := by (k_fill; exact ⟨rfl, rfl⟩)
  clear kf0
  have hil : i < src.length := by
    have := (List.getElem?_eq_some_iff.mp hi).1
    rwa [cl_len] at this
  refine wpAny_call ?_
  k_dflt (refine' code_def ?k1 ?k2 ?k3 ?k4 ?k5 ?kA ?kF ?kK ?k6 ?k7 ?k8 ?k9 ?kB ?_ ?c2 ?c3 ?c4 ?c5; (case kA => exact hA); (case kF => exact hf); (case kK => assumption); (case k1 => k_asm); (case k2 => k_asm); (case k3 => k_asm); (case k4 => k_asm); (case k5 => k_asm); (case k6 => k_is); (case k7 => k_is); (case k8 => omega); (case k9 => exact BindsTo.of_eq rfl); (case c5 => decide); (case kB => exact locs rfl); (case c2 => exact rfl); (case c3 => exact rfl); (case c4 => exact rfl); k_whole)
  intro g' L' h' FG' F' N' B' X' T'
  have hS' := froz_keeps hS FG'.keep
  replace F' : Fr g' L' h' (fun y => List.lookup y [(Str.ofString "pos", .int pos t2), (Str.ofString "src", .str src t1)]) := F'
  (with_unfolding_all show wpAny _ _ (execs [_, _, _, _] _) _ _ _)
  (try dsimp only); (try k_lift B'); (try k_fold)
  k_steps
  refine Halt.out ?_
  rename Fr g' L' _ _ => F₂
  rename News g' L' _ _ => N₂
  refine until_use (pos := pos + 1) (i := i) (c := 39) (b := true) B' F₂ X' N₂ T' (Around.frames_deeper hA) rfl rfl (by show A.depth + 1 + 1 < _; omega) (by show A.units + 3 + 8 < _; omega) hh hS' hlen (by omega) hi (fun k h1 h2 => hno k (by omega) h2) (fun k e h1 h2 => hok k e (by omega) h2) rfl (by decide +kernel) rfl ?_
  intro t₃ h₃ tk₃ F₃ N₃
  clear F₂ N₂
  k_steps
  have he : Txt.slice src (some ((pos : Int) + 1)) (some (i : Int)) = ⟨(((cl src).drop (pos + 1)).take (i - (pos + 1))).toArray⟩ := slice_nat src (a := pos + 1) (b := i) (by omega) (Nat.le_of_lt hil)
  rw [← he] at hret
  exact hret _ _ _ _ _ (by k_asm) (by k_asm) (by assumption)
end Mine
end
section
open PySem PySem.W PyProof.Rows PySem.Calls
set_option maxHeartbeats 4000000
namespace Mine
local macro_rules | `(tactic| walk_at "call ref") => `(tactic| ((with_reducible show wpAny _ _ (call (Value.ref 62) _ _) _ _ _); refine Halt.mk ?_))
local macro_rules | `(tactic| walk_at "LeaveK") => `(tactic| (refine Halt.mk ?_))
local macro_rules | `(tactic| walk_at "exec FunctionDef") => `(tactic| (refine Halt.mk ?_))
theorem call_toml {w : World} {A : Around} {E : Value → Shared → Prop} {s : Shared} {Q : Value → Shared → Prop} {rest : List Value} (X : (KK w.params).In s.heap)
    (hq : ∀ h' e, Heap.MadeExcOf s.heap h' e (.ref 62) rest → Q (.ref e) { s with heap := h' }) (hr : rest.length ≤ sizeLine := by size_fits) :
    wpAny (model PR w) A (call (.ref 62) rest) Q E s := by
  obtain ⟨h, g, d, t, os⟩ := s
  have hok : nsOkIn (KK w.params) 61 = true := by kernel_rfl
  have hni : nsIn (KK w.params) 61 (Str.ofString "__init__") = some none := by kernel_rfl
  exact wpAny_call_exc_sub (C := 62) (N := 61) F.excBase_ValueError (X 62 _ (by rfl)) (.of_isNs (isNs_of_in X hok)) (nsMap_none_of_in X hok hni) hq hr
def lineCol (a b : Int) : PySem.Str := Str.empty ++ Str.ofString "line " ++ Str.ofString (toString a) ++ Str.ofString ", column " ++ Str.ofString (toString b)
/-- the words for a place -/
def coordT (l : List Nat) (pos : Nat) : PySem.Str :=
  if l.length ≤ pos then Str.ofString "end of document"
  else match (places l 10 0 pos).getLast? with
    | none => lineCol 1 ((pos : Int) + 1)
    | some i => lineCol (((places l 10 0 pos).length : Int) + 1) ((pos : Int) - (i : Int))
theorem lineCol_len (a b : Int) (ha : a.natAbs < 10 ^ 9) (hb : b.natAbs < 10 ^ 9) : (lineCol a b).length ≤ 50 := by
  have h1 := int_text_length_le10 (by decide) ha
  have h2 := int_text_length_le10 (by decide) hb
  unfold lineCol
  simp only [Str.length_append, PySem.ofString_length]
  have e0 : Str.empty.length = 0 := rfl
  have e1 : "line ".length = 5 := by decide +kernel
  have e2 : ", column ".length = 9 := by decide +kernel
  omega
theorem places_len (l : List Nat) (c pos : Nat) : (places l c 0 pos).length ≤ pos := by
  unfold places
  refine Nat.le_trans (List.length_filter_le _ _) ?_
  simp
theorem places_last {l : List Nat} {c pos i : Nat} (h : (places l c 0 pos).getLast? = some i) : i < pos := by
  have := List.mem_of_getLast? h
  unfold places at this
  have := List.mem_range'_1.mp (List.mem_filter.mp this).1
  omega
theorem coordT_len (l : List Nat) (pos : Nat) (h : l.length ≤ 100000) : (coordT l pos).length ≤ 100 := by
  unfold coordT
  split
  · rw [PySem.ofString_length]; decide +kernel
  · rename_i hlt
    have hp := places_len l 10 pos
    split
    · exact Nat.le_trans (lineCol_len _ _ (by omega) (by omega)) (by omega)
    · rename_i i hi
      have := places_last hi
      exact Nat.le_trans (lineCol_len _ _ (by omega) (by omega)) (by omega)
/-- the words of the fault -/
def errT (l : List Nat) (pos : Nat) (msg : PySem.Str) : PySem.Str := Str.empty ++ msg ++ Str.ofString " (at " ++ coordT l pos ++ Str.ofString ")"
abbrev tbSome (c' : Addr) (oc : Obj) : List (Addr × Obj) := [(c', oc), (102, tabObj #[rawInt 63, rawInt 4, .ref c'])]
/-- the table part of the ledger: nothing made yet, or the nested def's code -/
inductive TB : List (Addr × Obj) → Prop
  | fresh : TB [(102, tabObj #[])]
  | made {c' : Addr} {oc : Obj} {vs : Array Value} {t : Tok} (h1 : oc.data = .fields vs) (h2 : vs[1]? = some (.str (Str.ofString "suffixed_err.<locals>.coord_repr") t)) (h3 : 102 < c') : TB (tbSome c' oc)
theorem nest_either {M : Model} {A : Around} {E : Value → Shared → Prop} {s : Shared} {h₀ : Heap} {L a : Addr} {m mg mb : PySem.Str → Option Value} {cn : PySem.Str} {cs : Scope} {cll : List (PySem.Str × Addr)} {tb rest : List (Addr × Obj)}
    {p : Program} {loose : List PySem.Str} {mean : ExcName → Option Value} {name qual : PySem.Str} {params : Arguments} {body : List Stmt} {scope : Scope} {pos : Pos} {firstLine : Nat} {clos : List (PySem.Str × Addr)} {Q : Value → Shared → Prop}
    (F : Fr h₀ L s.heap m) (N : News h₀ L s.heap (tb ++ rest)) (T : Top p loose mean mg mb h₀) (C : CodeHd h₀ 106 102) (B : TB tb) (hne : ∀ p ∈ rest, p.1 ≠ 102) (hq : qual = Str.ofString "suffixed_err.<locals>.coord_repr") (hl : pos.line = 63) (hc : pos.col = 4)
    (hcl : closureFor scope (envX cn cs L a (.ref 106) cll) = pure clos)
    (h : ∀ f c' oc vs t ctv doc h' tk, Fr h₀ L h' m → News h₀ L h' ((f, fnMade name qual params body scope clos doc ((mg "__name__").getD .none) c' ctv) :: (c', oc) :: (102, tabObj #[rawInt 63, rawInt 4, .ref c']) :: rest) →
      oc.data = .fields vs → vs[1]? = some (.str qual t) → 102 < c' → Q (.ref f) { s with heap := h', toks := tk }) :
    wpAny M A (makeFunction name qual params (.stmts body) scope (envX cn cs L a (.ref 106) cll) [] [] [] pos firstLine) Q E s := by
  cases B with
  | fresh =>
    refine nest_K F N T C rfl (UpdF.head hne) trivial rfl hcl ?_
    intro f' c' oc' vs' t' ct' dc' h₂ tk₂ F₂ N₂ d1 d2 l1 l2
    rw [hl, hc] at N₂
    exact h f' c' oc' vs' t' ct' dc' h₂ tk₂ F₂ N₂ d1 d2 (l1 _ (.head _))
  | made h1 h2 h3 =>
    rename_i c' oc vs t
    refine nestHit_K (c' := c') (ps := #[rawInt 63, rawInt 4, .ref c']) F N T C rfl (.tail _ (.head _)) (by simp [TriplesOk, rawInt]) (by simp [codeAmong, rawInt, hl, hc]) hcl ?_
    intro f' ct' dc' h₂ tk₂ F₂ N₂ l1
    exact h f' c' oc vs t ct' dc' h₂ tk₂ F₂ N₂ h1 (by rw [h2, hq]) h3
theorem err_ok {w : World} {A A₀ : Around} {base h₀ : Heap} {outer : List Env} {env : Env} {L : Addr} {m : PySem.Str → Option Value} {tb rest : List (Addr × Obj)} {s : Shared} {Q E : Value → Shared → Prop} {mg mb : PySem.Str → Option Value} {mean : ExcName → Option Value}
  (B : Below A₀ base outer h₀) (F : Fr h₀ L s.heap m) (X : (KK w.params).In h₀) (N : News h₀ L s.heap (tb ++ rest)) (TBt : TB tb) (T : Top topProg LG mean mg mb h₀) (C : CodeHd h₀ 106 102) (hne : ∀ p ∈ rest, p.1 ≠ 102)
  (hA : A.frames = some (env :: outer)) (hf : env.frame = some L) (hke : env.scope.kind = .function) (hd : A.depth + 3 < recursionLimit) (hu : A.units + 16 < cLine)
  (src msg : PySem.Str) (pos : Nat) (hlen : src.length ≤ 100000) (hm : msg.length ≤ 1000) (t1 t2 t3 : Tok)
  (hret : ∀ e tb' h₁ h' tk' u, Fr h₀ L h₁ m → News h₀ L h₁ (tb' ++ rest) → TB tb' →
    Heap.MadeExcOf h₁ h' e (.ref 62) [.str (errT (cl src) pos msg) u] → Q (.ref e) {s with heap := h', toks := tk'}) :
  wpAny (model PR w) A (call (.ref 107) [.str src t1, .int pos t2, .str msg t3]) Q E s := by
  have kf0 : PySem.Challenge.rw_nb0113_01 = PySem.Challenge.rw_nb0113_01 ∧ KK = KK := by (k_fill; exact ⟨rfl, rfl⟩)
  clear kf0
  refine wpAny_call ?_
  k_dflt (refine' code_def ?k1 ?k2 ?k3 ?k4 ?k5 ?kA ?kF ?kK ?k6 ?k7 ?k8 ?k9 ?kB ?_ ?c2 ?c3 ?c4 ?c5; (case kA => exact hA); (case kF => exact hf); (case kK => assumption); (case k1 => k_asm); (case k2 => k_asm); (case k3 => k_asm); (case k4 => k_asm); (case k5 => k_asm); (case k6 => k_is); (case k7 => k_is); (case k8 => omega); (case k9 => exact BindsTo.of_eq rfl); (case c5 => decide); (case kB => exact locs rfl); (case c2 => exact rfl); (case c3 => exact rfl); (case c4 => exact rfl); k_whole)
  intro g' L' h' FG' F' N' B' X' T'
  have C' : CodeHd g' 106 102 := C.keeps FG'.keep
  replace F' : Fr g' L' h' (fun y => List.lookup y [(Str.ofString "msg", .str msg t3), (Str.ofString "pos", .int pos t2), (Str.ofString "src", .str src t1)]) := F'
  (with_unfolding_all show wpAny _ _ (execs [_, _] _) _ _ _)
  (try dsimp only); (try k_lift B'); (try k_fold)
  k_steps
  refine Halt.out ?_
  refine nestDef_K rfl rfl rfl ?_
  have hqn : qualnameIn (envOf (sName (stA 15)) (sScope (stA 15)) L' 107 (Value.ref 106)) (Str.ofString "coord_repr") (Str.ofString "coord_repr") = Str.ofString "suffixed_err.<locals>.coord_repr" := by
    show Str.ofString "suffixed_err" ++ Str.ofString ".<locals>." ++ Str.ofString "coord_repr" = _
    decide +kernel
  refine nest_either F' N' T' C' TBt hne hqn rfl rfl rfl ?_
  intro f' c' oc' vs' t' ct' dc' h₂ tk₂ F₂ N₂ d1 d2 l1
  clear F' N'
  clear C
  k_steps
  rename Fr g' L' _ _ => F₄
  rename News g' L' _ _ => N₄
  refine split_call (V := fun v => ∃ t, v = .str (coordT (cl src) pos) t) F₄ N₄ ?call ?rest
  all_goals clear F₄ N₄
  case rest =>
    rintro v h₅ tk₅ ⟨t, rfl⟩ F₅ N₅
    have hco := coordT_len (cl src) pos (by rw [cl_len]; exact hlen)
    generalize hco' : coordT (cl src) pos = co at hco
    k_steps
    refine Halt.out ?_
    refine call_toml (X'.keeps F₅.keep) ?_
    intro h₆ e₆ M₆
    have F₆ := Fr.keeps F₅ M₆.keeps
    have N₆ := News.grown N₅ M₆.keeps
    k_steps
    refine Halt.out ?_
    refine leaveK_ F₆ N₆ ?_
    intro kF kN
    have F₇ : Fr h₀ L h₅ m := Fr.keeps FG' F₅.keep
    have N₇ := news_up FG' N₅
    dsimp only
    subst hco'
    exact hret e₆ (tbSome c' oc') h₅ h₆ _ _ F₇ (fun p hp => N₇ p (.tail _ hp)) (TB.made d1 (by rw [d2, hqn]) l1) M₆
  case call =>
    intro F₄ N₄
    refine wpAny_call ?_
    k_dflt (refine' code_nest ?k1 ?k2 ?k3 ?k4 ?k5 ?kA ?kF ?kK ?k6 ?k7 ?k8 ?k9 ?kB ?_ ?c2 ?c3 ?c4 ?c5; (case kA => exact Around.frames_deeper hA); (case kF => exact rfl); (case kK => exact rfl); (case k1 => k_asm); (case k2 => k_asm); (case k3 => k_asm); (case k4 => k_asm); (case k5 => k_asm); (case k6 => k_mem); (case k7 => exact codeRec_news (by k_asm) (by k_mem) (by assumption) (by assumption)); (case k8 => show A.depth + 1 < _; omega); (case k9 => exact BindsTo.of_eq rfl); (case c5 => decide); (case kB => exact locs rfl); (case c2 => exact rfl); (case c3 => exact rfl); (case c4 => exact rfl); k_whole; intro g₃ L₃ h₃ FG₃ F₃ N₃ B₃ X₃ T₃; (try dsimp only); (try k_lift B₃); (try k_fold))
    by_cases hend : src.length ≤ pos
    · k_steps
      refine Halt.out ?_
      refine leaveK_ (by k_asm) (by k_asm) ?_
      intro kF kN
      dsimp only
      refine ⟨_, _, ⟨_, congrArg (Value.str · _) ?_⟩, rfl, kF, kN⟩
      unfold coordT
      rw [if_pos (by rw [cl_len]; exact hend)]
    · have e10 : Str.ofString "\n" = one 10 := by decide +kernel
      have hct : coordT (cl src) pos = match (places (cl src) 10 0 pos).getLast? with
          | none => lineCol 1 ((pos : Int) + 1)
          | some i => lineCol (((places (cl src) 10 0 pos).length : Int) + 1) ((pos : Int) - (i : Int)) := by
        unfold coordT
        rw [if_neg (by rw [cl_len]; exact hend)]
      have hpl := places_len (cl src) 10 pos
      k_steps
      rw [e10]
      refine call_count4 (c := 10) (b := pos) (by omega) ?_
      k_steps
      · refine Halt.out ?_
        have h0 : (places (cl src) 10 0 pos) = [] := List.eq_nil_of_length_eq_zero (by omega)
        refine leaveK_ (by k_asm) (by k_asm) ?_
        intro kF kN
        dsimp only
        refine ⟨_, _, ⟨_, congrArg (Value.str · _) ?_⟩, rfl, kF, kN⟩
        rw [hct, h0]
        rfl
      · obtain ⟨i, hi⟩ : ∃ i, (places (cl src) 10 0 pos).getLast? = some i := ⟨_, List.getLast?_eq_some_getLast (List.length_pos_iff.mp (by omega))⟩
        have hip := places_last hi
        refine call_rindex4 (c := 10) (b := pos) (i := i) (by omega) hi ?_
        k_steps
        refine Halt.out ?_
        refine leaveK_ (by k_asm) (by k_asm) ?_
        intro kF kN
        dsimp only
        refine ⟨_, _, ⟨_, congrArg (Value.str · _) ?_⟩, rfl, kF, kN⟩
        rw [hct, hi]
        rfl
end Mine
end
section
open PySem PySem.W PyProof.Rows PySem.Calls
set_option maxHeartbeats 4000000
namespace Mine
theorem raise_toml {w : World} {A : Around} {env : Env} {x : PySem.Expr} {pos : Pos} {Q : Flow → Shared → Prop} {E : Value → Shared → Prop} {s : Shared} (hh : A.handled = none)
    (h : wpAny (model PR w) A (eval x env) (fun v s₁ => ∃ e h₁ vs, v = .ref e ∧ (KK w.params).In h₁ ∧ Heap.MadeExcOf h₁ s₁.heap e (.ref 62) vs ∧ E (.ref e) s₁) E s) :
    wpAny (model PR w) A (exec (.Raise (some x) none pos) env) Q E s := by
  rw [arm_exec_Raise]
  simp only [evalOpt, Option.map]
  have hk : ∀ s₁ : Shared, ∀ h₁, (KK w.params).In h₁ → (∀ b o, h₁.get? b = some o → s₁.heap.get? b = some o) → ∃ nm qn N bs bm hdct sn sub ab col dd k0 k1 k2 k3 k5 newId,
    s₁.heap.get? 62 = some (excClassObj nm qn 62 N bs bm hdct sn sub ab col dd k0 k1 k2 k3 k5 newId) ∧ bm.contains (.type "BaseException") = true ∧ bm.contains (.type "BaseException") = true := fun s₁ h₁ X k => kts_cls (X.keeps k) (by kernel_rfl)
  refine wpAny_bind (wpAny_standAt ?_)
  unfold raiseStmt
  refine wpAny_bind (wpAny_bind (wpAny_mono h (fun v s₁ h₁ => ?_) fun _ _ x => x))
  obtain ⟨e, h₁, vs, rfl, X, M, hE⟩ := h₁
  obtain ⟨t, he, _, _⟩ := M.there
  obtain ⟨nm, qn, N, bs, bm, hdct, sn, sub, ab, col, dd, k0, k1, k2, k3, k5, newId, hC, hbase, _⟩ := hk s₁ h₁ X M.keeps
  have hcB : (Value.ref 62 :: bm).contains (.type "BaseException") = true := by rw [List.contains_cons, hbase, Bool.or_true]
  obtain ⟨hp, g, d, tk, os⟩ := s₁
  refine wpAny_bind (wpAny_standAt (wpAny_pure ?_))
  repeat (first | with_reducible refine wpAny_loadPart_at he ?_ | with_reducible refine wpAny_loadPart_at hC ?_ | (with_reducible refine wpAny_isSubtype_exc hC ?_; rw [hcB]) | wp_step)
  exact wpAny_raiseNew_none hh hE

theorem repr_all : ∀ d, d < 128 → (reprText (one d)).length ≤ 10 := by decide +kernel
theorem repr_ill {d : Nat} (h : ill d = true) : (reprText (one d)).length ≤ 10 := by
  refine repr_all d ?_
  unfold ill at h
  simp only [Bool.and_eq_true, Bool.or_eq_true, decide_eq_true_eq, beq_iff_eq] at h
  omega
local macro_rules | `(tactic| walk_at "exec Raise some none") => `(tactic| (refine Halt.mk ?_))
local macro_rules | `(tactic| walk_at "exec While") => `(tactic| (refine Halt.mk ?_))
local macro_rules | `(tactic| walk_at "exec While Compare") => `(tactic| (refine Halt.mk ?_))
local macro_rules | `(tactic| walk_at "call ref") => `(tactic| ((with_reducible show wpAny _ _ (call (Value.ref 107) _ _) _ _ _); refine Halt.mk ?_))
theorem until_bad {w : World} {A A₀ : Around} {base h₀ : Heap} {outer : List Env} {env : Env} {L : Addr} {m : PySem.Str → Option Value} {tb rest : List (Addr × Obj)} {s : Shared} {Q E : Value → Shared → Prop} {mg mb : PySem.Str → Option Value} {mean : ExcName → Option Value}
  (B : Below A₀ base outer h₀) (F : Fr h₀ L s.heap m) (X : (KK w.params).In h₀) (N : News h₀ L s.heap (tb ++ rest)) (TBt : TB tb) (T : Top topProg LG mean mg mb h₀) (C : CodeHd h₀ 106 102) (hne : ∀ p ∈ rest, p.1 ≠ 102)
  (hA : A.frames = some (env :: outer)) (hf : env.frame = some L) (hke : env.scope.kind = .function) (hd : A.depth + 4 < recursionLimit) (hu : A.units + 30 < cLine) (hh : A.handled = none)
  (hS : FrozAt (strKind PR w) h₀ 43 illS 32) (src : PySem.Str) (pos i j c d : Nat) (b : Bool) (hlen : src.length ≤ 100000) (t1 t2 t3 : Tok)
  (hpi : pos ≤ i) (hi : (cl src)[i]? = some c) (hno : ∀ k, pos ≤ k → k < i → (cl src)[k]? ≠ some c) (hpj : pos ≤ j) (hji : j < i) (hj : (cl src)[j]? = some d) (hill : ill d = true) (hok : ∀ k d, pos ≤ k → k < j → (cl src)[k]? = some d → ill d = false)
  (hraise : ∀ g e t u tb' h' tk', Fr h₀ L g m → RaisedS base g (env :: outer) e (.ref 62) t [.str (errT (cl src) j (Str.empty ++ Str.ofString "Found invalid character " ++ reprText (one d))) u] (tb' ++ rest) h' → g.UpToSlots h' → TB tb' → E (.ref e) {s with heap := h', toks := tk'}) :
  wpAny (model PR w) A (call (.ref 79) [.str src t1, .int pos t2, .str (one c) t3] [(Str.ofString "error_on", .ref 43), (Str.ofString "error_on_eof", .bool b)]) Q E s := by
  have kf0 : PySem.Challenge.rw_nb0113_01 = PySem.Challenge.rw_nb0113_01 ∧ KK = KK := by (k_fill; exact ⟨rfl, rfl⟩)
  clear kf0
  have hil : i < src.length := by
    have := (List.getElem?_eq_some_iff.mp hi).1
    rwa [cl_len] at this
  refine wpAny_call ?_
  k_dflt (refine' code_def ?k1 ?k2 ?k3 ?k4 ?k5 ?kA ?kF ?kK ?k6 ?k7 ?k8 ?k9 ?kB ?_ ?c2 ?c3 ?c4 ?c5; (case kA => exact hA); (case kF => exact hf); (case kK => assumption); (case k1 => k_asm); (case k2 => k_asm); (case k3 => k_asm); (case k4 => k_asm); (case k5 => k_asm); (case k6 => k_is); (case k7 => k_is); (case k8 => omega); (case k9 => exact BindsTo.of_eq rfl); (case c5 => decide); (case kB => exact locs rfl); (case c2 => exact rfl); (case c3 => exact rfl); (case c4 => exact rfl); k_whole)
  intro g' L' h' FG' F' N' B' X' T'
  have hS' := froz_keeps hS FG'.keep
  have C' : CodeHd g' 106 102 := C.keeps FG'.keep
  replace F' : Fr g' L' h' (fun y => List.lookup y [(Str.ofString "error_on_eof", .bool b), (Str.ofString "error_on", .ref 43), (Str.ofString "expect", .str (one c) t3), (Str.ofString "pos", .int pos t2), (Str.ofString "src", .str src t1)]) := F'
  (with_unfolding_all show wpAny _ _ (execs [_, _, _] _) _ _ _)
  (try dsimp only); (try k_lift B'); (try k_fold)
  k_steps
  refine call_index3 hpi hi hno ?_
  k_steps
  refine getMethod_isdisjoint (by k_asm) hS' ?_
  k_steps
  rename Fr g' L' _ _ => F₂
  rename News g' L' _ _ => N₂
  refine isdisj F₂ hS' (by decide) hh ?_
  intro h₃ tk₃ hk₃
  have F₃ := Fr.keeps F₂ hk₃
  have N₃ : News g' L' h₃ (tb ++ rest) := fun p hp => ⟨hk₃ _ _ (N₂ p hp).1, (N₂ p hp).2⟩
  have hall : ((cl (Txt.slice src (some (pos : Int)) (some (i : Int)))).all fun c => !illS (one c)) = false := by
    rw [slice_nat src hpi (Nat.le_of_lt hil), List.all_eq_false]
    refine ⟨d, ?_, by rw [illS_one, hill]; decide⟩
    refine List.mem_of_getElem? (i := j - pos) ?_
    simp only [cl]
    rw [List.getElem?_take, if_pos (by omega), List.getElem?_drop, show pos + (j - pos) = j by omega]
    exact hj
  rw [hall]
  clear F₂ N₂
  k_steps
  refine Halt.out ?_
  refine while_up (Str.ofString "pos") pos j F₃ N₃ rfl hpj ?_
  intro j' t h₁ tk₁ hj1 hj2 F₁ N₁
  clear F₃ N₃
  by_cases hjk : j' = j
  · subst hjk
    have hit : Txt.item src (j' : Int) = one d := item_at (by simpa [cl] using hj)
    have hcs : illS (Txt.item src (j' : Int)) = true := by rw [hit, illS_one]; exact hill
    k_steps
    refine Halt.out ?_
    refine raise_toml hh ?_
    k_steps
    rw [hit]
    have hrl : (reprText (one d)).length ≤ 10 := repr_ill hill
    refine pyReprObj_str ?_ (Nat.le_trans hrl (by decide))
    generalize hrt : reprText (one d) = rt at hrl hraise ⊢
    k_steps
    refine Halt.out ?_
    rename Fr g' L' _ _ => F₂
    rename News g' L' _ _ => N₂
    have hml : (Str.empty ++ Str.ofString "Found invalid character " ++ rt).length ≤ 1000 := by
      simp only [Str.length_append, PySem.ofString_length]
      have e0 : Str.empty.length = 0 := rfl
      have e1 : "Found invalid character ".length = 24 := by decide +kernel
      omega
    refine err_ok B' F₂ X' N₂ TBt T' C' hne (Around.frames_deeper hA) rfl rfl (by show A.depth + 1 + 3 < _; omega) (by show A.units + 3 + 16 < _; omega) src _ j' hlen hml _ _ _ ?_
    intro e tb' h₆ h₇ tk₇ u F₆ N₆ TB₆ M₆
    refine ⟨e, h₆, _, rfl, X'.keeps F₆.keep, M₆, ?_⟩
    refine leave_raiseS B' M₆ F₆ N₆ ?_
    intro h₈ t₈ R₈ _ U₈
    exact hraise g' e t₈ u tb' h₈ _ FG' R₈ U₈ TB₆
  · obtain ⟨c', hc'⟩ : ∃ c', (cl src)[j']? = some c' := ⟨_, List.getElem?_eq_getElem (by rw [cl_len]; omega)⟩
    have hcs : illS (Txt.item src (j' : Int)) = false := by rw [item_at (c := c') (by simpa [cl] using hc')]; rw [show (⟨#[c']⟩ : PySem.Str) = one c' from rfl, illS_one]; exact hok j' c' hj1 (by omega) hc'
    k_steps
    exact UpStep.mk' (by k_asm) (by k_asm) (by omega) (by omega)
end Mine
end
section
open PySem PySem.W PyProof.Rows PySem.Calls
set_option maxHeartbeats 4000000
namespace Mine
/-- an exception that is held, with all its fields -/
def HeldE (base : Heap) (l : List Env) (e : Addr) (cls : Value) (ws : Array Value) (T : Addr) (h : Heap) : Prop :=
  base.StaysIn h ∧ base.get? e = none ∧ h.FunFrames base l ∧ (∃ oe, h.get? e = some oe ∧ oe.cls = cls ∧ oe.data = .fields ws) ∧ ws[1]? = some (.ref T) ∧ base.get? T = none ∧ T ≠ e ∧ ∃ oT ts, h.get? T = some oT ∧ oT.data = .fields ts ∧ 3 < ts.size
section
variable {M : Model} {A : Around} {E : Value → Shared → Prop} {s : Shared} {base : Heap} {env : Env} {outer l : List Env} {L e T : Addr} {oe : Obj} {vs ws : Array Value} {cls : Value} {Q : Unit → Shared → Prop}
theorem note_first (hfr : A.frames = some (env :: outer)) (hl : s.heap.FunFrames base (env :: outer)) (hf : env.frame = some L)
    (he : s.heap.get? e = some oe) (hkb : base.StaysIn s.heap) (hen : base.get? e = none) (hd : oe.data = .fields vs) (h1 : vs[1]? = some .none)
    (h : ∀ h' T, HeldE base (env :: outer) e oe.cls (vs.setIfInBounds 1 (.ref T)) T h' → s.heap.UpToSlots h' → Q () { s with heap := h' }) : wpAny M A (noteFrame (.ref e) env) Q E s := by
  have hsz : 1 < vs.size := (Array.getElem?_eq_some_iff.mp h1).1
  have hene : e ∉ (env :: outer).filterMap (·.frame) := fun hm => by
    obtain ⟨_, o, ho, hnf⟩ := hl.mem hm
    rw [he] at ho; injection ho with ho; subst ho; exact hnf vs hd
  unfold noteFrame
  simp only [hf]
  refine wpAny_bind (wpAny_field he hd h1 ?_)
  rw [if_neg (by decide)]
  refine wpAny_bind (wpAny_frameOf_fun hfr hl hf fun h₁ hs₁ => ?_)
  refine wpAny_bind (wpAny_entryPlaceOf fun pl hpl => ?_)
  unfold EntryCells.newEntry newFields
  refine wpAny_bind (wpAny_newObj_type ?_ (hpl.sizeOk5 _ _ _ _ _))
  have he₁ : h₁.get? e = some oe := (hs₁.2.1 e hene).trans he
  have kb₁ : base.StaysIn h₁ := fun b o hbo => (hs₁.2.1 b fun hm => by rw [(hl.mem hm).1] at hbo; cases hbo).trans (hkb b o hbo)
  generalize htb : ({ cls := .type "traceback", dict := none, data := .fields ([Value.none, .ref L, .none, rawInt L, .none] ++ (if pl.isEmpty then List.replicate 6 Value.none else pl)).toArray } : Obj) = tb
  have htd : ∃ ts, tb.data = .fields ts ∧ 3 < ts.size := by subst htb; exact ⟨_, rfl, by simp only [List.size_toArray, List.length_append, List.length_cons, List.length_nil] <;> omega⟩
  have htf : tb.isFreed = false := by subst htb; rfl
  have he₂ := Heap.get?_push_of_some (h := h₁) tb he₁
  have hTe : h₁.objs.size ≠ e := Nat.ne_of_gt (Heap.lt_size he₁)
  refine wpAny_setField he₂ hd hsz (h _ h₁.objs.size ?_ ?_)
  · have hd₃ := Obj.data_mapFields hd (·.setIfInBounds 1 (Value.ref h₁.objs.size))
    have he₃ := Heap.get?_update_self (Obj.mapFields (·.setIfInBounds 1 (Value.ref h₁.objs.size))) he₂ (Obj.isFreed_of_fields hd₃)
    have hT₃ := (Heap.get?_update_other (h₁.push tb) (Obj.mapFields (·.setIfInBounds 1 (Value.ref h₁.objs.size))) (Ne.symm hTe)).trans (Heap.get?_push_size h₁ htf)
    have keep : ∀ b o, b ≠ e → h₁.get? b = some o → ((h₁.push tb).update e (Obj.mapFields (·.setIfInBounds 1 (Value.ref h₁.objs.size)))).get? b = some o := fun b o hbe hb => by
      rw [Heap.get?_update_other _ _ (Ne.symm hbe)]
      exact Heap.get?_push_of_some _ hb
    have noRecord : ∀ b o, s.heap.get? b = some o → (∀ vs, o.data ≠ .fields vs) → b ≠ e := fun b o hb hnf q => by
      rw [q, he] at hb; injection hb with hb; subst hb; exact hnf vs hd
    obtain ⟨ts, ht1, ht2⟩ := htd
    refine ⟨fun b o hbo => keep b o (fun q => by rw [q, hen] at hbo; cases hbo) (kb₁ b o hbo), hen, hl.of_keeps fun b o hb hnf => ?_, ⟨_, he₃, Obj.cls_mapFields _ _, hd₃⟩, by simp [hsz], kb₁.fresh, hTe, tb, ts, hT₃, ht1, ht2⟩
    obtain ⟨sl, hs⟩ := hs₁.2.2 b o hb
    exact ⟨_, keep b _ (noRecord b o hb hnf) hs, rfl⟩
  · intro b o hb hnf
    obtain ⟨sl, hs⟩ := hs₁.2.2 b o hb
    refine ⟨sl, ?_⟩
    rw [Heap.get?_update_other _ _ (Ne.symm fun q => by rw [q, he] at hb; injection hb with hb; subst hb; exact hnf vs hd)]
    exact Heap.get?_push_of_some _ hs
theorem flight_e (hh : HeldE base l e cls ws T s.heap) (h : ∀ h', HeldE base l e cls ws T h' → s.heap.UpToSlots h' → Q () { s with heap := h' }) : wpAny M A (setFlight (.ref e) none) Q E s := by
  obtain ⟨f1, f2, f3, ⟨oe, he, hc, hd⟩, h1, hnT, hTe, oT, ts, hT, hdT, hsz3⟩ := hh
  have other : ∀ b, b ≠ T → (s.heap.update T (Obj.mapFields (·.setIfInBounds 3 ((none : Option Addr).elim Value.none fun f => rawInt f)))).get? b = s.heap.get? b :=
    fun b hb => Heap.get?_update_other _ _ (Ne.symm hb)
  have noRecord : ∀ b o, s.heap.get? b = some o → (∀ vs, o.data ≠ .fields vs) → b ≠ T := fun b o hb hnf q => by
    rw [q, hT] at hb; injection hb with hb; subst hb; exact hnf ts hdT
  unfold setFlight
  refine wpAny_bind (wpAny_field he hd h1 ?_)
  rw [if_pos (show (Value.ref T != Value.none) = true from by simp)]
  refine wpAny_setField hT hdT hsz3 (h _ ⟨fun b o hbo => (other b fun q => by rw [q, hnT] at hbo; cases hbo).trans (f1 b o hbo), f2,
    f3.of_keeps fun b o hb hnf => ⟨o, (other b (noRecord b o hb hnf)).trans hb, rfl⟩, ⟨oe, (other e (Ne.symm hTe)).trans he, hc, hd⟩, h1, hnT, hTe, _, _, Heap.get?_update_self _ hT (Obj.isFreed_of_fields (Obj.data_mapFields hdT _)), Obj.data_mapFields hdT _, by simpa using hsz3⟩ fun b o hb hnf => ⟨o.slots, (other b (noRecord b o hb hnf)).trans hb⟩)
end
theorem HeldE.keeps {base : Heap} {l : List Env} {e T : Addr} {cls : Value} {ws : Array Value} {h h' : Heap} (x : HeldE base l e cls ws T h) (k : ∀ b o, h.get? b = some o → h'.get? b = some o) : HeldE base l e cls ws T h' := by
  obtain ⟨f1, f2, f3, ⟨oe, he, hc, hd⟩, h1, hnT, hTe, oT, ts, hT, hdT, hsz3⟩ := x
  exact ⟨fun b o q => k _ _ (f1 b o q), f2, f3.of_keeps fun b o hb _ => ⟨o, k _ _ hb, rfl⟩, ⟨oe, k _ _ he, hc, hd⟩, h1, hnT, hTe, oT, ts, k _ _ hT, hdT, hsz3⟩
section
variable {prog : Program} {w : World} {A₀ : Around} {E : Value → Shared → Prop} {s' : Shared} {base g h : Heap} {outer : List Env} {L a e : Addr} {m : PySem.Str → Option Value} {name : PySem.Str} {scope : Scope} {cd : Value}
  {b₀ : Stmt} {suite : List Stmt} {pos : Pos} {rest : List ExceptHandler} {Q : Flow → Shared → Prop} {news : List (Addr × Obj)} {KF : Frag} {tt : PySem.Expr}
  {p : Program} {loose : List PySem.Str} {mean : ExcName → Option Value} {mg mb : PySem.Str → Option Value} {X : String}
theorem caught_fresh (hx : Heap.NewExc h s'.heap e X) (F : Fr g L h m) (N : News g L h news) (K : Below A₀ base outer g) (XB : KF.In base) (TB : Top p loose mean mg mb base)
    (T : KtsTest prog w KF p loose mg mb name scope L a cd (.type X) tt true)
    (k : ∀ h' g' oe ws, KtsTurn (outer.filterMap (·.frame)) g g' → Fr g' L h' m → News g' L h' ((e, oe) :: news) → oe.data = .fields ws → ws[2]? = some .none → Below A₀ base outer g' → KF.In g' → Top p loose mean mg mb g' →
      wpAny (model prog w) ((A₀.deeper (envOf name scope L a cd)).mark (some (.ref e))) (execs (b₀ :: suite) (envOf name scope L a cd)) Q E { s' with heap := h' })
    (hk : scope.kind = .function := by rfl)
    (hE : PassesOwnAt (model prog w) ((A₀.deeper (envOf name scope L a cd)).mark (some (.ref e))) (A₀.deeper (envOf name scope L a cd)) (envOf name scope L a cd) E := by passes_own) :
    wpAny (model prog w) (A₀.deeper (envOf name scope L a cd)) (noteFrame (.ref e) (envOf name scope L a cd))
      (fun _ s₂ => wpAny (model prog w) (A₀.deeper (envOf name scope L a cd)) (setFlight (.ref e) none) (fun _ s₃ =>
        wpAny (model prog w) (A₀.deeper (envOf name scope L a cd)) (handleBy (.ref e) (envOf name scope L a cd) (.ExceptHandler (some tt) none (b₀ :: suite) pos :: rest)) Q E s₃) E s₂) E s' := by
  have K' := K.push (name := name) (a := a) (cd := cd) F hk
  have hin : ∀ env ∈ (envOf name scope L a cd :: outer), ∀ b, env.frame = some b → b ∈ (envOf name scope L a cd :: outer).filterMap (·.frame) := fun env he b hb => List.mem_filterMap.mpr ⟨env, he, hb⟩
  generalize hBd : hideAll h ((envOf name scope L a cd :: outer).filterMap (·.frame)) = B
  have of_B : ∀ b o, B.get? b = some o → h.get? b = some o := fun b o q => by subst hBd; exact of_hideAll _ q
  have st : base.StaysIn B := fun b o q => by
    subst hBd
    exact hideAll_get _ (K'.stays b o q) (fun hm => by rw [(K'.frames.mem hm).1] at q; cases q)
  have sg' : ∀ b o, h.get? b = some o → b ∉ (envOf name scope L a cd :: outer).filterMap (·.frame) → B.get? b = some o := fun b o q nm => by subst hBd; exact hideAll_get _ q nm
  have sg : ∀ b o, g.get? b = some o → b ∉ outer.filterMap (·.frame) → B.get? b = some o := fun b o q nm => sg' b o (F.keep b o q) fun hm => by
    rcases kts_mem hm with z | z
    · rw [z, kts_self F] at q
      cases q
    · exact nm z
  have hl : ∀ q ∈ news, B.get? q.1 = some q.2 ∧ g.get? q.1 = none ∧ base.get? q.1 = none := fun q hq => by
    refine ⟨sg' _ _ (N q hq).1 fun hm => ?_, (N q hq).2.2, fresh_of_stays K.stays (N q hq).2.2⟩
    obtain ⟨env, he, hf⟩ := List.mem_filterMap.mp hm
    rcases List.mem_cons.mp he with rfl | he
    · exact (N q hq).2.1 (Option.some.inj hf).symm
    · obtain ⟨o, ho, _⟩ := (K.frames.mem (List.mem_filterMap.mpr ⟨env, he, hf⟩)).2
      rw [(N q hq).2.2] at ho; cases ho
  obtain ⟨ob, tp, he, hcls, hd⟩ := hx.there
  have hen : B.get? e = none := by
    cases q : B.get? e with
    | none => rfl
    | some o => have := of_B _ _ q; rw [hx.new] at this; cases this
  have hff : s'.heap.FunFrames B (envOf name scope L a cd :: outer) := by
    subst hBd
    exact (funFrames_hide K'.frames hin).of_keeps fun b o hb _ => ⟨o, hx.keeps b o hb, rfl⟩
  have hL : B.get? L = none := by
    obtain ⟨_, ⟨L', _, hf, hn', _⟩, _⟩ := hff
    obtain rfl : L = L' := Option.some.inj hf
    exact hn'
  have hsm0 : h.UpToSlots s'.heap := Heap.UpToSlots.of_keeps hx.keeps
  refine note_first K'.stack hff rfl he (fun b o q => hx.keeps _ _ (of_B b o q)) hen hd rfl fun h₄ T₄ H₄ U₄ => ?_
  refine flight_e H₄ fun h₅ H₅ U₅ => ?_
  have hsm5 := (hsm0.trans U₄).trans U₅
  obtain ⟨g₅, T₅, F₅, K₅⟩ := kts_ground (name := name) (scope := scope) (a := a) (cd := cd) K F sg' H₅.1 hsm5
  have ty : Looks (model prog w) h₅ (typeOf (.ref e)) (.type X) := by
    obtain ⟨oe, ho, hc, _⟩ := H₅.2.2.2.1
    rw [hcls] at hc
    rw [← hc]
    exact (Looks.ld ho).andThen .now
  refine wpAny_handleBy_cons (codeAny_handlers_test (T _ _ _ _ g₅ e m F₅ (XB.keeps K₅.stays) (topRead_of (TB.keeps K₅.stays)) ty fun h₆ kp => ?_)) (by intro q; cases q)
  have H₆ := H₅.keeps kp
  have hsm6 := hsm5.trans (Heap.UpToSlots.of_keeps kp)
  refine codeAny_handlers_suite ?_
  refine flight_e H₆ fun h₇ H₇ U₇ => ?_
  have hsm7 := hsm6.trans U₇
  obtain ⟨g₇, T₇, F₇, K₇⟩ := kts_ground (name := name) (scope := scope) (a := a) (cd := cd) K F sg' H₇.1 hsm7
  have Nl : News g₇ L h₇ news := fun q hq => ⟨H₇.1 _ _ (hl q hq).1, (fun z => by have := (hl q hq).1; rw [z, hL] at this; cases this), T₇.none_ _ (hl q hq).2.1⟩
  obtain ⟨oe, hoe, hoec, hoed⟩ := H₇.2.2.2.1
  have ge : g.get? e = none := by
    cases q : g.get? e with
    | none => rfl
    | some o => have := F.keep _ _ q; rw [hx.new] at this; cases this
  have ne : e ≠ L := fun z => by
    obtain ⟨o, _, _, ho, _⟩ := F.ns
    have hn := hx.new
    rw [z, ho] at hn
    cases hn
  refine wpAny_passesOwnAt hE (k h₇ g₇ oe _ T₇ F₇ ?_ hoed (by simp) K₇ (XB.keeps K₇.stays) (TB.keeps K₇.stays))
  intro q hq
  rcases List.mem_cons.mp hq with rfl | hq
  · exact ⟨hoe, ne, T₇.none_ _ ge⟩
  · exact Nl q hq
end
theorem entry_unchain : entryFor table "proto.unchain" = some Builtin.«proto.unchain» := entryFor_of_fast (by kernel_rfl)
/-- an exception made and raised from None while another is handled -/
structure MadeCtx (h h' : Heap) (e : Addr) (cls : Value) (args : List Value) : Prop where
  keeps : ∀ b o, h.get? b = some o → h'.get? b = some o
  new : h.get? e = none
  there : ∃ t c, h'.get? e = some { cls := cls, data := .fields #[.ref t, .none, c, .none, .bool true, .none] } ∧ h.get? t = none ∧ h'.get? t = some { cls := .type "tuple", data := .seq args.toArray }
theorem newCtx {w : World} {A : Around} {Q : Flow → Shared → Prop} {E : Value → Shared → Prop} {s : Shared} {e e0 t : Addr} {cls : Value} {oe0 : Obj} {ws : Array Value} (hh : A.handled = some (.ref e0)) (hne : e0 ≠ e)
    (he : s.heap.get? e = some { cls := cls, data := .fields #[.ref t, .none, .none, .none, .bool true, .none] }) (h0 : s.heap.get? e0 = some oe0) (hd : oe0.data = .fields ws) (h2 : ws[2]? = some .none)
    (hE : ∀ h', (∀ b, b ≠ e → h'.get? b = s.heap.get? b) → h'.get? e = some { cls := cls, data := .fields #[.ref t, .none, .ref e0, .none, .bool true, .none] } → E (.ref e) { s with heap := h' }) :
    wpAny (model PR w) A (raiseNew (.ref e) : Sem Flow) Q E s := by
  unfold raiseNew
  refine wpAny_bind (wpAny_handled ?_)
  rw [hh]
  show wpAny (model PR w) A (if (Value.ref e0 != Value.ref e) = true then do
        let _ ← holding [Value.ref e] (runValue (Code.builtin "proto.unchain" { pos := [Value.ref e, .ref e0, .ref e0, Value.bool false] }))
        let __r ← updateField e 2 (.ref e0)
        throw (Value.ref e)
      else throw (Value.ref e)) Q E s
  rw [if_pos (show (Value.ref e0 != Value.ref e) = true from by simpa using hne)]
  refine wpAny_bind (wpAny_holding (wpAny_runValue (codeAny_builtin entry_unchain ?_)))
  refine wpAny_bind (wpAny_field h0 hd h2 ?_)
  rw [if_pos (show (Value.none == Value.none) = true from by decide)]
  refine wpAny_bind (wpAny_pure (wpAny_pure ?_))
  show wpAny (model PR w) A (do let _ ← setField (.ref e) 2 (.ref e0); throw (Value.ref e)) Q E s
  refine wpAny_bind (wpAny_setField he rfl (show 2 < 6 by omega) (wpAny_throw (hE _ (fun b hb => Heap.get?_update_other _ _ (Ne.symm hb)) ?_)))
  exact Heap.get?_update_self _ he rfl
theorem raise_none {w : World} {A : Around} {env : Env} {x : PySem.Expr} {pos p2 : Pos} {kk : Nat} {Q : Flow → Shared → Prop} {E : Value → Shared → Prop} {s : Shared} {e0 : Addr} (hh : A.handled = some (.ref e0))
    (h : wpAny (model PR w) A (eval x env) (fun v s₁ => ∃ e h₁ vs oe0 ws, v = .ref e ∧ (KK w.params).In h₁ ∧ Heap.MadeExcOf h₁ s₁.heap e (.ref 62) vs ∧ h₁.get? e0 = some oe0 ∧ oe0.data = .fields ws ∧ ws[2]? = some .none ∧
      ∀ h', MadeCtx h₁ h' e (.ref 62) vs → E (.ref e) { s₁ with heap := h' }) E s) :
    wpAny (model PR w) A (exec (.Raise (some x) (some (.Constant .none kk p2)) pos) env) Q E s := by
  rw [arm_exec_Raise]
  simp only [evalOpt, Option.map]
  refine wpAny_bind (wpAny_standAt ?_)
  unfold raiseStmt
  refine wpAny_bind (wpAny_bind (wpAny_mono h (fun v s₁ h₁ => ?_) fun _ _ x => x))
  obtain ⟨e, h₁, vs, oe0, ws, rfl, X, M, h0, hd, h2, hE⟩ := h₁
  obtain ⟨t, he, htn, ht⟩ := M.there
  obtain ⟨nm, qn, N, bs, bm, hdct, sn, sub, ab, col, dd, k0, k1, k2, k3, k5, newId, hC, hbase, _⟩ := kts_cls (T := "BaseException") (X.keeps M.keeps) (C := 62) (by kernel_rfl)
  have hcB : (Value.ref 62 :: bm).contains (.type "BaseException") = true := by rw [List.contains_cons, hbase, Bool.or_true]
  obtain ⟨hp, g, d, tk, os⟩ := s₁
  refine wpAny_bind (wpAny_standAt (wpAny_pure ?_))
  dsimp only
  refine wpAny_bind (wpAny_holding (wpAny_bind ?_))
  refine wpAny_mono (Q := fun v s₁ => v = .none ∧ s₁ = ⟨hp, g, d, tk, os⟩) (E := fun _ _ => False) (by wp_walk; exact ⟨rfl, rfl⟩) ?_ (fun _ _ x => x.elim)
  rintro v s₁ ⟨rfl, rfl⟩
  refine wpAny_bind (wpAny_standAt (wpAny_pure ?_))
  refine wpAny_bind (wpAny_pure ?_)
  refine wpAny_bind (wpAny_holding ?_)
  refine wpAny_mono (Q := fun v s₁ => v = .ref e ∧ s₁ = ⟨hp, g, d, tk, os⟩) (E := fun _ _ => False) (by
    unfold excFromValue
    repeat (first | with_reducible refine wpAny_loadPart_at he ?_ | with_reducible refine wpAny_loadPart_at hC ?_ | (with_reducible refine wpAny_isSubtype_exc hC ?_; rw [hcB]) | wp_step)
    exact ⟨rfl, rfl⟩) ?_ (fun _ _ x => x.elim)
  rintro v s₁ ⟨rfl, rfl⟩
  dsimp only
  rw [if_pos (show (Value.none == Value.none) = true from by decide)]
  refine wpAny_bind (wpAny_pure ?_)
  refine wpAny_bind (wpAny_setField he rfl (show 3 < 6 by omega) ?_)
  have he1 := Heap.get?_update_self (Obj.mapFields (·.setIfInBounds 3 Value.none)) he rfl
  refine wpAny_bind (wpAny_setField he1 rfl (show 4 < 6 by omega) ?_)
  have he2 := Heap.get?_update_self (Obj.mapFields (·.setIfInBounds 4 (Value.bool true))) he1 rfl
  have oth : ∀ b, b ≠ e → ((hp.update e (Obj.mapFields (·.setIfInBounds 3 Value.none))).update e (Obj.mapFields (·.setIfInBounds 4 (Value.bool true)))).get? b = hp.get? b := fun b hb => by
    rw [Heap.get?_update_other _ _ (Ne.symm hb), Heap.get?_update_other _ _ (Ne.symm hb)]
  generalize hq : ((hp.update e (Obj.mapFields (·.setIfInBounds 3 Value.none))).update e (Obj.mapFields (·.setIfInBounds 4 (Value.bool true)))) = hp2 at he2 oth ⊢
  have hne : ∀ b o, h₁.get? b = some o → b ≠ e := fun b o q z => by
    have := M.new
    rw [← z, q] at this
    cases this
  have hk2 : ∀ b o, h₁.get? b = some o → hp2.get? b = some o := fun b o q => (oth b (hne b o q)).trans (M.keeps b o q)
  replace he2 : hp2.get? e = some { cls := .ref 62, data := .fields #[.ref t, .none, .none, .none, .bool true, .none] } := he2
  obtain ⟨nm, qn, N, bs, bm, hdct, sn, sub, ab, col, dd, k0, k1, k2, k3, k5, newId, hC2, hbase2, _⟩ := kts_cls (T := "BaseException") (X.keeps hk2) (C := 62) (by kernel_rfl)
  have hcB2 : (Value.ref 62 :: bm).contains (.type "BaseException") = true := by rw [List.contains_cons, hbase2, Bool.or_true]
  repeat (first | with_reducible refine wpAny_loadPart_at he2 ?_ | with_reducible refine wpAny_loadPart_at hC2 ?_ | (with_reducible refine wpAny_isSubtype_exc hC2 ?_; rw [hcB2]) | wp_step)
  refine newCtx hh (hne _ _ h0) he2 (hk2 _ _ h0) hd h2 ?_
  intro h' hk' he'
  refine hE h' ⟨fun b o q => (hk' b (hne b o q)).trans (hk2 b o q), M.new, t, _, he', htn, ?_⟩
  have hte : t ≠ e := fun z => by
    have he0 := he
    rw [← z] at he0
    rw [ht] at he0
    cases he0
  exact (hk' t hte).trans ((oth t hte).trans ht)
theorem leave_ctx {M : Model} {A : Around} {E : Value → Shared → Prop} {s' : Shared} {base g g₁ h : Heap} {outer : List Env} {L a e : Addr} {m : PySem.Str → Option Value} {name : PySem.Str} {scope : Scope} {cd : Value} {Q : Unit → Shared → Prop} {news : List (Addr × Obj)} {cls : Value} {vs : List Value}
    (K : Below A base outer g) (hx : MadeCtx h s'.heap e cls vs) (F : Fr g L h m) (N : News g L h news) (T : KtsTurn (outer.filterMap (·.frame)) g₁ g)
    (hQ : ∀ h' t, RaisedS base g₁ outer e cls t vs news h' → g₁.UpToSlots h' → Q () { s' with heap := h' }) (hk : scope.kind = .function := by rfl) :
    wpAny M (A.deeper (envOf name scope L a cd)) (leaving (envOf name scope L a cd) (.ref e)) Q E s' := by
  have K' := K.push (name := name) (a := a) (cd := cd) F hk
  have hin : ∀ env ∈ (envOf name scope L a cd :: outer), ∀ b, env.frame = some b → b ∈ (envOf name scope L a cd :: outer).filterMap (·.frame) := fun env he b hb => List.mem_filterMap.mpr ⟨env, he, hb⟩
  have st : base.StaysIn (hideAll h ((envOf name scope L a cd :: outer).filterMap (·.frame))) := fun b o q => hideAll_get _ (K'.stays b o q) fun hm => by
    rw [(K'.frames.mem hm).1] at q; cases q
  have sg : ∀ b o, g₁.get? b = some o → b ∉ outer.filterMap (·.frame) → (hideAll h ((envOf name scope L a cd :: outer).filterMap (·.frame))).get? b = some o := fun b o q nm => by
    have q' := T.other b o q nm
    refine hideAll_get _ (F.keep b o q') fun hm => ?_
    rcases kts_mem hm with z | z
    · rw [z, kts_self F] at q'
      cases q'
    · exact nm z
  have hl : ∀ q ∈ news, (hideAll h ((envOf name scope L a cd :: outer).filterMap (·.frame))).get? q.1 = some q.2 ∧ g₁.get? q.1 = none ∧ base.get? q.1 = none := fun q hq => by
    refine ⟨hideAll_get _ (N q hq).1 fun hm => ?_, ?_, fresh_of_stays K.stays (N q hq).2.2⟩
    · obtain ⟨env, he, hf⟩ := List.mem_filterMap.mp hm
      rcases List.mem_cons.mp he with rfl | he
      · exact (N q hq).2.1 (Option.some.inj hf).symm
      · obtain ⟨o, ho, _⟩ := (K.frames.mem (List.mem_filterMap.mpr ⟨env, he, hf⟩)).2
        rw [(N q hq).2.2] at ho; cases ho
    · cases hz : g₁.get? q.1 with
      | none => rfl
      | some o =>
        obtain ⟨sl, hs⟩ := T.up hz
        have := (N q hq).2.2
        rw [hs] at this; cases this
  obtain ⟨t, c, he, htn, ht⟩ := hx.there
  have fresh : ∀ b, h.get? b = none → (hideAll h ((envOf name scope L a cd :: outer).filterMap (·.frame))).get? b = none := fun b hb => by
    cases q : (hideAll h ((envOf name scope L a cd :: outer).filterMap (·.frame))).get? b with
    | none => rfl
    | some o => have := of_hideAll _ q; rw [hb] at this; cases this
  refine wpAny_leaving_firstW (a0 := .ref t) K'.stack ((funFrames_hide K'.frames hin).of_keeps fun b o hb _ => ⟨o, hx.keeps b o hb, rfl⟩) rfl he (fun b o hb => hx.keeps b o (of_hideAll _ hb)) (fresh e hx.new) rfl rfl rfl fun h' hL => ?_
  obtain ⟨k1, ⟨_, _, k2⟩, k3, k4⟩ := hL
  refine hQ h' t ⟨⟨_, st, sg, hl, ⟨k1, fresh e hx.new, k2, k3⟩, fresh t htn⟩, Heap.TupAt.of_slots ⟨_, _, ht, rfl, rfl⟩ k4⟩ ?_
  have u0 : g₁.UpToSlots g := fun b o q _ => T.up q
  exact ((u0.trans (Heap.UpToSlots.of_keeps F.keep)).trans (Heap.UpToSlots.of_keeps hx.keeps)).trans k4
end Mine
end
section
open PySem PySem.W PyProof.Rows PySem.Calls
set_option maxHeartbeats 4000000
namespace Mine
local macro_rules | `(tactic| walk_at "exec Raise some some") => `(tactic| (refine Halt.mk ?_))
local macro_rules | `(tactic| walk_at "noteFrame ref") => `(tactic| (refine Halt.mk ?_))
local macro_rules | `(tactic| walk_at "call ref") => `(tactic| ((with_reducible show wpAny _ _ (call (Value.ref 107) _ _) _ _ _); refine Halt.mk ?_))
theorem until_eof {w : World} {A A₀ : Around} {base h₀ : Heap} {outer : List Env} {env : Env} {L : Addr} {m : PySem.Str → Option Value} {tb rest : List (Addr × Obj)} {s : Shared} {Q E : Value → Shared → Prop} {mg mb : PySem.Str → Option Value} {mean : ExcName → Option Value}
  (B : Below A₀ base outer h₀) (F : Fr h₀ L s.heap m) (X : (KK w.params).In h₀) (N : News h₀ L s.heap (tb ++ rest)) (TBt : TB tb) (T : Top topProg LG mean mg mb h₀) (C : CodeHd base 106 102) (hne : ∀ p ∈ rest, p.1 ≠ 102)
  (XB : (KK w.params).In base) (TTB : Top topProg LG mean mg mb base)
  (hA : A.frames = some (env :: outer)) (hf : env.frame = some L) (hke : env.scope.kind = .function) (hd : A.depth + 4 < recursionLimit) (hu : A.units + 30 < cLine) (hh : A.handled = none)
  (src : PySem.Str) (pos c : Nat) (hc : c < 128) (hlen : src.length ≤ 100000) (t1 t2 t3 : Tok)
  (hno : ∀ k, pos ≤ k → (cl src)[k]? ≠ some c)
  (hraise : ∀ g e t u tb' ot h' tk', Fr h₀ L g m → RaisedS base g (env :: outer) e (.ref 62) t [.str (errT (cl src) src.length (Str.empty ++ Str.ofString "Expected " ++ reprText (one c))) u] (tb' ++ ot ++ rest) h' → g.UpToSlots h' → TB tb' → E (.ref e) {s with heap := h', toks := tk'}) :
  wpAny (model PR w) A (call (.ref 79) [.str src t1, .int pos t2, .str (one c) t3] [(Str.ofString "error_on", .ref 43), (Str.ofString "error_on_eof", .bool true)]) Q E s := by
  have kf0 : PySem.Challenge.rw_nb0113_01 = PySem.Challenge.rw_nb0113_01 ∧ KK = KK := by (k_fill; exact ⟨rfl, rfl⟩)
  clear kf0
  refine wpAny_call ?_
  k_dflt (refine' code_def ?k1 ?k2 ?k3 ?k4 ?k5 ?kA ?kF ?kK ?k6 ?k7 ?k8 ?k9 ?kB ?_ ?c2 ?c3 ?c4 ?c5; (case kA => exact hA); (case kF => exact hf); (case kK => assumption); (case k1 => k_asm); (case k2 => k_asm); (case k3 => k_asm); (case k4 => k_asm); (case k5 => k_asm); (case k6 => k_is); (case k7 => k_is); (case k8 => omega); (case k9 => exact BindsTo.of_eq rfl); (case c5 => decide); (case kB => exact locs rfl); (case c2 => exact rfl); (case c3 => exact rfl); (case c4 => exact rfl); k_whole)
  intro g' L' h' FG' F' N' B' X' T'
  replace F' : Fr g' L' h' (fun y => List.lookup y [(Str.ofString "error_on_eof", .bool true), (Str.ofString "error_on", .ref 43), (Str.ofString "expect", .str (one c) t3), (Str.ofString "pos", .int pos t2), (Str.ofString "src", .str src t1)]) := F'
  (with_unfolding_all show wpAny _ _ (execs [_, _, _] _) _ _ _)
  (try dsimp only); (try k_lift B'); (try k_fold)
  k_steps
  rename Fr g' L' _ _ => F₂
  rename News g' L' _ _ => N₂
  refine call_index3_none hh hno ?_
  intro h₃ tk₃ e₃ hx
  refine caught_fresh hx F₂ N₂ B' XB TTB (by kts_test) ?_
  intro h₄ g₄ oe ws T₄ F₄ N₄ d1 d2 K₄ X₄ P₄
  have N₅ : News g₄ L' h₄ (tb ++ ((e₃, oe) :: rest)) := fun p hp => by
    refine N₄ p ?_
    rcases List.mem_append.mp hp with h | h
    · exact .tail _ (List.mem_append_left _ h)
    · rcases List.mem_cons.mp h with rfl | h
      · exact .head _
      · exact .tail _ (List.mem_append_right _ h)
  have h102 : e₃ ≠ 102 := fun z => by
    obtain ⟨o, ho⟩ : ∃ o, (102, o) ∈ tb := by
      cases TBt with
      | fresh => exact ⟨_, .head _⟩
      | made _ _ _ => exact ⟨_, .tail _ (.head _)⟩
    have h1 := (N₂ _ (List.mem_append_left _ ho)).1
    have h2 := hx.new
    rw [z] at h2
    rw [h1] at h2
    cases h2
  have hne' : ∀ p ∈ ((e₃, oe) :: rest), p.1 ≠ 102 := fun p hp => by
    rcases List.mem_cons.mp hp with rfl | h
    · exact h102
    · exact hne p h
  have C₄ : CodeHd g₄ 106 102 := C.keeps K₄.stays
  clear N₄ F₂ N₂ hx T' X' B' h102
  dsimp only
  (try k_lift K₄); (try k_fold)
  k_steps
  have hrl : (reprText (one c)).length ≤ 10 := repr_all c hc
  refine Halt.out ?_
  refine raise_none rfl ?_
  k_steps
  generalize hrt : reprText (one c) = rt at hrl hraise ⊢
  refine Halt.out ?_
  rename Fr g₄ L' _ _ => F₅
  rename News g₄ L' _ _ => N₆
  have hml : (Str.empty ++ Str.ofString "Expected " ++ rt).length ≤ 1000 := by
    simp only [Str.length_append, PySem.ofString_length]
    have e0 : Str.empty.length = 0 := rfl
    have e1 : "Expected ".length = 9 := by decide +kernel
    omega
  refine err_ok K₄ F₅ X₄ N₆ TBt P₄ C₄ hne' (by exact Around.frames_deeper hA) (by rfl) (by rfl) (by show A.depth + 1 + 3 < _; omega) (by show A.units + 3 + 16 < _; omega) src _ src.length hlen hml _ _ _ ?_
  intro e tb' h₆ h₇ tk₇ u F₆ N₆ TB₆ M₆
  refine ⟨e, h₆, _, oe, ws, rfl, X₄.keeps F₆.keep, M₆, (N₆ _ (List.mem_append_right _ (.head _))).1, d1, d2, ?_⟩
  intro h₈ M₈
  refine leave_ctx K₄ M₈ F₆ N₆ T₄ ?_
  intro h₉ t₉ R₉ U₉
  exact hraise g' e t₉ u tb' [(e₃, oe)] h₉ _ FG' (by simpa using R₉) U₉ TB₆
end Mine
end
section
open PySem PySem.W PyProof.Rows PySem.Calls
set_option maxHeartbeats 4000000
namespace Mine
/-- the fault flies out of the call -/
def Flies (base h₀ : Heap) (L : Addr) (m : PySem.Str → Option Value) (env : Env) (outer : List Env) (words : PySem.Str) (rest : List (Addr × Obj)) (E : Value → Shared → Prop) (s : Shared) : Prop :=
  ∀ g e t u tb' ot h' tk', Fr h₀ L g m → RaisedS base g (env :: outer) e (.ref 62) t [.str words u] (tb' ++ ot ++ rest) h' → g.UpToSlots h' → TB tb' → E (.ref e) {s with heap := h', toks := tk'}
def wordsBad (l : List Nat) (j d : Nat) : PySem.Str := errT l j (Str.empty ++ Str.ofString "Found invalid character " ++ reprText (one d))
def wordsEof (l : List Nat) (c : Nat) : PySem.Str := errT l l.length (Str.empty ++ Str.ofString "Expected " ++ reprText (one c))
/-- what skip_until raises -/
def UBad (l : List Nat) (pos c : Nat) (b : Bool) (words : PySem.Str) : Prop :=
  (∃ i j d, pos ≤ i ∧ l[i]? = some c ∧ (∀ k, pos ≤ k → k < i → l[k]? ≠ some c) ∧ pos ≤ j ∧ j < i ∧ l[j]? = some d ∧ ill d = true ∧ (∀ k d, pos ≤ k → k < j → l[k]? = some d → ill d = false) ∧ words = wordsBad l j d) ∨
  (b = true ∧ c < 128 ∧ (∀ k, pos ≤ k → l[k]? ≠ some c) ∧ words = wordsEof l c)
theorem until_fly {w : World} {A A₀ : Around} {base h₀ : Heap} {outer : List Env} {env : Env} {L : Addr} {m : PySem.Str → Option Value} {tb rest : List (Addr × Obj)} {s : Shared} {Q E : Value → Shared → Prop} {mg mb : PySem.Str → Option Value} {mean : ExcName → Option Value}
  (B : Below A₀ base outer h₀) (F : Fr h₀ L s.heap m) (X : (KK w.params).In h₀) (N : News h₀ L s.heap (tb ++ rest)) (TBt : TB tb) (T : Top topProg LG mean mg mb h₀) (C : CodeHd base 106 102) (hne : ∀ p ∈ rest, p.1 ≠ 102)
  (XB : (KK w.params).In base) (TTB : Top topProg LG mean mg mb base)
  (hA : A.frames = some (env :: outer)) (hf : env.frame = some L) (hke : env.scope.kind = .function) (hd : A.depth + 4 < recursionLimit) (hu : A.units + 30 < cLine) (hh : A.handled = none)
  (hS : FrozAt (strKind PR w) h₀ 43 illS 32)
  {src : PySem.Str} {pos c : Nat} {b : Bool} {words : PySem.Str} {t1 t2 t3 : Tok} {pv : Int} {ex : PySem.Str} {kws : List (PySem.Str × Value)} (hlen : src.length ≤ 100000)
  (hbad : UBad (cl src) pos c b words) (hpv : pv = (pos : Int)) (hex : ex = one c) (hkw : kws = [(Str.ofString "error_on", .ref 43), (Str.ofString "error_on_eof", .bool b)])
  (hraise : Flies base h₀ L m env outer words rest E s) :
  wpAny (model PR w) A (call (.ref 79) [.str src t1, .int pv t2, .str ex t3] kws) Q E s := by
  subst hpv hex hkw
  rcases hbad with ⟨i, j, d, h1, h2, h3, h4, h5, h6, h7, h8, rfl⟩ | ⟨rfl, h1, h2, rfl⟩
  · exact until_bad B F X N TBt T (C.keeps B.stays) hne hA hf hke hd hu hh hS src pos i j c d b hlen t1 t2 t3 h1 h2 h3 h4 h5 h6 h7 h8
      (fun g e t u tb' h' tk' Fg R U T => hraise g e t u tb' [] h' tk' Fg (by rw [List.append_nil]; exact R) U T)
  · refine until_eof B F X N TBt T C hne XB TTB hA hf hke hd hu hh src pos c h1 hlen t1 t2 t3 h2 ?_
    unfold wordsEof at hraise
    rw [cl_len] at hraise
    exact hraise
local macro_rules | `(tactic| walk_at "call ref") => `(tactic| ((with_reducible show wpAny _ _ (call (Value.ref 79) _ _) _ _ _); refine Halt.mk ?_))
local macro_rules | `(tactic| walk_at "call ref") => `(tactic| ((with_reducible show wpAny _ _ (call (Value.ref 72) _ _) _ _ _); refine Halt.mk ?_))
local macro_rules | `(tactic| walk_at "call ref") => `(tactic| ((with_reducible show wpAny _ _ (call (Value.ref 86) _ _) _ _ _); refine Halt.mk ?_))
theorem comment_fly {w : World} {A A₀ : Around} {base h₀ : Heap} {outer : List Env} {env : Env} {L : Addr} {m : PySem.Str → Option Value} {tb rest : List (Addr × Obj)} {s : Shared} {Q E : Value → Shared → Prop} {mg mb : PySem.Str → Option Value} {mean : ExcName → Option Value}
  (B : Below A₀ base outer h₀) (F : Fr h₀ L s.heap m) (X : (KK w.params).In h₀) (N : News h₀ L s.heap (tb ++ rest)) (TBt : TB tb) (T : Top topProg LG mean mg mb h₀) (C : CodeHd base 106 102) (hne : ∀ p ∈ rest, p.1 ≠ 102)
  (XB : (KK w.params).In base) (TTB : Top topProg LG mean mg mb base)
  (hA : A.frames = some (env :: outer)) (hf : env.frame = some L) (hke : env.scope.kind = .function) (hd : A.depth + 5 < recursionLimit) (hu : A.units + 40 < cLine) (hh : A.handled = none)
  (hS : FrozAt (strKind PR w) h₀ 43 illS 32)
  (src : PySem.Str) (pos : Nat) (words : PySem.Str) (hlen : src.length ≤ 100000) (t1 t2 : Tok) (h35 : (cl src)[pos]? = some 35) (hbad : UBad (cl src) (pos + 1) 10 false words)
  (hraise : Flies base h₀ L m env outer words rest E s) :
  wpAny (model PR w) A (call (.ref 86) [.str src t1, .int pos t2]) Q E s := by
  have hpl : pos < src.length := by
    have := (List.getElem?_eq_some_iff.mp h35).1
    rwa [cl_len] at this
  have hit : Txt.item src (pos : Int) = one 35 := item_at (by simpa [cl] using h35)
  have kf0 : PySem.Challenge.rw_nb0113_01 = PySem.Challenge.rw_nb0113_01 ∧ KK = KK := by (k_fill; exact ⟨rfl, rfl⟩)
  clear kf0
  refine wpAny_call ?_
  k_dflt (refine' code_def ?k1 ?k2 ?k3 ?k4 ?k5 ?kA ?kF ?kK ?k6 ?k7 ?k8 ?k9 ?kB ?_ ?c2 ?c3 ?c4 ?c5; (case kA => exact hA); (case kF => exact hf); (case kK => assumption); (case k1 => k_asm); (case k2 => k_asm); (case k3 => k_asm); (case k4 => k_asm); (case k5 => k_asm); (case k6 => k_is); (case k7 => k_is); (case k8 => omega); (case k9 => exact BindsTo.of_eq rfl); (case c5 => decide); (case kB => exact locs rfl); (case c2 => exact rfl); (case c3 => exact rfl); (case c4 => exact rfl); k_whole)
  intro g' L' h' FG' F' N' B' X' T'
  have hS' := froz_keeps hS FG'.keep
  replace F' : Fr g' L' h' (fun y => List.lookup y [(Str.ofString "pos", .int pos t2), (Str.ofString "src", .str src t1)]) := F'
  (with_unfolding_all show wpAny _ _ (execs [_, _, _] _) _ _ _)
  (try dsimp only); (try k_lift B'); (try k_fold)
  k_steps
  · refine Halt.out ?_
    rename Fr g' L' _ _ => F₂
    rename News g' L' _ _ => N₂
    refine until_fly (pos := pos + 1) (c := 10) (b := false) B' F₂ X' N₂ TBt T' C hne XB TTB (Around.frames_deeper hA) rfl rfl (by show A.depth + 1 + 4 < _; omega) (by show A.units + 3 + 30 < _; omega) hh hS' hlen hbad rfl (by decide +kernel) rfl ?_
    intro g₉ e₉ t₉ u₉ tb₉ ot₉ h₉ tk₉ Fg₉ R₉ U₉ TB₉
    refine leave_onS B' Fg₉ R₉ U₉ ?_
    intro h₁₀ R₁₀ _ U₁₀
    exact hraise g' e₉ t₉ u₉ tb₉ ot₉ h₁₀ _ FG' R₁₀ U₁₀ TB₉
  · rename (Txt.item src (pos : Int) == Str.ofString "#") = false => hx
    rw [hit, show Str.ofString "#" = one 35 from by decide +kernel] at hx
    simp at hx
theorem scan_fly {w : World} {A A₀ : Around} {base h₀ : Heap} {outer : List Env} {env : Env} {L : Addr} {m : PySem.Str → Option Value} {tb rest : List (Addr × Obj)} {s : Shared} {Q E : Value → Shared → Prop} {mg mb : PySem.Str → Option Value} {mean : ExcName → Option Value}
  (B : Below A₀ base outer h₀) (F : Fr h₀ L s.heap m) (X : (KK w.params).In h₀) (N : News h₀ L s.heap (tb ++ rest)) (TBt : TB tb) (T : Top topProg LG mean mg mb h₀) (C : CodeHd base 106 102) (hne : ∀ p ∈ rest, p.1 ≠ 102)
  (XB : (KK w.params).In base) (TTB : Top topProg LG mean mg mb base)
  (hA : A.frames = some (env :: outer)) (hf : env.frame = some L) (hke : env.scope.kind = .function) (hd : A.depth + 6 < recursionLimit) (hu : A.units + 50 < cLine) (hh : A.handled = none)
  (hS : FrozAt (strKind PR w) h₀ 43 illS 32)
  (hW : FrozAt (strKind PR w) h₀ 52 wsS 3) (src : PySem.Str) (pos q : Nat) (words : PySem.Str) (hlen : src.length ≤ 100000) (t1 t2 : Tok) (hws : Ws (cl src) pos q) (h35 : (cl src)[q]? = some 35) (hbad : UBad (cl src) (q + 1) 10 false words)
  (hraise : Flies base h₀ L m env outer words rest E s) :
  wpAny (model PR w) A (call (.ref 93) [.str src t1, .int pos t2]) Q E s := by
  have kf0 : PySem.Challenge.rw_nb0113_01 = PySem.Challenge.rw_nb0113_01 ∧ KK = KK := by (k_fill; exact ⟨rfl, rfl⟩)
  clear kf0
  refine wpAny_call ?_
  k_dflt (refine' code_def ?k1 ?k2 ?k3 ?k4 ?k5 ?kA ?kF ?kK ?k6 ?k7 ?k8 ?k9 ?kB ?_ ?c2 ?c3 ?c4 ?c5; (case kA => exact hA); (case kF => exact hf); (case kK => assumption); (case k1 => k_asm); (case k2 => k_asm); (case k3 => k_asm); (case k4 => k_asm); (case k5 => k_asm); (case k6 => k_is); (case k7 => k_is); (case k8 => omega); (case k9 => exact BindsTo.of_eq rfl); (case c5 => decide); (case kB => exact locs rfl); (case c2 => exact rfl); (case c3 => exact rfl); (case c4 => exact rfl); k_whole)
  intro g' L' h' FG' F' N' B' X' T'
  have hS' := froz_keeps hS FG'.keep
  have hW' := froz_keeps hW FG'.keep
  replace F' : Fr g' L' h' (fun y => List.lookup y [(Str.ofString "pos", .int pos t2), (Str.ofString "src", .str src t1)]) := F'
  (with_unfolding_all show wpAny _ _ (execs [_] _) _ _ _)
  (try dsimp only); (try k_lift B'); (try k_fold)
  walk1
  walk1
  refine While_inv2 (fun n m₁ news₁ => news₁ = tb ++ rest ∧ m₁ (Str.ofString "src") = some (.str src t1) ∧ m₁ (Str.ofString "pos") = some (.int pos t2)) (n₀ := 0) F' N' ?h0 ?turn ?hE
  case h0 => exact ⟨rfl, rfl, rfl⟩
  case turn =>
    rintro n m₁ news₁ h₁ tk₁ F₁ N₁ ⟨rfl, hm1, hm2⟩
    clear F' N'
    rw [← map_self hm1, ← map_self hm2] at F₁
    have hpl : q < src.length := by
      have := (List.getElem?_eq_some_iff.mp h35).1
      rwa [cl_len] at this
    obtain ⟨hw1, hw2, hw3⟩ := hws
    k_steps
    refine Halt.out ?_
    rename Fr g' L' _ _ => F₂
    rename News g' L' _ _ => N₂
    refine skip_chars_ok B' F₂ X' N₂ T' (Around.frames_deeper hA) rfl rfl (by show A.depth + 1 + 1 < _; omega) (by show A.units + 3 + 8 < _; omega) hW' src pos q hlen t1 _ (fun j h1 h2 => by simpa [cl] using hw2 j h1 h2) hw1 (by simpa [cl] using hw3) ?_
    intro t₂ h₂ tk₂ F₃ N₃
    clear F₂ N₂
    k_steps
    refine Halt.out ?_
    rename Fr g' L' _ _ => F₂
    rename News g' L' _ _ => N₂
    refine comment_fly B' F₂ X' N₂ TBt T' C hne XB TTB (Around.frames_deeper hA) rfl rfl (by show A.depth + 1 + 5 < _; omega) (by show A.units + 3 + 40 < _; omega) hh hS' src q words hlen t1 _ h35 hbad ?_
    intro g₉ e₉ t₉ u₉ tb₉ ot₉ h₉ tk₉ Fg₉ R₉ U₉ TB₉
    refine leave_onS B' Fg₉ R₉ U₉ ?_
    intro h₁₀ R₁₀ _ U₁₀
    exact hraise g' e₉ t₉ u₉ tb₉ ot₉ h₁₀ _ FG' R₁₀ U₁₀ TB₉
  case hE => passes_own
theorem lit_fly {w : World} {A A₀ : Around} {base h₀ : Heap} {outer : List Env} {env : Env} {L : Addr} {m : PySem.Str → Option Value} {tb rest : List (Addr × Obj)} {s : Shared} {Q E : Value → Shared → Prop} {mg mb : PySem.Str → Option Value} {mean : ExcName → Option Value}
  (B : Below A₀ base outer h₀) (F : Fr h₀ L s.heap m) (X : (KK w.params).In h₀) (N : News h₀ L s.heap (tb ++ rest)) (TBt : TB tb) (T : Top topProg LG mean mg mb h₀) (C : CodeHd base 106 102) (hne : ∀ p ∈ rest, p.1 ≠ 102)
  (XB : (KK w.params).In base) (TTB : Top topProg LG mean mg mb base)
  (hA : A.frames = some (env :: outer)) (hf : env.frame = some L) (hke : env.scope.kind = .function) (hd : A.depth + 5 < recursionLimit) (hu : A.units + 40 < cLine) (hh : A.handled = none)
  (hS : FrozAt (strKind PR w) h₀ 43 illS 32)
  (src : PySem.Str) (pos : Nat) (words : PySem.Str) (hlen : src.length ≤ 100000) (t1 t2 : Tok) (hpl : pos < src.length) (hbad : UBad (cl src) (pos + 1) 39 true words)
  (hraise : Flies base h₀ L m env outer words rest E s) :
  wpAny (model PR w) A (call (.ref 100) [.str src t1, .int pos t2]) Q E s := by
  have kf0 : PySem.Challenge.rw_nb0113_01 = PySem.Challenge.rw_nb0113_01 ∧ KK = KK := by (k_fill; exact ⟨rfl, rfl⟩)
  clear kf0
  refine wpAny_call ?_
  k_dflt (refine' code_def ?k1 ?k2 ?k3 ?k4 ?k5 ?kA ?kF ?kK ?k6 ?k7 ?k8 ?k9 ?kB ?_ ?c2 ?c3 ?c4 ?c5; (case kA => exact hA); (case kF => exact hf); (case kK => assumption); (case k1 => k_asm); (case k2 => k_asm); (case k3 => k_asm); (case k4 => k_asm); (case k5 => k_asm); (case k6 => k_is); (case k7 => k_is); (case k8 => omega); (case k9 => exact BindsTo.of_eq rfl); (case c5 => decide); (case kB => exact locs rfl); (case c2 => exact rfl); (case c3 => exact rfl); (case c4 => exact rfl); k_whole)
  intro g' L' h' FG' F' N' B' X' T'
  have hS' := froz_keeps hS FG'.keep
  replace F' : Fr g' L' h' (fun y => List.lookup y [(Str.ofString "pos", .int pos t2), (Str.ofString "src", .str src t1)]) := F'
  (with_unfolding_all show wpAny _ _ (execs [_, _, _, _] _) _ _ _)
  (try dsimp only); (try k_lift B'); (try k_fold)
  k_steps
  refine Halt.out ?_
  rename Fr g' L' _ _ => F₂
  rename News g' L' _ _ => N₂
  refine until_fly (pos := pos + 1) (c := 39) (b := true) B' F₂ X' N₂ TBt T' C hne XB TTB (Around.frames_deeper hA) rfl rfl (by show A.depth + 1 + 4 < _; omega) (by show A.units + 3 + 30 < _; omega) hh hS' hlen hbad rfl (by decide +kernel) rfl ?_
  intro g₉ e₉ t₉ u₉ tb₉ ot₉ h₉ tk₉ Fg₉ R₉ U₉ TB₉
  refine leave_onS B' Fg₉ R₉ U₉ ?_
  intro h₁₀ R₁₀ _ U₁₀
  exact hraise g' e₉ t₉ u₉ tb₉ ot₉ h₁₀ _ FG' R₁₀ U₁₀ TB₉
end Mine
end
section
open PySem PySem.W PyProof.Rows PySem.Calls
set_option maxHeartbeats 4000000
namespace Mine
section
variable {prog : Program} {w : World} {A : Around} {E : Value → Shared → Prop} {s : Shared}
theorem unpack_bad {l : Addr} {items : Array Value} {Q : List Value → Shared → Prop} (hh : A.handled = none) (hl : s.heap.IsList l items) (hsz : items.size = 1 ∨ items.size = 3)
    (hE : ∀ h₁ h' tk e, Heap.ExtBut s.heap.objs.size s.heap h₁ → Heap.NewExc h₁ h' e "ValueError" → E (.ref e) { s with heap := h', toks := tk }) : wpAny (model prog w) A (unpackItems (.ref l) 2 none) Q E s := by
  have hlt : l ≠ s.heap.objs.size := by obtain ⟨o, ho, _⟩ := hl; exact Nat.ne_of_lt (Heap.lt_size ho)
  unfold unpackItems
  refine wpAny_bind ?_
  unfold notIterableAtAll
  refine wpAny_bind (wpAny_specialOf hl.typeIs slot_list_iter.lookup ?_)
  refine wpAny_pure ?_
  simp only [Bool.false_eq_true, if_false]
  refine wpAny_bind (wpAny_holding (wpAny_pyIter_list hl ?_))
  rcases hsz with hsz | hsz
  · refine wpAny_bind (wpAny_holding ?_)
    show wpAny _ _ (pyNext (.ref _) >>= _) _ E _
    refine wpAny_bind (wpAny_pyNext_list_item (i := 0) ⟨_, Heap.get?_push_size _ rfl, rfl, rfl⟩ (hl.push _) (x := items[0]'(by omega)) (by simp) fun h₁ hit₁ hs₁ => ?_)
    have hl₁ : h₁.IsList l items := (hl.push _).extBut hs₁.extBut hlt
    refine wpAny_bind (wpAny_holding ?_)
    show wpAny _ _ (pyNext (.ref _) >>= _) _ E _
    refine wpAny_bind (wpAny_pyNext_list_end hh hit₁ hl₁ (by simp; omega) fun h₂ he₂ => ?_)
    refine wpAny_pure (wpAny_pure ?_)
    rw [if_pos (by simp)]
    refine wpAny_bind (wpAny_rule (wpAny_bind ?_))
    refine wpAny_raiseErrorMade plainExc_ValueError hh (fun h' tk e hx => hE h₂ h' tk e (fun b o hb q => he₂ b o hb (hs₁.extBut b o hb (Heap.get?_push_of_some _ q))) hx) ?_
    show (Str.ofString (s!"not enough values to unpack (expected {2}, got {1})")).length ≤ sizeLine
    decide +kernel
  · refine wpAny_bind (wpAny_holding (kun_draw hlt 2 0 _ _ ⟨_, Heap.get?_push_size _ rfl, rfl, rfl⟩ (hl.push _) (by omega) fun h₁ hit₁ hs₁ => ?_))
    have hl₁ : h₁.IsList l items := (hl.push _).extBut hs₁.extBut hlt
    have hlen : (List.take 2 (List.drop 0 items.toList)).length = 2 := by simp; omega
    rw [if_neg (by omega)]
    refine wpAny_bind (wpAny_holding (wpAny_pyNext_list_item hit₁ hl₁ (x := items[2]'(by omega)) (by simp) fun h₂ hit₂ hs₂ => ?_))
    simp only [Option.isSome_some, if_true]
    refine wpAny_bind (wpAny_rule (wpAny_bind ?_))
    refine wpAny_raiseErrorMade plainExc_ValueError hh (fun h' tk e hx => hE h₂ h' tk e (fun b o hb q => hs₂.extBut b o hb (hs₁.extBut b o hb (Heap.get?_push_of_some _ q))) hx) ?_
    show (Str.ofString (s!"too many values to unpack (expected {2})")).length ≤ sizeLine
    decide +kernel
end
theorem raise_none_TE {w : World} {A : Around} {env : Env} {x : PySem.Str} {np cpos pos p2 : Pos} {kk : Nat} {args : List PySem.Expr} {Q : Flow → Shared → Prop} {E : Value → Shared → Prop} {s : Shared} {e0 : Addr} (hh : A.handled = some (.ref e0))
    (hplain : (backTo cpos (starEach args env)).any (·.1) = false)
    (h : wpAny (model PR w) A (eval (.Name x np) env) (fun f s₁ => f = .type "TypeError" ∧ wpAny (model PR w) A (evalArgs (.type "TypeError") true (backTo cpos (starEach args env)) [])
      (fun a s₂ => a.kw = [] ∧ a.pos.length ≤ sizeLine ∧ ∃ oe0 ws, s₂.heap.get? e0 = some oe0 ∧ oe0.data = .fields ws ∧ ws[2]? = some .none ∧ ∀ h' e, MadeCtx s₂.heap h' e (.type "TypeError") a.pos → E (.ref e) { s₂ with heap := h' }) E s₁) E s) :
    wpAny (model PR w) A (exec (.Raise (some (.Call (.Name x np) args [] cpos)) (some (.Constant .none kk p2)) pos) env) Q E s := by
  rw [arm_exec_Raise]
  simp only [evalOpt, Option.map]
  refine wpAny_bind (wpAny_standAt ?_)
  unfold raiseStmt
  refine wpAny_bind (wpAny_bind (wpAny_Call_ofName (wpAny_mono h (fun f s₁ h₁ => ?_) fun _ _ x => x)))
  obtain ⟨rfl, h₁⟩ := h₁
  refine callWith_excType hplain (wpAny_mono h₁ (fun a s₂ h₂ => ?_) fun _ _ x => x)
  obtain ⟨apos, akw⟩ := a
  obtain ⟨hkw, hlen, oe0, ws, h0, hd, h2, hE⟩ := h₂
  obtain rfl : akw = [] := hkw
  obtain ⟨hq, g, d, tk, os⟩ := s₂
  refine wpAny_call_exc F.excCall_TypeError (hrest := hlen) fun hp e M => ?_
  obtain ⟨t, he, htn, ht⟩ := M.there
  have hsub := F.excRaise_TypeError.isExc
  have hmeta := F.excRaise_TypeError.plainMeta
  refine wpAny_bind (wpAny_standAt (wpAny_pure ?_))
  dsimp only
  refine wpAny_bind (wpAny_holding (wpAny_bind ?_))
  refine wpAny_mono (Q := fun v s₁ => v = .none ∧ s₁ = ⟨hp, g, d, tk, os⟩) (E := fun _ _ => False) (by wp_walk; exact ⟨rfl, rfl⟩) ?_ (fun _ _ x => x.elim)
  rintro v s₁ ⟨rfl, rfl⟩
  refine wpAny_bind (wpAny_standAt (wpAny_pure ?_))
  refine wpAny_bind (wpAny_pure ?_)
  refine wpAny_bind (wpAny_holding ?_)
  refine wpAny_mono (Q := fun v s₁ => v = .ref e ∧ s₁ = ⟨hp, g, d, tk, os⟩) (E := fun _ _ => False) (by
    unfold excFromValue
    repeat (first | refine wpAny_loadPart he ?_ | wp_step)
    exact ⟨rfl, rfl⟩) ?_ (fun _ _ x => x.elim)
  rintro v s₁ ⟨rfl, rfl⟩
  dsimp only
  rw [if_pos (show (Value.none == Value.none) = true from by decide)]
  refine wpAny_bind (wpAny_pure ?_)
  refine wpAny_bind (wpAny_setField he rfl (show 3 < 6 by omega) ?_)
  have he1 := Heap.get?_update_self (Obj.mapFields (·.setIfInBounds 3 Value.none)) he rfl
  refine wpAny_bind (wpAny_setField he1 rfl (show 4 < 6 by omega) ?_)
  have he2 := Heap.get?_update_self (Obj.mapFields (·.setIfInBounds 4 (Value.bool true))) he1 rfl
  have oth : ∀ b, b ≠ e → ((hp.update e (Obj.mapFields (·.setIfInBounds 3 Value.none))).update e (Obj.mapFields (·.setIfInBounds 4 (Value.bool true)))).get? b = hp.get? b := fun b hb => by
    rw [Heap.get?_update_other _ _ (Ne.symm hb), Heap.get?_update_other _ _ (Ne.symm hb)]
  generalize hqq : ((hp.update e (Obj.mapFields (·.setIfInBounds 3 Value.none))).update e (Obj.mapFields (·.setIfInBounds 4 (Value.bool true)))) = hp2 at he2 oth ⊢
  have hne : ∀ b o, hq.get? b = some o → b ≠ e := fun b o q z => by
    have hn : hq.get? e = none := M.new
    rw [← z, q] at hn
    cases hn
  have hk2 : ∀ b o, hq.get? b = some o → hp2.get? b = some o := fun b o q => (oth b (hne b o q)).trans (M.keeps b o q)
  replace he2 : hp2.get? e = some { cls := .type "TypeError", data := .fields #[.ref t, .none, .none, .none, .bool true, .none] } := he2
  repeat (first | refine wpAny_loadPart he2 ?_ | wp_step)
  refine newCtx hh (hne _ _ h0) he2 (hk2 _ _ h0) hd h2 ?_
  intro h' hk' he'
  refine hE h' e ⟨fun b o q => (hk' b (hne b o q)).trans (hk2 b o q), M.new, t, _, he', htn, ?_⟩
  have hte : t ≠ e := fun z => by
    have he0 := he
    rw [← z] at he0
    rw [ht] at he0
    have hz := congrArg Obj.data (Option.some.inj he0)
    cases hz
  exact (hk' t hte).trans ((oth t hte).trans ht)
def NonePost (e0 : Addr) (E : Value → Shared → Prop) (vs : List Value) (s₂ : Shared) : Prop :=
  vs.length ≤ sizeLine ∧ ∃ oe0 ws, s₂.heap.get? e0 = some oe0 ∧ oe0.data = .fields ws ∧ ws[2]? = some .none ∧ ∀ h' e, MadeCtx s₂.heap h' e (.type "TypeError") vs → E (.ref e) { s₂ with heap := h' }
theorem raise_none_TE' {w : World} {A : Around} {env : Env} {x : PySem.Str} {np cpos pos p2 : Pos} {kk : Nat} {e₀ : PySem.Expr} {rest : List PySem.Expr} {Q : Flow → Shared → Prop} {E : Value → Shared → Prop} {s : Shared} {e0 : Addr} (hh : A.handled = some (.ref e0))
    (h : wpAny (model PR w) A (eval (.Name x np) env) (fun f s₁ => f = .type "TypeError" ∧ wpAny (model PR w) A (spliced (backTo cpos (starEach (e₀ :: rest) env)))
      (NonePost e0 E) E s₁) E s)
    (he : starEach (e₀ :: rest) env = (false, eval e₀ env) :: starEach rest env := by rfl) (hplain : (backTo cpos (starEach rest env)).any (·.1) = false := by rfl) :
    wpAny (model PR w) A (exec (.Raise (some (.Call (.Name x np) (e₀ :: rest) [] cpos)) (some (.Constant .none kk p2)) pos) env) Q E s := by
  refine raise_none_TE hh (by rw [he]; show (false || (backTo cpos (starEach rest env)).any (·.1)) = false; rw [hplain]; rfl) (wpAny_mono h (fun f s₁ h₁ => ⟨h₁.1, ?_⟩) fun _ _ y => y)
  have h₂ := h₁.2
  rw [he] at h₂ ⊢
  exact Calls.evalArgs_plain (wpAny_mono h₂ (fun vs s₂ h₃ => ⟨rfl, h₃⟩) fun _ _ y => y)
inductive OptV : Value → Option PySem.Str → Prop
  | none : OptV .none none
  | some {x : PySem.Str} {t : Tok} (h : x.length ≤ 1000) : OptV (.str x t) (some x)
def nameOf (a b : Option PySem.Str) : PySem.Str := match b with
  | none => a.getD (Str.ofString "C")
  | some y => a.getD (Str.ofString "C") ++ Str.ofString "." ++ y
def localeT : PySem.Str := Str.ofString "Locale must be None, a string, or an iterable of two strings -- language code, encoding."
theorem name_tup {w : World} {A A₀ : Around} {base h₀ : Heap} {outer : List Env} {env : Env} {L : Addr} {m : PySem.Str → Option Value} {news : List (Addr × Obj)} {s : Shared} {Q E : Value → Shared → Prop} {mg mb : PySem.Str → Option Value} {mean : ExcName → Option Value}
  (B : Below A₀ base outer h₀) (F : Fr h₀ L s.heap m) (X : (KK w.params).In h₀) (T : Top topProg LG mean mg mb h₀)
  (hA : A.frames = some (env :: outer)) (hf : env.frame = some L) (hke : env.scope.kind = .function) (hd : A.depth + 2 < recursionLimit) (hu : A.units + 10 < cLine) (hh : A.handled = none)
  (D : Addr) (n : Nat) (x y : PySem.Str) (t1 t2 : Tok) (hx : x.length ≤ 1000) (hy : y.length ≤ 1000) (N : News h₀ L s.heap ((D, { cls := .type "tuple", data := .seq #[.str x t1, .str y t2] n }) :: news))
  (hret : ∀ t h' tk', Fr h₀ L h' m → News h₀ L h' ((D, { cls := .type "tuple", data := .seq #[.str x t1, .str y t2] n }) :: news) → Q (.str (x ++ Str.ofString "." ++ y) t) {s with heap := h', toks := tk'}) :
  wpAny (model PR w) A (call (.ref 21) [.ref D]) Q E s := by
  have kf0 : PySem.Challenge.rw_nb0113_01 = PySem.Challenge.rw_nb0113_01 ∧ KK = KK := by (k_fill; exact ⟨rfl, rfl⟩)
  clear kf0
  refine wpAny_call ?_
  k_dflt (refine' code_def ?k1 ?k2 ?k3 ?k4 ?k5 ?kA ?kF ?kK ?k6 ?k7 ?k8 ?k9 ?kB ?_ ?c2 ?c3 ?c4 ?c5; (case kA => exact hA); (case kF => exact hf); (case kK => assumption); (case k1 => k_asm); (case k2 => k_asm); (case k3 => k_asm); (case k4 => k_asm); (case k5 => k_asm); (case k6 => k_is); (case k7 => k_is); (case k8 => omega); (case k9 => exact BindsTo.of_eq rfl); (case c5 => decide); (case kB => exact locs rfl); (case c2 => exact rfl); (case c3 => exact rfl); (case c4 => exact rfl); k_whole)
  intro g' L' h' FG' F' N' B' X' T'
  replace F' : Fr g' L' h' (fun y => List.lookup y [(Str.ofString "localetuple", .ref D)]) := F'
  (with_unfolding_all show wpAny _ _ (execs [_] _) _ _ _)
  (try dsimp only); (try k_lift B'); (try k_fold)
  k_steps
  rename News g' L' _ _ => N₂
  refine unpackN_ (by k_asm) (by k_asm) (News.isTup N₂ (.head _)) hh rfl rfl ?_
  intro h₃ F₃ N₃
  clear F' N₂
  k_steps
  exact hret _ _ _ (by k_asm) (by k_asm)
theorem name_list {w : World} {A A₀ : Around} {base h₀ : Heap} {outer : List Env} {env : Env} {L : Addr} {m : PySem.Str → Option Value} {news : List (Addr × Obj)} {s : Shared} {Q E : Value → Shared → Prop} {mg mb : PySem.Str → Option Value} {mean : ExcName → Option Value}
  (B : Below A₀ base outer h₀) (F : Fr h₀ L s.heap m) (X : (KK w.params).In h₀) (T : Top topProg LG mean mg mb h₀)
  (hA : A.frames = some (env :: outer)) (hf : env.frame = some L) (hke : env.scope.kind = .function) (hd : A.depth + 2 < recursionLimit) (hu : A.units + 10 < cLine) (hh : A.handled = none)
  (D : Addr) (n : Nat) (v1 v2 : Value) (o1 o2 : Option PySem.Str) (hv1 : OptV v1 o1) (hv2 : OptV v2 o2) (N : News h₀ L s.heap ((D, { cls := .type "list", data := .seq #[v1, v2] n }) :: news))
  (hret : ∀ t h' tk', Fr h₀ L h' m → News h₀ L h' ((D, { cls := .type "list", data := .seq #[v1, v2] n }) :: news) → Q (.str (nameOf o1 o2) t) {s with heap := h', toks := tk'}) :
  wpAny (model PR w) A (call (.ref 21) [.ref D]) Q E s := by
  have kf0 : PySem.Challenge.rw_nb0113_01 = PySem.Challenge.rw_nb0113_01 ∧ KK = KK := by (k_fill; exact ⟨rfl, rfl⟩)
  clear kf0
  refine wpAny_call ?_
  k_dflt (refine' code_def ?k1 ?k2 ?k3 ?k4 ?k5 ?kA ?kF ?kK ?k6 ?k7 ?k8 ?k9 ?kB ?_ ?c2 ?c3 ?c4 ?c5; (case kA => exact hA); (case kF => exact hf); (case kK => assumption); (case k1 => k_asm); (case k2 => k_asm); (case k3 => k_asm); (case k4 => k_asm); (case k5 => k_asm); (case k6 => k_is); (case k7 => k_is); (case k8 => omega); (case k9 => exact BindsTo.of_eq rfl); (case c5 => decide); (case kB => exact locs rfl); (case c2 => exact rfl); (case c3 => exact rfl); (case c4 => exact rfl); k_whole)
  intro g' L' h' FG' F' N' B' X' T'
  replace F' : Fr g' L' h' (fun y => List.lookup y [(Str.ofString "localetuple", .ref D)]) := F'
  (with_unfolding_all show wpAny _ _ (execs [_] _) _ _ _)
  (try dsimp only); (try k_lift B'); (try k_fold)
  k_steps
  rename News g' L' _ _ => N₂
  refine kun_list (by k_asm) (by k_asm) (News.isList N₂ (.head _)) hh rfl rfl ?_
  intro h₃ F₃ N₃
  clear F' N₂
  cases hv1 <;> cases hv2 <;>
  · k_steps
    exact hret _ _ _ (by k_asm) (by k_asm)
theorem name_bad {w : World} {A A₀ : Around} {base h₀ : Heap} {outer : List Env} {env : Env} {L : Addr} {m : PySem.Str → Option Value} {news : List (Addr × Obj)} {s : Shared} {Q E : Value → Shared → Prop} {mg mb : PySem.Str → Option Value} {mean : ExcName → Option Value}
  (B : Below A₀ base outer h₀) (F : Fr h₀ L s.heap m) (X : (KK w.params).In h₀) (T : Top topProg LG mean mg mb h₀)
  (hA : A.frames = some (env :: outer)) (hf : env.frame = some L) (hke : env.scope.kind = .function) (hd : A.depth + 3 < recursionLimit) (hu : A.units + 20 < cLine) (hh : A.handled = none)
  (XB : (KK w.params).In base) (TTB : Top topProg LG mean mg mb base)
  (D : Addr) (n : Nat) (items : Array Value) (hsz : items.size = 1 ∨ items.size = 3) (N : News h₀ L s.heap ((D, { cls := .type "list", data := .seq items n }) :: news))
  (hraise : ∀ g e t u ot h' tk', Fr h₀ L g m → RaisedS base g (env :: outer) e (.type "TypeError") t [.str localeT u] (ot :: (D, { cls := .type "list", data := .seq items n }) :: news) h' → g.UpToSlots h' → E (.ref e) {s with heap := h', toks := tk'}) :
  wpAny (model PR w) A (call (.ref 21) [.ref D]) Q E s := by
  have kf0 : PySem.Challenge.rw_nb0113_01 = PySem.Challenge.rw_nb0113_01 ∧ KK = KK := by (k_fill; exact ⟨rfl, rfl⟩)
  clear kf0
  refine wpAny_call ?_
  k_dflt (refine' code_def ?k1 ?k2 ?k3 ?k4 ?k5 ?kA ?kF ?kK ?k6 ?k7 ?k8 ?k9 ?kB ?_ ?c2 ?c3 ?c4 ?c5; (case kA => exact hA); (case kF => exact hf); (case kK => assumption); (case k1 => k_asm); (case k2 => k_asm); (case k3 => k_asm); (case k4 => k_asm); (case k5 => k_asm); (case k6 => k_is); (case k7 => k_is); (case k8 => omega); (case k9 => exact BindsTo.of_eq rfl); (case c5 => decide); (case kB => exact locs rfl); (case c2 => exact rfl); (case c3 => exact rfl); (case c4 => exact rfl); k_whole)
  intro g' L' h' FG' F' N' B' X' T'
  replace F' : Fr g' L' h' (fun y => List.lookup y [(Str.ofString "localetuple", .ref D)]) := F'
  (with_unfolding_all show wpAny _ _ (execs [_] _) _ _ _)
  (try dsimp only); (try k_lift B'); (try k_fold)
  k_steps
  rename News g' L' _ _ => N₂
  rename Fr g' L' _ _ => F₂
  rw [assign_Tuple]
  refine wpAny_bind (wpAny_standAt ?_)
  unfold unpack
  refine wpAny_bind (wpAny_holding (unpack_bad hh (News.isList N₂ (.head _)) hsz ?_))
  intro h₃ h₄ tk₄ e₄ he hx
  have F₃ := Fr.extBut F₂ he (Nat.le_refl _)
  have N₃ := News.extBut N₂ he (Nat.le_refl _)
  clear F₂ N₂
  refine caught_fresh hx F₃ N₃ B' XB TTB (by kts_test) ?_
  intro h₅ g₅ oe ws T₅ F₅ N₅ d1 d2 K₅ X₅ P₅
  clear hx F₃ N₃ T' X' B' he
  dsimp only
  (try k_lift K₅); (try k_fold)
  walk1
  refine raise_none_TE' rfl ?_
  k_steps
  rename Fr g₅ L' _ _ => F₆
  rename News g₅ L' _ _ => N₆
  refine ⟨by size_fits, oe, ws, (N₆ _ (.head _)).1, d1, d2, ?_⟩
  intro h₈ e₈ M₈
  refine leave_ctx K₅ M₈ F₆ N₆ T₅ ?_
  intro h₉ t₉ R₉ U₉
  exact hraise g' e₈ t₉ _ (e₄, oe) h₉ _ FG' R₉ U₉
end Mine
end
section
open PySem PySem.W PyProof.Rows PySem.Calls
set_option maxHeartbeats 4000000
namespace Mine
section
variable {prog : Program} {w : World} {A : Around} {E : Value → Shared → Prop} {s : Shared} {env : Env} {h₀ : Heap} {x : PySem.Str} {body : List Stmt} {Q : Flow → Shared → Prop}
theorem UnrPost.mono {L I : Addr} {s₁ s₂ : Shared} {it : Obj} {r r' : (PySem.Str → Option Value) → List (Addr × Obj) → Prop} {f : Flow} (h : ∀ m n, r m n → r' m n) (p : UnrPost h₀ L s₁ I it r Q f s₂) : UnrPost h₀ L s₁ I it r' Q f s₂ := by
  cases f with
  | ret v => exact p
  | brk => exact p
  | next => obtain ⟨h', tk, m', news', e, F, N, o, q⟩ := p; exact ⟨h', tk, m', news', e, F, N, o, h _ _ q⟩
  | cont => obtain ⟨h', tk, m', news', e, F, N, o, q⟩ := p; exact ⟨h', tk, m', news', e, F, N, o, h _ _ q⟩
theorem rest_ind {I : Addr} {a : Int} {n : Nat} (J : Nat → Nat → (PySem.Str → Option Value) → List (Addr × Obj) → Prop)
    (zero : ∀ i m news h tk, J 0 i m news → Fr h₀ env.locals h m → News h₀ env.locals h news → Q .next { s with heap := h, toks := tk })
    (turn : ∀ k i m news t h tk, J (k + 1) i m news → Fr h₀ env.locals h (fun y => if y = x then some (.int (a + (i : Int)) t) else m y) →
      News h₀ env.locals h ((I, itR (a + ((i + 1 : Nat) : Int)) ((n : Int) - ((i + 1 : Nat) : Int))) :: news) →
      wpAny (model prog w) A (execs body env) (UnrPost h₀ env.locals { s with heap := h, toks := tk } I (itR (a + ((i + 1 : Nat) : Int)) ((n : Int) - ((i + 1 : Nat) : Int))) (J k (i + 1)) Q) E { s with heap := h, toks := tk }) :
    ∀ k i m news, J k i m news → RangeRest prog w A E h₀ env x body Q s I a n k i m news
  | 0, i, m, news, hJ => RangeRest.zero fun h tk F N => zero i m news h tk hJ F N
  | k + 1, i, m, news, hJ => RangeRest.succ fun t h tk F N =>
    wpAny_mono (turn k i m news t h tk hJ F N) (fun _ _ p => UnrPost.mono (fun m n q => rest_ind J zero turn k (i + 1) m n q) p) fun _ _ x => x
theorem comp_ind {L : Addr} {m : PySem.Str → Option Value} {elt : PySem.Expr} {scope : Scope} {clo : List (PySem.Str × Addr)} {S : List (Addr × Obj) → Prop} {P : Nat → Value → Prop} {Fin : List Value → List (Addr × Obj) → Prop}
    (J : Nat → Nat → List Value → List (Addr × Obj) → Prop) (zero : ∀ i ys news, J 0 i ys news → Fin ys news)
    (turn : ∀ k i ys news v I oI C oC D m₂ h tk (E' : Value → Shared → Prop), J (k + 1) i ys news → P i v → LCg.NsObj oC m₂ → m₂ x = some v → Fr h₀ L h m → News h₀ L h ((I, oI) :: (C, oC) :: (D, LCg.lst ys) :: news) → LCg.Off3 I C D news → ((@Ne Nat I C) ∧ (@Ne Nat I D) ∧ (@Ne Nat C D)) →
      wpAny (model prog w) A (eval elt (compEnvC scope clo C env)) (LCg.CompEnd h₀ L m { s with heap := h, toks := tk } I oI C oC D (LCg.lst ys) S (fun y news' => J k (i + 1) (ys ++ [y]) news')) E' { s with heap := h, toks := tk }) :
    ∀ k i ys news, J k i ys news → LCg.CompRest prog w A h₀ L m env elt x scope clo s S P Fin k i ys news
  | 0, i, ys, news, hJ => LCg.CompRest.zero (zero i ys news hJ)
  | k + 1, i, ys, news, hJ => LCg.CompRest.succ fun v I oI C oC D m₂ h tk E' h1 h2 h3 h4 h5 h6 h7 =>
    wpAny_mono (turn k i ys news v I oI C oC D m₂ h tk E' hJ h1 h2 h3 h4 h5 h6 h7) (fun y s₂ p => by
      obtain ⟨h', tk', news', e, F, N, o, hS, r⟩ := p
      exact ⟨h', tk', news', e, F, N, o, hS, comp_ind J zero turn k (i + 1) (ys ++ [y]) news' r⟩) fun _ _ x => x
end
end Mine
end
section
open PySem PySem.W PyProof.Rows PySem.Calls
set_option maxHeartbeats 4000000
namespace Mine
open Builtin Builtin.Str Builtin.BaseException Builtin.Exceptions in
theorem bexcStr_ref {prog : Program} {w : World} {A : Around} {E : Value → Shared → Prop} {s : Shared} {e t0 : Addr} {o : Obj} {ws : Array Value} {m : PySem.Str} {tk : Tok} {Q : Fin → Shared → Prop} (ho : s.heap.get? e = some o) (hd : o.data = .fields ws) (h0 : ws[0]? = some (.ref t0)) (ht : s.heap.TupAt t0 [.str m tk]) (hq : Q (.done (.ret (.str m tk))) s) :
    wpAny (model prog w) A (Builtin.«BaseException.__str__» ⟨[.ref e], []⟩) Q E s := by
  have key : ∀ {Q : Value × List Value → Shared → Prop}, Q (.ref t0, [.str m tk]) s → wpAny (model prog w) A (bexcArgs (.ref e)) Q E s := by
    intro Q hq
    obtain ⟨ot, k, hto, _, htd⟩ := ht
    unfold bexcArgs
    refine wpAny_bind (wpAny_field ho hd h0 (wpAny_bind (wpAny_seqItems hto htd ?_)))
    exact wpAny_pure hq
  unfold Builtin.«BaseException.__str__»
  repeat (first | with_reducible refine key ?_ | wp_step)
  exact hq
open Builtin Builtin.Str in
theorem str_own {w : World} {A : Around} {E : Value → Shared → Prop} {s : Shared} {e t0 : Addr} {o : Obj} {ws : Array Value} {m : PySem.Str} {tk : Tok} {Q : Value → Shared → Prop} (hu : A.units + 3 < cLine) (X : (KK w.params).In s.heap)
    (ho : s.heap.get? e = some o) (hc : o.cls = .ref 62) (hd : o.data = .fields ws) (h0 : ws[0]? = some (.ref t0)) (ht : s.heap.TupAt t0 [.str m tk]) (h : Q (.str m tk) s) : wpAny (model PR w) A (call (.type "str") [.ref e]) Q E s := by
  have hs : findIn (KK w.params) (.ref 62) (Str.ofString "__str__") = some (some (.builtin "BaseException.__str__")) := by kernel_rfl
  have hm : mroIn (KK w.params) 62 (.type "BaseException") = some true := by kernel_rfl
  have ty : Looks (model PR w) s.heap (typeOf (.ref e)) (.ref 62) := by
    rw [← hc]
    exact (Looks.ld ho).andThen .now
  have hb : ∀ self, bindSpecial (.builtin "BaseException.__str__") self = pure (.builtin "BaseException.__str__", [self]) := F.excStr_ValueError.str.bind
  refine callType_codes (T := "str") (Bi := Builtin.«object.__init__») (Q₁ := fun r s₁ => ∃ y u, r = .str y u ∧ Q r s₁) PySem.F.called_str (PySem.F.typeCall_str_1 _) PySem.F.entry_object_init ?_ ?_
  · refine codeAny_of_tree ?_
    show wpAny _ A.in1.in1 (do checkBuiltinCall "str.__new__" ⟨[.type "str", .ref e], []⟩; again (.builtin "str.__new__" ⟨[.type "str", .ref e], []⟩)) _ _ s
    refine wpAny_bind (wpAny_of_eq (PySem.F.newCall_str_1 _) (wpAny_pure ⟨plainId_quiet (by decide +kernel) _, codeAny_builtin PySem.F.entry_str_new ?_⟩))
    rw [Around.under_plainId (by decide +kernel) _]
    rw [str_new_tree]
    refine wpAny_bind (wpAny_pure ?_)
    refine wpAny_bind (wpAny_of_eq isSubtype_str_str ?_)
    have key : wpAny (model PR w) A.in1.in1 (PySem.Builtin.Str.strOf (.ref e)) (fun r s₁ => ∃ y u, r = .str y u ∧ Q r s₁) E s := by
      unfold PySem.Builtin.Str.strOf
      rw [show isExactStr (.ref e) = false from rfl]
      refine wpAny_bind (m := cRoomFor _ _) (wpAny_cRoomFor (by show A.units + 1 + 1 < _; omega) ?_)
      refine wpAny_bind (m := callSpecial? (.ref e) (Str.ofString "__str__")) ?_
      refine wpAny_bind (wpAny_bind (ty.here ((looks_findIn X hs).here (wpAny_holding (wpAny_bind ((Looks.of_pure (hb _)).here (wpAny_bind ?_)))))))
      refine wpAny_mono (Q := fun v s' => v = .str m tk ∧ s' = s) (E := fun _ _ => False) ?_ (fun v s' z => ?_) (fun _ _ x => x.elim)
      · refine wpAny_call (codeAny_call_builtin F.excStr_ValueError.str.plain F.entry_bexc_str (check_slot (i := "BaseException.__str__") (owner := "BaseException") (n := "__str__") (by decide +kernel) (by decide +kernel) (ty.andThen (looks_mroIn X hm)) (F.args_bexc_str _) ?_))
        exact bexcStr_ref ho hd h0 ht ⟨rfl, rfl⟩
      · obtain ⟨rfl, rfl⟩ := z
        exact wpAny_pure (wpAny_pure ⟨_, _, rfl, h⟩)
    exact wpAny_bind (wpAny_mono key (fun r s₁ hr => wpAny_pure hr) fun _ _ y => y)
  · rintro obj s₁ ⟨y, u, rfl, hq⟩
    exact ⟨typeIs_str _ _ _, PySem.F.args_object_init_2 _ _, object_init_meets PySem.F.called_str.init.lookup PySem.F.called_str.made (by decide) PR w A.in1 _ s₁ ⟨typeIs_str _ _ _, rfl, hq⟩⟩
theorem str_own_got {w : World} {A : Around} {E : Value → Shared → Prop} {s : Shared} {g : Heap} {L e t0 : Addr} {news : List (Addr × Obj)} {m : PySem.Str} {tk : Tok} {Q : Value → Shared → Prop} (hu : A.units + 3 < cLine) (X : (KK w.params).In s.heap)
    (N : News g L s.heap news) (G : Got news e t0 (.ref 62) [.str m tk]) (h : Q (.str m tk) s) : wpAny (model PR w) A (call (.type "str") [.ref e]) Q E s := by
  obtain ⟨oe, ot, ws, nt, h1, h2, hc, hd, h0, htc, htd⟩ := G
  exact str_own hu X (N.get h1) hc hd h0 ⟨ot, nt, N.get h2, htc, htd⟩ h
end Mine
end
section
open PySem PySem.W PyProof.Rows PySem.Calls
set_option maxHeartbeats 4000000
namespace Mine
def cellT (l : List Nat) (p i : Nat) : PySem.Str := ⟨((l.drop (p + 1)).take (i - (p + 1))).toArray⟩
/-- from p a piece x is read, up to r -/
def Piece (l : List Nat) (p : Nat) (x : PySem.Str) (r : Nat) : Prop :=
  ∃ q i, Scan l p q ∧ q < i ∧ l[i]? = some 39 ∧ (∀ k, q < k → k < i → l[k]? ≠ some 39) ∧ (∀ k d, q < k → k < i → l[k]? = some d → ill d = false) ∧ x = cellT l q i ∧ r = i + 1
def Fault (l : List Nat) (p : Nat) (words : PySem.Str) : Prop :=
  (∃ q, Ws l p q ∧ l[q]? = some 35 ∧ UBad l (q + 1) 10 false words) ∨ (∃ q, Scan l p q ∧ q < l.length ∧ UBad l (q + 1) 39 true words)
/-- how the reading goes: the pieces, then their end or the fault's words -/
inductive Run (l : List Nat) : Nat → List PySem.Str → Nat ⊕ PySem.Str → Prop
  | done {p : Nat} : Run l p [] (.inl p)
  | piece {p q : Nat} {x : PySem.Str} {xs : List PySem.Str} {o : Nat ⊕ PySem.Str} (h : Piece l p x q) (hx : x.length ≤ 1000) (r : Run l q xs o) : Run l p (x :: xs) o
  | bad {p : Nat} {x : PySem.Str} {words : PySem.Str} (h : Fault l p words) : Run l p [x] (.inr words)
/-- values that are these strings -/
inductive StrsV : List Value → List PySem.Str → Prop
  | nil : StrsV [] []
  | snoc {vs : List Value} {xs : List PySem.Str} {x : PySem.Str} {t : Tok} (h : StrsV vs xs) (hx : x.length ≤ 1000) : StrsV (vs ++ [.str x t]) (xs ++ [x])
theorem StrsV.len {vs : List Value} {xs : List PySem.Str} (h : StrsV vs xs) : vs.length = xs.length := by
  induction h with
  | nil => rfl
  | snoc _ _ ih => simp [ih]
theorem StrsV.toks {vs : List Value} {xs : List PySem.Str} (h : StrsV vs xs) : ∃ ts : List Tok, ts.length = xs.length ∧ vs = List.zipWith (fun x t => Value.str x t) xs ts := by
  induction h with
  | nil => exact ⟨[], rfl, rfl⟩
  | @snoc vs xs x t _ _ ih =>
    obtain ⟨ts, h1, h2⟩ := ih
    refine ⟨ts ++ [t], by simp [h1], ?_⟩
    rw [List.zipWith_append h1.symm, ← h2]
    rfl
theorem StrsV.lens {vs : List Value} {xs : List PySem.Str} (h : StrsV vs xs) : ∀ x ∈ xs, x.length ≤ 1000 := by
  induction h with
  | nil => intro x hx; cases hx
  | snoc _ hx ih =>
    intro y hy
    rcases List.mem_append.mp hy with h | h
    · exact ih y h
    · rw [List.mem_singleton.mp h]; exact hx
theorem StrsV.two {vs : List Value} {x y : PySem.Str} (h : StrsV vs [x, y]) : ∃ t u, vs = [.str x t, .str y u] ∧ x.length ≤ 1000 ∧ y.length ≤ 1000 := by
  obtain ⟨ts, h1, h2⟩ := h.toks
  have hl := h.lens
  match ts, h1 with
  | [t, u], _ => exact ⟨t, u, h2, hl x (.head _), hl y (.tail _ (.head _))⟩
theorem StrsV.one {vs : List Value} {x : PySem.Str} (h : StrsV vs [x]) : ∃ t, vs = [.str x t] ∧ x.length ≤ 1000 := by
  obtain ⟨ts, h1, h2⟩ := h.toks
  have hl := h.lens
  match ts, h1 with
  | [t], _ => exact ⟨t, h2, hl x (.head _)⟩
theorem StrsV.three {vs : List Value} {x y z : PySem.Str} (h : StrsV vs [x, y, z]) : ∃ t u v, vs = [.str x t, .str y u, .str z v] ∧ x.length ≤ 1000 ∧ y.length ≤ 1000 ∧ z.length ≤ 1000 := by
  obtain ⟨ts, h1, h2⟩ := h.toks
  have hl := h.lens
  match ts, h1 with
  | [t, u, v], _ => exact ⟨t, u, v, h2, hl x (.head _), hl y (.tail _ (.head _)), hl z (.tail _ (.tail _ (.head _)))⟩
theorem len3 {α : Type} {l : List α} (h : 1 ≤ l.length ∧ l.length ≤ 3) : (∃ x, l = [x]) ∨ (∃ x y, l = [x, y]) ∨ ∃ x y z, l = [x, y, z] := by
  match l, h with
  | [x], _ => exact .inl ⟨x, rfl⟩
  | [x, y], _ => exact .inr (.inl ⟨x, y, rfl⟩)
  | [x, y, z], _ => exact .inr (.inr ⟨x, y, z, rfl⟩)
theorem News.sub {g h : Heap} {L : Addr} {l l' : List (Addr × Obj)} (N : News g L h l) (s : ∀ p ∈ l', p ∈ l) : News g L h l' := fun p hp => N p (s p hp)
def optS (x : PySem.Str) : Option PySem.Str := if x = Str.empty then none else some x
/-- the two answers for the pieces -/
def ansOf : List PySem.Str → PySem.Str × PySem.Str
  | [x, y] => (nameOf (optS x) (optS y), x ++ Str.ofString "." ++ y)
  | _ => (Str.ofString "TypeError", localeT)
/-- a value is None for the empty text -/
inductive OptsV : List Value → List PySem.Str → Prop
  | nil : OptsV [] []
  | snoc {vs : List Value} {xs : List PySem.Str} {v : Value} {x : PySem.Str} (h : OptsV vs xs) (hv : OptV v (optS x)) : OptsV (vs ++ [v]) (xs ++ [x])
theorem OptsV.len {vs : List Value} {xs : List PySem.Str} (h : OptsV vs xs) : vs.length = xs.length := by
  induction h with
  | nil => rfl
  | snoc _ _ ih => simp [ih]
theorem OptsV.get {vs : List Value} {xs : List PySem.Str} (h : OptsV vs xs) : ∀ (i : Nat) (x : PySem.Str), xs[i]? = some x → ∃ v, vs[i]? = some v ∧ OptV v (optS x) := by
  induction h with
  | nil => intro i x hx; simp at hx
  | snoc h hv ih =>
    intro i x hx
    rw [List.getElem?_append] at hx
    rw [List.getElem?_append, h.len]
    split at hx
    · rename_i hlt
      rw [if_pos hlt]
      exact ih i x hx
    · rename_i hlt
      rw [if_neg hlt]
      rw [List.getElem?_singleton] at hx ⊢
      split at hx
      · rename_i he
        rw [if_pos he]
        cases hx
        exact ⟨_, rfl, hv⟩
      · cases hx
theorem OptsV.two {vs : List Value} {x y : PySem.Str} (h : OptsV vs [x, y]) : ∃ v u, vs = [v, u] ∧ OptV v (optS x) ∧ OptV u (optS y) := by
  obtain ⟨v, hv1, hv2⟩ := h.get 0 x rfl
  obtain ⟨u, hu1, hu2⟩ := h.get 1 y rfl
  have hl := h.len
  match vs, hl with
  | [a, b], _ =>
    obtain rfl : a = v := by simpa using hv1
    obtain rfl : b = u := by simpa using hu1
    exact ⟨a, b, rfl, hv2, hu2⟩
theorem StrsV.get {vs : List Value} {xs : List PySem.Str} (h : StrsV vs xs) : ∀ (i : Nat) (v : Value), vs[i]? = some v → ∃ x t, xs[i]? = some x ∧ v = .str x t ∧ x.length ≤ 1000 := by
  induction h with
  | nil => intro i x hx; simp at hx
  | snoc h hl ih =>
    intro i v hx
    rw [List.getElem?_append, h.len] at hx
    rw [List.getElem?_append]
    split at hx
    · rename_i hlt
      rw [if_pos hlt]
      exact ih i v hx
    · rename_i hlt
      rw [if_neg hlt]
      rw [List.getElem?_singleton] at hx ⊢
      split at hx
      · rename_i he
        rw [if_pos he]
        cases hx
        exact ⟨_, _, rfl, rfl, hl⟩
      · cases hx
theorem news_pick3 {g h : Heap} {L D M C : Addr} {o1 o2 o3 : Obj} {x y : Addr × Obj} {l : List (Addr × Obj)} (N : News g L h ((D, o1) :: (M, o2) :: x :: y :: (C, o3) :: l)) : News g L h ((D, o1) :: (C, o3) :: (M, o2) :: l) := fun q hq => by
  refine N q ?_
  rcases List.mem_cons.mp hq with rfl | hq
  · exact .head _
  rcases List.mem_cons.mp hq with rfl | hq
  · exact .tail _ (.tail _ (.tail _ (.tail _ (.head _))))
  rcases List.mem_cons.mp hq with rfl | hq
  · exact .tail _ (.head _)
  · exact .tail _ (.tail _ (.tail _ (.tail _ (.tail _ hq))))
theorem news_pick1 {g h : Heap} {L D M C : Addr} {o1 o2 o3 : Obj} {l : List (Addr × Obj)} (N : News g L h ((D, o1) :: (M, o2) :: (C, o3) :: l)) : News g L h ((D, o1) :: (C, o3) :: (M, o2) :: l) := fun q hq => by
  refine N q ?_
  rcases List.mem_cons.mp hq with rfl | hq
  · exact .head _
  rcases List.mem_cons.mp hq with rfl | hq
  · exact .tail _ (.tail _ (.head _))
  rcases List.mem_cons.mp hq with rfl | hq
  · exact .tail _ (.head _)
  · exact .tail _ (.tail _ (.tail _ hq))
local macro_rules | `(tactic| walk_at "eval ListComp") => `(tactic| (refine Halt.mk ?_))
local macro_rules | `(tactic| walk_at "CompSrc") => `(tactic| (refine Halt.mk ?_))
local macro_rules | `(tactic| walk_at "CompEnd") => `(tactic| (refine Halt.mk ?_))
local macro_rules | `(tactic| walk_at "LeaveS0") => `(tactic| (refine Halt.mk ?_))
local macro_rules | `(tactic| walk_at "call ref") => `(tactic| ((with_reducible show wpAny _ _ (call (Value.ref 93) _ _) _ _ _); refine Halt.mk ?_))
local macro_rules | `(tactic| walk_at "call ref") => `(tactic| ((with_reducible show wpAny _ _ (call (Value.ref 100) _ _) _ _ _); refine Halt.mk ?_))
local macro_rules | `(tactic| walk_at "call ref") => `(tactic| ((with_reducible show wpAny _ _ (call (Value.ref 21) _ _) _ _ _); refine Halt.mk ?_))
theorem read_go {w : World} {A A₀ : Around} {base h₀ : Heap} {cn : PySem.Str} {cs : Scope} {a : Addr} {ccd : Value} {L : Addr} {m : PySem.Str → Option Value} {tb rest : List (Addr × Obj)} {s : Shared} {Q E : Value → Shared → Prop} {mg mb : PySem.Str → Option Value} {mean : ExcName → Option Value}
  (B : Below A₀ base [] h₀) (F : Fr h₀ L s.heap m) (X : (KK w.params).In h₀) (N : News h₀ L s.heap (tb ++ rest)) (TBt : TB tb) (T : Top topProg LG mean mg mb h₀) (C : CodeHd base 106 102) (hne : ∀ p ∈ rest, p.1 ≠ 102)
  (XB : (KK w.params).In base) (TTB : Top topProg LG mean mg mb base)
  (hA : A.frames = some [envOf cn cs L a ccd]) (hck : cs.kind = .function) (hd : A.depth + 10 < recursionLimit) (hu : A.units + 100 < cLine) (hh : A.handled = none)
  (hS : FrozAt (strKind PR w) base 43 illS 32) (hW : FrozAt (strKind PR w) base 52 wsS 3)
  (src : PySem.Str) (start : Nat) (hlen : src.length ≤ 100000) (t1 t2 t3 : Tok) (xs : List PySem.Str) (o : Nat ⊕ PySem.Str) (hrun : Run (cl src) start xs o) (hxs : Halt (1 ≤ xs.length ∧ xs.length ≤ 3))
  (hbad : ∀ words, o = .inr words → ∀ u tb' h' tk', Fr h₀ L h' m → News h₀ L h' (tb' ++ rest) → TB tb' → Q (.str words u) {s with heap := h', toks := tk'})
  (hgood : ∀ r, o = .inl r → ∀ D C M t vs cap t4 t5 n h' tk', Fr h₀ L h' m → News h₀ L h' ((D, { cls := .type "tuple", data := .seq #[.int (r : Nat) t, .ref C, .ref M] }) :: (C, W.listOf (List.toArray vs) cap) :: (M, W.listOf #[.str (ansOf xs).1 t4, .str (ansOf xs).2 t5] n) :: (tb ++ rest)) →
    StrsV vs xs → Q (.ref D) {s with heap := h', toks := tk'}) :
  wpAny (model PR w) A (call (.ref 119) [.str src t1, .int start t2, .int (xs.length : Nat) t3]) Q E s := by
  have kf0 : PySem.Challenge.rw_nb0113_01 = PySem.Challenge.rw_nb0113_01 ∧ KK = KK := by (k_fill; exact ⟨rfl, rfl⟩)
  clear kf0
  refine wpAny_call ?_
  k_dflt (refine' code_defS0 ?k1 ?k2 ?k3 ?k4 ?k5 ?kA ?k6 ?k7 ?k8 ?k9 ?kB ?_ ?cK ?c2 ?c3 ?c4 ?c5; (case kA => exact hA); (case k2 => k_asm); (case k1 => k_asm); (case k3 => k_asm); (case k4 => k_asm); (case k5 => k_asm); (case k6 => k_is); (case k7 => k_is); (case k8 => omega); (case k9 => exact BindsTo.of_eq rfl); (case kB => exact locs rfl); (case cK => exact hck); (case c2 => exact rfl); (case c3 => exact rfl); (case c4 => exact rfl); (case c5 => decide); k_whole)
  intro g' L' h' FG' F' N' B' X' T' D'
  have hS' := froz_keeps hS B'.stays
  have hW' := froz_keeps hW B'.stays
  replace F' : Fr g' L' h' (fun y => List.lookup y [(Str.ofString "count", .int (xs.length : Nat) t3), (Str.ofString "start", .int start t2), (Str.ofString "text", .str src t1)]) := F'
  (with_unfolding_all show wpAny _ _ (execs [_, _, _, _] _) _ _ _)
  (try dsimp only); (try k_lift B'); (try k_fold)
  k_steps
  rename Fr g' L' _ _ => F₂
  rename News g' L' _ _ => N₂
  rename IsRange _ _ _ _ _ _ _ _ => R₂
  rename (∀ p ∈ tb ++ rest, p.1 < _) => hlc
  have hsmall : Builtin.Range.small 0 (xs.length : Int) 1 = true := by
    obtain ⟨h1, h2⟩ : 1 ≤ xs.length ∧ xs.length ≤ 3 := hxs
    rcases (by omega : xs.length = 1 ∨ xs.length = 2 ∨ xs.length = 3) with h | h | h <;> rw [h] <;> decide
  have hsize : Builtin.Range.rangeSize 0 (xs.length : Int) 1 = (xs.length : Int) := by
    obtain ⟨h1, h2⟩ : 1 ≤ xs.length ∧ xs.length ≤ 3 := hxs
    rcases (by omega : xs.length = 1 ∨ xs.length = 2 ∨ xs.length = 3) with h | h | h <;> rw [h] <;> decide
  refine iter_rangeUnr (n := xs.length) hh R₂ hsmall hsize F₂ N₂ ?_
  intro I hI
  refine rest_ind (fun k i m₁ news₁ => ∃ lc vs cap p t done xs', news₁ = (lc, W.listOf (List.toArray vs) cap) :: (tb ++ rest) ∧ (∀ p ∈ tb ++ rest, p.1 < lc) ∧ (∀ p ∈ news₁, p.1 < I) ∧ m₁ (Str.ofString "text") = some (.str src t1) ∧ m₁ (Str.ofString "place") = some (.int (p : Nat) t) ∧ m₁ (Str.ofString "cells") = some (.ref lc) ∧ StrsV vs done ∧ done ++ xs' = xs ∧ xs'.length = k ∧ Run (cl src) p xs' o) ?zero ?turn _ _ _ _ ⟨_, [], 0, start, t2, [], xs, rfl, hlc, hI, rfl, rfl, rfl, .nil, rfl, rfl, hrun⟩
  all_goals clear F₂ N₂ R₂ hsmall hsize hI hlc
  case zero =>
    rintro i m₁ news₁ h₁ tk₁ ⟨lc, vs, cap, p, t, done, xs', rfl, hlc, hI, hm1, hm2, hm3, hv, hdx, hk, hr⟩ F₁ N₁
    obtain rfl : xs' = [] := List.eq_nil_of_length_eq_zero hk
    cases hr
    obtain rfl : done = xs := by simpa using hdx
    rw [← map_self hm1, ← map_self hm2, ← map_self hm3] at F₁
    have hx3 : 1 ≤ done.length ∧ done.length ≤ 3 := hxs
    change Fr g' L' h₁ _ at F₁
    change News g' L' h₁ _ at N₁
    k_steps
    refine Halt.out ?_
    refine LCg.ListComp_U F₁ rfl (by decide) rfl (by decide) rfl ?_
    k_steps
    refine Halt.out ?_
    refine LCg.CompSrc.ledger hh F₁ N₁ (.head _) (by rw [List.size_toArray, hv.len]; exact Nat.le_trans hx3.2 (by decide)) ?_
    intro gX
    refine comp_ind (fun k i ys news => news = ((lc, W.listOf (List.toArray vs) cap) :: (tb ++ rest)) ∧ i + k = vs.length ∧ OptsV ys (done.take i)) ?z ?t _ _ _ _ ⟨rfl, by simp, by simpa using OptsV.nil⟩
    all_goals clear F₁ N₁
    case t =>
      rintro k i ys news v I' oI C' oC D₁ m₂ h₂ tk₂ E' ⟨rfl, hik, hys⟩ hv' hC hmx F₃ N₃ off ne
      obtain ⟨x, t', hx, rfl, hxl⟩ := hv.get i v (by simpa using hv')
      have hoe : optS x = if (x == Str.empty) = true then none else some x := by unfold optS; simp
      have htk : done.take (i + 1) = done.take i ++ [x] := by rw [List.take_add_one, hx]; rfl
      have e0 : Str.ofString "" = Str.empty := by decide +kernel
      k_steps
      · rename (x != Str.ofString "") = true => hne0
        refine Halt.out ?_
        refine LCg.CompEnd.intro F₃ N₃ ((lc, W.listOf (List.toArray vs) cap) :: (tb ++ rest)) (fun p hp => hp) off (.inr ⟨_, .head _, rfl, _, rfl⟩) ⟨rfl, by omega, by
          rw [htk]
          refine hys.snoc ?_
          rw [e0] at hne0
          rw [hoe, if_neg (by simpa using hne0)]
          exact .some hxl⟩
      · rename (x != Str.ofString "") = false => hne0
        refine Halt.out ?_
        refine LCg.CompEnd.intro F₃ N₃ ((lc, W.listOf (List.toArray vs) cap) :: (tb ++ rest)) (fun p hp => hp) off (.inr ⟨_, .head _, rfl, _, rfl⟩) ⟨rfl, by omega, by
          rw [htk]
          refine hys.snoc ?_
          rw [e0] at hne0
          rw [hoe, if_pos (by simpa using hne0)]
          exact .none⟩
    case z =>
      rintro i ys news ⟨rfl, hik, hys⟩ D₁ h₂ tk₂ F₃ N₃ o1
      rw [List.take_of_length_le (by rw [← hv.len]; omega)] at hys
      k_steps
      refine Halt.out ?_
      rename Fr g' L' _ _ => F₂
      rename News g' L' _ _ => N₂
      rcases len3 hx3 with ⟨x, rfl⟩ | ⟨x, y, rfl⟩ | ⟨x, y, z, rfl⟩
      · refine name_bad B' F₂ X' T' (Around.frames_deeper hA) rfl rfl (by show A.depth + 1 + 3 < _; omega) (by show A.units + 3 + 20 < _; omega) hh XB TTB D₁ ys.length (List.toArray ys) (by simp [hys.len]) N₂ ?_
        intro g₉ e₉ t₉ u₉ ot₉ h₉ tk₉ Fg₉ R₉ U₉
        clear F₂ N₂
        refine caught_SB (T' := "TypeError") R₉ Fg₉ B' U₉ XB TTB D' KtsTurn.refl (by k_is) PyProof.Rows.Boot.«TypeError» (by decide) PySem.F.isExc_TypeError PySem.F.notTuple_TypeError (by kts_sub) ?_
        intro h₁₀ g₁₀ n₂ tk₁₀ T₁₀ F₁₀ N₁₀ G₁₀ Nl K₁₀ X₁₀ P₁₀ D₁₀
        have Nr : News g₁₀ L' h₁₀ ((lc, W.listOf (List.toArray vs) cap) :: (tb ++ rest)) := News.sub Nl (fun p hp => .tail _ (.tail _ hp))
        clear Nl
        (try k_lift K₁₀)
        k_steps
        refine Halt.out ?_
        rename Fr g₁₀ L' _ _ => F₁₁
        rename News g₁₀ L' _ _ => N₁₁
        refine leaveS0_ F₁₁ N₁₁ T₁₀ ?_
        intro kF kN
        exact hgood p rfl _ _ _ _ _ _ _ _ _ _ _ kF (news_pick1 kN) hv
      · obtain ⟨ta, tb', rfl, hxl, hyl⟩ := hv.two
        obtain ⟨v, u, rfl, hov, hou⟩ := hys.two
        refine name_list B' F₂ X' T' (Around.frames_deeper hA) rfl rfl (by show A.depth + 1 + 2 < _; omega) (by show A.units + 3 + 10 < _; omega) hh D₁ 2 v u _ _ hov hou N₂ ?_
        intro t₄ h₄ tk₄ F₄ N₄
        clear F₂ N₂
        have hnl : (nameOf (optS x) (optS y)).length ≤ 3000 := by
          have e1 : ".".length = 1 := by decide +kernel
          have e2 : "C".length = 1 := by decide +kernel
          unfold nameOf optS
          split <;> rename_i h <;> split at h <;> (try cases h) <;> (split <;> simp only [Option.getD, Str.length_append, PySem.ofString_length] <;> omega)
        generalize hnm : nameOf (optS x) (optS y) = nm at hnl ⊢
        k_steps
        refine Halt.out ?_
        rename Fr g' L' _ _ => F₂
        rename News g' L' _ _ => N₂
        refine name_tup B' F₂ X' T' (Around.frames_deeper hA) rfl rfl (by show A.depth + 1 + 2 < _; omega) (by show A.units + 3 + 10 < _; omega) hh _ 0 x y ta tb' hxl hyl N₂ ?_
        intro t₅ h₅ tk₅ F₅ N₅
        clear F₂ N₂
        have hxy : (x ++ Str.ofString "." ++ y).length ≤ 3000 := by
          have e1 : ".".length = 1 := by decide +kernel
          simp only [Str.length_append, PySem.ofString_length]; omega
        generalize hny : x ++ Str.ofString "." ++ y = ny at hxy ⊢
        k_steps
        refine Halt.out ?_
        rename Fr g' L' _ _ => F₂
        rename News g' L' _ _ => N₂
        refine leaveS0_ F₂ N₂ KtsTurn.refl ?_
        intro kF kN
        subst hnm hny
        exact hgood p rfl _ _ _ _ _ _ _ _ _ _ _ kF (news_pick3 kN) hv
      · refine name_bad B' F₂ X' T' (Around.frames_deeper hA) rfl rfl (by show A.depth + 1 + 3 < _; omega) (by show A.units + 3 + 20 < _; omega) hh XB TTB D₁ ys.length (List.toArray ys) (by simp [hys.len]) N₂ ?_
        intro g₉ e₉ t₉ u₉ ot₉ h₉ tk₉ Fg₉ R₉ U₉
        clear F₂ N₂
        refine caught_SB (T' := "TypeError") R₉ Fg₉ B' U₉ XB TTB D' KtsTurn.refl (by k_is) PyProof.Rows.Boot.«TypeError» (by decide) PySem.F.isExc_TypeError PySem.F.notTuple_TypeError (by kts_sub) ?_
        intro h₁₀ g₁₀ n₂ tk₁₀ T₁₀ F₁₀ N₁₀ G₁₀ Nl K₁₀ X₁₀ P₁₀ D₁₀
        have Nr : News g₁₀ L' h₁₀ ((lc, W.listOf (List.toArray vs) cap) :: (tb ++ rest)) := News.sub Nl (fun p hp => .tail _ (.tail _ hp))
        clear Nl
        (try k_lift K₁₀)
        k_steps
        refine Halt.out ?_
        rename Fr g₁₀ L' _ _ => F₁₁
        rename News g₁₀ L' _ _ => N₁₁
        refine leaveS0_ F₁₁ N₁₁ T₁₀ ?_
        intro kF kN
        exact hgood p rfl _ _ _ _ _ _ _ _ _ _ _ kF (news_pick1 kN) hv
  case turn =>
    rintro k i m₁ news₁ t₁ h₁ tk₁ ⟨lc, vs, cap, p, t, done, xs', rfl, hlc, hI, hm1, hm2, hm3, hv, hdx, hk, hr⟩ F₁ N₁
    rw [← map_self hm1, ← map_self hm2, ← map_self hm3] at F₁
    k_steps
    refine Halt.out ?_
    rename Fr g' L' _ _ => F₂
    rename News g' L' _ _ => N₂
    have hp102 : ∃ ob, (102, ob) ∈ tb := by
      cases TBt with
      | fresh => exact ⟨_, .head _⟩
      | made _ _ _ => exact ⟨_, .tail _ (.head _)⟩
    obtain ⟨ob, hob⟩ := hp102
    have hlt1 : 102 < lc := hlc _ (List.mem_append_left _ hob)
    have hlt2 : 102 < I := hI _ (.tail _ (List.mem_append_left _ hob))
    cases hr with
    | piece hpc hx hr' =>
      rename_i q x ys
      obtain ⟨q₁, i₁, hsc, hqi, h39, hno, hok, rfl, rfl⟩ := hpc
      refine scan_ok B' F₂ X' N₂ T' (Around.frames_deeper hA) rfl rfl (by show A.depth + 1 + 3 < _; omega) (by show A.units + 3 + 24 < _; omega) hh hS' hW' src p q₁ hlen _ _ hsc ?_
      intro t₃ h₃ tk₃ F₃ N₃
      clear F₂ N₂
      k_steps
      refine Halt.out ?_
      rename Fr g' L' _ _ => F₂
      rename News g' L' _ _ => N₂
      refine lit_ok B' F₂ X' N₂ T' (Around.frames_deeper hA) rfl rfl (by show A.depth + 1 + 2 < _; omega) (by show A.units + 3 + 16 < _; omega) hh hS' src q₁ i₁ hlen _ _ hqi h39 hno hok ?_
      intro D₄ t₄ u₄ h₄ tk₄ F₄ N₄ l₄
      clear F₂ N₂
      have hil : i₁ < src.length := by
        have := (List.getElem?_eq_some_iff.mp h39).1
        rwa [cl_len] at this
      change News g' L' h₄ ((D₄, { cls := Value.type "tuple", data := Data.seq #[.int ((i₁ + 1 : Nat) : Int) t₄, .str (cellT (cl src) q₁ i₁) u₄] }) :: _) at N₄
      generalize hcx : cellT (cl src) q₁ i₁ = cx at *
      k_steps
      rename Fr g' L' _ _ => F₂
      rename News g' L' _ _ => N₂
      refine unpackN_ F₂ N₂ (News.isTup N₂ (.head _)) hh rfl rfl ?_
      intro h₅ F₅ N₅
      clear F₂ N₂
      k_steps
      rename Fr g' L' _ _ => F₂
      rename News g' L' _ _ => N₂
      have hxl : done.length + (1 + ys.length) = xs.length := by rw [← hdx]; simp; omega
      have hx3 : 1 ≤ xs.length ∧ xs.length ≤ 3 := hxs
      have N₆ : News g' L' _ ((lc, W.listOf vs.toArray cap) :: (I, itR (0 + ((i + 1 : Nat) : Int)) ((xs.length : Int) - ((i + 1 : Nat) : Int))) :: (tb ++ rest)) := News.sub N₂ (by
        intro p hp
        rcases List.mem_cons.mp hp with rfl | hp
        · exact .tail _ (.tail _ (.head _))
        · rcases List.mem_cons.mp hp with rfl | hp
          · exact .tail _ (.head _)
          · exact .tail _ (.tail _ (.tail _ hp)))
      have hIl : lc < I := hI _ (.head _)
      refine append_K F₂ N₆ (Upd.head ?_) ?_ (by rw [List.size_toArray, hv.len]; exact Nat.le_trans (by omega : done.length ≤ 3) (by decide))
      · intro p hp
        rcases List.mem_cons.mp hp with rfl | hp
        · exact Nat.ne_of_gt hIl
        · exact Nat.ne_of_lt (hlc p hp)
      intro h₆ F₆ N₇
      clear F₂ N₂ N₆
      rw [List.push_toArray] at N₇
      k_steps
      refine UnrEnd.intro (by k_asm) N₇ ((lc, W.listOf (List.toArray (vs ++ [.str cx u₄])) (cap + 1)) :: (tb ++ rest)) ?_ ?_ ⟨lc, vs ++ [.str cx u₄], cap + 1, i₁ + 1, t₄, done ++ [cx], ys, rfl, hlc, ?_, rfl, rfl, rfl, hv.snoc hx, by rw [← hdx]; simp, by simpa using hk, hr'⟩
      · intro p hp
        rcases List.mem_cons.mp hp with rfl | hp
        · exact .tail _ (.head _)
        · rcases List.mem_cons.mp hp with rfl | hp
          · exact .head _
          · exact .tail _ (.tail _ hp)
      · intro p hp
        rcases List.mem_cons.mp hp with rfl | hp
        · exact Nat.ne_of_lt hIl
        · exact Nat.ne_of_lt (hI p (.tail _ hp))
      · intro p hp
        rcases List.mem_cons.mp hp with rfl | hp
        · exact hIl
        · exact hI p (.tail _ hp)
    | bad hf =>
      rename_i x words
      have hsub : ∀ p ∈ tb ++ ((I, itR (0 + ((i + 1 : Nat) : Int)) ((xs.length : Int) - ((i + 1 : Nat) : Int))) :: (lc, W.listOf vs.toArray cap) :: rest), p ∈ ((I, itR (0 + ((i + 1 : Nat) : Int)) ((xs.length : Int) - ((i + 1 : Nat) : Int))) :: (lc, W.listOf vs.toArray cap) :: (tb ++ rest)) := by
        intro p hp
        rcases List.mem_append.mp hp with hp | hp
        · exact .tail _ (.tail _ (List.mem_append_left _ hp))
        · rcases List.mem_cons.mp hp with rfl | hp
          · exact .head _
          · rcases List.mem_cons.mp hp with rfl | hp
            · exact .tail _ (.head _)
            · exact .tail _ (.tail _ (List.mem_append_right _ hp))
      have hne' : ∀ p ∈ ((I, itR (0 + ((i + 1 : Nat) : Int)) ((xs.length : Int) - ((i + 1 : Nat) : Int))) :: (lc, W.listOf vs.toArray cap) :: rest), p.1 ≠ 102 := by
        intro p hp
        rcases List.mem_cons.mp hp with rfl | hp
        · exact Nat.ne_of_gt hlt2
        · rcases List.mem_cons.mp hp with rfl | hp
          · exact Nat.ne_of_gt hlt1
          · exact hne p hp
      rcases hf with ⟨q₁, hws, h35, hub⟩ | ⟨q₁, hsc, hql, hub⟩
      · refine scan_fly B' F₂ X' (News.sub N₂ hsub) TBt T' C hne' XB TTB (Around.frames_deeper hA) rfl rfl (by show A.depth + 1 + 6 < _; omega) (by show A.units + 3 + 50 < _; omega) hh hS' hW' src p q₁ words hlen _ _ hws h35 hub ?_
        intro g₉ e₉ t₉ u₉ tb₉ ot₉ h₉ tk₉ Fg₉ R₉ U₉ TB₉
        clear F₂ N₂
        refine caught_SOB R₉ Fg₉ B' U₉ XB TTB D' KtsTurn.refl (by k_is) (by kernel_rfl) ?_
        intro h₁₀ g₁₀ n₂ tk₁₀ T₁₀ F₁₀ N₁₀ G₁₀ Nl K₁₀ X₁₀ P₁₀ D₁₀
        (try k_lift K₁₀)
        k_steps
        refine str_own_got (by show A.units + 3 + 3 < _; omega) (X₁₀.keeps F₁₀.keep) N₁₀ G₁₀ ?_
        have Nr : News g₁₀ L' h₁₀ (tb₉ ++ rest) := News.sub Nl (by
          intro p hp
          rcases List.mem_append.mp hp with hp | hp
          · exact List.mem_append_left _ (List.mem_append_left _ hp)
          · exact List.mem_append_right _ (.tail _ (.tail _ hp)))
        clear Nl N₁₀ G₁₀
        k_steps
        refine Halt.out ?_
        rename Fr g₁₀ L' _ _ => F₁₁
        rename News g₁₀ L' _ _ => N₁₁
        refine leaveS0_ F₁₁ N₁₁ T₁₀ ?_
        intro kF kN
        exact hbad _ rfl _ _ _ _ kF kN TB₉
      · refine scan_ok B' F₂ X' N₂ T' (Around.frames_deeper hA) rfl rfl (by show A.depth + 1 + 3 < _; omega) (by show A.units + 3 + 24 < _; omega) hh hS' hW' src p q₁ hlen _ _ hsc ?_
        intro t₃ h₃ tk₃ F₃ N₃
        clear F₂ N₂
        k_steps
        refine Halt.out ?_
        rename Fr g' L' _ _ => F₂
        rename News g' L' _ _ => N₂
        refine lit_fly B' F₂ X' (News.sub N₂ hsub) TBt T' C hne' XB TTB (Around.frames_deeper hA) rfl rfl (by show A.depth + 1 + 5 < _; omega) (by show A.units + 3 + 40 < _; omega) hh hS' src q₁ words hlen _ _ (by rw [← cl_len]; exact hql) hub ?_
        intro g₉ e₉ t₉ u₉ tb₉ ot₉ h₉ tk₉ Fg₉ R₉ U₉ TB₉
        clear F₂ N₂
        refine caught_SOB R₉ Fg₉ B' U₉ XB TTB D' KtsTurn.refl (by k_is) (by kernel_rfl) ?_
        intro h₁₀ g₁₀ n₂ tk₁₀ T₁₀ F₁₀ N₁₀ G₁₀ Nl K₁₀ X₁₀ P₁₀ D₁₀
        (try k_lift K₁₀)
        k_steps
        refine str_own_got (by show A.units + 3 + 3 < _; omega) (X₁₀.keeps F₁₀.keep) N₁₀ G₁₀ ?_
        have Nr : News g₁₀ L' h₁₀ (tb₉ ++ rest) := News.sub Nl (by
          intro p hp
          rcases List.mem_append.mp hp with hp | hp
          · exact List.mem_append_left _ (List.mem_append_left _ hp)
          · exact List.mem_append_right _ (.tail _ (.tail _ hp)))
        clear Nl N₁₀ G₁₀
        k_steps
        refine Halt.out ?_
        rename Fr g₁₀ L' _ _ => F₁₁
        rename News g₁₀ L' _ _ => N₁₁
        refine leaveS0_ F₁₁ N₁₁ T₁₀ ?_
        intro kF kN
        exact hbad _ rfl _ _ _ _ kF kN TB₉
    | done => cases hk
end Mine
end
section
open PySem PySem.W PyProof.Rows PySem.Calls PySem.Builtin.Str
namespace Mine
theorem places_take (l : List Nat) (c p : Nat) : places (l.take p) c 0 p = places l c 0 p := by
  unfold places
  refine List.filter_congr fun i hi => ?_
  have := (List.mem_range'_1.mp hi)
  rw [List.getElem?_take, if_pos (by omega)]
theorem strSub_len (x : PySem.Str) (i j : Nat) (hj : j ≤ x.length) : (strSub x i j).length = j - i := by
  unfold strSub
  simp only [Str.length, Array.size_extract]
  unfold Str.length at hj
  omega
theorem parts_last (x : PySem.Str) (init : List Nat) (i w : Nat) : (partsBetween x (init ++ [i]) w).getLast? = some (strSub x (i + w) x.length) := by
  unfold partsBetween
  have e1 : (0 :: (init ++ [i]).map (· + w)) = (0 :: init.map (· + w)) ++ [i + w] := by simp
  have e2 : ((init ++ [i]) ++ [x.length]) = (init ++ [i]) ++ [x.length] := rfl
  dsimp only
  rw [e1, List.zip_append (by simp)]
  simp
theorem split10 (x : PySem.Str) : (Txt.split x (one 10)).length = (places (cl x) 10 0 x.length).length + 1 ∧ ∃ z, (Txt.split x (one 10)).getLast? = some z ∧
    z.length = match (places (cl x) 10 0 x.length).getLast? with
      | none => x.length
      | some i => x.length - (i + 1) := by
  have hk1 : Builtin.Str.strKind (one 10) = 1 := by decide +kernel
  have hkx : 1 ≤ Builtin.Str.strKind x := by unfold Builtin.Str.strKind; split <;> (try split) <;> omega
  have ho := occ_all x 10 0 x.length (x.length + 1) (Nat.le_refl _)
  have hol : (one 10).length = 1 := rfl
  unfold Txt.split
  rw [ho, hk1, hol]
  by_cases h0 : x.length < 1
  · have hx : x.length = 0 := by omega
    rw [if_pos (by simp [h0])]
    have hp : places (cl x) 10 0 x.length = [] := by rw [hx]; rfl
    rw [hp]
    exact ⟨rfl, x, rfl, rfl⟩
  · rw [if_neg (by simp; omega)]
    by_cases hp : places (cl x) 10 0 x.length = []
    · rw [hp]
      exact ⟨rfl, x, rfl, rfl⟩
    · rw [if_neg (by simpa using hp), len_partsBetween]
      refine ⟨rfl, ?_⟩
      have hlast := List.getLast?_eq_some_getLast hp
      rw [← List.dropLast_concat_getLast hp, parts_last]
      refine ⟨_, rfl, ?_⟩
      rw [strSub_len _ _ _ (Nat.le_refl _)]
      simp
end Mine
end
section
open PySem PySem.W PyProof.Rows PySem.Calls
set_option maxHeartbeats 4000000
namespace Mine
theorem split_line {prog : Program} {w : World} {A : Around} {E : Value → Shared → Prop} {s : Shared} {h₀ : Heap} {L : Addr} {m : PySem.Str → Option Value} {news : List (Addr × Obj)} {x : PySem.Str} {t u : Tok} {Q : Value → Shared → Prop} (F : Fr h₀ L s.heap m) (N : News h₀ L s.heap news) (hsz : x.length + 2 ≤ sizeLine)
    (h : ∀ D vs z tz h' k, vs.length = (places (cl x) 10 0 x.length).length → z.length = (match (places (cl x) 10 0 x.length).getLast? with | none => x.length | some i => x.length - (i + 1)) → Fr h₀ L h' m → News h₀ L h' ((D, { cls := .type "list", data := .seq (List.toArray (vs ++ [.str z tz])) }) :: news) → Q (.ref D) { s with heap := h', toks := k }) :
    wpAny (model prog w) A (call (.builtin "str.split") [.str x t, .str (Str.ofString "\n") u]) Q E s := by
  have e10 : Str.ofString "\n" = one 10 := by decide +kernel
  rw [e10]
  refine splitN1A F N rfl ?_ hsz
  intro l h' k hl _ _ _ F' N'
  obtain ⟨h1, z, h2, h3⟩ := split10 x
  rw [← hl] at h1 h2
  have hne : l ≠ [] := by rintro rfl; simp at h1
  have hlast := List.dropLast_concat_getLast hne
  have hz : (l.getLast hne).1 = z := by
    rw [List.getLast?_map, List.getLast?_eq_some_getLast hne] at h2
    simpa using h2
  refine h _ (strValues l.dropLast) z (l.getLast hne).2 h' k ?_ h3 F' ?_
  · rw [List.length_map] at h1
    simp [strValues, h1]
  · have e : strValues l = strValues l.dropLast ++ [.str z (l.getLast hne).2] := by
      conv => lhs; rw [← hlast]
      simp [strValues, hz]
    rw [e] at N'
    exact N'
theorem shapeA (F R AT LN A CO B CL : Array Nat) : #[] ++ (#[] ++ F ++ R) ++ AT ++ (#[] ++ LN ++ A ++ CO ++ B) ++ CL = #[] ++ F ++ R ++ (AT ++ LN) ++ A ++ CO ++ B ++ CL := by
  simp [Array.append_assoc]
theorem shape (F R AT LN A CO B CL : PySem.Str) : Str.empty ++ (Str.empty ++ F ++ R) ++ AT ++ (Str.empty ++ LN ++ A ++ CO ++ B) ++ CL = Str.empty ++ F ++ R ++ (AT ++ LN) ++ A ++ CO ++ B ++ CL :=
  congrArg PySem.Str.mk (shapeA F.cps R.cps AT.cps LN.cps A.cps CO.cps B.cps CL.cps)
/-- the words of the due, as the f-string glues them -/
theorem due_words (l : List Nat) (place d zl : Nat) (hp : place < l.length) (hz : zl = match (places l 10 0 place).getLast? with | none => place | some i => place - (i + 1)) :
    wordsBad l place d = Str.empty ++ Str.ofString "Found invalid character " ++ reprText (one d) ++ Str.ofString " (at line " ++ Str.ofString (toString (((places l 10 0 place).length + 1 : Nat) : Int)) ++ Str.ofString ", column " ++ Str.ofString (toString ((zl : Int) + 1)) ++ Str.ofString ")" := by
  have eat : Str.ofString " (at line " = Str.ofString " (at " ++ Str.ofString "line " := by decide +kernel
  rw [eat]
  unfold wordsBad errT coordT
  rw [if_neg (by omega)]
  cases hg : (places l 10 0 place).getLast? with
  | none =>
    rw [hg] at hz
    dsimp only at hz
    have h0 : places l 10 0 place = [] := List.getLast?_eq_none_iff.mp hg
    subst hz
    rw [h0]
    exact shape _ _ _ _ _ _ _ _
  | some i =>
    rw [hg] at hz
    dsimp only at hz
    have hi := places_last hg
    have hzz : zl + i + 1 = place := by rw [hz]; exact (Nat.add_assoc _ i 1).trans (Nat.sub_add_cancel hi)
    have e1 : ((place : Int) - (i : Int)) = ((zl : Int) + 1) := by clear hz; omega
    dsimp only
    rw [e1]
    exact shape _ _ _ _ _ _ _ _
local macro_rules | `(tactic| walk_at "call builtin:len") => `(tactic| ((with_reducible show wpAny _ _ (call (Value.builtin "len") [Value.ref _]) _ _ _); refine Halt.mk ?_))
theorem item_last {prog : Program} {w : World} {A : Around} {E : Value → Shared → Prop} {s : Shared} {value slice : PySem.Expr} {l : Addr} {vs : List Value} {x : Value} {u : Tok} {Q : Value → Shared → Prop} (hl : s.heap.IsList l (List.toArray (vs ++ [x]))) (hb : vs.length ≤ 1000000) (h : Q x s)
    (hs : subscripted slice false (.ref l) (.int (-1) u) = operate [.ref l, .int (-1) u] (getItem (.ref l) (.int (-1) u)) := by with_unfolding_all rfl) (hg : ∀ r, letTemporaryGo value (.ref l) r = pure () := by intro _; with_unfolding_all rfl) :
    wpAny (model prog w) A (subscriptTail value slice (.ref l) (.int (-1) u)) Q E s := by
  refine subscriptTail_builtin hl.typeIs slot_list_getitem.lookup (wpAny_getItem_list_neg (x := x) hl (by decide) ?_ (by decide) ?_ h) hs hg
  · simp; omega
  · have e : (-1 + ((List.toArray (vs ++ [x])).size : Int)).toNat = vs.length := by simp; omega
    rw [e]
    simp
local macro_rules | `(tactic| walk_at "subscriptTail Name UnaryOp ref int") => `(tactic| (refine Halt.mk ?_))
local macro_rules | `(tactic| walk_at "pyReprObj str") => `(tactic| (refine Halt.mk ?_))
local macro_rules | `(tactic| walk_at "call builtin:str.split") => `(tactic| (refine Halt.mk ?_))
theorem due_bad {w : World} {A A₀ : Around} {base h₀ : Heap} {outer : List Env} {env : Env} {L : Addr} {m : PySem.Str → Option Value} {news : List (Addr × Obj)} {s : Shared} {Q E : Value → Shared → Prop} {mg mb : PySem.Str → Option Value} {mean : ExcName → Option Value}
  (B : Below A₀ base outer h₀) (F : Fr h₀ L s.heap m) (X : (KK w.params).In h₀) (N : News h₀ L s.heap news) (T : Top topProg LG mean mg mb h₀)
  (hA : A.frames = some (env :: outer)) (hf : env.frame = some L) (hke : env.scope.kind = .function) (hd : A.depth + 3 < recursionLimit) (hu : A.units + 20 < cLine) (hh : A.handled = none)
  (src : PySem.Str) (P : Addr) (kind place fin d : Nat) (hlen : src.length ≤ 100000) (t1 t2 t3 t4 : Tok) (hk : 3 ≤ kind) (hd' : (cl src)[place]? = some d) (hd128 : d < 128)
  (h5 : kind = 5 → 39 ∈ (cl src).drop place)
  (hret : ∀ t h' tk', Fr h₀ L h' m → News h₀ L h' news → Q (.str (wordsBad (cl src) place d) t) {s with heap := h', toks := tk'}) :
  wpAny (model PR w) A (call (.ref 126) [.str src t1, .ref P, .int kind t2, .int place t3, .int fin t4]) Q E s := by
  have kf0 : PySem.Challenge.rw_nb0113_01 = PySem.Challenge.rw_nb0113_01 ∧ KK = KK := by (k_fill; exact ⟨rfl, rfl⟩)
  clear kf0
  have hpl : place < src.length := by
    have := (List.getElem?_eq_some_iff.mp hd').1
    rwa [cl_len] at this
  have hit : Txt.item src (place : Int) = one d := item_at (by simpa [cl] using hd')
  refine wpAny_call ?_
  k_dflt (refine' code_def ?k1 ?k2 ?k3 ?k4 ?k5 ?kA ?kF ?kK ?k6 ?k7 ?k8 ?k9 ?kB ?_ ?c2 ?c3 ?c4 ?c5; (case kA => exact hA); (case kF => exact hf); (case kK => assumption); (case k1 => k_asm); (case k2 => k_asm); (case k3 => k_asm); (case k4 => k_asm); (case k5 => k_asm); (case k6 => k_is); (case k7 => k_is); (case k8 => omega); (case k9 => exact BindsTo.of_eq rfl); (case c5 => decide); (case kB => exact locs rfl); (case c2 => exact rfl); (case c3 => exact rfl); (case c4 => exact rfl); k_whole)
  intro g' L' h' FG' F' N' B' X' T'
  replace F' : Fr g' L' h' (fun y => List.lookup y [(Str.ofString "end", .int fin t4), (Str.ofString "place", .int place t3), (Str.ofString "kind", .int kind t2), (Str.ofString "pieces", .ref P), (Str.ofString "text", .str src t1)]) := F'
  (with_unfolding_all show wpAny _ _ (execs [_, _, _, _, _, _] _) _ _ _)
  (try dsimp only); (try k_lift B'); (try k_fold)
  have hsl : Txt.slice src none (some (place : Int)) = ⟨((cl src).take place).toArray⟩ := slice_to src (Nat.le_of_lt hpl)
  have hsll : (Txt.slice src none (some (place : Int))).length = place := by
    rw [hsl]
    simp only [Str.length, List.size_toArray, List.length_take]
    rw [cl_len]
    omega
  have hcl : cl (Txt.slice src none (some (place : Int))) = (cl src).take place := by rw [hsl]
  have hnp := places_len (cl src) 10 place
  have hoc : (kind = 5 ∧ (Builtin.Str.occurrences (Txt.slice src (some (place : Int)) none) (Str.ofString "'") 0 (Txt.slice src (some (place : Int)) none).length 1).isEmpty = false) ∨ kind ≠ 5 := by
    by_cases hk5 : kind = 5
    · refine .inl ⟨hk5, ?_⟩
      have hx : (39 : Nat) ∈ cl (Txt.slice src (some (place : Int)) none) := by
        rw [slice_from src (Nat.le_of_lt hpl)]
        exact h5 hk5
      rw [show Str.ofString "'" = one 39 from by decide +kernel]
      obtain ⟨k, hk0⟩ := List.mem_iff_getElem?.mp hx
      rcases StrLaws.occ_head_from (Txt.slice src (some (place : Int)) none) (one 39) 0 1 (Nat.le_refl _) with ⟨_, h2⟩ | ⟨j, r, h1, _⟩
      · exact absurd ((at_iff _ 39 k).mpr hk0) (h2 k (Nat.zero_le _))
      · rw [h1]; rfl
    · exact .inr hk5
  have hrl : (reprText (one d)).length ≤ 10 := repr_all d hd128
  rcases hoc with ⟨rfl, hoc⟩ | hk5
  · k_steps
    refine Halt.out ?_
    rename Fr g' L' _ _ => F₂
    rename News g' L' _ _ => N₂
    refine split_line F₂ N₂ (by rw [hsll]; exact Nat.le_trans (by omega : place + 2 ≤ 100002) (by decide)) ?_
    rw [hsll, hcl, places_take]
    intro D vs z tz h₃ k₃ hvl hzl F₃ N₃
    clear F₂ N₂
    have hvb : vs.length ≤ 100000 := by omega
    have hzb : z.length ≤ 100000 := by rw [hzl]; cases (places (cl src) 10 0 place).getLast? <;> simp <;> omega
    k_steps
    refine Halt.out ?_
    rw [hit]
    refine pyReprObj_str ?_ (Nat.le_trans hrl (by decide))
    generalize hrt : reprText (one d) = rt at hrl hret ⊢
    k_steps
    refine Halt.out ?_
    rename News g' L' _ _ => N₄
    refine Calls.call_len_list (News.isList N₄ (.head _)) (by simp; omega) ?_
    rw [show ((List.toArray (vs ++ [Value.str z tz])).size) = vs.length + 1 from by simp]
    k_steps
    refine Halt.out ?_
    refine item_last (News.isList N₄ (.head _)) (by omega) ?_
    k_steps
    rename Fr h₀ L _ _ => F₅
    rename News h₀ L _ _ => N₅
    have hw := due_words (cl src) place d z.length (by rw [cl_len]; exact hpl) hzl
    rw [← hvl, hrt] at hw
    rw [hw] at hret
    exact hret _ _ _ F₅ (fun p hp => N₅ p (.tail _ hp))
  · have hk5' : (kind : Int) ≠ 5 := by omega
    have hk3' : ¬ ((kind : Int) < 3) := by omega
    k_steps
    · exfalso; omega
    refine Halt.out ?_
    rename Fr g' L' _ _ => F₂
    rename News g' L' _ _ => N₂
    refine split_line F₂ N₂ (by rw [hsll]; exact Nat.le_trans (by omega : place + 2 ≤ 100002) (by decide)) ?_
    rw [hsll, hcl, places_take]
    intro D vs z tz h₃ k₃ hvl hzl F₃ N₃
    clear F₂ N₂
    have hvb : vs.length ≤ 100000 := by omega
    have hzb : z.length ≤ 100000 := by rw [hzl]; cases (places (cl src) 10 0 place).getLast? <;> simp <;> omega
    k_steps
    refine Halt.out ?_
    rw [hit]
    refine pyReprObj_str ?_ (Nat.le_trans hrl (by decide))
    generalize hrt : reprText (one d) = rt at hrl hret ⊢
    k_steps
    refine Halt.out ?_
    rename News g' L' _ _ => N₄
    refine Calls.call_len_list (News.isList N₄ (.head _)) (by simp; omega) ?_
    rw [show ((List.toArray (vs ++ [Value.str z tz])).size) = vs.length + 1 from by simp]
    k_steps
    refine Halt.out ?_
    refine item_last (News.isList N₄ (.head _)) (by omega) ?_
    k_steps
    rename Fr h₀ L _ _ => F₅
    rename News h₀ L _ _ => N₅
    have hw := due_words (cl src) place d z.length (by rw [cl_len]; exact hpl) hzl
    rw [← hvl, hrt] at hw
    rw [hw] at hret
    exact hret _ _ _ F₅ (fun p hp => N₅ p (.tail _ hp))
end Mine
end
section
open PySem PySem.W PyProof.Rows PySem.Calls
set_option maxHeartbeats 4000000
namespace Mine
theorem news_drop3 {g h : Heap} {L : Addr} {a b c d : Addr × Obj} {l : List (Addr × Obj)} (N : News g L h (a :: b :: c :: d :: l)) : News g L h (a :: b :: d :: l) := fun q hq => by
  refine N q ?_
  rcases List.mem_cons.mp hq with rfl | hq
  · exact .head _
  rcases List.mem_cons.mp hq with rfl | hq
  · exact .tail _ (.head _)
  · exact .tail _ (.tail _ (.tail _ hq))
theorem join1 (p a : PySem.Str) : Txt.join p [a] = a := rfl
theorem join2 (p a b : PySem.Str) : Txt.join p [a, b] = a ++ p ++ b := rfl
theorem opt_some {x : PySem.Str} (h : (x != Str.ofString "") = true) : optS x = some x := by
  rw [show Str.ofString "" = Str.empty from by decide +kernel] at h
  unfold optS
  rw [if_neg (by simpa using h)]
theorem opt_none {x : PySem.Str} (h : (x != Str.ofString "") = false) : optS x = none := by
  rw [show Str.ofString "" = Str.empty from by decide +kernel] at h
  unfold optS
  rw [if_pos (by simpa using h)]
local macro_rules | `(tactic| walk_at "call builtin:str.join") => `(tactic| (refine Halt.mk ?_))
theorem eof_words (l : List Nat) : wordsEof l 39 = Str.ofString "Expected \"'\" (at end of document)" := by
  unfold wordsEof errT coordT
  rw [if_pos (Nat.le_refl _)]
  decide +kernel
theorem due_eof {w : World} {A A₀ : Around} {base h₀ : Heap} {outer : List Env} {env : Env} {L : Addr} {m : PySem.Str → Option Value} {news : List (Addr × Obj)} {s : Shared} {Q E : Value → Shared → Prop} {mg mb : PySem.Str → Option Value} {mean : ExcName → Option Value}
  (B : Below A₀ base outer h₀) (F : Fr h₀ L s.heap m) (X : (KK w.params).In h₀) (N : News h₀ L s.heap news) (T : Top topProg LG mean mg mb h₀)
  (hA : A.frames = some (env :: outer)) (hf : env.frame = some L) (hke : env.scope.kind = .function) (hd : A.depth + 3 < recursionLimit) (hu : A.units + 20 < cLine) (hh : A.handled = none)
  (src : PySem.Str) (P : Addr) (place fin : Nat) (hlen : src.length ≤ 100000) (t1 t2 t3 t4 : Tok) (hpl : place ≤ src.length)
  (h5 : 39 ∉ (cl src).drop place)
  (hret : ∀ t h' tk', Fr h₀ L h' m → News h₀ L h' news → Q (.str (wordsEof (cl src) 39) t) {s with heap := h', toks := tk'}) :
  wpAny (model PR w) A (call (.ref 126) [.str src t1, .ref P, .int ((5 : Nat) : Int) t2, .int place t3, .int fin t4]) Q E s := by
  have kf0 : PySem.Challenge.rw_nb0113_01 = PySem.Challenge.rw_nb0113_01 ∧ KK = KK := by (k_fill; exact ⟨rfl, rfl⟩)
  clear kf0
  refine wpAny_call ?_
  k_dflt (refine' code_def ?k1 ?k2 ?k3 ?k4 ?k5 ?kA ?kF ?kK ?k6 ?k7 ?k8 ?k9 ?kB ?_ ?c2 ?c3 ?c4 ?c5; (case kA => exact hA); (case kF => exact hf); (case kK => assumption); (case k1 => k_asm); (case k2 => k_asm); (case k3 => k_asm); (case k4 => k_asm); (case k5 => k_asm); (case k6 => k_is); (case k7 => k_is); (case k8 => omega); (case k9 => exact BindsTo.of_eq rfl); (case c5 => decide); (case kB => exact locs rfl); (case c2 => exact rfl); (case c3 => exact rfl); (case c4 => exact rfl); k_whole)
  intro g' L' h' FG' F' N' B' X' T'
  replace F' : Fr g' L' h' (fun y => List.lookup y [(Str.ofString "end", .int fin t4), (Str.ofString "place", .int place t3), (Str.ofString "kind", .int ((5 : Nat) : Int) t2), (Str.ofString "pieces", .ref P), (Str.ofString "text", .str src t1)]) := F'
  (with_unfolding_all show wpAny _ _ (execs [_, _, _, _, _, _] _) _ _ _)
  (try dsimp only); (try k_lift B'); (try k_fold)
  have hoc : (Builtin.Str.occurrences (Txt.slice src (some (place : Int)) none) (Str.ofString "'") 0 (Txt.slice src (some (place : Int)) none).length 1).isEmpty = true := by
    rw [show Str.ofString "'" = one 39 from by decide +kernel]
    rcases StrLaws.occ_head_from (Txt.slice src (some (place : Int)) none) (one 39) 0 1 (Nat.le_refl _) with ⟨h1, _⟩ | ⟨j, r, _, _, h3, _⟩
    · rw [h1]; rfl
    · have hj := (at_iff _ 39 j).mp h3
      have := List.mem_of_getElem? hj
      rw [slice_from src hpl] at this
      exact absurd this h5
  k_steps
  rename Fr h₀ L _ _ => F₅
  rename News h₀ L _ _ => N₅
  rw [eof_words] at hret
  exact hret _ _ _ F₅ N₅
theorem due_good {w : World} {A A₀ : Around} {base h₀ : Heap} {outer : List Env} {env : Env} {L : Addr} {m : PySem.Str → Option Value} {news : List (Addr × Obj)} {s : Shared} {Q E : Value → Shared → Prop} {mg mb : PySem.Str → Option Value} {mean : ExcName → Option Value}
  (B : Below A₀ base outer h₀) (F : Fr h₀ L s.heap m) (X : (KK w.params).In h₀)  (T : Top topProg LG mean mg mb h₀)
  (hA : A.frames = some (env :: outer)) (hf : env.frame = some L) (hke : env.scope.kind = .function) (hd : A.depth + 3 < recursionLimit) (hu : A.units + 20 < cLine) (hh : A.handled = none)
  (src : PySem.Str) (P : Addr) (kind place fin cap : Nat) (vs : List Value) (xs : List PySem.Str) (hlen : src.length ≤ 100000) (t1 t2 t3 t4 : Tok) (hk : (kind : Int) < 3) (hv : StrsV vs xs) (hxs : 1 ≤ xs.length ∧ xs.length ≤ 3) (hfin : fin ≤ 100000)
  (N : News h₀ L s.heap ((P, W.listOf (List.toArray vs) cap) :: news))
  (hret : ∀ D M ta tb n h' tk', Fr h₀ L h' m → News h₀ L h' ((D, { cls := .type "tuple", data := .seq #[.int (fin : Nat) t4, .ref P, .ref M] }) :: (M, W.listOf #[.str (ansOf xs).1 ta, .str (ansOf xs).2 tb] n) :: (P, W.listOf (List.toArray vs) cap) :: news) → Q (.ref D) {s with heap := h', toks := tk'}) :
  wpAny (model PR w) A (call (.ref 126) [.str src t1, .ref P, .int kind t2, .int place t3, .int fin t4]) Q E s := by
  have kf0 : PySem.Challenge.rw_nb0113_01 = PySem.Challenge.rw_nb0113_01 ∧ KK = KK := by (k_fill; exact ⟨rfl, rfl⟩)
  clear kf0
  refine wpAny_call ?_
  k_dflt (refine' code_def ?k1 ?k2 ?k3 ?k4 ?k5 ?kA ?kF ?kK ?k6 ?k7 ?k8 ?k9 ?kB ?_ ?c2 ?c3 ?c4 ?c5; (case kA => exact hA); (case kF => exact hf); (case kK => assumption); (case k1 => k_asm); (case k2 => k_asm); (case k3 => k_asm); (case k4 => k_asm); (case k5 => k_asm); (case k6 => k_is); (case k7 => k_is); (case k8 => omega); (case k9 => exact BindsTo.of_eq rfl); (case c5 => decide); (case kB => exact locs rfl); (case c2 => exact rfl); (case c3 => exact rfl); (case c4 => exact rfl); k_whole)
  intro g' L' h' FG' F' N' B' X' T'
  replace F' : Fr g' L' h' (fun y => List.lookup y [(Str.ofString "end", .int fin t4), (Str.ofString "place", .int place t3), (Str.ofString "kind", .int kind t2), (Str.ofString "pieces", .ref P), (Str.ofString "text", .str src t1)]) := F'
  (with_unfolding_all show wpAny _ _ (execs [_, _, _, _, _, _] _) _ _ _)
  (try dsimp only); (try k_lift B'); (try k_fold)
  have hk5 : (kind : Int) ≠ 5 := by omega
  rcases len3 hxs with ⟨x, rfl⟩ | ⟨x, y, rfl⟩ | ⟨x, y, z, rfl⟩
  · obtain ⟨ta, rfl, hx⟩ := hv.one
    k_steps
    · exfalso; omega
    rename Fr h₀ L _ _ => F₅
    rename News h₀ L _ _ => N₅
    exact hret _ _ _ _ _ _ _ F₅ N₅
  · obtain ⟨ta, tb', rfl, hx, hy⟩ := hv.two
    cases hbx : (x != Str.ofString "") <;> cases hby : (y != Str.ofString "")
    · have hnm : nameOf (optS x) (optS y) = (Str.ofString "C") := by rw [opt_none hbx, opt_none hby]; rfl
      have hnl : ((Str.ofString "C")).length ≤ 3000 := by
        try simp only [Str.length_append, PySem.ofString_length]
        have e1 : ".".length = 1 := by decide +kernel
        have e2 : "C".length = 1 := by decide +kernel
        omega
      have ec : (Str.ofString "C").length = 1 := by rw [PySem.ofString_length]; decide +kernel
      have ed : (Str.ofString ".").length = 1 := by rw [PySem.ofString_length]; decide +kernel
      have hns : (ansOf [x, y]).1 = (Str.ofString "C") := hnm
      have hn2 : (ansOf [x, y]).2 = x ++ Str.ofString "." ++ y := rfl
      rw [hns, hn2] at hret
      k_steps
      · exfalso; omega
      refine Halt.out ?_
      rename News g' L' _ _ => N₄
      refine join_list (News.isList N₄ (.head _)) (.cons _ _ .nil) (by simp only [List.map_cons, List.map_nil, List.sum_cons, List.sum_nil, List.length_cons, List.length_nil]; omega) ?_
      intro t₆ k₆
      rw [join1]
      generalize (Str.ofString "C") = nm at hnl hret ⊢
      k_steps
      rename Fr h₀ L _ _ => F₅
      rename News h₀ L _ _ => N₅
      exact hret _ _ _ _ _ _ _ F₅ (news_drop3 N₅)
    · have hnm : nameOf (optS x) (optS y) = (Str.ofString "C") ++ Str.ofString "." ++ y := by rw [opt_none hbx, opt_some hby]; rfl
      have hnl : ((Str.ofString "C") ++ Str.ofString "." ++ y).length ≤ 3000 := by
        try simp only [Str.length_append, PySem.ofString_length]
        have e1 : ".".length = 1 := by decide +kernel
        have e2 : "C".length = 1 := by decide +kernel
        omega
      have ec : (Str.ofString "C").length = 1 := by rw [PySem.ofString_length]; decide +kernel
      have ed : (Str.ofString ".").length = 1 := by rw [PySem.ofString_length]; decide +kernel
      have hns : (ansOf [x, y]).1 = (Str.ofString "C") ++ Str.ofString "." ++ y := hnm
      have hn2 : (ansOf [x, y]).2 = x ++ Str.ofString "." ++ y := rfl
      rw [hns, hn2] at hret
      k_steps
      · exfalso; omega
      refine Halt.out ?_
      rename News g' L' _ _ => N₄
      refine join_list (News.isList N₄ (.head _)) (.cons _ _ (.cons _ _ .nil)) (by simp only [List.map_cons, List.map_nil, List.sum_cons, List.sum_nil, List.length_cons, List.length_nil]; omega) ?_
      intro t₆ k₆
      rw [join2]
      generalize (Str.ofString "C") ++ Str.ofString "." ++ y = nm at hnl hret ⊢
      k_steps
      rename Fr h₀ L _ _ => F₅
      rename News h₀ L _ _ => N₅
      exact hret _ _ _ _ _ _ _ F₅ (news_drop3 N₅)
    · have hnm : nameOf (optS x) (optS y) = x := by rw [opt_some hbx, opt_none hby]; rfl
      have hnl : (x).length ≤ 3000 := by
        try simp only [Str.length_append, PySem.ofString_length]
        have e1 : ".".length = 1 := by decide +kernel
        have e2 : "C".length = 1 := by decide +kernel
        omega
      have ec : (Str.ofString "C").length = 1 := by rw [PySem.ofString_length]; decide +kernel
      have ed : (Str.ofString ".").length = 1 := by rw [PySem.ofString_length]; decide +kernel
      have hns : (ansOf [x, y]).1 = x := hnm
      have hn2 : (ansOf [x, y]).2 = x ++ Str.ofString "." ++ y := rfl
      rw [hns, hn2] at hret
      k_steps
      · exfalso; omega
      refine Halt.out ?_
      rename News g' L' _ _ => N₄
      refine join_list (News.isList N₄ (.head _)) (.cons _ _ .nil) (by simp only [List.map_cons, List.map_nil, List.sum_cons, List.sum_nil, List.length_cons, List.length_nil]; omega) ?_
      intro t₆ k₆
      rw [join1]
      k_steps
      rename Fr h₀ L _ _ => F₅
      rename News h₀ L _ _ => N₅
      exact hret _ _ _ _ _ _ _ F₅ (news_drop3 N₅)
    · have hnm : nameOf (optS x) (optS y) = x ++ Str.ofString "." ++ y := by rw [opt_some hbx, opt_some hby]; rfl
      have hnl : (x ++ Str.ofString "." ++ y).length ≤ 3000 := by
        try simp only [Str.length_append, PySem.ofString_length]
        have e1 : ".".length = 1 := by decide +kernel
        have e2 : "C".length = 1 := by decide +kernel
        omega
      have ec : (Str.ofString "C").length = 1 := by rw [PySem.ofString_length]; decide +kernel
      have ed : (Str.ofString ".").length = 1 := by rw [PySem.ofString_length]; decide +kernel
      have hns : (ansOf [x, y]).1 = x ++ Str.ofString "." ++ y := hnm
      have hn2 : (ansOf [x, y]).2 = x ++ Str.ofString "." ++ y := rfl
      obtain ⟨nm, hnmq⟩ : ∃ nm, nm = x ++ Str.ofString "." ++ y := ⟨_, rfl⟩
      rw [← hnmq] at hnl
      rw [hns, ← hnmq, hn2] at hret
      k_steps
      · exfalso; omega
      refine Halt.out ?_
      rename News g' L' _ _ => N₄
      refine join_list (News.isList N₄ (.head _)) (.cons _ _ (.cons _ _ .nil)) (by simp only [List.map_cons, List.map_nil, List.sum_cons, List.sum_nil, List.length_cons, List.length_nil]; omega) ?_
      intro t₆ k₆
      rw [join2, ← hnmq]
      k_steps
      rename Fr h₀ L _ _ => F₅
      rename News h₀ L _ _ => N₅
      exact hret _ _ _ _ _ _ _ F₅ (news_drop3 N₅)
  · obtain ⟨ta, tb', tc, rfl, hx, hy, hz⟩ := hv.three
    k_steps
    · exfalso; omega
    rename Fr h₀ L _ _ => F₅
    rename News h₀ L _ _ => N₅
    exact hret _ _ _ _ _ _ _ F₅ N₅
end Mine
end
section
open PySem PySem.W PyProof.Rows PySem.Calls
namespace Mine
section
variable {prog : Program} {w : World} {A : Around} {E : Value → Shared → Prop} {s : Shared} {env : Env} {h₀ : Heap} {x : PySem.Str} {body : List Stmt} {Q : Flow → Shared → Prop}
theorem list_ind {I : Addr} {lp : Addr × Obj} (J : List Value → (PySem.Str → Option Value) → List (Addr × Obj) → Prop)
    (zero : ∀ m news h tk, J [] m news → Fr h₀ env.locals h m → News h₀ env.locals h news → Q .next { s with heap := h, toks := tk })
    (turn : ∀ v r m news (it : Obj) h tk, J (v :: r) m news → it.cls = .type "list_iterator" → Fr h₀ env.locals h (fun y => if y = x then some v else m y) → News h₀ env.locals h ((I, it) :: news) →
      wpAny (model prog w) A (execs body env) (UnrPost h₀ env.locals { s with heap := h, toks := tk } I it (fun m' n' => lp ∈ n' ∧ J r m' n') Q) E { s with heap := h, toks := tk }) :
    ∀ vs m news, J vs m news → ListRest prog w A E h₀ env x body Q s I lp vs m news
  | [], m, news, hJ => ListRest.zero fun h tk F N => zero m news h tk hJ F N
  | v :: r, m, news, hJ => ListRest.succ fun it h tk hc F N =>
    wpAny_mono (turn v r m news it h tk hJ hc F N) (fun _ _ p => UnrPost.mono (fun m n q => ⟨q.1, list_ind J zero turn r m n q.2⟩) p) fun _ _ x => x
end
theorem AllObj.mono : ∀ {ws : List (Addr × String)} {k k' : List (Addr × Obj) → Prop}, (∀ its, k its → k' its) → AllObj ws k → AllObj ws k'
  | [], _, _, h, a => h _ a
  | _ :: _, _, _, h, a => fun o hc => AllObj.mono (fun its => h _) (a o hc)
section
variable {prog : Program} {w : World} {A : Around} {E : Value → Shared → Prop} {s : Shared} {env : Env} {h₀ : Heap} {target : PySem.Expr} {body : List Stmt} {Q : Flow → Shared → Prop}
theorem UnrPostW.mono {L : Addr} {s₁ s₂ : Shared} {its : List (Addr × Obj)} {r r' : (PySem.Str → Option Value) → List (Addr × Obj) → Prop} {f : Flow} (h : ∀ m n, r m n → r' m n) (p : UnrPostW h₀ L s₁ its r Q f s₂) : UnrPostW h₀ L s₁ its r' Q f s₂ := by
  cases f with
  | ret v => exact p
  | brk => exact p
  | next => obtain ⟨h', tk, m', news', e, F, N, o, q⟩ := p; exact ⟨h', tk, m', news', e, F, N, o, h _ _ q⟩
  | cont => obtain ⟨h', tk, m', news', e, F, N, o, q⟩ := p; exact ⟨h', tk, m', news', e, F, N, o, h _ _ q⟩
theorem items_ind {ws : List (Addr × String)} {keep : List (Addr × Obj)} (J : List Itm → (PySem.Str → Option Value) → List (Addr × Obj) → Prop)
    (zero : ∀ m news h tk, J [] m news → Fr h₀ env.locals h m → News h₀ env.locals h news → Q .next { s with heap := h, toks := tk })
    (turn : ∀ a r m news v h tk, J (a :: r) m news → a.Is v h → Fr h₀ env.locals h m → AllObj ws (fun its => News h₀ env.locals h (its ++ news) →
      wpAny (model prog w) A (assign target env v) (fun _ s₂ => wpAny (model prog w) A (execs body env) (UnrPostW h₀ env.locals { s with heap := h, toks := tk } its (fun m' n' => SubL keep n' ∧ J r m' n') Q) E s₂) E { s with heap := h, toks := tk })) :
    ∀ xs m news, J xs m news → ItemsRest prog w A E h₀ env target body Q s ws keep xs m news
  | [], m, news, hJ => ItemsRest.zero fun h tk F N => zero m news h tk hJ F N
  | a :: r, m, news, hJ => fun v h tk hi F => AllObj.mono (fun its k N => wpAny_mono (k N) (fun _ _ x => wpAny_mono x (fun _ _ p => UnrPostW.mono (fun m n q => ⟨q.1, items_ind J zero turn r m n q.2⟩) p) fun _ _ x => x) fun _ _ x => x) (turn a r m news v h tk hJ hi F)
end
end Mine
end
section
open PySem PySem.W PyProof.Rows PySem.Calls
namespace Mine
/-- an iterator over a list, by its fields -/
def IterO (o : Obj) : Prop := ∃ l i, o.data = .fields #[.ref l, .int (i : Int) 0]
section
variable {prog : Program} {w : World} {A : Around} {E : Value → Shared → Prop} {s : Shared} {env : Env} {h₀ : Heap} {target : PySem.Expr} {body : List Stmt} {Q : Flow → Shared → Prop}
/-- a loop over a list, by an invariant; the turn is told the iterator's fields -/
theorem turns_list {ax : Addr} {lo : Obj} {vs : List Value} {n : Nat} {m₀ : PySem.Str → Option Value} {news : List (Addr × Obj)}
    (hh : A.handled = none) (F : Fr h₀ env.locals s.heap m₀) (N : News h₀ env.locals s.heap news) (hm : (ax, lo) ∈ news) (hc : lo.cls = .type "list") (hd : lo.data = .seq vs.toArray n)
    (rest₀ : ∀ I : Addr, (∀ p ∈ news, p.1 < I) → ∃ J : List Value → (PySem.Str → Option Value) → List (Addr × Obj) → Prop, J vs m₀ news ∧
      (∀ m₁ news₁ h₁ tk₁, J [] m₁ news₁ → Fr h₀ env.locals h₁ m₁ → News h₀ env.locals h₁ news₁ → Q .next { s with heap := h₁, toks := tk₁ }) ∧
      (∀ v r m₁ news₁ h₁ tk₁ o₁, J (v :: r) m₁ news₁ → (ax, lo) ∈ news₁ → IterO o₁ → Fr h₀ env.locals h₁ m₁ → News h₀ env.locals h₁ ((I, o₁) :: news₁) →
        wpAny (model prog w) A (assign target env v) (fun _ s₂ => wpAny (model prog w) A (execs body env) (UnrPostW h₀ env.locals { s with heap := h₁, toks := tk₁ } [(I, o₁)] (fun m' n' => (ax, lo) ∈ n' ∧ J r m' n') Q) E s₂) E { s with heap := h₁, toks := tk₁ })) :
    wpAny (model prog w) A (pyIter (.ref ax)) (fun it s₂ => TurnsAt prog w A h₀ env target body Q E it s₂) E s := by
  have hax := N _ hm
  have hl : s.heap.IsList ax vs.toArray := ⟨lo, hax.1, hc, n, hd⟩
  have hne : ax ≠ s.heap.objs.size := Nat.ne_of_lt (Heap.lt_size hax.1)
  refine wpAny_pyIter_list hl ?_
  obtain ⟨J, j0, jz, jt⟩ := rest₀ s.heap.objs.size fun p hp => Heap.lt_size (N p hp).1
  generalize hIe : s.heap.objs.size = I at *
  refine ⟨I, [I, ax], [I], vs.toArray.size, _, _, _, m₀, news, fun i m₁ n₁ => (ax, lo) ∈ n₁ ∧ J (vs.drop i) m₁ n₁, rfl, KTurns.ofWalks (Walks.list hh I ax hne vs.toArray) fun i v s Q E st q => letGo_listiter st.1 q, ?_, ?_, ?_, ?_, F.push _, fun p hp => ⟨Heap.get?_push_of_some _ (N p hp).1, (N p hp).2⟩, ⟨hm, by simpa using j0⟩, ?_, ?_⟩
  · intro hI
    rcases List.mem_cons.mp hI with e | hI
    · exact absurd F.ns.lt (by rw [e, hIe]; exact Nat.lt_irrefl _)
    · exact hax.2.1 (List.mem_singleton.mp hI).symm
  · intro b hb
    rw [List.mem_singleton.mp hb, ← hIe]
    exact next_is_new F
  · intro p hp hb
    have := Heap.lt_size (N p hp).1
    rw [List.mem_singleton.mp hb, hIe] at this
    exact Nat.lt_irrefl _ this
  · exact ⟨⟨_, by rw [← hIe]; exact Heap.get?_push_size _ rfl, rfl, rfl⟩, hl.at fun o e => Heap.get?_push_of_some _ e⟩
  · rintro i v m₁ news₁ h₁ tk₁ own hin hPi ⟨hk, hJ⟩ hoff hown hget hall ⟨⟨o₁, g1, g2, g3⟩, _⟩ F₁ N₁
    have hPi' : vs.toArray[i]? = some v := hPi
    have hv : vs[i]? = some v := by simpa using hPi'
    obtain ⟨hlt, hv'⟩ := List.getElem?_eq_some_iff.mp hv
    rw [List.drop_eq_getElem_cons hlt, hv'] at hJ
    have hnI : h₀.get? I = none := by rw [← hIe]; exact next_is_new F
    have hmI : (I, o₁) ∈ own := hall I (List.mem_cons_self ..) hnI o₁ g1
    have N₂ : News h₀ env.locals h₁ ((I, o₁) :: news₁) := fun p hp => by
      rcases List.mem_cons.mp hp with e | hp
      · rw [e]; exact N₁ _ (List.mem_append_left _ hmI)
      · exact N₁ _ (List.mem_append_right _ hp)
    have fin : ∀ s₃, UnrEndW h₀ env.locals { s with heap := h₁, toks := tk₁ } [(I, o₁)] (fun m' n' => (ax, lo) ∈ n' ∧ J (vs.drop (i + 1)) m' n') s₃ →
        LoopStepU h₀ env.locals [I] own (fun m' n' => (ax, lo) ∈ n' ∧ J (vs.drop (i + 1)) m' n') { s with heap := h₁, toks := tk₁ } .next s₃ := by
      rintro s₃ ⟨h', tk, m', news', e, F', N', ho, r⟩
      refine ⟨rfl, h', tk, m', news', e, F', ?_, ?_, r⟩
      · intro p hp
        rcases List.mem_append.mp hp with hp | hp
        · have h2 := hget p hp
          rcases List.mem_cons.mp (hown p hp) with h3 | h3
          · have e2 : p = (I, o₁) := by
              obtain ⟨pa, po⟩ := p
              obtain rfl : pa = I := h3
              rw [show h₁.get? pa = some o₁ from g1] at h2
              rw [Option.some.inj h2]
            rw [e2]
            exact N' _ (.head _)
          · have e2 : p = (ax, lo) := by
              obtain ⟨pa, po⟩ := p
              obtain rfl : pa = ax := List.mem_singleton.mp h3
              have h4 := (N₁ _ (List.mem_append_right _ hk)).1
              rw [show h₁.get? pa = some lo from h4] at h2
              rw [Option.some.inj h2]
            rw [e2]
            exact N' _ (.tail _ r.1)
        · exact N' _ (.tail _ hp)
      · intro p hp hI
        exact ho p hp (I, o₁) (.head _) (List.mem_singleton.mp hI)
    refine wpAny_mono (jt v _ m₁ news₁ h₁ tk₁ o₁ hJ hk ⟨_, _, g3⟩ F₁ N₂) (fun _ s₂ h₂ => wpAny_mono h₂ (fun f s₃ p => ?_) fun _ _ e => e) fun _ _ e => e
    cases f with
    | ret v => exact .ret p
    | brk => exact .brk p
    | next => exact .next (fin _ p)
    | cont => exact .cont (fin _ p)
  · rintro h' tk m' news' F' N' _ ⟨_, hJ⟩
    rw [List.drop_of_length_le (by simp)] at hJ
    exact jz m' news' h' tk hJ F' N'
end
end Mine
end
section
open PySem PySem.W PyProof.Rows PySem.Calls
namespace Mine
theorem at_drop {l r : List Nat} {p : Nat} (k : Nat) (h : l.drop p = r) : l[p + k]? = r[k]? := by rw [← h, List.getElem?_drop]
theorem wsS_all : ∀ c, c < 128 → wsS (one c) = (c == 32 || c == 9 || c == 10) := by decide +kernel
theorem ws_of {l ws r : List Nat} {p c : Nat} (h : l.drop p = ws ++ c :: r) (hw : ∀ d ∈ ws, wsS (one d) = true) (hc : wsS (one c) = false) : Ws l p (p + ws.length) := by
  refine ⟨Nat.le_add_right _ _, fun j h1 h2 => ?_, c, ?_, hc⟩
  · have hj : j - p < ws.length := by omega
    refine ⟨ws[j - p], ?_, hw _ (List.getElem_mem hj)⟩
    have := at_drop (j - p) h
    rw [show p + (j - p) = j by omega] at this
    rw [this, List.getElem?_append_left hj, List.getElem?_eq_getElem hj]
  · rw [at_drop _ h, List.getElem?_append_right (Nat.le_refl _)]
    simp
theorem comm_of {l b r : List Nat} {p : Nat} (h : l.drop p = 35 :: (b ++ 10 :: r)) (hb : ∀ d ∈ b, d ≠ 10 ∧ ill d = false) : Comm l p (p + 1 + b.length) := by
  have h35 : l[p]? = some 35 := by have := at_drop 0 h; simpa using this
  have hat : ∀ k, l[p + 1 + k]? = (b ++ 10 :: r)[k]? := fun k => by
    have := at_drop (k + 1) h
    rw [show p + (k + 1) = p + 1 + k by omega] at this
    rw [this]; rfl
  refine ⟨35, h35, .inr ⟨rfl, by omega, ?_, fun k h1 h2 => ?_, fun k e h1 h2 he => ?_⟩⟩
  · rw [hat, List.getElem?_append_right (Nat.le_refl _)]; simp
  · have hk : k - (p + 1) < b.length := by omega
    have := hat (k - (p + 1))
    rw [show p + 1 + (k - (p + 1)) = k by omega] at this
    rw [this, List.getElem?_append_left hk, List.getElem?_eq_getElem hk]
    intro e
    exact (hb _ (List.getElem_mem hk)).1 (Option.some.inj e)
  · have hk : k - (p + 1) < b.length := by omega
    have := hat (k - (p + 1))
    rw [show p + 1 + (k - (p + 1)) = k by omega] at this
    rw [this, List.getElem?_append_left hk, List.getElem?_eq_getElem hk] at he
    rw [← Option.some.inj he]
    exact (hb _ (List.getElem_mem hk)).2
theorem comm_not {l r : List Nat} {p c : Nat} (h : l.drop p = c :: r) (hc : c ≠ 35) : Comm l p p :=
  ⟨c, by have := at_drop 0 h; simpa using this, .inl ⟨hc, rfl⟩⟩
theorem drop_more {l r : List Nat} {p : Nat} (a : List Nat) (h : l.drop p = a ++ r) : l.drop (p + a.length) = r := by
  rw [← List.drop_drop, h]; simp
theorem scan_end {l ws r : List Nat} {p : Nat} (h : l.drop p = ws ++ 39 :: r) (hw : ∀ d ∈ ws, wsS (one d) = true) : Scan l p (p + ws.length) := by
  have h39 : wsS (one 39) = false := by decide +kernel
  have hd := drop_more ws h
  have hstop : Scan l (p + ws.length) (p + ws.length) := .stop (by simpa using ws_of (ws := []) hd (by simp) h39) (comm_not hd (by decide))
  by_cases hn : ws.length = 0
  · rw [hn]
    rw [hn] at hstop
    exact hstop
  · exact .step (ws_of h hw h39) (comm_not hd (by decide)) (by omega) hstop
theorem scan_step {l ws b r : List Nat} {p e : Nat} (h : l.drop p = ws ++ 35 :: (b ++ 10 :: r)) (hw : ∀ d ∈ ws, wsS (one d) = true) (hb : ∀ d ∈ b, d ≠ 10 ∧ ill d = false)
    (k : l.drop (p + ws.length + 1 + b.length) = 10 :: r → Scan l (p + ws.length + 1 + b.length) e) : Scan l p e := by
  have h35 : wsS (one 35) = false := by decide +kernel
  have hd := drop_more ws h
  refine .step (ws_of h hw h35) (comm_of hd hb) (by omega) (k ?_)
  have := drop_more (35 :: b) (l := l) (p := p + ws.length) (r := 10 :: r) (by rw [hd]; rfl)
  rw [← this]
  congr 1
  simp only [List.length_cons]
  omega
def gapL : Nat → List Nat
  | 0 => []
  | 1 => [32]
  | 2 => [9, 10, 32]
  | 3 => [35, 32, 105, 116, 39, 115, 10]
  | 4 => [35, 10, 10, 32, 35, 44, 39, 9, 10]
  | _ => [10]
theorem scan_gap {l pre r : List Nat} {p g : Nat} (hpre : pre = [] ∨ pre = [10]) (h : l.drop p = pre ++ (gapL g ++ 39 :: r)) : Scan l p (p + pre.length + (gapL g).length) := by
  have w10 : wsS (one 10) = true := by decide +kernel
  have w32 : wsS (one 32) = true := by decide +kernel
  have w9 : wsS (one 9) = true := by decide +kernel
  have plain : ∀ ws, (∀ d ∈ ws, wsS (one d) = true) → l.drop p = pre ++ (ws ++ 39 :: r) → Scan l p (p + pre.length + ws.length) := by
    intro ws hws h
    have := scan_end (ws := pre ++ ws) (r := r) (p := p) (l := l) (by rw [h]; simp) (by
      intro d hd
      rcases List.mem_append.mp hd with h | h
      · rcases hpre with rfl | rfl
        · cases h
        · rw [List.mem_singleton.mp h]; exact w10
      · exact hws d h)
    rw [List.length_append, ← Nat.add_assoc] at this
    exact this
  have hpw : ∀ d ∈ pre, wsS (one d) = true := by
    intro d hd
    rcases hpre with rfl | rfl
    · cases hd
    · rw [List.mem_singleton.mp hd]; exact w10
  match g with
  | 0 => exact plain [] (by simp) h
  | 1 => exact plain [32] (by simp [w32]) h
  | 2 => exact plain [9, 10, 32] (by simp [w32, w9, w10]) h
  | 3 =>
    refine scan_step (ws := pre) (b := [32, 105, 116, 39, 115]) (r := 39 :: r) h hpw (by decide) fun h2 => ?_
    exact scan_end (ws := [10]) h2 (by simp [w10])
  | 4 =>
    refine scan_step (ws := pre) (b := []) (r := 10 :: 32 :: 35 :: 44 :: 39 :: 9 :: 10 :: 39 :: r) h hpw (by simp) fun h2 => ?_
    refine scan_step (ws := [10, 10, 32]) (b := [44, 39, 9]) (r := 39 :: r) h2 (by simp [w10, w32]) (by decide) fun h3 => ?_
    exact scan_end (ws := [10]) h3 (by simp [w10])
  | (n + 5) => exact plain [10] (by simp [w10]) h
end Mine
end
section
open PySem PySem.W PyProof.Rows PySem.Calls
namespace Mine
theorem mem_at {l x r : List Nat} {q k : Nat} (h : l.drop q = x ++ r) (h1 : q ≤ k) (h2 : k < q + x.length) : ∃ d ∈ x, l[k]? = some d := by
  have hk : k - q < x.length := by omega
  refine ⟨x[k - q], List.getElem_mem hk, ?_⟩
  have := at_drop (k - q) h
  rw [show q + (k - q) = k by omega] at this
  rw [this, List.getElem?_append_left hk, List.getElem?_eq_getElem hk]
theorem head_at {l x r : List Nat} {q c : Nat} (h : l.drop q = x ++ c :: r) : l[q + x.length]? = some c := by
  rw [at_drop _ h, List.getElem?_append_right (Nat.le_refl _)]; simp
theorem piece_of {l pre x r : List Nat} {p g : Nat} (hpre : pre = [] ∨ pre = [10]) (h : l.drop p = pre ++ (gapL g ++ 39 :: (x ++ 39 :: r))) (hx : ∀ d ∈ x, d ≠ 39 ∧ ill d = false) :
    Piece l p ⟨x.toArray⟩ (p + pre.length + (gapL g).length + x.length + 2) := by
  have hs := scan_gap hpre h
  have hd : l.drop (p + pre.length + (gapL g).length) = 39 :: (x ++ 39 :: r) := drop_more (gapL g) (drop_more pre h)
  generalize p + pre.length + (gapL g).length = q at hs hd
  have hd1 : l.drop (q + 1) = x ++ 39 :: r := drop_more [39] hd
  refine ⟨q, q + 1 + x.length, hs, by omega, head_at hd1, fun k h1 h2 => ?_, fun k d h1 h2 he => ?_, ?_, by omega⟩
  · obtain ⟨d, hd', e⟩ := mem_at hd1 (by omega) h2
    rw [e]
    intro z
    exact (hx d hd').1 (Option.some.inj z)
  · obtain ⟨d', hd', e⟩ := mem_at hd1 (by omega) h2
    rw [e] at he
    rw [← Option.some.inj he]
    exact (hx d' hd').2
  · unfold cellT
    rw [hd1, show q + 1 + x.length - (q + 1) = x.length by omega]
    simp
theorem fault3 {l pre r : List Nat} {p sg : Nat} (hpre : pre = [] ∨ pre = [10]) (h : l.drop p = pre ++ 35 :: 97 :: sg :: 98 :: 10 :: r) (hs : ill sg = true) (hs10 : sg ≠ 10) :
    Fault l p (wordsBad l (p + pre.length + 2) sg) := by
  have w10 : wsS (one 10) = true := by decide +kernel
  have h35 : wsS (one 35) = false := by decide +kernel
  have hd := drop_more pre h
  have hw := ws_of h (by
    intro d hd
    rcases hpre with rfl | rfl
    · cases hd
    · rw [List.mem_singleton.mp hd]; exact w10) h35
  generalize p + pre.length = q at hd hw
  have a0 : l[q]? = some 35 := by simpa using at_drop 0 hd
  have a1 : l[q + 1]? = some 97 := by simpa using at_drop 1 hd
  have a2 : l[q + 2]? = some sg := by simpa using at_drop 2 hd
  have a3 : l[q + 3]? = some 98 := by simpa using at_drop 3 hd
  have a4 : l[q + 4]? = some 10 := by simpa using at_drop 4 hd
  refine .inl ⟨q, hw, a0, .inl ⟨q + 4, q + 2, sg, by omega, a4, ?_, by omega, by omega, a2, hs, ?_, rfl⟩⟩
  · intro k h1 h2
    rcases (by omega : k = q + 1 ∨ k = q + 2 ∨ k = q + 3) with rfl | rfl | rfl
    · rw [a1]; decide
    · rw [a2]; intro z; exact hs10 (Option.some.inj z)
    · rw [a3]; decide
  · intro k d h1 h2 he
    obtain rfl : k = q + 1 := by omega
    rw [a1] at he
    rw [← Option.some.inj he]
    decide
theorem fault45 {l pre x r1 r : List Nat} {p g sg : Nat} (hpre : pre = [] ∨ pre = [10]) (h : l.drop p = pre ++ (gapL g ++ 39 :: (x ++ sg :: (r1 ++ 39 :: r)))) (hx : ∀ d ∈ x, d ≠ 39 ∧ ill d = false) (hs : ill sg = true) (hs39 : sg ≠ 39) (hr : 39 ∉ r1) :
    Fault l p (wordsBad l (p + pre.length + (gapL g).length + 1 + x.length) sg) := by
  have hsc := scan_gap hpre h
  have hd : l.drop (p + pre.length + (gapL g).length) = 39 :: (x ++ sg :: (r1 ++ 39 :: r)) := drop_more (gapL g) (drop_more pre h)
  generalize p + pre.length + (gapL g).length = q at hsc hd
  have hql : q < l.length := by
    have := at_drop 0 hd
    exact (List.getElem?_eq_some_iff.mp (by simpa using this : l[q]? = some 39)).1
  have hd1 : l.drop (q + 1) = x ++ sg :: (r1 ++ 39 :: r) := drop_more [39] hd
  have hd2 : l.drop (q + 1 + x.length + 1) = r1 ++ 39 :: r := drop_more [sg] (drop_more x hd1)
  refine .inr ⟨q, hsc, hql, .inl ⟨q + 1 + x.length + 1 + r1.length, q + 1 + x.length, sg, by omega, head_at hd2, ?_, by omega, by omega, head_at hd1, hs, ?_, rfl⟩⟩
  · intro k h1 h2
    by_cases ha : k < q + 1 + x.length
    · obtain ⟨d, hd', e⟩ := mem_at hd1 h1 ha
      rw [e]; intro z; exact (hx d hd').1 (Option.some.inj z)
    · by_cases hb : k = q + 1 + x.length
      · rw [hb, head_at hd1]; intro z; exact hs39 (Option.some.inj z)
      · obtain ⟨d, hd', e⟩ := mem_at hd2 (by omega) h2
        rw [e]; intro z; rw [Option.some.inj z] at hd'; exact hr hd'
  · intro k d h1 h2 he
    obtain ⟨d', hd', e⟩ := mem_at hd1 h1 h2
    rw [e] at he
    rw [← Option.some.inj he]
    exact (hx d' hd').2
theorem faultEnd {l pre x r : List Nat} {p g : Nat} (hpre : pre = [] ∨ pre = [10]) (h : l.drop p = pre ++ (gapL g ++ 39 :: (x ++ r))) (hx : ∀ d ∈ x, d ≠ 39) (hr : 39 ∉ r) : Fault l p (wordsEof l 39) := by
  have hsc := scan_gap hpre h
  have hd : l.drop (p + pre.length + (gapL g).length) = 39 :: (x ++ r) := drop_more (gapL g) (drop_more pre h)
  generalize p + pre.length + (gapL g).length = q at hsc hd
  have hql : q < l.length := by
    have := at_drop 0 hd
    exact (List.getElem?_eq_some_iff.mp (by simpa using this : l[q]? = some 39)).1
  have hd1 : l.drop (q + 1) = x ++ r := drop_more [39] hd
  refine .inr ⟨q, hsc, hql, .inr ⟨rfl, by decide, ?_, rfl⟩⟩
  intro k h1 he
  have := at_drop (k - (q + 1)) hd1
  rw [show q + 1 + (k - (q + 1)) = k by omega, he] at this
  have hm := List.mem_of_getElem? this.symm
  rcases List.mem_append.mp hm with h | h
  · exact hx 39 h rfl
  · exact hr h
end Mine
end
section
open PySem PySem.W PyProof.Rows PySem.Calls
namespace Mine
def langL : Nat → List Nat
  | 0 => [100, 101]
  | 1 => []
  | 2 => [97, 46, 98]
  | 3 => [9, 35]
  | _ => [67, 133]
def encL : Nat → List Nat
  | 0 => [85, 84, 70, 45, 56]
  | 1 => []
  | 2 => [46]
  | _ => [32, 49]
def cntL : Nat → Nat
  | 0 => 2
  | 1 => 1
  | 2 => 3
  | _ => 2
def sgnL : Nat → Nat
  | 0 => 0
  | 1 => 8
  | 2 => 11
  | 3 => 31
  | 4 => 127
  | _ => 13
def piecesL (x : Nat) : List (List Nat) := [langL (x / 4 % 5), encL (x / 20 % 4), [120]].take (cntL (x % 4))
def kindL (x : Nat) : Nat := x / 480 % 6
def signL (x : Nat) : Nat := sgnL (x / 2880 % 6)
/-- what one piece adds to the text -/
def segL (x i : Nat) (last : Bool) (pc : List Nat) : List Nat :=
  (if last && kindL x == 3 then [35, 97, signL x, 98, 10, 39] else gapL ((x / 80 + i) % 6) ++ [39]) ++ pc ++ (if last && kindL x == 4 then [signL x] else []) ++ (if last && kindL x == 5 then [] else [39])
/-- where the fault is, counted from the beginning of the piece's own text -/
def offL (x i : Nat) (pc : List Nat) : Nat :=
  if kindL x = 3 then 2 else (gapL ((x / 80 + i) % 6)).length + 1 + pc.length
theorem sgn_ill (k : Nat) : ill (sgnL k) = true ∧ sgnL k ≠ 10 ∧ sgnL k ≠ 39 := by
  unfold sgnL
  split <;> decide
theorem lang_ok (k : Nat) : ∀ d ∈ langL k, d ≠ 39 ∧ ill d = false := by
  unfold langL
  split <;> decide
theorem enc_ok (k : Nat) : ∀ d ∈ encL k, d ≠ 39 ∧ ill d = false := by
  unfold encL
  split <;> decide
theorem piece_ok {x : Nat} {pc : List Nat} (h : pc ∈ piecesL x) : ∀ d ∈ pc, d ≠ 39 ∧ ill d = false := by
  have := List.mem_of_mem_take h
  simp only [List.mem_cons, List.not_mem_nil, or_false] at this
  rcases this with rfl | rfl | rfl
  · exact lang_ok _
  · exact enc_ok _
  · decide
/-- what the pieces from the i-th on add to the text -/
noncomputable def bodyFrom (x : Nat) : Nat → List (List Nat) → List Nat
  | _, [] => []
  | i, pc :: r => segL x i r.isEmpty pc ++ bodyFrom x (i + 1) r
noncomputable def bodyL (x : Nat) : List Nat := bodyFrom x 0 (piecesL x)
noncomputable def textL (xs : List Nat) : List Nat := xs.flatMap fun x => bodyL x ++ [10]
/-- where the fault is: p is where the i-th piece's text begins -/
noncomputable def placeFrom (x : Nat) : Nat → Nat → List (List Nat) → Nat
  | _, _, [] => 0
  | p, i, [pc] => if kindL x < 3 then 0 else p + offL x i pc
  | p, i, pc :: r => placeFrom x (p + (segL x i false pc).length) (i + 1) r
def strL (l : List Nat) : PySem.Str := ⟨l.toArray⟩
theorem strL_app (a b : List Nat) : strL a ++ strL b = strL (a ++ b) := by
  show PySem.Str.mk (a.toArray ++ b.toArray) = _
  rw [List.append_toArray]
  rfl
theorem strL_len (a : List Nat) : (strL a).length = a.length := by simp [strL, Str.length]
theorem textL_snoc (xs : List Nat) (x : Nat) : textL (xs ++ [x]) = textL xs ++ (bodyL x ++ [10]) := by simp [textL]
end Mine
end
section
open PySem PySem.W PyProof.Rows PySem.Calls
namespace Mine
/-- what the reading from p gives: p is where the first piece's own text begins -/
def Told (l : List Nat) (x st p i : Nat) (ps : List (List Nat)) : Prop :=
  (kindL x < 3 ∧ Run l st (ps.map strL) (.inl (p + (bodyFrom x i ps).length))) ∨
  (∃ d, 3 ≤ kindL x ∧ d < 128 ∧ l[placeFrom x p i ps]? = some d ∧ (kindL x = 5 → 39 ∈ l.drop (placeFrom x p i ps)) ∧ Run l st (ps.map strL) (.inr (wordsBad l (placeFrom x p i ps) d))) ∨
  (kindL x = 5 ∧ placeFrom x p i ps ≤ l.length ∧ 39 ∉ l.drop (placeFrom x p i ps) ∧ Run l st (ps.map strL) (.inr (wordsEof l 39)))
theorem split39 {r : List Nat} (h : 39 ∈ r) : ∃ r1 r2, r = r1 ++ 39 :: r2 ∧ 39 ∉ r1 := by
  induction r with
  | nil => cases h
  | cons a r ih =>
    by_cases ha : a = 39
    · exact ⟨[], r, by rw [ha]; rfl, by simp⟩
    · rcases List.mem_cons.mp h with e | h
      · exact absurd e.symm ha
      · obtain ⟨r1, r2, e, hn⟩ := ih h
        refine ⟨a :: r1, r2, by rw [e]; rfl, ?_⟩
        intro hm
        rcases List.mem_cons.mp hm with e | hm
        · exact ha e.symm
        · exact hn hm
theorem sgn_lt (k : Nat) : sgnL k < 128 := by unfold sgnL; split <;> decide
theorem seg_f (x i : Nat) (pc : List Nat) : segL x i false pc = gapL ((x / 80 + i) % 6) ++ 39 :: (pc ++ [39]) := by simp [segL]
theorem seg_t0 {x : Nat} (i : Nat) (pc : List Nat) (hk : kindL x < 3) : segL x i true pc = gapL ((x / 80 + i) % 6) ++ 39 :: (pc ++ [39]) := by
  have h3 : kindL x ≠ 3 := by omega
  have h4 : kindL x ≠ 4 := by omega
  have h5 : kindL x ≠ 5 := by omega
  simp [segL, h3, h4, h5]
theorem seg_t3 {x : Nat} (i : Nat) (pc : List Nat) (hk : kindL x = 3) : segL x i true pc = 35 :: 97 :: signL x :: 98 :: 10 :: 39 :: (pc ++ [39]) := by simp [segL, hk]
theorem seg_t4 {x : Nat} (i : Nat) (pc : List Nat) (hk : kindL x = 4) : segL x i true pc = gapL ((x / 80 + i) % 6) ++ 39 :: (pc ++ signL x :: [39]) := by simp [segL, hk]
theorem seg_t5 {x : Nat} (i : Nat) (pc : List Nat) (hk : kindL x = 5) : segL x i true pc = gapL ((x / 80 + i) % 6) ++ 39 :: pc := by simp [segL, hk]
theorem told_one {l hd r pc : List Nat} {x st i : Nat} (hhd : hd = [] ∨ hd = [10]) (h : l.drop st = hd ++ (segL x i true pc ++ 10 :: r)) (hok : ∀ d ∈ pc, d ≠ 39 ∧ ill d = false) (hpc : pc.length ≤ 1000) : Told l x st (st + hd.length) i [pc] := by
  have hb : bodyFrom x i [pc] = segL x i true pc := by simp [bodyFrom]
  have hk6 : kindL x < 6 := Nat.mod_lt _ (by decide)
  have hsg := sgn_ill (x / 2880 % 6)
  rcases (by omega : kindL x < 3 ∨ kindL x = 3 ∨ kindL x = 4 ∨ kindL x = 5) with hk | hk | hk | hk
  · refine .inl ⟨hk, ?_⟩
    rw [seg_t0 i pc hk] at h
    have hp := piece_of (l := l) (p := st) (x := pc) (r := 10 :: r) (g := (x / 80 + i) % 6) hhd (by rw [h]; simp) hok
    rw [hb, seg_t0 i pc hk]
    have e : st + hd.length + (gapL ((x / 80 + i) % 6) ++ 39 :: (pc ++ [39])).length = st + hd.length + (gapL ((x / 80 + i) % 6)).length + pc.length + 2 := by
      simp only [List.length_append, List.length_cons, List.length_nil]; omega
    rw [e]
    exact .piece hp (show (strL pc).length ≤ 1000 by rw [strL_len]; exact hpc) .done
  · refine .inr (.inl ⟨signL x, by omega, sgn_lt _, ?_, fun h5 => by omega, ?_⟩)
    · rw [seg_t3 i pc hk] at h
      have hd2 := drop_more hd h
      have : placeFrom x (st + hd.length) i [pc] = st + hd.length + 2 := by simp [placeFrom, offL, hk]
      rw [this]
      simpa using at_drop 2 hd2
    · rw [seg_t3 i pc hk] at h
      have : placeFrom x (st + hd.length) i [pc] = st + hd.length + 2 := by simp [placeFrom, offL, hk]
      rw [this]
      exact .bad (fault3 (r := 39 :: (pc ++ [39]) ++ 10 :: r) hhd (by rw [h]; simp) hsg.1 hsg.2.1)
  · rw [seg_t4 i pc hk] at h
    have hpl : placeFrom x (st + hd.length) i [pc] = st + hd.length + ((gapL ((x / 80 + i) % 6)).length + 1 + pc.length) := by simp [placeFrom, offL, hk]
    have h2 : l.drop (st + hd.length + ((gapL ((x / 80 + i) % 6)).length + 1 + pc.length)) = signL x :: 39 :: 10 :: r := by
      have := drop_more (hd ++ gapL ((x / 80 + i) % 6) ++ 39 :: pc) (l := l) (p := st) (r := signL x :: 39 :: 10 :: r) (by rw [h]; simp)
      rw [← this]
      congr 1
      simp only [List.length_append, List.length_cons]; omega
    refine .inr (.inl ⟨signL x, by omega, sgn_lt _, ?_, fun h5 => by omega, ?_⟩)
    · rw [hpl]
      simpa using at_drop 0 h2
    · rw [hpl]
      have := fault45 (l := l) (p := st) (x := pc) (r1 := []) (r := 10 :: r) (g := (x / 80 + i) % 6) (sg := signL x) hhd (by rw [h]; simp) hok hsg.1 hsg.2.2 (by simp)
      have e : st + hd.length + (gapL ((x / 80 + i) % 6)).length + 1 + pc.length = st + hd.length + ((gapL ((x / 80 + i) % 6)).length + 1 + pc.length) := by omega
      rw [e] at this
      exact .bad this
  · rw [seg_t5 i pc hk] at h
    have hpl : placeFrom x (st + hd.length) i [pc] = st + hd.length + ((gapL ((x / 80 + i) % 6)).length + 1 + pc.length) := by simp [placeFrom, offL, hk]
    have h2 : l.drop (st + hd.length + ((gapL ((x / 80 + i) % 6)).length + 1 + pc.length)) = 10 :: r := by
      have := drop_more (hd ++ gapL ((x / 80 + i) % 6) ++ 39 :: pc) (l := l) (p := st) (r := 10 :: r) (by rw [h]; simp)
      rw [← this]
      congr 1
      simp only [List.length_append, List.length_cons]; omega
    have hat : l[st + hd.length + ((gapL ((x / 80 + i) % 6)).length + 1 + pc.length)]? = some 10 := by simpa using at_drop 0 h2
    by_cases h39 : 39 ∈ r
    · obtain ⟨r1, r2, er, hr1⟩ := split39 h39
      refine .inr (.inl ⟨10, by omega, by decide, ?_, fun _ => ?_, ?_⟩)
      · rw [hpl]; exact hat
      · rw [hpl, h2]; exact .tail _ h39
      · rw [hpl]
        have := fault45 (l := l) (p := st) (x := pc) (r1 := r1) (r := r2) (g := (x / 80 + i) % 6) (sg := 10) hhd (by rw [h, er]; simp) hok (by decide) (by decide) hr1
        have e : st + hd.length + (gapL ((x / 80 + i) % 6)).length + 1 + pc.length = st + hd.length + ((gapL ((x / 80 + i) % 6)).length + 1 + pc.length) := by omega
        rw [e] at this
        exact .bad this
    · refine .inr (.inr ⟨hk, ?_, ?_, ?_⟩)
      · rw [hpl]
        exact Nat.le_of_lt (List.getElem?_eq_some_iff.mp hat).1
      · rw [hpl, h2]
        intro hm
        rcases List.mem_cons.mp hm with e | hm
        · cases e
        · exact h39 hm
      · refine .bad (faultEnd (l := l) (p := st) (x := pc) (r := 10 :: r) (g := (x / 80 + i) % 6) hhd (by rw [h]; simp) (fun d hd => (hok d hd).1) ?_)
        intro hm
        rcases List.mem_cons.mp hm with e | hm
        · cases e
        · exact h39 hm
theorem told_from {l r : List Nat} {x : Nat} : ∀ (ps : List (List Nat)) (hd : List Nat) (st i : Nat), ps ≠ [] → (hd = [] ∨ hd = [10]) → l.drop st = hd ++ (bodyFrom x i ps ++ 10 :: r) → (∀ pc ∈ ps, ∀ d ∈ pc, d ≠ 39 ∧ ill d = false) → (∀ pc ∈ ps, pc.length ≤ 1000) → Told l x st (st + hd.length) i ps
  | [], _, _, _, hne, _, _, _, _ => absurd rfl hne
  | [pc], hd, st, i, _, hhd, h, hok, hl => told_one hhd (by rw [h, show bodyFrom x i [pc] = segL x i true pc from by simp [bodyFrom]]) (hok pc (.head _)) (hl pc (.head _))
  | pc :: pc2 :: ps, hd, st, i, _, hhd, h, hok, hl => by
    have hb : bodyFrom x i (pc :: pc2 :: ps) = segL x i false pc ++ bodyFrom x (i + 1) (pc2 :: ps) := by simp [bodyFrom]
    have hpl : placeFrom x (st + hd.length) i (pc :: pc2 :: ps) = placeFrom x (st + hd.length + (segL x i false pc).length) (i + 1) (pc2 :: ps) := rfl
    rw [hb] at h
    have hp := piece_of (l := l) (p := st) (x := pc) (r := bodyFrom x (i + 1) (pc2 :: ps) ++ 10 :: r) (g := (x / 80 + i) % 6) hhd (by rw [h, seg_f]; simp) (hok pc (.head _))
    have hlen : st + hd.length + (segL x i false pc).length = st + hd.length + (gapL ((x / 80 + i) % 6)).length + pc.length + 2 := by
      rw [seg_f]
      simp only [List.length_append, List.length_cons, List.length_nil]; omega
    have hdr : l.drop (st + hd.length + (segL x i false pc).length) = [] ++ (bodyFrom x (i + 1) (pc2 :: ps) ++ 10 :: r) := by
      have := drop_more (hd ++ segL x i false pc) (l := l) (p := st) (r := bodyFrom x (i + 1) (pc2 :: ps) ++ 10 :: r) (by rw [h]; simp)
      rw [List.nil_append, ← this]
      congr 1
      simp only [List.length_append]; omega
    have ih := told_from (pc2 :: ps) [] _ (i + 1) (by simp) (.inl rfl) hdr (fun q hq => hok q (.tail _ hq)) (fun q hq => hl q (.tail _ hq))
    rw [List.length_nil, Nat.add_zero] at ih
    rw [← hlen] at hp
    have hx : (strL pc).length ≤ 1000 := by rw [strL_len]; exact hl pc (.head _)
    rcases ih with ⟨hk, hr⟩ | ⟨d, h3, hd, hat, h5, hr⟩ | ⟨hk, hple, hno, hr⟩
    · refine .inl ⟨hk, ?_⟩
      rw [hb, List.length_append, ← Nat.add_assoc]
      exact .piece hp hx hr
    · refine .inr (.inl ⟨d, h3, hd, ?_, ?_, ?_⟩)
      · rw [hpl]; exact hat
      · rw [hpl]; exact h5
      · rw [hpl]; exact .piece hp hx hr
    · refine .inr (.inr ⟨hk, ?_, ?_, .piece hp hx hr⟩)
      · rw [hpl]; exact hple
      · rw [hpl]; exact hno
theorem pieces_len (x : Nat) : 1 ≤ (piecesL x).length ∧ (piecesL x).length ≤ 3 := by
  have h : ∀ k, k < 4 → 1 ≤ cntL k ∧ cntL k ≤ 3 := by decide
  have := h (x % 4) (Nat.mod_lt _ (by decide))
  unfold piecesL
  rw [List.length_take]
  simp only [List.length_cons, List.length_nil]
  omega
theorem piece_short {x : Nat} {pc : List Nat} (h : pc ∈ piecesL x) : pc.length ≤ 1000 := by
  have := List.mem_of_mem_take h
  simp only [List.mem_cons, List.not_mem_nil, or_false] at this
  rcases this with rfl | rfl | rfl
  · unfold langL; split <;> decide
  · unfold encL; split <;> decide
  · decide
/-- the plain law -/
theorem told_all (pre post : List Nat) (x : Nat) : Told (textL (pre ++ x :: post)) x ((textL pre).length - 1) (textL pre).length 0 (piecesL x) := by
  have hT : textL (pre ++ x :: post) = textL pre ++ (bodyL x ++ 10 :: textL post) := by simp [textL]
  have hne : piecesL x ≠ [] := by
    intro e
    have := (pieces_len x).1
    rw [e] at this
    simp at this
  rcases List.eq_nil_or_concat pre with rfl | ⟨pre', y, rfl⟩
  · have := told_from (l := textL ([] ++ x :: post)) (r := textL post) (x := x) (piecesL x) [] 0 0 hne (.inl rfl) (by rw [hT]; rfl) (fun pc hp => piece_ok hp) (fun pc hp => piece_short hp)
    exact this
  · have hpre : textL (pre'.concat y) = (textL pre' ++ bodyL y) ++ [10] := by rw [List.concat_eq_append, textL_snoc, List.append_assoc]
    have hlen : (textL (pre'.concat y)).length = (textL pre' ++ bodyL y).length + 1 := by rw [hpre, List.length_append]; rfl
    have := told_from (l := textL (pre'.concat y ++ x :: post)) (r := textL post) (x := x) (piecesL x) [10] (textL pre' ++ bodyL y).length 0 hne (.inr rfl) (by
      rw [hT, hpre, List.append_assoc]
      rw [List.drop_append_of_le_length (Nat.le_refl _), List.drop_length]
      rfl) (fun pc hp => piece_ok hp) (fun pc hp => piece_short hp)
    rw [hlen, Nat.add_sub_cancel]
    exact this
end Mine
end
section
open PySem PySem.W PyProof.Rows PySem.Calls
namespace Mine
theorem ok_app {a b : PySem.Str} (ha : PyData.strOk a = true) (hb : PyData.strOk b = true) : PyData.strOk (a ++ b) = true := by
  show (a.cps ++ b.cps).all _ = true
  rw [Array.all_append]
  exact Bool.and_eq_true_iff.mpr ⟨ha, hb⟩
theorem ok_strL {l : List Nat} (h : ∀ d ∈ l, d < 0x110000) : PyData.strOk (strL l) = true := by
  show l.toArray.all _ = true
  rw [List.all_toArray, List.all_eq_true]
  intro d hd
  exact decide_eq_true (h d hd)
theorem piece_str {x : Nat} {y : PySem.Str} (h : y ∈ (piecesL x).map strL) : PyData.strOk y = true := by
  obtain ⟨pc, hp, rfl⟩ := List.mem_map.mp h
  have := List.mem_of_mem_take hp
  simp only [List.mem_cons, List.not_mem_nil, or_false] at this
  refine ok_strL ?_
  rcases this with rfl | rfl | rfl
  · unfold langL; split <;> decide
  · unfold encL; split <;> decide
  · decide
theorem ok_opt {x : PySem.Str} (h : PyData.strOk x = true) : PyData.strOk ((optS x).getD (Str.ofString "C")) = true := by
  unfold optS
  split
  · decide +kernel
  · exact h
theorem ans_ok {xs : List PySem.Str} (h : ∀ y ∈ xs, PyData.strOk y = true) : PyData.strOk (ansOf xs).1 = true ∧ PyData.strOk (ansOf xs).2 = true := by
  have hp : PyData.strOk (Str.ofString ".") = true := by decide +kernel
  unfold ansOf
  split
  · rename_i x y
    have hx := h x (.head _)
    have hy := h y (.tail _ (.head _))
    refine ⟨?_, ok_app (ok_app hx hp) hy⟩
    show PyData.strOk (nameOf (optS x) (optS y)) = true
    unfold nameOf
    split
    · exact ok_opt hx
    · rename_i z hz
      have : z = y := by
        unfold optS at hz
        split at hz
        · cases hz
        · exact (Option.some.inj hz).symm
      rw [this]
      exact ok_app (ok_app (ok_opt hx) hp) hy
  · exact ⟨by decide +kernel, by decide +kernel⟩
theorem strs_lay : ∀ xs : List PySem.Str, (∀ y ∈ xs, PyData.strOk y = true) → PyData.canLayAll0 (xs.map PyData.str) = true
  | [], _ => rfl
  | x :: r, h => by simp [PyData.canLayAll0, PyData.canLay0, strs_lay r (fun y hy => h y (.tail _ hy)), h x (.head _)]
theorem strs_depth : ∀ xs : List PySem.Str, PyData.depthAll (xs.map PyData.str) = 0
  | [] => rfl
  | _ :: r => by simp [PyData.depthAll, PyData.depth, strs_depth r]
theorem zip_reads (h : Heap) : ∀ (xs : List PySem.Str) (ts : List Tok), ts.length = xs.length → ReadsAll h (List.zipWith (fun x t => Value.str x t) xs ts) (xs.map PyData.str) []
  | [], [], _ => .nil
  | [], _ :: _, e => nomatch e
  | _ :: _, [], e => nomatch e
  | x :: xs, t :: ts, e => .cons (as := []) (.str x t) (zip_reads h xs ts (by simpa using e))
theorem StrsV.reads {vs : List Value} {xs : List PySem.Str} (v : StrsV vs xs) (h : Heap) : ReadsAll h vs (xs.map PyData.str) [] := by
  obtain ⟨ts, e, rfl⟩ := v.toks
  exact zip_reads h xs ts e
/-- the answer, as data -/
def ansD (r : Nat) (xs : List PySem.Str) : PyData := .tuple [.int (r : Nat), .list (xs.map .str), .list [.str (ansOf xs).1, .str (ansOf xs).2]]
theorem ans_lay (r : Nat) {xs : List PySem.Str} (h : ∀ y ∈ xs, PyData.strOk y = true) : (ansD r xs).canLay0 = true := by
  simp [ansD, PyData.canLay0, PyData.canLayAll0, strs_lay xs h, ans_ok h]
theorem ans_shaped (r : Nat) {xs : List PySem.Str} (h : ∀ y ∈ xs, PyData.strOk y = true) : SeqAt.shaped (ansD r xs) = true := by
  refine Bool.and_eq_true_iff.mpr ⟨ans_lay r h, ?_⟩
  simp [ansD, PyData.depth, PyData.depthAll, strs_depth]
theorem ans_reads {h : Heap} {D C M : Addr} {vs : List Value} {xs : List PySem.Str} {cap n r : Nat} {t ta tb : Tok}
    (hD : h.get? D = some { cls := .type "tuple", data := .seq #[.int (r : Nat) t, .ref C, .ref M] }) (hC : h.get? C = some (W.listOf (List.toArray vs) cap)) (hM : h.get? M = some (W.listOf #[.str (ansOf xs).1 ta, .str (ansOf xs).2 tb] n)) (hv : StrsV vs xs) :
    Reads h (.ref D) (ansD r xs) [C, M] := by
  refine reads_tuple_at hD rfl rfl ?_
  refine .cons (as := []) (.int _ _) ?_
  refine .cons (as := [C]) (bs := [M]) (reads_list_at (as := []) hC rfl rfl (hv.reads h)) ?_
  refine .cons (as := [M]) (bs := []) (reads_list_at (as := []) hM rfl rfl ?_) .nil
  exact .cons (as := []) (.str _ _) (.cons (as := []) (.str _ _) .nil)
/-- two equal answers are not unequal -/
theorem ne_ans {w : World} {A : Around} {E Q : Value → Shared → Prop} {s : Shared} {D C M D' C' M' : Addr} {vs vs' : List Value} {xs : List PySem.Str} {cap cap' n n' r : Nat} {t ta tb t' ta' tb' : Tok}
    (hu : A.units + 64 < cLine) (hx : ∀ y ∈ xs, PyData.strOk y = true)
    (hD : s.heap.get? D = some { cls := .type "tuple", data := .seq #[.int (r : Nat) t, .ref C, .ref M] }) (hC : s.heap.get? C = some (W.listOf (List.toArray vs) cap)) (hM : s.heap.get? M = some (W.listOf #[.str (ansOf xs).1 ta, .str (ansOf xs).2 tb] n)) (hv : StrsV vs xs)
    (hD' : s.heap.get? D' = some { cls := .type "tuple", data := .seq #[.int (r : Nat) t', .ref C', .ref M'] }) (hC' : s.heap.get? C' = some (W.listOf (List.toArray vs') cap')) (hM' : s.heap.get? M' = some (W.listOf #[.str (ansOf xs).1 ta', .str (ansOf xs).2 tb'] n')) (hv' : StrsV vs' xs)
    (h : Q (.bool false) s) : wpAny (model PR w) A (compareOp .NotEq (.ref D) (.ref D')) Q E s := by
  refine ne_dataH (ans_reads hD hC hM hv) (ans_reads hD' hC' hM' hv') (ans_shaped _ hx) (ans_shaped _ hx) hu ?_
  rw [SeqAt.eqv_refl _ (ans_lay _ hx)]
  exact h
end Mine
end
section
open PySem PySem.W PyProof.Rows PySem.Calls
set_option maxHeartbeats 4000000
namespace Mine
/-- values that are these numbers -/
inductive IntsV : List Value → List Nat → Prop
  | nil : IntsV [] []
  | cons {vs : List Value} {xs : List Nat} (x : Nat) (t : Tok) (h : IntsV vs xs) (hx : x < 1000000) : IntsV (.int x t :: vs) (x :: xs)
/-- the plans so far, as objects -/
inductive PLed : List Nat → List Value → List (Addr × Obj) → Prop
  | nil : PLed [] [] []
  | snoc {done : List Nat} {refs : List Value} {led : List (Addr × Obj)} (h : PLed done refs led) (x : Nat) (tA pA cap : Nat) (vs : List Value) (t1 t2 t3 t4 : Tok) (hv : StrsV vs ((piecesL x).map strL)) :
    PLed (done ++ [x]) (refs ++ [.ref tA]) ((tA, { cls := .type "tuple", data := .seq #[.int ((textL done).length - 1 : Nat) t1, .ref pA, .int (kindL x : Nat) t2, .int (placeFrom x (textL done).length 0 (piecesL x) : Nat) t3, .int ((textL done).length + (bodyL x).length : Nat) t4] }) :: (pA, W.listOf (List.toArray vs) cap) :: led)
theorem allLt_to {d : Nat} {l : List (Addr × Obj)} (h : AllLt d l) : ∀ p ∈ l, p.1 < d := by
  induction l with
  | nil => intro p hp; exact absurd hp List.not_mem_nil
  | cons q r ih =>
    intro p hp
    rcases List.mem_cons.mp hp with e | hp
    · rw [e]; exact h.1
    · exact ih h.2 p hp
theorem name3 {g h : Heap} {L : Addr} {a b : Addr × Obj} {l : List (Addr × Obj)} (N : News g L h (a :: b :: l)) : ∃ a' b' l', a' = a ∧ b' = b ∧ l' = l ∧ News g L h (a' :: b' :: l') := ⟨a, b, l, rfl, rfl, rfl, N⟩
def GapsO (o : Obj) : Prop := ∃ vs n, o = W.listOf (List.toArray vs) n ∧ vs.length = 6 ∧ ∀ k, k < 6 → ∃ t, vs[k]? = some (.str (strL (gapL k)) t)
section
variable {prog : Program} {w : World} {A : Around} {E : Value → Shared → Prop} {s : Shared}
theorem item_pick {value slice : PySem.Expr} {l : Addr} {vs : List Value} {f : Nat → List Nat} {n j : Nat} {k : Int} {u : Tok} {Q : Value → Shared → Prop} (hl : s.heap.IsList l vs.toArray) (hk : k = (j : Int)) (hj : j < n) (hn : n < 100) (hf : ∀ i, i < n → ∃ t, vs[i]? = some (.str (strL (f i)) t))
    (h : ∀ t, Q (.str (strL (f j)) t) s)
    (hs : subscripted slice false (.ref l) (.int k u) = operate [.ref l, .int k u] (getItem (.ref l) (.int k u)) := by with_unfolding_all rfl) :
    wpAny (model prog w) A (subscriptTail value slice (.ref l) (.int k u)) Q E s := by
  obtain ⟨t, e⟩ := hf j hj
  have h63 : ((j : Nat) : Int) < 2 ^ 63 := Int.lt_of_lt_of_le (by omega : (j : Int) < 100) (by decide)
  exact tail_any hl.typeIs slot_list_getitem.lookup (wpAny_getItem_list (x := .str (strL (f j)) t) hl (by rw [hk]; exact Int.natCast_nonneg _) (by rw [hk]; exact h63) (by rw [hk]; simpa using e) (h t)) hs
theorem item_int {value slice : PySem.Expr} {l : Addr} {vs : List Value} {f : Nat → Nat} {n j : Nat} {k : Int} {u : Tok} {Q : Value → Shared → Prop} (hl : s.heap.IsList l vs.toArray) (hk : k = (j : Int)) (hj : j < n) (hn : n < 100) (hf : ∀ i, i < n → ∃ t, vs[i]? = some (.int (f i : Nat) t))
    (h : ∀ t, Q (.int (f j : Nat) t) s)
    (hs : subscripted slice false (.ref l) (.int k u) = operate [.ref l, .int k u] (getItem (.ref l) (.int k u)) := by with_unfolding_all rfl) :
    wpAny (model prog w) A (subscriptTail value slice (.ref l) (.int k u)) Q E s := by
  obtain ⟨t, e⟩ := hf j hj
  have h63 : ((j : Nat) : Int) < 2 ^ 63 := Int.lt_of_lt_of_le (by omega : (j : Int) < 100) (by decide)
  exact tail_any hl.typeIs slot_list_getitem.lookup (wpAny_getItem_list (x := .int (f j : Nat) t) hl (by rw [hk]; exact Int.natCast_nonneg _) (by rw [hk]; exact h63) (by rw [hk]; simpa using e) (h t)) hs
end
theorem pick_upto (vs : List Value) (c : Nat) : slicePick vs.toArray none (some (c : Int)) none = (vs.take c).toArray := by
  have e : sliceBounds none (some (c : Int)) none vs.toArray.size = (((0 : Nat) : Int), ((min c vs.toArray.size : Nat) : Int), 1) := by
    simp only [sliceBounds, Option.getD_none, show (1 : Int) > 0 by decide, if_true, if_neg (show ¬ ((c : Int) < 0) by omega)]
    congr 1
    congr 1
    omega
  rw [kmk_pick_nat _ e, List.drop_zero, Nat.sub_zero, List.size_toArray, kmk_take_min]
section
variable {prog : Program} {w : World} {A : Around} {E : Value → Shared → Prop} {s : Shared} {h₀ : Heap} {L l : Addr} {m : PySem.Str → Option Value} {news : List (Addr × Obj)}
theorem slice_temp {value slice : PySem.Expr} {vs : List Value} {c : Nat} {tu : Tok} {Q : Value → Shared → Prop} (F : Fr h₀ L s.heap m) (N : News h₀ L s.heap news) (hl : s.heap.IsList l vs.toArray) (hsz : vs.length ≤ 100)
    (h : ∀ D h', Fr h₀ L h' m → News h₀ L h' ((D, W.listOf (vs.take c).toArray 0) :: news) → (∀ p ∈ news, p.1 < D) → Q (.ref D) { s with heap := h' })
    (hs : subscripted slice false (.ref l) (.ref s.heap.objs.size) = operate [.ref s.heap.objs.size, .ref l] (getItem (.ref l) (.ref s.heap.objs.size)) := by with_unfolding_all rfl) :
    wpAny (model prog w) A (subscriptTail value slice (.ref l) (.ref s.heap.objs.size)) Q E { s with heap := s.heap.push { cls := .type "slice", data := .fields #[.none, .int (c : Nat) tu, .none] } } := by
  refine tail_any (Heap.IsList.typeIs (s := { s with heap := s.heap.push { cls := .type "slice", data := .fields #[.none, .int (c : Nat) tu, .none] } }) (hl.push _)) slot_list_getitem.lookup
    (wpAny_getItem_list_slice (hl.push _) (Heap.IsSliceOf.new ..) .none (.int _ _) .none (by simp) ?_ (by rw [List.size_toArray, sizeLine_eq]; omega)) hs
  have N1 := News.push (F.push { cls := .type "slice", data := .fields #[.none, .int (c : Nat) tu, .none] }) (N.grown fun _ _ e => Heap.get?_push_of_some _ e) { cls := .type "list", data := .seq (slicePick vs.toArray none (some (c : Int)) none) }
  rw [Heap.size_push] at N1
  show Q (.ref (s.heap.push _).objs.size) _
  rw [Heap.size_push]
  have e := pick_upto vs c
  rw [e] at N1 ⊢
  refine h _ _ ?_ N1 (fun p hp => Nat.lt_succ_of_lt (Heap.lt_size (N p hp).1))
  exact (F.push _).push _
end
theorem fdm (x : Nat) (a b : Nat) : Int.fmod (Int.fdiv (x : Int) (a : Int)) (b : Int) = ((x / a % b : Nat) : Int) := by
  rw [Int.fdiv_eq_ediv_of_nonneg _ (Int.natCast_nonneg a), Int.fmod_eq_emod_of_nonneg _ (Int.natCast_nonneg b)]
  rfl
theorem fm (x : Nat) (b : Nat) : Int.fmod (x : Int) (b : Int) = ((x % b : Nat) : Int) := by
  rw [Int.fmod_eq_emod_of_nonneg _ (Int.natCast_nonneg b)]
  rfl
theorem fdam (x i : Nat) (a b : Nat) : Int.fmod (Int.fdiv (x : Int) (a : Int) + (i : Int)) (b : Int) = (((x / a + i) % b : Nat) : Int) := by
  rw [Int.fdiv_eq_ediv_of_nonneg _ (Int.natCast_nonneg a), Int.fmod_eq_emod_of_nonneg _ (Int.natCast_nonneg b)]
  rfl
theorem ofQ : Str.ofString "'" = strL [39] := by decide +kernel
theorem seg_mid (x i : Nat) (l pc : List Nat) : strL l ++ strL (gapL ((x / 80 + i) % 6)) ++ Str.ofString "'" ++ strL pc ++ Str.ofString "'" = strL (l ++ segL x i false pc) := by
  rw [ofQ]
  simp only [strL_app, segL, Bool.false_and, Bool.false_eq_true, if_false, List.append_assoc, List.nil_append]
theorem ofA : Str.ofString "#a" = strL [35, 97] ∧ Str.ofString "b\n'" = strL [98, 10, 39] := by decide +kernel
theorem seg3 {x : Nat} {sg : PySem.Str} (i : Nat) (l pc : List Nat) (hk : kindL x = 3) (hs : strL [signL x] = sg) : strL l ++ Str.ofString "#a" ++ sg ++ Str.ofString "b\n'" ++ strL pc ++ Str.ofString "'" = strL (l ++ segL x i true pc) := by
  rw [ofQ, ofA.1, ofA.2, ← hs]
  simp [strL_app, segL, hk]
theorem seg4 {x : Nat} {sg : PySem.Str} (i : Nat) (l pc : List Nat) (hk : kindL x = 4) (hs : strL [signL x] = sg) : strL l ++ strL (gapL ((x / 80 + i) % 6)) ++ Str.ofString "'" ++ strL pc ++ sg ++ Str.ofString "'" = strL (l ++ segL x i true pc) := by
  rw [ofQ, ← hs]
  simp [strL_app, segL, hk]
theorem seg5 {x : Nat} (i : Nat) (l pc : List Nat) (hk : kindL x = 5) : strL l ++ strL (gapL ((x / 80 + i) % 6)) ++ Str.ofString "'" ++ strL pc = strL (l ++ segL x i true pc) := by
  rw [ofQ]
  simp [strL_app, segL, hk]
theorem seg0 {x : Nat} (i : Nat) (l pc : List Nat) (hk : kindL x < 3) : strL l ++ strL (gapL ((x / 80 + i) % 6)) ++ Str.ofString "'" ++ strL pc ++ Str.ofString "'" = strL (l ++ segL x i true pc) := by
  rw [ofQ]
  have h3 : kindL x ≠ 3 := by omega
  have h4 : kindL x ≠ 4 := by omega
  have h5 : kindL x ≠ 5 := by omega
  simp [strL_app, segL, h3, h4, h5]
theorem len4 (i x : Nat) (l pc : List Nat) : (strL l).length + (strL (gapL ((x / 80 + i) % 6))).length + (Str.ofString "'").length + (strL pc).length = l.length + ((gapL ((x / 80 + i) % 6)).length + 1 + pc.length) := by
  rw [ofQ]
  simp only [strL_len, List.length_cons, List.length_nil]
  omega
theorem place3 {x p i : Nat} {pc : List Nat} (hk : kindL x = 3) : placeFrom x p i [pc] = p + 2 := by simp [placeFrom, offL, hk]
theorem place45 {x p i : Nat} {pc : List Nat} (hk : kindL x = 4 ∨ kindL x = 5) : placeFrom x p i [pc] = p + ((gapL ((x / 80 + i) % 6)).length + 1 + pc.length) := by
  rcases hk with hk | hk <;> simp [placeFrom, offL, hk]
theorem place0 {x p i : Nat} {pc : List Nat} (hk : kindL x < 3) : placeFrom x p i [pc] = 0 := by simp [placeFrom, hk]
theorem ofS : Str.ofString "" = strL [] ∧ Str.ofString " " = strL [32] ∧ Str.ofString "\t\n " = strL [9, 10, 32] ∧ Str.ofString "# it's\n" = strL [35, 32, 105, 116, 39, 115, 10] ∧ Str.ofString "#\n\n #,'\t\n" = strL [35, 10, 10, 32, 35, 44, 39, 9, 10] ∧ Str.ofString "\n" = strL [10] := by decide +kernel
theorem gaps_ok (t0 t1 t2 t3 t4 t5 : Tok) (n : Nat) : GapsO (W.listOf #[.str (Str.ofString "") t0, .str (Str.ofString " ") t1, .str (Str.ofString "\t\n ") t2, .str (Str.ofString "# it's\n") t3, .str (Str.ofString "#\n\n #,'\t\n") t4, .str (Str.ofString "\n") t5] n) := by
  obtain ⟨e0, e1, e2, e3, e4, e5⟩ := ofS
  rw [e0, e1, e2, e3, e4, e5]
  refine ⟨[.str (strL []) t0, .str (strL [32]) t1, .str (strL [9, 10, 32]) t2, .str (strL [35, 32, 105, 116, 39, 115, 10]) t3, .str (strL [35, 10, 10, 32, 35, 44, 39, 9, 10]) t4, .str (strL [10]) t5], n, rfl, rfl, fun k hk => ?_⟩
  match k, hk with
  | 0, _ => exact ⟨t0, rfl⟩
  | 1, _ => exact ⟨t1, rfl⟩
  | 2, _ => exact ⟨t2, rfl⟩
  | 3, _ => exact ⟨t3, rfl⟩
  | 4, _ => exact ⟨t4, rfl⟩
  | 5, _ => exact ⟨t5, rfl⟩
theorem text_nl (done : List Nat) (x : Nat) : strL (textL done ++ bodyL x) ++ Str.ofString "\n" = strL (textL (done ++ [x])) := by
  rw [textL_snoc, ofS.2.2.2.2.2, strL_app, List.append_assoc]
theorem sign_len : (Str.ofString "\x00\x08\x0b\x1f\x7f\r").length = 6 := by decide +kernel
theorem sign_all : ∀ j, j < 6 → Txt.item (Str.ofString "\x00\x08\x0b\x1f\x7f\r") ((j : Nat) : Int) = strL [sgnL j] := by
  have e : Str.ofString "\x00\x08\x0b\x1f\x7f\r" = strL [0, 8, 11, 31, 127, 13] := by decide +kernel
  rw [e]
  intro j hj
  have h : (strL [0, 8, 11, 31, 127, 13]).cps[j]? = some (sgnL j) := by
    rcases (by omega : j = 0 ∨ j = 1 ∨ j = 2 ∨ j = 3 ∨ j = 4 ∨ j = 5) with rfl | rfl | rfl | rfl | rfl | rfl <;> rfl
  exact item_at h
theorem sign_at (x : Nat) : Txt.item (Str.ofString "\x00\x08\x0b\x1f\x7f\r") (Int.fmod (Int.fdiv (x : Int) 2880) 6) = strL [signL x] := by
  have e := fdm x 2880 6
  have e' : Int.fmod (Int.fdiv (x : Int) 2880) 6 = ((x / 2880 % 6 : Nat) : Int) := e
  rw [e']
  exact sign_all _ (Nat.mod_lt _ (by decide))
theorem ofLang : Str.ofString "de" = strL (langL 0) ∧ Str.ofString "" = strL (langL 1) ∧ Str.ofString "a.b" = strL (langL 2) ∧ Str.ofString "\t#" = strL (langL 3) ∧ Str.ofString "C\u0085" = strL (langL 4) := by decide +kernel
theorem lang_pick (t0 t1 t2 t3 t4 : Tok) : ∀ i, i < 5 → ∃ t, ([.str (Str.ofString "de") t0, .str (Str.ofString "") t1, .str (Str.ofString "a.b") t2, .str (Str.ofString "\t#") t3, .str (Str.ofString "C\u0085") t4] : List Value)[i]? = some (.str (strL (langL i)) t) := by
  obtain ⟨e0, e1, e2, e3, e4⟩ := ofLang
  rw [e0, e1, e2, e3, e4]
  intro i hi
  rcases (by omega : i = 0 ∨ i = 1 ∨ i = 2 ∨ i = 3 ∨ i = 4) with rfl | rfl | rfl | rfl | rfl <;> exact ⟨_, rfl⟩
theorem ofEnc : Str.ofString "UTF-8" = strL (encL 0) ∧ Str.ofString "" = strL (encL 1) ∧ Str.ofString "." = strL (encL 2) ∧ Str.ofString " 1" = strL (encL 3) := by decide +kernel
theorem enc_pick (t0 t1 t2 t3 : Tok) : ∀ i, i < 4 → ∃ t, ([.str (Str.ofString "UTF-8") t0, .str (Str.ofString "") t1, .str (Str.ofString ".") t2, .str (Str.ofString " 1") t3] : List Value)[i]? = some (.str (strL (encL i)) t) := by
  obtain ⟨e0, e1, e2, e3⟩ := ofEnc
  rw [e0, e1, e2, e3]
  intro i hi
  rcases (by omega : i = 0 ∨ i = 1 ∨ i = 2 ∨ i = 3) with rfl | rfl | rfl | rfl <;> exact ⟨_, rfl⟩
theorem cnt_pick (t0 t1 t2 t3 : Tok) : ∀ i, i < 4 → ∃ t, ([.int 2 t0, .int 1 t1, .int 3 t2, .int 2 t3] : List Value)[i]? = some (.int (cntL i : Nat) t) := by
  intro i hi
  rcases (by omega : i = 0 ∨ i = 1 ∨ i = 2 ∨ i = 3) with rfl | rfl | rfl | rfl <;> exact ⟨_, rfl⟩
/-- values that are these pieces -/
inductive StrsC : List Value → List (List Nat) → Prop
  | nil : StrsC [] []
  | cons {vs : List Value} {ps : List (List Nat)} (pc : List Nat) (t : Tok) (h : StrsC vs ps) (hl : pc.length ≤ 5) : StrsC (.str (strL pc) t :: vs) (pc :: ps)
theorem StrsC.len {vs : List Value} {ps : List (List Nat)} (h : StrsC vs ps) : vs.length = ps.length := by
  induction h with
  | nil => rfl
  | cons _ _ _ _ ih => simp [ih]
theorem StrsC.take {vs : List Value} {ps : List (List Nat)} (h : StrsC vs ps) : ∀ c, StrsC (vs.take c) (ps.take c) := by
  induction h with
  | nil => intro c; simp; exact .nil
  | cons pc t _ hl ih =>
    intro c
    cases c with
    | zero => exact .nil
    | succ c => exact .cons pc t (ih c) hl
theorem StrsC.strsV {vs : List Value} {ps : List (List Nat)} (h : StrsC vs ps) : StrsV vs (ps.map strL) := by
  have key : ∀ {vs : List Value} {ps : List (List Nat)}, StrsC vs ps → ∀ (a : List Value) (b : List PySem.Str), StrsV a b → StrsV (a ++ vs) (b ++ ps.map strL) := by
    intro vs ps h
    induction h with
    | nil => intro a b hab; simpa using hab
    | cons pc t h hl ih =>
      intro a b hab
      have := ih _ _ (hab.snoc (x := strL pc) (t := t) (by rw [strL_len]; omega))
      simpa using this
  simpa using key h [] [] .nil
theorem lang_len (k : Nat) : (langL k).length ≤ 5 := by unfold langL; split <;> decide
theorem enc_len (k : Nat) : (encL k).length ≤ 5 := by unfold encL; split <;> decide
theorem gap_len (k : Nat) : (gapL k).length ≤ 9 := by unfold gapL; split <;> decide
theorem ofX : Str.ofString "x" = strL [120] := by decide +kernel
theorem strsC3 (a b : Nat) (t1 t2 t3 : Tok) : StrsC [.str (strL (langL a)) t1, .str (strL (encL b)) t2, .str (Str.ofString "x") t3] [langL a, encL b, [120]] := by
  rw [ofX]
  exact .cons _ _ (.cons _ _ (.cons _ _ .nil (by decide)) (enc_len b)) (lang_len a)
theorem enum_nil {i : Nat} {rv : List Value} (h : [] = enumItems i rv) : rv = [] := by
  cases rv with
  | nil => rfl
  | cons _ _ => cases h
theorem enum_cons {i : Nat} {a : Itm} {r : List Itm} {rv : List Value} (h : a :: r = enumItems i rv) : ∃ v rv', rv = v :: rv' ∧ a = .pair (fun t => .int (i : Int) t) v ∧ r = enumItems (i + 1) rv' := by
  cases rv with
  | nil => cases h
  | cons v rv' =>
    obtain ⟨h1, h2⟩ := List.cons.inj h
    exact ⟨v, rv', rfl, h1, h2⟩
theorem PLed.len {xs : List Nat} {refs : List Value} {led : List (Addr × Obj)} (h : PLed xs refs led) : refs.length = xs.length := by
  induction h with
  | nil => rfl
  | snoc _ _ _ _ _ _ _ _ _ _ _ ih => simp [ih]
theorem textL_len (xs : List Nat) : xs.length ≤ (textL xs).length := by
  induction xs with
  | nil => exact Nat.zero_le _
  | cons x r ih =>
    simp only [textL, List.flatMap_cons, List.length_append, List.length_cons, List.length_nil] at ih ⊢
    omega
end Mine
end
section
open PySem PySem.W PyProof.Rows PySem.Calls
set_option maxHeartbeats 4000000
namespace Mine
local macro_rules | `(tactic| walk_at "call builtin:len") => `(tactic| ((with_reducible show wpAny _ _ (call (Value.builtin "len") [Value.ref _]) _ _ _); refine Halt.mk ?_))
local macro_rules | `(tactic| walk_at "call type:enumerate") => `(tactic| (refine Halt.mk ?_))
local macro_rules | `(tactic| walk_at "UnrEndW") => `(tactic| (refine Halt.mk ?_))
local macro_rules | `(tactic| walk_at "subscriptTail") => `(tactic| (refine Halt.mk ?_))
local macro_rules | `(tactic| walk_at "exec For Tuple Call cons nil") => `(tactic| (refine Halt.mk ?_))
theorem file_ok {w : World} {A A₀ : Around} {base h₀ : Heap} {outer : List Env} {env : Env} {L : Addr} {m : PySem.Str → Option Value} {news : List (Addr × Obj)} {s : Shared} {Q E : Value → Shared → Prop} {mg mb : PySem.Str → Option Value} {mean : ExcName → Option Value}
  (B : Below A₀ base outer h₀) (F : Fr h₀ L s.heap m) (X : (KK w.params).In h₀) (T : Top topProg LG mean mg mb h₀)
  (hA : A.frames = some (env :: outer)) (hf : env.frame = some L) (hke : env.scope.kind = .function) (hd : A.depth + 3 < recursionLimit) (hu : A.units + 20 < cLine) (hh : A.handled = none)
  (Dd : Addr) (cap : Nat) (vs : List Value) (xs : List Nat) (hv : IntsV vs xs) (N : News h₀ L s.heap ((Dd, W.listOf (List.toArray vs) cap) :: news)) (hlen : (textL xs).length ≤ 50000)
  (hret : ∀ D tt refs pcap led aP h' tk', Fr h₀ L h' m → PLed xs refs led → News h₀ L h' ((D, { cls := .type "tuple", data := .seq #[.str (strL (textL xs)) tt, .ref aP] }) :: (aP, W.listOf (List.toArray refs) pcap) :: (led ++ news)) → (∀ p ∈ led, aP < p.1) → (∀ p ∈ news, p.1 < aP) → Q (.ref D) {s with heap := h', toks := tk'}) :
  wpAny (model PR w) A (call (.ref 114) [.ref Dd]) Q E s := by
  have kf0 : PySem.Challenge.rw_nb0113_01 = PySem.Challenge.rw_nb0113_01 ∧ KK = KK := by (k_fill; exact ⟨rfl, rfl⟩)
  clear kf0
  refine wpAny_call ?_
  k_dflt (refine' code_def ?k1 ?k2 ?k3 ?k4 ?k5 ?kA ?kF ?kK ?k6 ?k7 ?k8 ?k9 ?kB ?_ ?c2 ?c3 ?c4 ?c5; (case kA => exact hA); (case kF => exact hf); (case kK => assumption); (case k1 => k_asm); (case k2 => k_asm); (case k3 => k_asm); (case k4 => k_asm); (case k5 => k_asm); (case k6 => k_is); (case k7 => k_is); (case k8 => omega); (case k9 => exact BindsTo.of_eq rfl); (case c5 => decide); (case kB => exact locs rfl); (case c2 => exact rfl); (case c3 => exact rfl); (case c4 => exact rfl); k_whole)
  intro g' L' h' FG' F' N' B' X' T'
  replace F' : Fr g' L' h' (fun y => List.lookup y [(Str.ofString "draws", .ref Dd)]) := F'
  (with_unfolding_all show wpAny _ _ (execs [_, _, _, _, _] _) _ _ _)
  (try dsimp only); (try k_lift B'); (try k_fold)
  k_steps
  rename Fr g' L' _ _ => F₂
  rename News g' L' _ _ => N₂
  refine For_turns F₂ ?_
  k_steps
  rename (_ < _ ∧ Dd < _ ∧ AllLt _ news) => lP
  rename (Dd < _ ∧ AllLt _ news) => lG
  rename_i aG _ _ _ _ aP _ _
  have hGP : aG < aP := lP.1
  have hDP : Dd < aP := lP.2.1
  have hNP : ∀ p ∈ news, p.1 < aP := allLt_to lP.2.2
  have hGD : ∀ p ∈ (Dd, W.listOf vs.toArray cap) :: news, p.1 < aG := fun p hp => by
    rcases List.mem_cons.mp hp with rfl | hp
    · exact lG.1
    · exact allLt_to lG.2 p hp
  obtain ⟨bP, bG, base0, eP, eG, e0, N₃⟩ := name3 N₂
  have hbG : bG.1 = aG ∧ GapsO bG.2 := by
    rw [eG]
    exact ⟨rfl, gaps_ok _ _ _ _ _ _ _⟩
  have hb1 : ∀ p ∈ bG :: base0, p.1 < aP := by
    intro p hp
    rcases List.mem_cons.mp hp with e | hp
    · rw [e, hbG.1]; exact hGP
    · rw [e0] at hp
      rcases List.mem_cons.mp hp with e | hp
      · rw [e]; exact hDP
      · exact hNP p hp
  have hDm : (Dd, W.listOf vs.toArray cap) ∈ bP :: bG :: base0 := by rw [e0]; exact .tail _ (.tail _ (.head _))
  rw [eP] at N₃ hDm
  have hmT := F₂
  clear N₂ lP lG hGP hDP hNP hGD
  refine iter_listTurns (vs := vs) (n := cap) hh F₂ N₃ hDm rfl rfl ?_
  intro I hI
  have hPI : aP < I := hI _ (.head _)
  refine items_ind (fun its m₁ news₁ => ∃ vs' xs' done refs pcap tt led, its = List.map Itm.val vs' ∧ IntsV vs' xs' ∧ done ++ xs' = xs ∧ m₁ (Str.ofString "gaps") = some (.ref aG) ∧ m₁ (Str.ofString "text") = some (.str (strL (textL done)) tt) ∧ m₁ (Str.ofString "plans") = some (.ref aP) ∧
    PLed done refs led ∧ news₁ = (aP, W.listOf (List.toArray refs) pcap) :: (led ++ (bG :: base0)) ∧ (∀ p ∈ led, I < p.1)) ?zero ?turn _ _ _ ⟨vs, xs, [], [], 0, _, [], rfl, hv, rfl, rfl, rfl, rfl, .nil, rfl, fun p hp => absurd hp List.not_mem_nil⟩
  all_goals clear F₂ N₃ hmT hI hDm eP
  case zero =>
    rintro m₁ news₁ h₁ tk₁ ⟨vs', xs', done, refs, pcap, tt, led, hits, hv', hdx, hm1, hm2, hm3, hP, rfl, hled⟩ F₁ N₁
    obtain rfl : vs' = [] := by cases vs' with | nil => rfl | cons _ _ => cases hits
    cases hv'
    obtain rfl : done = xs := by simpa using hdx
    rw [← map_self hm1, ← map_self hm2, ← map_self hm3] at F₁
    change Fr g' L' h₁ _ at F₁
    change News g' L' h₁ _ at N₁
    have hsl : (strL (textL done)).length ≤ 50000 := by rw [strL_len]; exact hlen
    generalize hst : strL (textL done) = st at *
    k_steps
    rename Fr h₀ L _ _ => kF
    rename News h₀ L _ _ => kN
    refine hret _ tt refs pcap led aP _ _ kF hP (News.sub kN ?_) (fun p hp => Nat.lt_trans hPI (hled p hp)) ?_
    · intro p hp
      rcases List.mem_cons.mp hp with e | hp
      · rw [e]; exact .head _
      · rcases List.mem_cons.mp hp with e | hp
        · rw [e]; exact .tail _ (.head _)
        · rcases List.mem_append.mp hp with hp | hp
          · exact .tail _ (.tail _ (List.mem_append_left _ hp))
          · exact .tail _ (.tail _ (List.mem_append_right _ (.tail _ (by rw [e0]; exact .tail _ hp))))
    · exact fun p hp => hb1 p (.tail _ (by rw [e0]; exact .tail _ hp))
  case turn =>
    rintro a r m₁ news₁ v h₁ tk₁ ⟨vs', xs', done, refs, pcap, tt, led, hits, hv', hdx, hm1, hm2, hm3, hP, rfl, hled⟩ hIs F₁ o₁ ho₁ N₁
    cases hv' with
    | nil => cases hits
    | cons x t hv'' hx =>
      rename_i vr xr
      rw [List.map_cons] at hits
      obtain ⟨rfl, rfl⟩ := List.cons.inj hits
      obtain rfl : v = .int x t := hIs
      rw [← map_self hm1, ← map_self hm2, ← map_self hm3] at F₁
      change Fr g' L' h₁ _ at F₁
      change News g' L' h₁ ((I, o₁) :: (aP, W.listOf refs.toArray pcap) :: (led ++ (bG :: base0))) at N₁
      k_steps
      refine Halt.out ?_
      try dsimp only
      try k_gentoks
      rename News g' L' _ _ => N₂
      refine item_pick (f := langL) (n := 5) (News.isList N₂ (.head _)) (fdm x 4 5) (Nat.mod_lt _ (by decide)) (by decide) (lang_pick _ _ _ _ _) ?_
      intro tl
      try dsimp only
      try k_gentoks
      replace N₂ := News.sub N₂ (fun p hp => .tail _ hp)
      k_steps
      refine Halt.out ?_
      try dsimp only
      try k_gentoks
      rename News g' L' _ _ => N₂
      refine item_pick (f := encL) (n := 4) (News.isList N₂ (.head _)) (fdm x 20 4) (Nat.mod_lt _ (by decide)) (by decide) (enc_pick _ _ _ _) ?_
      intro te
      try dsimp only
      try k_gentoks
      replace N₂ := News.sub N₂ (fun p hp => .tail _ hp)
      k_steps
      refine Halt.out ?_
      try dsimp only
      try k_gentoks
      rename News g' L' _ _ => N₂
      refine item_int (f := cntL) (n := 4) (News.isList N₂ (.head _)) (fm x 4) (Nat.mod_lt _ (by decide)) (by decide) (cnt_pick _ _ _ _) ?_
      intro tc
      replace N₂ := News.sub N₂ (fun p hp => .tail _ hp)
      k_steps
      refine Halt.out ?_
      rename Fr g' L' _ _ => F₂
      refine slice_temp F₂ N₂ (News.isList N₂ (.head _)) (show 3 ≤ 100 by decide) ?_
      intro aQ h₃ F₃ N₃ hQ
      clear F₂ N₂
      have hIQ : I < aQ := hQ _ (.tail _ (.head _))
      have hPQ : aP < aQ := hQ _ (.tail _ (.tail _ (.head _)))
      have hLQ : ∀ p ∈ led ++ (bG :: base0), p.1 < aQ := fun p hp => hQ p (.tail _ (.tail _ (.tail _ hp)))
      clear hQ
      replace N₃ : News g' L' h₃ ((aQ, _) :: (I, o₁) :: (aP, W.listOf refs.toArray pcap) :: (led ++ (bG :: base0))) := News.sub N₃ (fun p hp => by
        rcases List.mem_cons.mp hp with e | hp
        · rw [e]; exact .head _
        · exact .tail _ (.tail _ hp))
      k_steps
      refine Halt.out ?_
      try dsimp only
      try k_gentoks
      refine KXi.item sign_len (Int.le_trans (by decide) (fmod_lo _ (by decide))) (fmod_hi _ (by decide)) (by decide) ?_
      intro hsg
      try dsimp only
      try k_gentoks
      rw [sign_at] at hsg ⊢
      have htl : (strL (textL done)).length ≤ 50000 := by
        rw [strL_len]
        refine Nat.le_trans ?_ hlen
        rw [← hdx]
        simp [textL]
      generalize hsgn : strL [signL x] = sg at hsg ⊢
      k_steps
      rename Fr g' L' _ _ => F₂
      rename News g' L' _ _ => N₂
      refine max_two_N hh F₂ N₂ ?_
      have hmx : ∀ n : Nat, (if ((n : Int) - 1) > 0 then ((n : Int) - 1) else (0 : Int)) = ((n - 1 : Nat) : Int) := fun n => by split <;> omega
      rw [hmx]
      intro h₄ tk₄ F₄ N₄
      clear F₂ N₂
      generalize (if ((((strL (textL done)).length : Nat) : Int) - 1) > 0 then _ else _ : Tok) = ts at F₄ ⊢
      k_steps
      refine Halt.out ?_
      try dsimp only
      try k_gentoks
      rename Fr g' L' _ _ => F₂
      refine For_turns F₂ ?_
      k_steps
      refine Halt.out ?_
      try dsimp only
      try k_gentoks
      rename News g' L' _ _ => N₃
      obtain ⟨pv, hSC, N₅⟩ : ∃ pv, StrsC pv (piecesL x) ∧ News g' L' _ ((aQ, W.listOf (List.toArray pv) 0) :: (I, o₁) :: (aP, W.listOf refs.toArray pcap) :: (led ++ (bG :: base0))) := ⟨_, (strsC3 _ _ _ _ _).take _, N₃⟩
      clear N₃
      refine ktu_enum (vs := pv) (n := 0) hh F₂ N₅ (.head _) rfl rfl rfl ?_
      intro I2 hI2
      refine items_ind (fun its m₂ news₂ => ∃ i pre rv rest tT tp pl tkk tsg, its = enumItems i rv ∧ StrsC rv rest ∧ i + rest.length = (piecesL x).length ∧ bodyL x = pre ++ bodyFrom x i rest ∧ (rest = [] → pl = placeFrom x (textL done).length 0 (piecesL x)) ∧
        (rest ≠ [] → pl = 0 ∧ placeFrom x (textL done).length 0 (piecesL x) = placeFrom x ((textL done).length + pre.length) i rest) ∧
        m₂ (Str.ofString "text") = some (.str (strL (textL done ++ pre)) tT) ∧ m₂ (Str.ofString "place") = some (.int (pl : Nat) tp) ∧ m₂ (Str.ofString "gaps") = some (.ref aG) ∧ m₂ (Str.ofString "x") = some (.int (x : Nat) t) ∧
        m₂ (Str.ofString "kind") = some (.int (kindL x : Nat) tkk) ∧ m₂ (Str.ofString "sign") = some (.str sg tsg) ∧ m₂ (Str.ofString "pieces") = some (.ref aQ) ∧ m₂ (Str.ofString "plans") = some (.ref aP) ∧
        m₂ (Str.ofString "start") = some (.int ((strL (textL done)).length - 1 : Nat) ts) ∧ news₂ = (aQ, W.listOf (List.toArray pv) 0) :: (I, o₁) :: (aP, W.listOf refs.toArray pcap) :: (led ++ (bG :: base0))) ?zero2 ?turn2 _ _ _
        ⟨0, [], pv, piecesL x, _, _, 0, _, _, rfl, hSC, Nat.zero_add _, rfl, fun e => by rw [e]; rfl, fun _ => ⟨rfl, rfl⟩, (by rw [List.append_nil]; rfl), rfl, rfl, rfl, congrArg (fun z => some (Value.int z _)) (fdm x 480 6), rfl, rfl, rfl, rfl, rfl⟩
      all_goals clear F₂ N₅
      case zero2 =>
        rintro m₂ news₂ h₅ tk₅ ⟨i, pre, rv, rest, tT, tp, pl, tkk, tsg, hits₂, hSr, hir, hbd, hpe, hpl, q1, q2, q3, q4, q5, q6, q7, q8, q9, rfl⟩ F₅ N₅
        obtain rfl := enum_nil hits₂
        cases hSr
        obtain rfl : pre = bodyL x := by rw [hbd]; simp [bodyFrom]
        have hpl' := hpe rfl
        clear hpe hpl hits₂ hir hbd
        have hTl : (strL (textL done ++ bodyL x)).length ≤ 50000 := by
          rw [strL_len]
          refine Nat.le_trans ?_ hlen
          rw [← hdx]
          simp only [textL, List.flatMap_append, List.flatMap_cons, List.length_append]
          omega
        rw [← map_self q1, ← map_self q2, ← map_self q3, ← map_self q7, ← map_self q5, ← map_self q8, ← map_self q9] at F₅
        change Fr g' L' h₅ _ at F₅
        change News g' L' h₅ _ at N₅
        subst hpl'
        k_steps
        rename Fr g' L' _ _ => F₆
        rename News g' L' _ _ => N₆
        rename (aQ < _ ∧ I < _ ∧ aP < _ ∧ AllLt _ _) => lD
        rename_i aD _
        have hQD : aQ < aD := lD.1
        have hID : I < aD := lD.2.1
        have hPD : aP < aD := lD.2.2.1
        clear lD
        simp only [strL_len, List.length_append] at N₆
        have hrl : refs.length ≤ 50000 := by
          have : refs.length = done.length := hP.len
          have h2 : done.length ≤ (textL done).length := textL_len done
          rw [strL_len] at htl
          omega
        obtain ⟨tz, N₇⟩ : ∃ tz, News g' L' _ ((aP, W.listOf refs.toArray pcap) :: (I, o₁) :: (aD, { cls := .type "tuple", data := .seq #[.int ((textL done).length - 1 : Nat) ts, .ref aQ, .int (kindL x : Nat) tkk, .int (placeFrom x (textL done).length 0 (piecesL x) : Nat) tp, .int ((textL done).length + (bodyL x).length : Nat) tz] }) :: (aQ, W.listOf (List.toArray pv) 0) :: (led ++ (bG :: base0))) := ⟨_, News.sub N₆ (by
          intro p hp
          rcases List.mem_cons.mp hp with e | hp
          · rw [e]; exact .tail _ (.tail _ (.tail _ (.head _)))
          rcases List.mem_cons.mp hp with e | hp
          · rw [e]; exact .tail _ (.tail _ (.head _))
          rcases List.mem_cons.mp hp with e | hp
          · rw [e]; exact .head _
          rcases List.mem_cons.mp hp with e | hp
          · rw [e]; exact .tail _ (.head _)
          · exact .tail _ (.tail _ (.tail _ (.tail _ hp))))⟩
        clear N₆
        refine append_K F₆ N₇ (Upd.head ?_) ?_ (by rw [List.size_toArray]; exact Nat.le_trans hrl (by decide))
        · intro p hp
          rcases List.mem_cons.mp hp with e | hp
          · rw [e]; exact Nat.ne_of_gt hPI
          rcases List.mem_cons.mp hp with e | hp
          · rw [e]; exact Nat.ne_of_gt hPD
          rcases List.mem_cons.mp hp with e | hp
          · rw [e]; exact Nat.ne_of_gt hPQ
          rcases List.mem_append.mp hp with hp | hp
          · exact Nat.ne_of_gt (Nat.lt_trans hPI (hled p hp))
          · exact Nat.ne_of_lt (hb1 p hp)
        intro h₆ F₇ N₈
        clear F₆ N₇
        rw [List.push_toArray] at N₈
        k_steps
        refine Halt.out ?_
        try dsimp only
        try k_gentoks
        rename Fr g' L' _ _ => F₈
        rename News g' L' _ _ => N₉
        rw [text_nl] at F₈
        refine ⟨_, _, _, (aP, W.listOf (List.toArray (refs ++ [.ref aD])) (pcap + 1)) :: (((aD, { cls := .type "tuple", data := .seq #[.int ((textL done).length - 1 : Nat) ts, .ref aQ, .int (kindL x : Nat) tkk, .int (placeFrom x (textL done).length 0 (piecesL x) : Nat) tp, .int ((textL done).length + (bodyL x).length : Nat) tz] }) :: (aQ, W.listOf (List.toArray pv) 0) :: led) ++ (bG :: base0)), rfl, F₈, News.sub N₉ ?_, ?_, ⟨?_, trivial⟩,
          ⟨vr, xr, done ++ [x], refs ++ [.ref aD], pcap + 1, _, _, rfl, hv'', by rw [List.append_assoc]; exact hdx, rfl, rfl, rfl, hP.snoc x aD aQ 0 pv _ _ _ _ hSC.strsV, rfl, ?_⟩⟩
        · intro p hp
          rcases List.mem_cons.mp hp with e | hp
          · rw [e]; exact .tail _ (.head _)
          rcases List.mem_cons.mp hp with e | hp
          · rw [e]; exact .head _
          rcases List.mem_cons.mp hp with e | hp
          · rw [e]; exact .tail _ (.tail _ (.head _))
          rcases List.mem_cons.mp hp with e | hp
          · rw [e]; exact .tail _ (.tail _ (.tail _ (.head _)))
          · exact .tail _ (.tail _ (.tail _ (.tail _ hp)))
        · intro p hp q hq
          rw [List.mem_singleton.mp hq]
          rcases List.mem_cons.mp hp with e | hp
          · rw [e]; exact Nat.ne_of_lt hPI
          rcases List.mem_cons.mp hp with e | hp
          · rw [e]; exact Nat.ne_of_gt hID
          rcases List.mem_cons.mp hp with e | hp
          · rw [e]; exact Nat.ne_of_gt hIQ
          rcases List.mem_append.mp hp with hp | hp
          · exact Nat.ne_of_gt (hled p hp)
          · exact Nat.ne_of_lt (Nat.lt_trans (hb1 p hp) hPI)
        · exact .tail _ (List.mem_append_right _ (.tail _ (by rw [e0]; exact .head _)))
        · intro p hp
          rcases List.mem_cons.mp hp with e | hp
          · rw [e]; exact hID
          rcases List.mem_cons.mp hp with e | hp
          · rw [e]; exact hIQ
          · exact hled p hp
      case turn2 =>
        rintro a₂ r₂ m₂ news₂ v₂ h₅ tk₅ ⟨i, pre, rv, rest, tT, tp, pl, tkk, tsg, hits₂, hSr, hir, hbd, hpe, hpl, q1, q2, q3, q4, q5, q6, q7, q8, q9, rfl⟩ hIs₂ F₅ o₂ ho₂ o₃ ho₃ N₅
        obtain ⟨v, rv', rfl, rfl, rfl⟩ := enum_cons hits₂
        obtain ⟨TT, ti, rfl, hTup⟩ := hIs₂
        cases hSr with
        | @cons _ rest' pc tv hSr' hpc =>
          clear hpe
          have hpvl : pv.length = i + (rest'.length + 1) := by rw [hSC.len, ← hir]; rfl
          have hpc' : (strL pc).length ≤ 5 := by rw [strL_len]; exact hpc
          have hTl : (strL (textL done ++ pre)).length ≤ 50000 := by
            rw [strL_len]
            refine Nat.le_trans ?_ hlen
            rw [← hdx]
            simp only [textL, List.flatMap_append, List.flatMap_cons, List.length_append]
            have := congrArg List.length hbd
            rw [List.length_append] at this
            omega
          obtain ⟨hpl0, hplr⟩ := hpl (by simp)
          subst hpl0
          rw [← map_self q1, ← map_self q2, ← map_self q3, ← map_self q4, ← map_self q5, ← map_self q6, ← map_self q7, ← map_self q8, ← map_self q9] at F₅
          change Fr g' L' h₅ _ at F₅
          change News g' L' h₅ ((I2 + 1, o₂) :: (I2, o₃) :: (aQ, W.listOf (List.toArray pv) 0) :: (I, o₁) :: (aP, W.listOf refs.toArray pcap) :: (led ++ (bG :: base0))) at N₅
          refine unpackN_ F₅ N₅ hTup hh rfl rfl ?_
          intro h₆ F₆ N₆
          clear F₅ N₅
          have hpl3 : pv.length ≤ 3 := by rw [hSC.len]; exact Nat.le_trans (List.length_take_le' _ _) (Nat.le_refl 3)
          obtain ⟨gvs, gn, hge, _, hgf⟩ := hbG.2
          have hbm : (aG, W.listOf (List.toArray gvs) gn) ∈ (I2 + 1, o₂) :: (I2, o₃) :: (aQ, W.listOf (List.toArray pv) 0) :: (I, o₁) :: (aP, W.listOf refs.toArray pcap) :: (led ++ (bG :: base0)) := by
            rw [← hge, ← hbG.1]
            exact .tail _ (.tail _ (.tail _ (.tail _ (.tail _ (List.mem_append_right _ (.head _))))))
          cases rest' with
          | cons pc2 rest2 =>
            have hlst : ¬ ((i : Int) = (pv.length : Int) - 1) := by rw [hpvl, List.length_cons]; omega
            k_steps
            refine Halt.out ?_
            try dsimp only
            try k_gentoks
            rename News g' L' _ _ => N₇
            refine Calls.call_len_list (News.isList N₇ (.tail _ (.tail _ (.head _)))) (by rw [List.size_toArray]; exact Int.lt_of_le_of_lt (Int.ofNat_le.mpr hpl3) (by decide)) ?_
            rw [List.size_toArray]
            generalize pv.length = pn at hlst hpl3 ⊢
            have hlb : ¬ (((i : Int) == (pn : Int) - 1) = true) := by simpa using hlst
            dsimp only
            try k_fold
            k_steps
            all_goals try (exfalso; omega)
            refine Halt.out ?_
            try dsimp only
            try k_gentoks
            rename News g' L' _ _ => N₇
            refine item_pick (f := gapL) (n := 6) (News.isList N₇ hbm) (fdam x i 80 6) (Nat.mod_lt _ (by decide)) (by decide) hgf ?_
            intro tg
            try dsimp only
            try k_gentoks
            have hgl : (strL (gapL ((x / 80 + i) % 6))).length ≤ 9 := by rw [strL_len]; exact gap_len _
            k_steps
            all_goals try (exfalso; omega)
            refine Halt.out ?_
            try dsimp only
            try k_gentoks
            rename Fr g' L' _ _ => F₈
            rename News g' L' _ _ => N₈
            rw [seg_mid] at F₈
            refine ⟨_, _, _, _, rfl, F₈, N₈, ?_, ⟨.head _, trivial⟩, ?_⟩
            · intro p hp q hq
              have h1 := hI2 p hp
              rcases List.mem_cons.mp hq with e | hq
              · rw [e]; exact Nat.ne_of_lt (Nat.lt_succ_of_lt h1)
              · rw [List.mem_singleton.mp hq]; exact Nat.ne_of_lt h1
            · refine ⟨i + 1, pre ++ segL x i false pc, rv', pc2 :: rest2, _, _, 0, tkk, tsg, rfl, hSr', ?_, ?_, (fun e => by cases e), (fun _ => ⟨rfl, ?_⟩), (by rw [← List.append_assoc]; rfl), rfl, rfl, rfl, rfl, rfl, rfl, rfl, rfl, rfl⟩
              · rw [← hir]; simp only [List.length_cons]; omega
              · rw [hbd, List.append_assoc]; rfl
              · rw [hplr, List.length_append, ← Nat.add_assoc]; rfl
          | nil =>
            cases hSr'
            have hlst : (i : Int) = (pv.length : Int) - 1 := by rw [hpvl]; simp
            k_steps
            refine Halt.out ?_
            try dsimp only
            try k_gentoks
            rename News g' L' _ _ => N₇
            refine Calls.call_len_list (News.isList N₇ (.tail _ (.tail _ (.head _)))) (by rw [List.size_toArray]; exact Int.lt_of_le_of_lt (Int.ofNat_le.mpr hpl3) (by decide)) ?_
            rw [List.size_toArray]
            generalize pv.length = pn at hlst hpl3 hpvl ⊢
            have hk6 : kindL x < 6 := Nat.mod_lt _ (by decide)
            generalize hkk : kindL x = kk at *
            rcases (by omega : kk = 3 ∨ kk = 4 ∨ kk = 5 ∨ kk < 3) with hk | hk | hk | hk
            · have hk' : (kk : Int) = 3 := by omega
              have hk4' : (kk : Int) ≠ 4 := by omega
              have hk5' : (kk : Int) ≠ 5 := by omega
              have hlb : ((i : Int) == (pn : Int) - 1) = true := by simpa using hlst
              have hb3 : ((kk : Int) == 3) = true := by simp only [beq_iff_eq]; omega
              have hb4 : ¬ (((kk : Int) == 4) = true) := by simp only [beq_iff_eq]; omega
              have hb5 : ¬ (((kk : Int) == 5) = true) := by simp only [beq_iff_eq]; omega
              dsimp only
              try k_fold
              k_steps
              all_goals try (exfalso; omega)
              refine Halt.out ?_
              try dsimp only
              try k_gentoks
              rename Fr g' L' _ _ => F₈
              rename News g' L' _ _ => N₈
              rw [seg3 i _ _ (hkk.trans hk) hsgn] at F₈
              refine ⟨_, _, _, _, rfl, F₈, N₈, ?_, ⟨.head _, trivial⟩, ?_⟩
              · intro p hp q hq
                have h1 := hI2 p hp
                rcases List.mem_cons.mp hq with e | hq
                · rw [e]; exact Nat.ne_of_lt (Nat.lt_succ_of_lt h1)
                · rw [List.mem_singleton.mp hq]; exact Nat.ne_of_lt h1
              · refine ⟨i + 1, pre ++ segL x i true pc, [], [], _, _, (textL done ++ pre).length + 2, tkk, tsg, rfl, .nil, ?_, ?_, (fun _ => ?_), (fun h => absurd rfl h), (by rw [← List.append_assoc]; rfl), congrArg (fun z => some (Value.int z _)) (by rw [strL_len]; rfl), rfl, rfl, rfl, rfl, rfl, rfl, rfl, rfl⟩
                · rw [← hir]; rfl
                · rw [hbd]; simp [bodyFrom]
                · rw [hplr, place3 (hkk.trans hk), List.length_append]
            · have hk' : (kk : Int) = 4 := by omega
              have hk3' : (kk : Int) ≠ 3 := by omega
              have hk5' : (kk : Int) ≠ 5 := by omega
              have hlb : ((i : Int) == (pn : Int) - 1) = true := by simpa using hlst
              have hb3 : ¬ (((kk : Int) == 3) = true) := by simp only [beq_iff_eq]; omega
              have hb4 : ((kk : Int) == 4) = true := by simp only [beq_iff_eq]; omega
              have hb5 : ¬ (((kk : Int) == 5) = true) := by simp only [beq_iff_eq]; omega
              dsimp only
              try k_fold
              k_steps
              all_goals try (exfalso; omega)
              refine Halt.out ?_
              try dsimp only
              try k_gentoks
              rename News g' L' _ _ => N₇
              refine item_pick (f := gapL) (n := 6) (News.isList N₇ hbm) (fdam x i 80 6) (Nat.mod_lt _ (by decide)) (by decide) hgf ?_
              intro tg
              try dsimp only
              try k_gentoks
              have hgl : (strL (gapL ((x / 80 + i) % 6))).length ≤ 9 := by rw [strL_len]; exact gap_len _
              k_steps
              all_goals try (exfalso; omega)
              refine Halt.out ?_
              try dsimp only
              try k_gentoks
              rename Fr g' L' _ _ => F₈
              rename News g' L' _ _ => N₈
              rw [seg4 i _ _ (hkk.trans hk) hsgn] at F₈
              refine ⟨_, _, _, _, rfl, F₈, N₈, ?_, ⟨.head _, trivial⟩, ?_⟩
              · intro p hp q hq
                have h1 := hI2 p hp
                rcases List.mem_cons.mp hq with e | hq
                · rw [e]; exact Nat.ne_of_lt (Nat.lt_succ_of_lt h1)
                · rw [List.mem_singleton.mp hq]; exact Nat.ne_of_lt h1
              · refine ⟨i + 1, pre ++ segL x i true pc, [], [], _, _, (textL done ++ pre).length + ((gapL ((x / 80 + i) % 6)).length + 1 + pc.length), tkk, tsg, rfl, .nil, ?_, ?_, (fun _ => ?_), (fun h => absurd rfl h), (by rw [← List.append_assoc]; rfl), congrArg (fun z => some (Value.int z _)) (congrArg Int.ofNat (len4 i x (textL done ++ pre) pc)), rfl, rfl, rfl, rfl, rfl, rfl, rfl, rfl⟩
                · rw [← hir]; rfl
                · rw [hbd]; simp [bodyFrom]
                · rw [hplr, place45 (.inl (hkk.trans hk)), List.length_append]
            · have hk' : (kk : Int) = 5 := by omega
              have hk3' : (kk : Int) ≠ 3 := by omega
              have hk4' : (kk : Int) ≠ 4 := by omega
              have hlb : ((i : Int) == (pn : Int) - 1) = true := by simpa using hlst
              have hb3 : ¬ (((kk : Int) == 3) = true) := by simp only [beq_iff_eq]; omega
              have hb4 : ¬ (((kk : Int) == 4) = true) := by simp only [beq_iff_eq]; omega
              have hb5 : ((kk : Int) == 5) = true := by simp only [beq_iff_eq]; omega
              dsimp only
              try k_fold
              k_steps
              all_goals try (exfalso; omega)
              refine Halt.out ?_
              try dsimp only
              try k_gentoks
              rename News g' L' _ _ => N₇
              refine item_pick (f := gapL) (n := 6) (News.isList N₇ hbm) (fdam x i 80 6) (Nat.mod_lt _ (by decide)) (by decide) hgf ?_
              intro tg
              try dsimp only
              try k_gentoks
              have hgl : (strL (gapL ((x / 80 + i) % 6))).length ≤ 9 := by rw [strL_len]; exact gap_len _
              k_steps
              all_goals try (exfalso; omega)
              refine Halt.out ?_
              try dsimp only
              try k_gentoks
              rename Fr g' L' _ _ => F₈
              rename News g' L' _ _ => N₈
              rw [seg5 i _ _ (hkk.trans hk)] at F₈
              refine ⟨_, _, _, _, rfl, F₈, N₈, ?_, ⟨.head _, trivial⟩, ?_⟩
              · intro p hp q hq
                have h1 := hI2 p hp
                rcases List.mem_cons.mp hq with e | hq
                · rw [e]; exact Nat.ne_of_lt (Nat.lt_succ_of_lt h1)
                · rw [List.mem_singleton.mp hq]; exact Nat.ne_of_lt h1
              · refine ⟨i + 1, pre ++ segL x i true pc, [], [], _, _, (textL done ++ pre).length + ((gapL ((x / 80 + i) % 6)).length + 1 + pc.length), tkk, tsg, rfl, .nil, ?_, ?_, (fun _ => ?_), (fun h => absurd rfl h), (by rw [← List.append_assoc]; rfl), congrArg (fun z => some (Value.int z _)) (congrArg Int.ofNat (len4 i x (textL done ++ pre) pc)), rfl, rfl, rfl, rfl, rfl, rfl, rfl, rfl⟩
                · rw [← hir]; rfl
                · rw [hbd]; simp [bodyFrom]
                · rw [hplr, place45 (.inr (hkk.trans hk)), List.length_append]
            · have hk3' : (kk : Int) ≠ 3 := by omega
              have hk4' : (kk : Int) ≠ 4 := by omega
              have hk5' : (kk : Int) ≠ 5 := by omega
              have hlb : ((i : Int) == (pn : Int) - 1) = true := by simpa using hlst
              have hb3 : ¬ (((kk : Int) == 3) = true) := by simp only [beq_iff_eq]; omega
              have hb4 : ¬ (((kk : Int) == 4) = true) := by simp only [beq_iff_eq]; omega
              have hb5 : ¬ (((kk : Int) == 5) = true) := by simp only [beq_iff_eq]; omega
              dsimp only
              try k_fold
              k_steps
              all_goals try (exfalso; omega)
              refine Halt.out ?_
              try dsimp only
              try k_gentoks
              rename News g' L' _ _ => N₇
              refine item_pick (f := gapL) (n := 6) (News.isList N₇ hbm) (fdam x i 80 6) (Nat.mod_lt _ (by decide)) (by decide) hgf ?_
              intro tg
              try dsimp only
              try k_gentoks
              have hgl : (strL (gapL ((x / 80 + i) % 6))).length ≤ 9 := by rw [strL_len]; exact gap_len _
              k_steps
              all_goals try (exfalso; omega)
              refine Halt.out ?_
              try dsimp only
              try k_gentoks
              rename Fr g' L' _ _ => F₈
              rename News g' L' _ _ => N₈
              rw [seg0 i _ _ (hkk.symm ▸ hk)] at F₈
              refine ⟨_, _, _, _, rfl, F₈, N₈, ?_, ⟨.head _, trivial⟩, ?_⟩
              · intro p hp q hq
                have h1 := hI2 p hp
                rcases List.mem_cons.mp hq with e | hq
                · rw [e]; exact Nat.ne_of_lt (Nat.lt_succ_of_lt h1)
                · rw [List.mem_singleton.mp hq]; exact Nat.ne_of_lt h1
              · refine ⟨i + 1, pre ++ segL x i true pc, [], [], _, _, 0, tkk, tsg, rfl, .nil, ?_, ?_, (fun _ => ?_), (fun h => absurd rfl h), (by rw [← List.append_assoc]; rfl), rfl, rfl, rfl, rfl, rfl, rfl, rfl, rfl, rfl⟩
                · rw [← hir]; rfl
                · rw [hbd]; simp [bodyFrom]
                · rw [hplr, place0 (hkk.symm ▸ hk)]
end Mine
end
section
open PySem PySem.W PyProof.Rows PySem.Calls
set_option maxHeartbeats 8000000
namespace Mine
def endN (k : Nat) : Nat := if k = 0 then 24 else 2404
theorem end_pick (t0 t1 : Tok) : ∀ i, i < 2 → ∃ t, ([.int 24 t0, .int 2404 t1] : List Value)[i]? = some (.int (endN i : Nat) t) := by
  intro i hi
  rcases (by omega : i = 0 ∨ i = 1) with rfl | rfl <;> exact ⟨_, rfl⟩
theorem ints_v {vs : List Value} {zs : List Int} (h : IntsAre vs zs) (hz : ∀ z ∈ zs, 0 ≤ z ∧ z < 1000000) : IntsV vs (zs.map Int.toNat) := by
  induction h with
  | nil => exact .nil
  | cons n t h ih =>
    obtain ⟨h1, h2⟩ := hz n (.head _)
    have e : n = ((n.toNat : Nat) : Int) := by omega
    have := IntsV.cons (x := n.toNat) t (ih fun z hz' => hz z (.tail _ hz')) (by omega)
    rw [← e] at this
    exact this
theorem zs_ok {f : Int → Int} (hf : ∀ n, 0 ≤ f n ∧ f n < 1000000) (ns : List Int) (k : Nat) : ∀ z ∈ [240, 1446, 2404] ++ List.take 8 (List.map f (List.take 63 ns)) ++ [((endN k : Nat) : Int)], 0 ≤ z ∧ z < 1000000 := by
  intro z hz
  rcases List.mem_append.mp hz with hz | hz
  · rcases List.mem_append.mp hz with hz | hz
    · simp only [List.mem_cons, List.not_mem_nil, or_false] at hz
      omega
    · obtain ⟨n, _, rfl⟩ := List.mem_map.mp (List.mem_of_mem_take hz)
      exact hf n
  · rw [List.mem_singleton.mp hz]
    unfold endN
    split <;> decide
theorem zs_len {f : Int → Int} (ns : List Int) (k : Nat) : (([240, 1446, 2404] ++ List.take 8 (List.map f (List.take 63 ns)) ++ [((endN k : Nat) : Int)]).map Int.toNat).length ≤ 12 := by
  simp only [List.length_map, List.length_append, List.length_take, List.length_cons, List.length_nil]
  omega
theorem seg_len (x i : Nat) (b : Bool) (pc : List Nat) (h : pc.length ≤ 5) : (segL x i b pc).length ≤ 30 := by
  have hg := gap_len ((x / 80 + i) % 6)
  unfold segL
  simp only [List.length_append]
  split <;> split <;> split <;> simp only [List.length_append, List.length_cons, List.length_nil] <;> omega
theorem body_len (x : Nat) : ∀ (ps : List (List Nat)) (i : Nat), (∀ pc ∈ ps, pc.length ≤ 5) → (bodyFrom x i ps).length ≤ 30 * ps.length
  | [], _, _ => Nat.zero_le _
  | pc :: r, i, h => by
    have h1 := seg_len x i r.isEmpty pc (h pc (.head _))
    have h2 := body_len x r (i + 1) (fun q hq => h q (.tail _ hq))
    simp only [bodyFrom, List.length_append, List.length_cons]
    omega
theorem piece_5 {x : Nat} {pc : List Nat} (h : pc ∈ piecesL x) : pc.length ≤ 5 := by
  have := List.mem_of_mem_take h
  simp only [List.mem_cons, List.not_mem_nil, or_false] at this
  rcases this with rfl | rfl | rfl
  · exact lang_len _
  · exact enc_len _
  · decide
theorem text_short (xs : List Nat) : (textL xs).length ≤ 91 * xs.length := by
  induction xs with
  | nil => exact Nat.le_refl _
  | cons x r ih =>
    have h1 := body_len x (piecesL x) 0 (fun pc hp => piece_5 hp)
    have h2 := (pieces_len x).2
    have e : (textL (x :: r)).length = (bodyL x).length + 1 + (textL r).length := by simp [textL]; omega
    rw [e, List.length_cons]
    unfold bodyL
    omega
/-- the plan of the list x, as objects -/
theorem PLed.get {xs : List Nat} {refs : List Value} {led : List (Addr × Obj)} (h : PLed xs refs led) : ∀ (pre post : List Nat) (x : Nat), xs = pre ++ x :: post → ∃ (tA pA cap : Nat) (vs : List Value) (t1 t2 t3 t4 : Tok),
    refs[pre.length]? = some (.ref tA) ∧ (tA, ({ cls := .type "tuple", data := .seq #[.int ((textL pre).length - 1 : Nat) t1, .ref pA, .int (kindL x : Nat) t2, .int (placeFrom x (textL pre).length 0 (piecesL x) : Nat) t3, .int ((textL pre).length + (bodyL x).length : Nat) t4] } : Obj)) ∈ led ∧
    (pA, W.listOf (List.toArray vs) cap) ∈ led ∧ StrsV vs ((piecesL x).map strL) := by
  induction h with
  | nil =>
    intro pre post x e
    cases pre <;> cases e
  | @snoc done refs led h y tA pA cap vs t1 t2 t3 t4 hv ih =>
    intro pre post x e
    rcases List.eq_nil_or_concat post with rfl | ⟨post', z, rfl⟩
    · obtain ⟨rfl, e2⟩ := List.append_inj' e rfl
      obtain rfl : y = x := by simpa using e2
      refine ⟨tA, pA, cap, vs, t1, t2, t3, t4, ?_, .head _, .tail _ (.head _), hv⟩
      rw [← h.len]
      simp
    · have e' : done ++ [y] = (pre ++ x :: post') ++ [z] := by rw [e, List.concat_eq_append]; simp
      obtain ⟨rfl, _⟩ := List.append_inj' e' rfl
      obtain ⟨tA', pA', cap', vs', u1, u2, u3, u4, r1, r2, r3, r4⟩ := ih pre post' x rfl
      refine ⟨tA', pA', cap', vs', u1, u2, u3, u4, ?_, .tail _ (.tail _ r2), .tail _ (.tail _ r3), r4⟩
      rw [List.getElem?_append_left (List.getElem?_eq_some_iff.mp r1).1]
      exact r1
theorem tb_off {g h : Heap} {L I : Addr} {o₁ : Obj} {tb rest : List (Addr × Obj)} (N : News g L h (tb ++ rest)) (hTB : TB tb) (hm : (I, o₁) ∈ rest) (ho : IterO o₁) (h1 : (102 : Nat) ≠ I) : ∀ p ∈ tb, p.1 ≠ I := by
  cases hTB with
  | fresh =>
    intro p hp
    rw [List.mem_singleton.mp hp]
    exact h1
  | @made c' oc vs t d1 d2 d3 =>
    intro p hp
    rcases List.mem_cons.mp hp with e | hp
    · rw [e]
      intro (ec : c' = I)
      have n1 := (N (c', oc) (.head _)).1
      have n2 := (N (I, o₁) (List.mem_append_right _ hm)).1
      have n1' : h.get? I = some oc := by rw [← ec]; exact n1
      have eo : oc = o₁ := Option.some.inj (n1'.symm.trans n2)
      obtain ⟨l, i, hd⟩ := ho
      rw [eo, hd] at d1
      cases d1
      simp at d2
    · rw [List.mem_singleton.mp hp]
      exact h1
theorem turn_end {g h' : Heap} {L I : Addr} {o₁ : Obj} {tb rest kept : List (Addr × Obj)} {lp : Addr × Obj} {s₁ : Shared} {tk' : Nat} {m' : PySem.Str → Option Value} {J : (PySem.Str → Option Value) → List (Addr × Obj) → Prop}
    (F : Fr g L h' m') (N : News g L h' (tb ++ rest)) (hTB : TB tb) (hm : (I, o₁) ∈ rest) (ho : IterO o₁) (h1 : (102 : Nat) ≠ I) (hlt : ∀ p ∈ lp :: kept, p.1 < I) (hsub : ∀ p ∈ lp :: kept, p ∈ rest) (hJ : J m' (tb ++ (lp :: kept))) :
    UnrEndW g L s₁ [(I, o₁)] (fun m' n' => lp ∈ n' ∧ J m' n') { s₁ with heap := h', toks := tk' } := by
  refine ⟨h', tk', m', tb ++ (lp :: kept), rfl, F, ?_, ?_, List.mem_append_right _ (.head _), hJ⟩
  · intro p hp
    rcases List.mem_append.mp hp with hp | hp
    · rw [List.mem_singleton.mp hp]; exact N _ (List.mem_append_right _ hm)
    rcases List.mem_append.mp hp with hp | hp
    · exact N _ (List.mem_append_left _ hp)
    · exact N _ (List.mem_append_right _ (hsub p hp))
  · intro p hp q hq
    rw [List.mem_singleton.mp hq]
    rcases List.mem_append.mp hp with hp | hp
    · exact tb_off N hTB hm ho h1 p hp
    · exact Nat.ne_of_lt (hlt p hp)
local macro_rules | `(tactic| walk_at "subscriptTail") => `(tactic| ((with_reducible show wpAny _ _ (subscriptTail (PySem.Expr.List _ _) _ (Value.ref _) (Value.int _ _)) _ _ _); refine Halt.mk ?_))
local macro_rules | `(tactic| walk_at "call ref") => `(tactic| (refine Halt.mk ?_))
local macro_rules | `(tactic| walk_at "call builtin:len") => `(tactic| ((with_reducible show wpAny _ _ (call (Value.builtin "len") [Value.ref _]) _ _ _); refine Halt.mk ?_))
local macro_rules | `(tactic| walk_at "UnrEndW") => `(tactic| (refine Halt.mk ?_))
local macro_rules | `(tactic| walk_at "compareOp NotEq ref ref") => `(tactic| (refine Halt.mk ?_))
theorem law_body {w : World} {g : Heap} {L fa sc : Addr} {cd : Value} {vs : List Value} {ns : List Int} {s : Shared} {Q : Flow → Shared → Prop} {mg mb : PySem.Str → Option Value} {mean : ExcName → Option Value}
  (B : Below callerA g [] g) (F : Fr g L s.heap (fun y => List.lookup y [(Str.ofString "script", .ref sc)])) (N : News g L s.heap [(102, tabObj #[])]) (X : (KK w.params).In g) (T : Top topProg LG mean mg mb g) (C : CodeHd g 106 102)
  (hS : FrozAt (strKind PR w) g 43 illS 32) (hW : FrozAt (strKind PR w) g 52 wsS 3) (hL : g.IsList sc vs.toArray) (hI : IntsAre vs ns) (hn : ns.length ≤ 63)
  (hret : ∀ m' tb h' tk', Fr g L h' m' → TB tb → News g L h' tb → Q (.ret (.bool true)) {s with heap := h', toks := tk'}) :
  wpAny (model PR w) (callerA.deeper (envOf (sName (stA 20)) (sScope (stA 20)) L fa cd)) (execs (sBody (stA 20)) (envOf (sName (stA 20)) (sScope (stA 20)) L fa cd)) Q (fun _ _ => False) s := by
  have kf0 : PySem.Challenge.rw_nb0113_01 = PySem.Challenge.rw_nb0113_01 ∧ KK = KK := by (k_fill; exact ⟨rfl, rfl⟩)
  clear kf0
  (with_unfolding_all show wpAny _ _ (execs [_, _, _, _] _) _ _ _)
  (try dsimp only); (try k_fold)
  k_steps
  refine Halt.out ?_
  rename News g L _ _ => N₂
  have hm2 : ∀ S : Int, (Int.fmod S 2).toNat < 2 := fun S => by
    have h1 := fmod_lo S (show (0 : Int) < 2 by decide)
    have h2 := fmod_hi S (show (0 : Int) < 2 by decide)
    omega
  refine item_int (f := endN) (n := 2) (j := (Int.fmod _ 2).toNat) (News.isList N₂ (.head _)) ((Int.toNat_of_nonneg (fmod_lo _ (by decide))).symm) (hm2 _) (by decide) (end_pick _ _) ?_
  intro tz
  k_steps
  refine Halt.out ?_
  rename Fr g L _ _ => F₂
  rename News g L _ _ => N₂
  rename IntsAre _ ([240, 1446, 2404] ++ _ ++ _) => hIw
  have hzs := zs_ok (f := fun k' => Int.fmod k' (10 ^ 6)) (fun n => ⟨fmod_lo n (by decide), Int.lt_of_lt_of_le (fmod_hi n (by decide)) (by decide)⟩) ns
  replace N₂ := News.sub (l' := [(_, _), (102, tabObj #[])]) N₂ (by
    intro p hp
    rcases List.mem_cons.mp hp with e | hp
    · rw [e]; exact .head _
    · rw [List.mem_singleton.mp hp]
      repeat (first | exact .head _ | apply List.Mem.tail))
  refine file_ok B F₂ X T rfl rfl rfl (show callerA.depth + 1 + 3 < recursionLimit by decide) (show callerA.units + 3 + 20 < cLine by decide) rfl _ _ _ _ (ints_v hIw (hzs _)) N₂ (Nat.le_trans (text_short _) (Nat.le_trans (Nat.mul_le_mul_left 91 (zs_len ns _)) (by decide))) ?_
  generalize hxs : List.map Int.toNat _ = xs
  intro aT tt refs pcap led aP h₃ tk₃ F₃ hP N₃ hled hlt
  clear F₂ N₂ hIw hzs
  k_steps
  rename Fr g L _ _ => F₂
  rename News g L _ _ => N₂
  refine For_turns F₂ ?_
  k_steps
  have hm102 : 102 < aP := hlt _ (.head _)
  have N₄ : News g L _ ([(102, tabObj #[])] ++ ((aP, W.listOf refs.toArray pcap) :: led)) := News.sub N₂ (by
    intro p hp
    rcases List.mem_append.mp hp with hp | hp
    · exact .tail _ (.tail _ (List.mem_append_right _ hp))
    · rcases List.mem_cons.mp hp with e | hp
      · rw [e]; exact .tail _ (.head _)
      · exact .tail _ (.tail _ (List.mem_append_left _ hp)))
  have hne : ∀ p ∈ (aP, W.listOf refs.toArray pcap) :: led, p.1 ≠ 102 := by
    intro p hp
    rcases List.mem_cons.mp hp with e | hp
    · rw [e]; exact Nat.ne_of_gt hm102
    · exact Nat.ne_of_gt (Nat.lt_trans hm102 (hled p hp))
  refine turns_list (vs := refs) (n := pcap) rfl F₂ N₄ (List.mem_append_right _ (.head _)) rfl rfl ?_
  intro I hI
  have hxl : (strL (textL xs)).length ≤ 50000 := by
    rw [strL_len, ← hxs]
    exact Nat.le_trans (text_short _) (Nat.le_trans (Nat.mul_le_mul_left 91 (zs_len ns _)) (by decide))
  have hIr : ∀ p ∈ (aP, W.listOf refs.toArray pcap) :: led, p.1 < I := fun p hp => hI p (List.mem_append_right _ hp)
  have hI2 : 102 < I := hI _ (List.mem_append_left _ (.head _))
  refine ⟨fun its m₁ news₁ => ∃ pre post tb, xs = pre ++ post ∧ its = refs.drop pre.length ∧ m₁ (Str.ofString "text") = some (.str (strL (textL xs)) tt) ∧ TB tb ∧ news₁ = tb ++ ((aP, W.listOf refs.toArray pcap) :: led), ⟨[], xs, _, rfl, rfl, rfl, .fresh, rfl⟩, ?zero, ?turn⟩
  all_goals clear F₂ N₂ N₄ hI hxs
  case zero =>
    rintro m₁ news₁ h₁ tk₁ ⟨pre, post, tb, hx, hits, hm1, hTB, rfl⟩ F₁ N₁
    change Fr g L h₁ _ at F₁
    change News g L h₁ _ at N₁
    k_steps
    rename Fr g L _ _ => F₂
    rename News g L _ _ => N₂
    exact hret _ _ _ _ F₂ hTB (News.sub N₂ (fun p hp => List.mem_append_left _ hp))
  case turn =>
    rintro v r m₁ news₁ h₁ tk₁ o₁ ⟨pre, post, tb, hx, hits, hm1, hTB, rfl⟩ hmP ho₁ F₁ N₁
    cases post with
    | nil =>
      have : refs.length = xs.length := hP.len
      rw [List.append_nil] at hx
      rw [List.drop_of_length_le (by rw [this, hx]; exact Nat.le_refl _)] at hits
      cases hits
    | cons x post =>
      obtain ⟨tA, pA, cap, pv, t1, t2, t3, t4, r1, r2, r3, r4⟩ := hP.get pre post x hx
      obtain ⟨hl1, hl2⟩ := List.getElem?_eq_some_iff.mp r1
      rw [List.drop_eq_getElem_cons hl1, hl2] at hits
      obtain ⟨rfl, rfl⟩ := List.cons.inj hits
      have told := told_all pre post x
      rw [← hx] at told
      rw [← map_self hm1] at F₁
      change Fr g L h₁ _ at F₁
      change News g L h₁ ((I, o₁) :: (tb ++ ((aP, W.listOf refs.toArray pcap) :: led))) at N₁
      obtain ⟨rest, hrest⟩ : ∃ rest, rest = (tA, ({ cls := .type "tuple", data := .seq #[.int ((textL pre).length - 1 : Nat) t1, .ref pA, .int (kindL x : Nat) t2, .int (placeFrom x (textL pre).length 0 (piecesL x) : Nat) t3, .int ((textL pre).length + (bodyL x).length : Nat) t4] } : Obj)) :: (pA, W.listOf (List.toArray pv) cap) :: (I, o₁) :: (aP, W.listOf refs.toArray pcap) :: led := ⟨_, rfl⟩
      have hpc := pieces_len x
      have hrl : pv.length ≤ 3 := by rw [r4.len, List.length_map]; exact hpc.2
      replace N₁ : News g L h₁ ((tA, ({ cls := .type "tuple", data := .seq #[.int ((textL pre).length - 1 : Nat) t1, .ref pA, .int (kindL x : Nat) t2, .int (placeFrom x (textL pre).length 0 (piecesL x) : Nat) t3, .int ((textL pre).length + (bodyL x).length : Nat) t4] } : Obj)) :: (pA, W.listOf (List.toArray pv) cap) :: (I, o₁) :: (tb ++ ((aP, W.listOf refs.toArray pcap) :: led))) := News.sub N₁ (by
        intro p hp
        rcases List.mem_cons.mp hp with e | hp
        · rw [e]; exact .tail _ (List.mem_append_right _ (.tail _ r2))
        rcases List.mem_cons.mp hp with e | hp
        · rw [e]; exact .tail _ (List.mem_append_right _ (.tail _ r3))
        exact hp)
      have hne' : ∀ p ∈ rest, p.1 ≠ 102 := by
        intro p hp
        rw [hrest] at hp
        rcases List.mem_cons.mp hp with e | hp
        · rw [e]; exact hne (_, _) (.tail _ r2)
        rcases List.mem_cons.mp hp with e | hp
        · rw [e]; exact hne (_, _) (.tail _ r3)
        rcases List.mem_cons.mp hp with e | hp
        · rw [e]; exact Nat.ne_of_gt hI2
        exact hne p hp
      k_steps
      refine Halt.out ?_
      rename News g L _ _ => N₂
      refine Calls.call_len_list (News.isList N₂ (.tail _ (.head _))) (by rw [List.size_toArray]; exact Int.lt_of_le_of_lt (Int.ofNat_le.mpr hrl) (by decide)) ?_
      rw [List.size_toArray, r4.len]
      k_steps
      refine Halt.out ?_
      rename Fr g L _ _ => F₂
      replace N₂ : News g L _ (tb ++ rest) := News.sub N₂ (by
        intro p hp
        rcases List.mem_append.mp hp with hp | hp
        · exact .tail _ (.tail _ (.tail _ (List.mem_append_left _ hp)))
        rw [hrest] at hp
        rcases List.mem_cons.mp hp with e | hp
        · rw [e]; exact .head _
        rcases List.mem_cons.mp hp with e | hp
        · rw [e]; exact .tail _ (.head _)
        rcases List.mem_cons.mp hp with e | hp
        · rw [e]; exact .tail _ (.tail _ (.head _))
        exact .tail _ (.tail _ (.tail _ (List.mem_append_right _ hp))))
      have hcl : cl (strL (textL xs)) = textL xs := rfl
      have hfin : (textL pre).length + (bodyL x).length ≤ 100000 := by
        have e1 : (textL xs).length = (textL pre).length + ((bodyL x).length + 1 + (textL post).length) := by rw [hx]; simp [textL]; omega
        rw [strL_len] at hxl
        omega
      have hmI : (I, o₁) ∈ rest := by rw [hrest]; exact .tail _ (.tail _ (.head _))
      have hmR : ∀ p ∈ (aP, W.listOf refs.toArray pcap) :: led, p ∈ rest := fun p hp => by rw [hrest]; exact .tail _ (.tail _ (.tail _ hp))
      have hnx : xs = (pre ++ [x]) ++ post := by rw [hx, List.append_assoc]; rfl
      have hnl : pre.length + 1 = (pre ++ [x]).length := by rw [List.length_append]; rfl
      have h1I : (102 : Nat) ≠ I := Nat.ne_of_lt hI2
      rcases told with ⟨hk, hrun⟩ | ⟨d, hk, hd, hd', h5, hrun⟩ | ⟨hk, hpl, h5, hrun⟩
      · refine read_go B F₂ X N₂ hTB T C hne' X T rfl rfl (show callerA.depth + 1 + 10 < recursionLimit by decide) (show callerA.units + 3 + 100 < cLine by decide) rfl hS hW _ _ (Nat.le_trans hxl (by decide)) _ _ _ _ _ hrun (Halt.mk (by rw [List.length_map]; exact hpc)) (fun r e => by cases e) ?_
        intro r er D₅ C₅ M₅ t₅ vs₅ cap₅ t₅' t₅'' n₅ h₅ tk₅ F₅ N₅ hv₅
        clear F₂ N₂
        cases er
        k_steps
        refine Halt.out ?_
        have hmp : (pA, W.listOf (List.toArray pv) cap) ∈ rest := by rw [hrest]; exact .tail _ (.head _)
        have N₅' := News.sub (l' := (pA, W.listOf (List.toArray pv) cap) :: _) N₅ (by
          intro p hp
          rcases List.mem_cons.mp hp with e | hp
          · rw [e]; exact .tail _ (.tail _ (.tail _ (List.mem_append_right _ hmp)))
          exact hp)
        refine due_good B F₅ X T rfl rfl rfl (show callerA.depth + 1 + 3 < recursionLimit by decide) (show callerA.units + 3 + 20 < cLine by decide) rfl _ _ _ _ _ _ _ _ (Nat.le_trans hxl (by decide)) _ _ _ _ (Int.ofNat_lt.mpr hk) r4 (by rw [List.length_map]; exact hpc) hfin N₅' ?_
        intro D₆ M₆ ta₆ tb₆ n₆ h₆ tk₆ F₆ N₆
        clear F₅ N₅ N₅'
        k_steps
        refine Halt.out ?_
        refine ne_ans (show callerA.units + 3 + 64 < cLine by decide) (fun y hy => piece_str hy) (News.get N₆ (.tail _ (.tail _ (.tail _ (.head _))))) (News.get N₆ (.tail _ (.tail _ (.tail _ (.tail _ (.head _)))))) (News.get N₆ (.tail _ (.tail _ (.tail _ (.tail _ (.tail _ (.head _))))))) hv₅ (News.get N₆ (.head _)) (News.get N₆ (.tail _ (.tail _ (.head _)))) (News.get N₆ (.tail _ (.head _))) r4 ?_
        k_steps
        refine Halt.out ?_
        exact turn_end F₆ (News.sub (l' := tb ++ rest) N₆ (fun p hp => .tail _ (.tail _ (.tail _ (.tail _ (.tail _ (.tail _ hp))))))) hTB hmI ho₁ h1I hIr hmR ⟨pre ++ [x], post, tb, hnx, by rw [hnl], rfl, hTB, rfl⟩
      · refine read_go B F₂ X N₂ hTB T C hne' X T rfl rfl (show callerA.depth + 1 + 10 < recursionLimit by decide) (show callerA.units + 3 + 100 < cLine by decide) rfl hS hW _ _ (Nat.le_trans hxl (by decide)) _ _ _ _ _ hrun (Halt.mk (by rw [List.length_map]; exact hpc)) ?_ (fun r e => by cases e)
        intro words ew u tb' h₅ tk₅ F₅ N₅ hTB'
        clear F₂ N₂
        cases ew
        k_steps
        refine Halt.out ?_
        refine due_bad B F₅ X N₅ T rfl rfl rfl (show callerA.depth + 1 + 3 < recursionLimit by decide) (show callerA.units + 3 + 20 < cLine by decide) rfl _ _ _ _ _ _ (Nat.le_trans hxl (by decide)) _ _ _ _ hk hd' hd h5 ?_
        intro u2 h₆ tk₆ F₆ N₆
        rw [hcl]
        clear F₅ N₅
        k_steps
        · rename (_ != _) = true => hbn
          rw [bne_self_eq_false] at hbn
          cases hbn
        · refine Halt.out ?_
          exact turn_end F₆ N₆ hTB' hmI ho₁ h1I hIr hmR ⟨pre ++ [x], post, tb', hnx, by rw [hnl], rfl, hTB', rfl⟩
      · refine read_go B F₂ X N₂ hTB T C hne' X T rfl rfl (show callerA.depth + 1 + 10 < recursionLimit by decide) (show callerA.units + 3 + 100 < cLine by decide) rfl hS hW _ _ (Nat.le_trans hxl (by decide)) _ _ _ _ _ hrun (Halt.mk (by rw [List.length_map]; exact hpc)) ?_ (fun r e => by cases e)
        intro words ew u tb' h₅ tk₅ F₅ N₅ hTB'
        clear F₂ N₂
        cases ew
        k_steps
        refine Halt.out ?_
        rw [hk]
        refine due_eof B F₅ X N₅ T rfl rfl rfl (show callerA.depth + 1 + 3 < recursionLimit by decide) (show callerA.units + 3 + 20 < cLine by decide) rfl _ _ _ _ (Nat.le_trans hxl (by decide)) _ _ _ _ (by rw [strL_len]; exact hpl) h5 ?_
        intro u2 h₆ tk₆ F₆ N₆
        rw [hcl]
        clear F₅ N₅
        k_steps
        · rename (_ != _) = true => hbn
          rw [bne_self_eq_false] at hbn
          cases hbn
        · refine Halt.out ?_
          exact turn_end F₆ N₆ hTB' hmI ho₁ h1I hIr hmR ⟨pre ++ [x], post, tb', hnx, by rw [hnl], rfl, hTB', rfl⟩
end Mine
end
section
open PySem PySem.W PyProof.Rows PySem.Calls
set_option maxHeartbeats 8000000
namespace Mine
local macro_rules | `(tactic| walk_at "call ref") => `(tactic| (refine Halt.mk ?_))
theorem LG_eq : looseW VV LL ++ (recsOf VV).map (·.name) ++ (litsOf VV).map (·.1) ++ (clssOf VV (looseW VV LL)).map (·.name) = LG := by decide +kernel
theorem law_holds : PySem.Challenge.rw_nb0113_01.Holds := by
  w_on
  refine holds_law (by decide +kernel) ?_
  intro said
  refine holds_by (by rfl) (by rfl) (by rfl) said ?hw ?hc
  case hw => w_witness2
  case hc =>
    k_fill
    intro w s₀ s₁ mg mb G Y fa o pm cd doc dV kV ho hd hcd hD hmg hg args vals as hpre hlay hrd hwl hlo
    have KX := Y.1
    have XX := (Ground.X G).1
    have VV' := (Ground.X G).2
    refine Ground.open G ?_
    intro T B D TE TW
    try (refine guard_noD D (by decide +kernel) ?_; clear D)
    have hT9 : TabsAt [(106, 102)] s₁.heap := List.forall_mem_cons.mpr ⟨tab_of (x := Str.ofString "suffixed_err") (c := 106) (P := 102) T KX rfl (by kernel_rfl), fun _ h => nomatch h⟩
    clear hmg
    wrow_args hpre hlay hrd hwl hlo
    refine enter2 ?_
    w_top on
    refine post2 hT9 (fun _ _ => rfl) ?_
    w_call any ho hd hcd hD T F
    clear hd
    rename News s₁.heap _ _ _ => N0
    rename Heap.IsList _ _ _ => hL
    rename IntsAre _ _ => hI
    have l0 := ghost_lt hT9 F
    have C' := (ghost_code hT9).1
    have X' := ghost_K hT9 KX (by kernel_rfl)
    have T' := ghost_top hT9 T
    rw [LG_eq] at T'
    have K' := ghost_below hT9
    have N' := ghost_news hT9 F N0
    have F' := ghost_fr hT9 F
    have hL' := ghost_list hT9 hL
    have hfz : ∀ {a S n}, FrozAt (strKind PR w) s₁.heap a S n → FrozAt (strKind PR w) (ghostOf s₁.heap [(106, 102)]) a S n := by
      rintro a S n ⟨es, ep, t, ho, r⟩
      exact ⟨es, ep, t, ghost_get hT9 ho (by intro q; cases q), r⟩
    have hS43 := hfz Y.2.1
    have hS52 := hfz Y.2.2
    clear hfz N0 F T KX hL TE TW B XX VV' l0
    have C'' : CodeHd (ghostOf s₁.heap [(106, 102)]) 106 102 := C'
    refine wpAny_mono (law_body K' F' N' X' T' C'' hS43 hS52 hL' hI (by omega) ?hret) (fun _ _ x => x) (fun _ _ x => x.elim)
    intro m' tb h' tk' Fe TBe Ne
    refine ⟨?_, ?_, True.intro⟩
    · refine goodW_bool Fe hg (raisesW_false ?_) ?_
      · wrow_none_raised
      · wrow_post
    cases TBe with
    | fresh => exact GrownAt.of Ne (.head _)
    | made _ _ _ => exact GrownAt.of Ne (.tail _ (.head _))
end Mine
end
theorem PySem.Challenge.cw_nb0113_01_holds : PySem.Challenge.rw_nb0113_01.Holds :=
  Mine.law_holds
