import PyProof.Rows.All
import Wide.All
import OpenK.AllK
import Wide.FinOn
import Lean
import PySem.Challenge.RW_rs0140_02
set_option Elab.async false
set_option compiler.extract_closed false

section
open PySem PySem.W PyProof.Rows
set_option maxRecDepth 100000
set_option maxHeartbeats 8000000
namespace Mine
noncomputable def topS (i : Nat) : Stmt := (PySem.Challenge.rw_rs0140_02.prog.main.body[i]?).getD (.Pass ⟨0, 0, 0, 0⟩)
noncomputable def inC (s : Stmt) (i : Nat) : Stmt := match s with | .ClassDef _ _ _ b _ _ _ _ _ _ _ => (b[i]?).getD (.Pass ⟨0, 0, 0, 0⟩) | _ => .Pass ⟨0, 0, 0, 0⟩
noncomputable def fP (s : Stmt) : Arguments := match s with | .FunctionDef _ a _ _ _ _ _ _ _ _ => a | _ => default
noncomputable def fB (s : Stmt) : List Stmt := match s with | .FunctionDef _ _ b _ _ _ _ _ _ _ => b | _ => []
noncomputable def fS (s : Stmt) : Scope := match s with | .FunctionDef _ _ _ _ _ _ sc _ _ _ => sc | _ => default
noncomputable def sT0 : {s : Stmt // s = topS 0} := ⟨_, by conv => rhs; whnf⟩
noncomputable def sT2 : {s : Stmt // s = topS 2} := ⟨_, by conv => rhs; whnf⟩
noncomputable def sT3 : {s : Stmt // s = topS 3} := ⟨_, by conv => rhs; whnf⟩
noncomputable def sT5 : {s : Stmt // s = topS 5} := ⟨_, by conv => rhs; whnf⟩
noncomputable def sT6 : {s : Stmt // s = topS 6} := ⟨_, by conv => rhs; whnf⟩
noncomputable def sT8 : {s : Stmt // s = topS 8} := ⟨_, by conv => rhs; whnf⟩
noncomputable def sT9 : {s : Stmt // s = topS 9} := ⟨_, by conv => rhs; whnf⟩
noncomputable def sT10 : {s : Stmt // s = topS 10} := ⟨_, by conv => rhs; whnf⟩
noncomputable def sT11 : {s : Stmt // s = topS 11} := ⟨_, by conv => rhs; whnf⟩
noncomputable def sT12 : {s : Stmt // s = topS 12} := ⟨_, by conv => rhs; whnf⟩
noncomputable def sT13 : {s : Stmt // s = topS 13} := ⟨_, by conv => rhs; whnf⟩
noncomputable def sT14 : {s : Stmt // s = topS 14} := ⟨_, by conv => rhs; whnf⟩
noncomputable def fnS21 : {s : Stmt // s = sT0.1} := ⟨_, by conv => rhs; whnf⟩
noncomputable def fnS38 : {s : Stmt // s = inC sT2.1 1} := ⟨_, by conv => rhs; whnf⟩
noncomputable def fnS45 : {s : Stmt // s = inC sT2.1 2} := ⟨_, by conv => rhs; whnf⟩
noncomputable def fnS52 : {s : Stmt // s = inC sT2.1 3} := ⟨_, by conv => rhs; whnf⟩
noncomputable def fnS59 : {s : Stmt // s = inC sT2.1 4} := ⟨_, by conv => rhs; whnf⟩
noncomputable def fnS66 : {s : Stmt // s = inC sT2.1 5} := ⟨_, by conv => rhs; whnf⟩
noncomputable def fnS73 : {s : Stmt // s = inC sT2.1 6} := ⟨_, by conv => rhs; whnf⟩
noncomputable def fnS80 : {s : Stmt // s = inC sT2.1 7} := ⟨_, by conv => rhs; whnf⟩
noncomputable def fnS94 : {s : Stmt // s = sT3.1} := ⟨_, by conv => rhs; whnf⟩
noncomputable def fnS108 : {s : Stmt // s = inC sT5.1 0} := ⟨_, by conv => rhs; whnf⟩
noncomputable def fnS115 : {s : Stmt // s = inC sT5.1 1} := ⟨_, by conv => rhs; whnf⟩
noncomputable def fnS122 : {s : Stmt // s = inC sT5.1 2} := ⟨_, by conv => rhs; whnf⟩
noncomputable def fnS129 : {s : Stmt // s = inC sT5.1 3} := ⟨_, by conv => rhs; whnf⟩
noncomputable def fnS143 : {s : Stmt // s = sT6.1} := ⟨_, by conv => rhs; whnf⟩
noncomputable def fnS148 : {s : Stmt // s = sT8.1} := ⟨_, by conv => rhs; whnf⟩
noncomputable def fnS155 : {s : Stmt // s = sT9.1} := ⟨_, by conv => rhs; whnf⟩
noncomputable def fnS162 : {s : Stmt // s = sT10.1} := ⟨_, by conv => rhs; whnf⟩
noncomputable def fnS167 : {s : Stmt // s = sT11.1} := ⟨_, by conv => rhs; whnf⟩
noncomputable def fnS174 : {s : Stmt // s = sT12.1} := ⟨_, by conv => rhs; whnf⟩
noncomputable def fnS179 : {s : Stmt // s = sT13.1} := ⟨_, by conv => rhs; whnf⟩
noncomputable def fnS184 : {s : Stmt // s = sT14.1} := ⟨_, by conv => rhs; whnf⟩
noncomputable def hd.heap_39 : Params → Frag := by
  refine' (_ : (p21 : Arguments) → (b21 : List Stmt) → (s21 : Scope) → (p38 : Arguments) → (b38 : List Stmt) → (s38 : Scope) → (p45 : Arguments) → (b45 : List Stmt) → (s45 : Scope) → (p52 : Arguments) → (b52 : List Stmt) → (s52 : Scope) → (p59 : Arguments) → (b59 : List Stmt) → (s59 : Scope) → (p66 : Arguments) → (b66 : List Stmt) → (s66 : Scope) → (p73 : Arguments) → (b73 : List Stmt) → (s73 : Scope) → (p80 : Arguments) → (b80 : List Stmt) → (s80 : Scope) → (p94 : Arguments) → (b94 : List Stmt) → (s94 : Scope) → (p108 : Arguments) → (b108 : List Stmt) → (s108 : Scope) → (p115 : Arguments) → (b115 : List Stmt) → (s115 : Scope) → (p122 : Arguments) → (b122 : List Stmt) → (s122 : Scope) → (p129 : Arguments) → (b129 : List Stmt) → (s129 : Scope) → (p143 : Arguments) → (b143 : List Stmt) → (s143 : Scope) → (p148 : Arguments) → (b148 : List Stmt) → (s148 : Scope) → (p155 : Arguments) → (b155 : List Stmt) → (s155 : Scope) → (p162 : Arguments) → (b162 : List Stmt) → (s162 : Scope) → (p167 : Arguments) → (b167 : List Stmt) → (s167 : Scope) → (p174 : Arguments) → (b174 : List Stmt) → (s174 : Scope) → (p179 : Arguments) → (b179 : List Stmt) → (s179 : Scope) → (p184 : Arguments) → (b184 : List Stmt) → (s184 : Scope) → p21 = fP (fnS21).1 → b21 = fB (fnS21).1 → s21 = fS (fnS21).1 → p38 = fP (fnS38).1 → b38 = fB (fnS38).1 → s38 = fS (fnS38).1 → p45 = fP (fnS45).1 → b45 = fB (fnS45).1 → s45 = fS (fnS45).1 → p52 = fP (fnS52).1 → b52 = fB (fnS52).1 → s52 = fS (fnS52).1 → p59 = fP (fnS59).1 → b59 = fB (fnS59).1 → s59 = fS (fnS59).1 → p66 = fP (fnS66).1 → b66 = fB (fnS66).1 → s66 = fS (fnS66).1 → p73 = fP (fnS73).1 → b73 = fB (fnS73).1 → s73 = fS (fnS73).1 → p80 = fP (fnS80).1 → b80 = fB (fnS80).1 → s80 = fS (fnS80).1 → p94 = fP (fnS94).1 → b94 = fB (fnS94).1 → s94 = fS (fnS94).1 → p108 = fP (fnS108).1 → b108 = fB (fnS108).1 → s108 = fS (fnS108).1 → p115 = fP (fnS115).1 → b115 = fB (fnS115).1 → s115 = fS (fnS115).1 → p122 = fP (fnS122).1 → b122 = fB (fnS122).1 → s122 = fS (fnS122).1 → p129 = fP (fnS129).1 → b129 = fB (fnS129).1 → s129 = fS (fnS129).1 → p143 = fP (fnS143).1 → b143 = fB (fnS143).1 → s143 = fS (fnS143).1 → p148 = fP (fnS148).1 → b148 = fB (fnS148).1 → s148 = fS (fnS148).1 → p155 = fP (fnS155).1 → b155 = fB (fnS155).1 → s155 = fS (fnS155).1 → p162 = fP (fnS162).1 → b162 = fB (fnS162).1 → s162 = fS (fnS162).1 → p167 = fP (fnS167).1 → b167 = fB (fnS167).1 → s167 = fS (fnS167).1 → p174 = fP (fnS174).1 → b174 = fB (fnS174).1 → s174 = fS (fnS174).1 → p179 = fP (fnS179).1 → b179 = fB (fnS179).1 → s179 = fS (fnS179).1 → p184 = fP (fnS184).1 → b184 = fB (fnS184).1 → s184 = fS (fnS184).1 → Params → Frag) _ _ _ _ _ _ _ _ _ _ _ _ _ _ _ _ _ _ _ _ _ _ _ _ _ _ _ _ _ _ _ _ _ _ _ _ _ _ _ _ _ _ _ _ _ _ _ _ _ _ _ _ _ _ _ _ _ _ _ _ _ _ _ (by conv => rhs; whnf) (by conv => rhs; whnf) (by conv => rhs; whnf) (by conv => rhs; whnf) (by conv => rhs; whnf) (by conv => rhs; whnf) (by conv => rhs; whnf) (by conv => rhs; whnf) (by conv => rhs; whnf) (by conv => rhs; whnf) (by conv => rhs; whnf) (by conv => rhs; whnf) (by conv => rhs; whnf) (by conv => rhs; whnf) (by conv => rhs; whnf) (by conv => rhs; whnf) (by conv => rhs; whnf) (by conv => rhs; whnf) (by conv => rhs; whnf) (by conv => rhs; whnf) (by conv => rhs; whnf) (by conv => rhs; whnf) (by conv => rhs; whnf) (by conv => rhs; whnf) (by conv => rhs; whnf) (by conv => rhs; whnf) (by conv => rhs; whnf) (by conv => rhs; whnf) (by conv => rhs; whnf) (by conv => rhs; whnf) (by conv => rhs; whnf) (by conv => rhs; whnf) (by conv => rhs; whnf) (by conv => rhs; whnf) (by conv => rhs; whnf) (by conv => rhs; whnf) (by conv => rhs; whnf) (by conv => rhs; whnf) (by conv => rhs; whnf) (by conv => rhs; whnf) (by conv => rhs; whnf) (by conv => rhs; whnf) (by conv => rhs; whnf) (by conv => rhs; whnf) (by conv => rhs; whnf) (by conv => rhs; whnf) (by conv => rhs; whnf) (by conv => rhs; whnf) (by conv => rhs; whnf) (by conv => rhs; whnf) (by conv => rhs; whnf) (by conv => rhs; whnf) (by conv => rhs; whnf) (by conv => rhs; whnf) (by conv => rhs; whnf) (by conv => rhs; whnf) (by conv => rhs; whnf) (by conv => rhs; whnf) (by conv => rhs; whnf) (by conv => rhs; whnf) (by conv => rhs; whnf) (by conv => rhs; whnf) (by conv => rhs; whnf) 
  exact fun p21 b21 s21 p38 b38 s38 p45 b45 s45 p52 b52 s52 p59 b59 s59 p66 b66 s66 p73 b73 s73 p80 b80 s80 p94 b94 s94 p108 b108 s108 p115 b115 s115 p122 b122 s122 p129 b129 s129 p143 b143 s143 p148 b148 s148 p155 b155 s155 p162 b162 s162 p167 b167 s167 p174 b174 s174 p179 b179 s179 p184 b184 s184 _ _ _ _ _ _ _ _ _ _ _ _ _ _ _ _ _ _ _ _ _ _ _ _ _ _ _ _ _ _ _ _ _ _ _ _ _ _ _ _ _ _ _ _ _ _ _ _ _ _ _ _ _ _ _ _ _ _ _ _ _ _ _ P => (nat_lit 2, { cls := Value.none, data := Data.dict #[] }) :: (nat_lit 3, { cls := Value.type "dict", data := Data.dict #[{ hash := PyData.keyHash P (Str.ofString "__name__"), key := Value.str (Str.ofString "__name__") 165, val := Value.str (Str.ofString "law_rs0140_02") 379 }, { hash := PyData.keyHash P (Str.ofString "__doc__"), key := Value.str (Str.ofString "__doc__") 166, val := Value.none }, { hash := PyData.keyHash P (Str.ofString "__package__"), key := Value.str (Str.ofString "__package__") 167, val := Value.none }, { hash := PyData.keyHash P (Str.ofString "__loader__"), key := Value.str (Str.ofString "__loader__") 168, val := Value.builtin "__main__.__loader__#opaque" }, { hash := PyData.keyHash P (Str.ofString "__spec__"), key := Value.str (Str.ofString "__spec__") 169, val := Value.none }, { hash := PyData.keyHash P (Str.ofString "__annotations__"), key := Value.str (Str.ofString "__annotations__") 170, val := Value.ref 6 }, { hash := PyData.keyHash P (Str.ofString "__builtins__"), key := Value.str (Str.ofString "__builtins__") 171, val := Value.ref 4 }, { hash := PyData.keyHash P (Str.ofString "__file__"), key := Value.str (Str.ofString "__file__") 173, val := Value.str (Str.ofString "/claim/cut.py") 172 }, { hash := PyData.keyHash P (Str.ofString "__cached__"), key := Value.str (Str.ofString "__cached__") 174, val := Value.none }, { hash := PyData.keyHash P (Str.ofString "_wall"), key := Value.str (Str.ofString "_wall") 193, val := Value.ref 21 }, { hash := PyData.keyHash P (Str.ofString "Whitespace"), key := Value.str (Str.ofString "Whitespace") 296, val := Value.ref 83 }, { hash := PyData.keyHash P (Str.ofString "format_witnesses"), key := Value.str (Str.ofString "format_witnesses") 305, val := Value.ref 94 }, { hash := PyData.keyHash P (Str.ofString "Entry"), key := Value.str (Str.ofString "Entry") 369, val := Value.ref 132 }, { hash := PyData.keyHash P (Str.ofString "merge_entries"), key := Value.str (Str.ofString "merge_entries") 378, val := Value.ref 143 }, { hash := PyData.keyHash P (Str.ofString "_law_white"), key := Value.str (Str.ofString "_law_white") 386, val := Value.ref 148 }, { hash := PyData.keyHash P (Str.ofString "_law_reader"), key := Value.str (Str.ofString "_law_reader") 394, val := Value.ref 155 }, { hash := PyData.keyHash P (Str.ofString "_law_rule"), key := Value.str (Str.ofString "_law_rule") 404, val := Value.ref 162 }, { hash := PyData.keyHash P (Str.ofString "_law_record"), key := Value.str (Str.ofString "_law_record") 410, val := Value.ref 167 }, { hash := PyData.keyHash P (Str.ofString "_law_told"), key := Value.str (Str.ofString "_law_told") 420, val := Value.ref 174 }, { hash := PyData.keyHash P (Str.ofString "_law_unlike"), key := Value.str (Str.ofString "_law_unlike") 426, val := Value.ref 179 }, { hash := PyData.keyHash P (Str.ofString "law"), key := Value.str (Str.ofString "law") 432, val := Value.ref 184 }] 21 }) :: (nat_lit 15, { cls := Value.type "tuple", data := Data.seq #[] }) :: (nat_lit 17, { cls := Value.type "tuple", data := Data.seq #[Value.str (Str.ofString "k") 190] }) :: (nat_lit 18, { cls := Value.type "tuple", data := Data.seq #[] }) :: (nat_lit 20, { cls := Value.type "code", data := Data.fields #[Value.str (Str.ofString "_wall") 187, Value.str (Str.ofString "_wall") 188, Value.str (Str.ofString "/claim/cut.py") 189, Value.int 1 0, Value.int 1 0, Value.int 0 0, Value.int 0 0, Value.int 3 0, Value.ref 15, Value.bool Bool.true, Value.int 181 0, Value.ref 16, Value.none, Value.ref 17, Value.ref 18, Value.ref 19, Value.int 191 0, Value.int 1 0, Value.str (Str.ofString "/claim/cut.py") 192] }) :: (nat_lit 21, { cls := Value.type "function", data := Data.func { name := Str.ofString "_wall", qualname := Str.ofString "_wall", globals := 3, closure := [], defaults := Value.none, kwdefaults := Value.none, pyModule := Value.str (Str.ofString "__main__") 164, code := Value.ref 20, params := p21, body := FuncBody.stmts (b21), scope := s21 } }) :: (nat_lit 32, { cls := Value.type "tuple", data := Data.seq #[] }) :: (nat_lit 34, { cls := Value.type "tuple", data := Data.seq #[Value.str (Str.ofString "self") 216, Value.str (Str.ofString "ws") 217, Value.str (Str.ofString "S") 218, Value.str (Str.ofString "T") 219, Value.str (Str.ofString "count") 220, Value.str (Str.ofString "b") 221, Value.str (Str.ofString "n") 222, Value.str (Str.ofString "nt") 223, Value.str (Str.ofString "ch") 224] }) :: (nat_lit 35, { cls := Value.type "tuple", data := Data.seq #[] }) :: (nat_lit 37, { cls := Value.type "code", data := Data.fields #[Value.str (Str.ofString "__init__") 213, Value.str (Str.ofString "Whitespace.__init__") 214, Value.str (Str.ofString "/claim/cut.py") 215, Value.int 8 0, Value.int 2 0, Value.int 0 0, Value.int 0 0, Value.int 3 0, Value.ref 32, Value.bool Bool.true, Value.int 181 0, Value.ref 33, Value.none, Value.ref 34, Value.ref 35, Value.ref 36, Value.int 225 0, Value.int 8 0, Value.str (Str.ofString "/claim/cut.py") 226] }) :: (nat_lit 38, { cls := Value.type "function", data := Data.func { name := Str.ofString "__init__", qualname := Str.ofString "Whitespace.__init__", globals := 3, closure := [], defaults := Value.none, kwdefaults := Value.none, pyModule := Value.str (Str.ofString "cpy313.tabnanny") 194, code := Value.ref 37, params := p38, body := FuncBody.stmts (b38), scope := s38 } }) :: (nat_lit 39, { cls := Value.type "tuple", data := Data.seq #[] }) :: (nat_lit 41, { cls := Value.type "tuple", data := Data.seq #[Value.str (Str.ofString "self") 231, Value.str (Str.ofString "count") 232, Value.str (Str.ofString "trailing") 233] }) :: (nat_lit 42, { cls := Value.type "tuple", data := Data.seq #[] }) :: (nat_lit 44, { cls := Value.type "code", data := Data.fields #[Value.str (Str.ofString "longest_run_of_spaces") 228, Value.str (Str.ofString "Whitespace.longest_run_of_spaces") 229, Value.str (Str.ofString "/claim/cut.py") 230, Value.int 31 0, Value.int 1 0, Value.int 0 0, Value.int 0 0, Value.int 3 0, Value.ref 39, Value.bool Bool.true, Value.int 181 0, Value.ref 40, Value.none, Value.ref 41, Value.ref 42, Value.ref 43, Value.int 234 0, Value.int 31 0, Value.str (Str.ofString "/claim/cut.py") 235] }) :: (nat_lit 45, { cls := Value.type "function", data := Data.func { name := Str.ofString "longest_run_of_spaces", qualname := Str.ofString "Whitespace.longest_run_of_spaces", globals := 3, closure := [], defaults := Value.none, kwdefaults := Value.none, pyModule := Value.str (Str.ofString "cpy313.tabnanny") 194, code := Value.ref 44, params := p45, body := FuncBody.stmts (b45), scope := s45 } }) :: (nat_lit 46, { cls := Value.type "tuple", data := Data.seq #[] }) :: (nat_lit 48, { cls := Value.type "tuple", data := Data.seq #[Value.str (Str.ofString "self") 240, Value.str (Str.ofString "tabsize") 241, Value.str (Str.ofString "count") 242, Value.str (Str.ofString "trailing") 243, Value.str (Str.ofString "il") 244, Value.str (Str.ofString "i") 245] }) :: (nat_lit 49, { cls := Value.type "tuple", data := Data.seq #[] }) :: (nat_lit 51, { cls := Value.type "code", data := Data.fields #[Value.str (Str.ofString "indent_level") 237, Value.str (Str.ofString "Whitespace.indent_level") 238, Value.str (Str.ofString "/claim/cut.py") 239, Value.int 35 0, Value.int 2 0, Value.int 0 0, Value.int 0 0, Value.int 3 0, Value.ref 46, Value.bool Bool.true, Value.int 181 0, Value.ref 47, Value.none, Value.ref 48, Value.ref 49, Value.ref 50, Value.int 246 0, Value.int 35 0, Value.str (Str.ofString "/claim/cut.py") 247] }) :: (nat_lit 52, { cls := Value.type "function", data := Data.func { name := Str.ofString "indent_level", qualname := Str.ofString "Whitespace.indent_level", globals := 3, closure := [], defaults := Value.none, kwdefaults := Value.none, pyModule := Value.str (Str.ofString "cpy313.tabnanny") 194, code := Value.ref 51, params := p52, body := FuncBody.stmts (b52), scope := s52 } }) :: (nat_lit 53, { cls := Value.type "tuple", data := Data.seq #[] }) :: (nat_lit 55, { cls := Value.type "tuple", data := Data.seq #[Value.str (Str.ofString "self") 252, Value.str (Str.ofString "other") 253] }) :: (nat_lit 56, { cls := Value.type "tuple", data := Data.seq #[] }) :: (nat_lit 58, { cls := Value.type "code", data := Data.fields #[Value.str (Str.ofString "equal") 249, Value.str (Str.ofString "Whitespace.equal") 250, Value.str (Str.ofString "/claim/cut.py") 251, Value.int 42 0, Value.int 2 0, Value.int 0 0, Value.int 0 0, Value.int 3 0, Value.ref 53, Value.bool Bool.true, Value.int 181 0, Value.ref 54, Value.none, Value.ref 55, Value.ref 56, Value.ref 57, Value.int 254 0, Value.int 42 0, Value.str (Str.ofString "/claim/cut.py") 255] }) :: (nat_lit 59, { cls := Value.type "function", data := Data.func { name := Str.ofString "equal", qualname := Str.ofString "Whitespace.equal", globals := 3, closure := [], defaults := Value.none, kwdefaults := Value.none, pyModule := Value.str (Str.ofString "cpy313.tabnanny") 194, code := Value.ref 58, params := p59, body := FuncBody.stmts (b59), scope := s59 } }) :: (nat_lit 60, { cls := Value.type "tuple", data := Data.seq #[] }) :: (nat_lit 62, { cls := Value.type "tuple", data := Data.seq #[Value.str (Str.ofString "self") 260, Value.str (Str.ofString "other") 261, Value.str (Str.ofString "n") 262, Value.str (Str.ofString "a") 263, Value.str (Str.ofString "ts") 264] }) :: (nat_lit 63, { cls := Value.type "tuple", data := Data.seq #[] }) :: (nat_lit 65, { cls := Value.type "code", data := Data.fields #[Value.str (Str.ofString "not_equal_witness") 257, Value.str (Str.ofString "Whitespace.not_equal_witness") 258, Value.str (Str.ofString "/claim/cut.py") 259, Value.int 45 0, Value.int 2 0, Value.int 0 0, Value.int 0 0, Value.int 3 0, Value.ref 60, Value.bool Bool.true, Value.int 181 0, Value.ref 61, Value.none, Value.ref 62, Value.ref 63, Value.ref 64, Value.int 265 0, Value.int 45 0, Value.str (Str.ofString "/claim/cut.py") 266] }) :: (nat_lit 66, { cls := Value.type "function", data := Data.func { name := Str.ofString "not_equal_witness", qualname := Str.ofString "Whitespace.not_equal_witness", globals := 3, closure := [], defaults := Value.none, kwdefaults := Value.none, pyModule := Value.str (Str.ofString "cpy313.tabnanny") 194, code := Value.ref 65, params := p66, body := FuncBody.stmts (b66), scope := s66 } }) :: (nat_lit 67, { cls := Value.type "tuple", data := Data.seq #[] }) :: (nat_lit 69, { cls := Value.type "tuple", data := Data.seq #[Value.str (Str.ofString "self") 271, Value.str (Str.ofString "other") 272] }) :: (nat_lit 70, { cls := Value.type "tuple", data := Data.seq #[] }) :: (nat_lit 72, { cls := Value.type "code", data := Data.fields #[Value.str (Str.ofString "less") 268, Value.str (Str.ofString "Whitespace.less") 269, Value.str (Str.ofString "/claim/cut.py") 270, Value.int 53 0, Value.int 2 0, Value.int 0 0, Value.int 0 0, Value.int 3 0, Value.ref 67, Value.bool Bool.true, Value.int 181 0, Value.ref 68, Value.none, Value.ref 69, Value.ref 70, Value.ref 71, Value.int 273 0, Value.int 53 0, Value.str (Str.ofString "/claim/cut.py") 274] }) :: (nat_lit 73, { cls := Value.type "function", data := Data.func { name := Str.ofString "less", qualname := Str.ofString "Whitespace.less", globals := 3, closure := [], defaults := Value.none, kwdefaults := Value.none, pyModule := Value.str (Str.ofString "cpy313.tabnanny") 194, code := Value.ref 72, params := p73, body := FuncBody.stmts (b73), scope := s73 } }) :: (nat_lit 74, { cls := Value.type "tuple", data := Data.seq #[] }) :: (nat_lit 76, { cls := Value.type "tuple", data := Data.seq #[Value.str (Str.ofString "self") 279, Value.str (Str.ofString "other") 280] }) :: (nat_lit 77, { cls := Value.type "tuple", data := Data.seq #[] }) :: (nat_lit 79, { cls := Value.type "code", data := Data.fields #[Value.str (Str.ofString "not_less_witness") 276, Value.str (Str.ofString "Whitespace.not_less_witness") 277, Value.str (Str.ofString "/claim/cut.py") 278, Value.int 56 0, Value.int 2 0, Value.int 0 0, Value.int 0 0, Value.int 3 0, Value.ref 74, Value.bool Bool.true, Value.int 181 0, Value.ref 75, Value.none, Value.ref 76, Value.ref 77, Value.ref 78, Value.int 281 0, Value.int 56 0, Value.str (Str.ofString "/claim/cut.py") 282] }) :: (nat_lit 80, { cls := Value.type "function", data := Data.func { name := Str.ofString "not_less_witness", qualname := Str.ofString "Whitespace.not_less_witness", globals := 3, closure := [], defaults := Value.none, kwdefaults := Value.none, pyModule := Value.str (Str.ofString "cpy313.tabnanny") 194, code := Value.ref 79, params := p80, body := FuncBody.stmts (b80), scope := s80 } }) :: (nat_lit 81, { cls := Value.type "tuple", data := Data.seq #[Value.str (Str.ofString "is_simple") 284, Value.str (Str.ofString "n") 285, Value.str (Str.ofString "norm") 286, Value.str (Str.ofString "nt") 287, Value.str (Str.ofString "raw") 288] }) :: (nat_lit 82, { cls := Value.type "dict", data := Data.dict #[{ hash := PyData.keyHash P (Str.ofString "__module__"), key := Value.str (Str.ofString "__module__") 203, val := Value.str (Str.ofString "cpy313.tabnanny") 194 }, { hash := PyData.keyHash P (Str.ofString "__firstlineno__"), key := Value.str (Str.ofString "__firstlineno__") 207, val := Value.int 5 206 }, { hash := PyData.keyHash P (Str.ofString "S"), key := Value.str (Str.ofString "S") 211, val := Value.str (Str.ofString " ") 209 }, { hash := PyData.keyHash P (Str.ofString "T"), key := Value.str (Str.ofString "T") 212, val := Value.str (Str.ofString "\t") 210 }, { hash := PyData.keyHash P (Str.ofString "__init__"), key := Value.str (Str.ofString "__init__") 227, val := Value.ref 38 }, { hash := PyData.keyHash P (Str.ofString "longest_run_of_spaces"), key := Value.str (Str.ofString "longest_run_of_spaces") 236, val := Value.ref 45 }, { hash := PyData.keyHash P (Str.ofString "indent_level"), key := Value.str (Str.ofString "indent_level") 248, val := Value.ref 52 }, { hash := PyData.keyHash P (Str.ofString "equal"), key := Value.str (Str.ofString "equal") 256, val := Value.ref 59 }, { hash := PyData.keyHash P (Str.ofString "not_equal_witness"), key := Value.str (Str.ofString "not_equal_witness") 267, val := Value.ref 66 }, { hash := PyData.keyHash P (Str.ofString "less"), key := Value.str (Str.ofString "less") 275, val := Value.ref 73 }, { hash := PyData.keyHash P (Str.ofString "not_less_witness"), key := Value.str (Str.ofString "not_less_witness") 283, val := Value.ref 80 }, { hash := PyData.keyHash P (Str.ofString "__static_attributes__"), key := Value.str (Str.ofString "__static_attributes__") 289, val := Value.ref 81 }, { hash := PyData.keyHash P (Str.ofString "__dict__"), key := Value.str (Str.ofString "__dict__") 291, val := Value.ref 84 }, { hash := PyData.keyHash P (Str.ofString "__weakref__"), key := Value.str (Str.ofString "__weakref__") 293, val := Value.ref 85 }, { hash := PyData.keyHash P (Str.ofString "__doc__"), key := Value.str (Str.ofString "__doc__") 294, val := Value.none }] 4 }) :: (nat_lit 83, { cls := Value.type "type", data := Data.cls { name := Str.ofString "Whitespace", bases := [Value.type "object"], mro := [Value.ref 83, Value.type "object"], ns := 82, qualname := Str.ofString "Whitespace" }, slots := #[Option.none, Option.none, Option.some (Value.str (Str.ofString "Whitespace") 196), Option.some (Value.str (Str.ofString "Whitespace") 204), Option.some (Value.builtin "object.__new__"), Option.some (Value.bool Bool.true)] }) :: (nat_lit 84, { cls := Value.type "getset_descriptor", data := Data.fields #[Value.str (Str.ofString "__dict__") 290, Value.ref 83, Value.builtin "function.__dict__", Value.builtin "function.__dict__#set"] }) :: (nat_lit 85, { cls := Value.type "getset_descriptor", data := Data.fields #[Value.str (Str.ofString "__weakref__") 292, Value.ref 83, Value.builtin "ExceptionGroup.__weakref__", Value.none] }) :: (nat_lit 88, { cls := Value.type "tuple", data := Data.seq #[] }) :: (nat_lit 90, { cls := Value.type "tuple", data := Data.seq #[Value.str (Str.ofString "w") 300, Value.str (Str.ofString "firsts") 301, Value.str (Str.ofString "prefix") 302] }) :: (nat_lit 91, { cls := Value.type "tuple", data := Data.seq #[] }) :: (nat_lit 93, { cls := Value.type "code", data := Data.fields #[Value.str (Str.ofString "format_witnesses") 297, Value.str (Str.ofString "format_witnesses") 298, Value.str (Str.ofString "/claim/cut.py") 299, Value.int 58 0, Value.int 1 0, Value.int 0 0, Value.int 0 0, Value.int 3 0, Value.ref 88, Value.bool Bool.true, Value.int 181 0, Value.ref 89, Value.none, Value.ref 90, Value.ref 91, Value.ref 92, Value.int 303 0, Value.int 58 0, Value.str (Str.ofString "/claim/cut.py") 304] }) :: (nat_lit 94, { cls := Value.type "function", data := Data.func { name := Str.ofString "format_witnesses", qualname := Str.ofString "format_witnesses", globals := 3, closure := [], defaults := Value.none, kwdefaults := Value.none, pyModule := Value.str (Str.ofString "cpy313.tabnanny") 194, code := Value.ref 93, params := p94, body := FuncBody.stmts (b94), scope := s94 } }) :: (nat_lit 102, { cls := Value.type "tuple", data := Data.seq #[] }) :: (nat_lit 104, { cls := Value.type "tuple", data := Data.seq #[Value.str (Str.ofString "self") 323] }) :: (nat_lit 105, { cls := Value.type "tuple", data := Data.seq #[] }) :: (nat_lit 107, { cls := Value.type "code", data := Data.fields #[Value.str (Str.ofString "__init__") 320, Value.str (Str.ofString "Entry.__init__") 321, Value.str (Str.ofString "/claim/cut.py") 322, Value.int 67 0, Value.int 1 0, Value.int 0 0, Value.int 0 0, Value.int 3 0, Value.ref 102, Value.bool Bool.true, Value.int 181 0, Value.ref 103, Value.none, Value.ref 104, Value.ref 105, Value.ref 106, Value.int 324 0, Value.int 67 0, Value.str (Str.ofString "/claim/cut.py") 325] }) :: (nat_lit 108, { cls := Value.type "function", data := Data.func { name := Str.ofString "__init__", qualname := Str.ofString "Entry.__init__", globals := 3, closure := [], defaults := Value.none, kwdefaults := Value.none, pyModule := Value.str (Str.ofString "cpy313.urllib.robotparser") 306, code := Value.ref 107, params := p108, body := FuncBody.stmts (b108), scope := s108 } }) :: (nat_lit 109, { cls := Value.type "tuple", data := Data.seq #[] }) :: (nat_lit 111, { cls := Value.type "tuple", data := Data.seq #[Value.str (Str.ofString "self") 330, Value.str (Str.ofString "ret") 331, Value.str (Str.ofString "agent") 332, Value.str (Str.ofString "rate") 333] }) :: (nat_lit 112, { cls := Value.type "tuple", data := Data.seq #[] }) :: (nat_lit 114, { cls := Value.type "code", data := Data.fields #[Value.str (Str.ofString "__str__") 327, Value.str (Str.ofString "Entry.__str__") 328, Value.str (Str.ofString "/claim/cut.py") 329, Value.int 73 0, Value.int 1 0, Value.int 0 0, Value.int 0 0, Value.int 3 0, Value.ref 109, Value.bool Bool.true, Value.int 181 0, Value.ref 110, Value.none, Value.ref 111, Value.ref 112, Value.ref 113, Value.int 334 0, Value.int 73 0, Value.str (Str.ofString "/claim/cut.py") 335] }) :: (nat_lit 115, { cls := Value.type "function", data := Data.func { name := Str.ofString "__str__", qualname := Str.ofString "Entry.__str__", globals := 3, closure := [], defaults := Value.none, kwdefaults := Value.none, pyModule := Value.str (Str.ofString "cpy313.urllib.robotparser") 306, code := Value.ref 114, params := p115, body := FuncBody.stmts (b115), scope := s115 } }) :: (nat_lit 116, { cls := Value.type "tuple", data := Data.seq #[] }) :: (nat_lit 118, { cls := Value.type "tuple", data := Data.seq #[Value.str (Str.ofString "self") 340, Value.str (Str.ofString "useragent") 341, Value.str (Str.ofString "agent") 342] }) :: (nat_lit 119, { cls := Value.type "tuple", data := Data.seq #[] }) :: (nat_lit 121, { cls := Value.type "code", data := Data.fields #[Value.str (Str.ofString "applies_to") 337, Value.str (Str.ofString "Entry.applies_to") 338, Value.str (Str.ofString "/claim/cut.py") 339, Value.int 90 0, Value.int 2 0, Value.int 0 0, Value.int 0 0, Value.int 3 0, Value.ref 116, Value.bool Bool.true, Value.int 181 0, Value.ref 117, Value.none, Value.ref 118, Value.ref 119, Value.ref 120, Value.int 343 0, Value.int 90 0, Value.str (Str.ofString "/claim/cut.py") 344] }) :: (nat_lit 122, { cls := Value.type "function", data := Data.func { name := Str.ofString "applies_to", qualname := Str.ofString "Entry.applies_to", globals := 3, closure := [], defaults := Value.none, kwdefaults := Value.none, pyModule := Value.str (Str.ofString "cpy313.urllib.robotparser") 306, code := Value.ref 121, params := p122, body := FuncBody.stmts (b122), scope := s122 } }) :: (nat_lit 123, { cls := Value.type "tuple", data := Data.seq #[] }) :: (nat_lit 125, { cls := Value.type "tuple", data := Data.seq #[Value.str (Str.ofString "self") 349, Value.str (Str.ofString "filename") 350, Value.str (Str.ofString "best_match") 351, Value.str (Str.ofString "allowance") 352, Value.str (Str.ofString "line") 353, Value.str (Str.ofString "m") 354] }) :: (nat_lit 126, { cls := Value.type "tuple", data := Data.seq #[] }) :: (nat_lit 128, { cls := Value.type "code", data := Data.fields #[Value.str (Str.ofString "allowance") 346, Value.str (Str.ofString "Entry.allowance") 347, Value.str (Str.ofString "/claim/cut.py") 348, Value.int 101 0, Value.int 2 0, Value.int 0 0, Value.int 0 0, Value.int 3 0, Value.ref 123, Value.bool Bool.true, Value.int 181 0, Value.ref 124, Value.none, Value.ref 125, Value.ref 126, Value.ref 127, Value.int 355 0, Value.int 101 0, Value.str (Str.ofString "/claim/cut.py") 356] }) :: (nat_lit 129, { cls := Value.type "function", data := Data.func { name := Str.ofString "allowance", qualname := Str.ofString "Entry.allowance", globals := 3, closure := [], defaults := Value.none, kwdefaults := Value.none, pyModule := Value.str (Str.ofString "cpy313.urllib.robotparser") 306, code := Value.ref 128, params := p129, body := FuncBody.stmts (b129), scope := s129 } }) :: (nat_lit 130, { cls := Value.type "tuple", data := Data.seq #[Value.str (Str.ofString "delay") 358, Value.str (Str.ofString "req_rate") 359, Value.str (Str.ofString "rulelines") 360, Value.str (Str.ofString "useragents") 361] }) :: (nat_lit 131, { cls := Value.type "dict", data := Data.dict #[{ hash := PyData.keyHash P (Str.ofString "__module__"), key := Value.str (Str.ofString "__module__") 315, val := Value.str (Str.ofString "cpy313.urllib.robotparser") 306 }, { hash := PyData.keyHash P (Str.ofString "__firstlineno__"), key := Value.str (Str.ofString "__firstlineno__") 319, val := Value.int 65 318 }, { hash := PyData.keyHash P (Str.ofString "__init__"), key := Value.str (Str.ofString "__init__") 326, val := Value.ref 108 }, { hash := PyData.keyHash P (Str.ofString "__str__"), key := Value.str (Str.ofString "__str__") 336, val := Value.ref 115 }, { hash := PyData.keyHash P (Str.ofString "applies_to"), key := Value.str (Str.ofString "applies_to") 345, val := Value.ref 122 }, { hash := PyData.keyHash P (Str.ofString "allowance"), key := Value.str (Str.ofString "allowance") 357, val := Value.ref 129 }, { hash := PyData.keyHash P (Str.ofString "__static_attributes__"), key := Value.str (Str.ofString "__static_attributes__") 362, val := Value.ref 130 }, { hash := PyData.keyHash P (Str.ofString "__dict__"), key := Value.str (Str.ofString "__dict__") 364, val := Value.ref 133 }, { hash := PyData.keyHash P (Str.ofString "__weakref__"), key := Value.str (Str.ofString "__weakref__") 366, val := Value.ref 134 }, { hash := PyData.keyHash P (Str.ofString "__doc__"), key := Value.str (Str.ofString "__doc__") 367, val := Value.none }] 4 }) :: (nat_lit 132, { cls := Value.type "type", data := Data.cls { name := Str.ofString "Entry", bases := [Value.type "object"], mro := [Value.ref 132, Value.type "object"], ns := 131, qualname := Str.ofString "Entry" }, slots := #[Option.none, Option.none, Option.some (Value.str (Str.ofString "Entry") 308), Option.some (Value.str (Str.ofString "Entry") 316), Option.some (Value.builtin "object.__new__"), Option.some (Value.bool Bool.true)] }) :: (nat_lit 133, { cls := Value.type "getset_descriptor", data := Data.fields #[Value.str (Str.ofString "__dict__") 363, Value.ref 132, Value.builtin "function.__dict__", Value.builtin "function.__dict__#set"] }) :: (nat_lit 134, { cls := Value.type "getset_descriptor", data := Data.fields #[Value.str (Str.ofString "__weakref__") 365, Value.ref 132, Value.builtin "ExceptionGroup.__weakref__", Value.none] }) :: (nat_lit 137, { cls := Value.type "tuple", data := Data.seq #[] }) :: (nat_lit 139, { cls := Value.type "tuple", data := Data.seq #[Value.str (Str.ofString "e1") 373, Value.str (Str.ofString "e2") 374, Value.str (Str.ofString "entry") 375] }) :: (nat_lit 140, { cls := Value.type "tuple", data := Data.seq #[] }) :: (nat_lit 142, { cls := Value.type "code", data := Data.fields #[Value.str (Str.ofString "merge_entries") 370, Value.str (Str.ofString "merge_entries") 371, Value.str (Str.ofString "/claim/cut.py") 372, Value.int 113 0, Value.int 2 0, Value.int 0 0, Value.int 0 0, Value.int 3 0, Value.ref 137, Value.bool Bool.true, Value.int 181 0, Value.ref 138, Value.none, Value.ref 139, Value.ref 140, Value.ref 141, Value.int 376 0, Value.int 113 0, Value.str (Str.ofString "/claim/cut.py") 377] }) :: (nat_lit 143, { cls := Value.type "function", data := Data.func { name := Str.ofString "merge_entries", qualname := Str.ofString "merge_entries", globals := 3, closure := [], defaults := Value.none, kwdefaults := Value.none, pyModule := Value.str (Str.ofString "cpy313.urllib.robotparser") 306, code := Value.ref 142, params := p143, body := FuncBody.stmts (b143), scope := s143 } }) :: (nat_lit 144, { cls := Value.type "tuple", data := Data.seq #[] }) :: (nat_lit 147, { cls := Value.type "code", data := Data.fields #[Value.str (Str.ofString "_law_white") 381, Value.str (Str.ofString "_law_white") 382, Value.str (Str.ofString "/claim/cut.py") 383, Value.int 121 0, Value.int 2 0, Value.int 0 0, Value.int 0 0, Value.int 3 0, Value.ref 144, Value.bool Bool.true, Value.int 181 0, Value.ref 145, Value.none, Value.none, Value.none, Value.ref 146, Value.int 384 0, Value.int 121 0, Value.str (Str.ofString "/claim/cut.py") 385] }) :: (nat_lit 148, { cls := Value.type "function", data := Data.func { name := Str.ofString "_law_white", qualname := Str.ofString "_law_white", globals := 3, closure := [], defaults := Value.none, kwdefaults := Value.none, pyModule := Value.str (Str.ofString "law_rs0140_02") 379, code := Value.ref 147, params := p148, body := FuncBody.stmts (b148), scope := s148 } }) :: (nat_lit 149, { cls := Value.type "tuple", data := Data.seq #[] }) :: (nat_lit 151, { cls := Value.type "tuple", data := Data.seq #[Value.str (Str.ofString "size") 390, Value.str (Str.ofString "reader") 391] }) :: (nat_lit 152, { cls := Value.type "tuple", data := Data.seq #[] }) :: (nat_lit 154, { cls := Value.type "code", data := Data.fields #[Value.str (Str.ofString "_law_reader") 387, Value.str (Str.ofString "_law_reader") 388, Value.str (Str.ofString "/claim/cut.py") 389, Value.int 123 0, Value.int 1 0, Value.int 0 0, Value.int 0 0, Value.int 3 0, Value.ref 149, Value.bool Bool.true, Value.int 181 0, Value.ref 150, Value.none, Value.ref 151, Value.ref 152, Value.ref 153, Value.int 392 0, Value.int 123 0, Value.str (Str.ofString "/claim/cut.py") 393] }) :: (nat_lit 155, { cls := Value.type "function", data := Data.func { name := Str.ofString "_law_reader", qualname := Str.ofString "_law_reader", globals := 3, closure := [], defaults := Value.none, kwdefaults := Value.none, pyModule := Value.str (Str.ofString "law_rs0140_02") 379, code := Value.ref 154, params := p155, body := FuncBody.stmts (b155), scope := s155 } }) :: (nat_lit 156, { cls := Value.type "tuple", data := Data.seq #[] }) :: (nat_lit 158, { cls := Value.type "tuple", data := Data.seq #[Value.str (Str.ofString "power") 398, Value.str (Str.ofString "verdict") 399, Value.str (Str.ofString "rule") 400] }) :: (nat_lit 159, { cls := Value.type "tuple", data := Data.seq #[Value.str (Str.ofString "power") 401] }) :: (nat_lit 161, { cls := Value.type "code", data := Data.fields #[Value.str (Str.ofString "_law_rule") 395, Value.str (Str.ofString "_law_rule") 396, Value.str (Str.ofString "/claim/cut.py") 397, Value.int 127 0, Value.int 2 0, Value.int 0 0, Value.int 0 0, Value.int 3 0, Value.ref 156, Value.bool Bool.true, Value.int 181 0, Value.ref 157, Value.none, Value.ref 158, Value.ref 159, Value.ref 160, Value.int 402 0, Value.int 127 0, Value.str (Str.ofString "/claim/cut.py") 403] }) :: (nat_lit 162, { cls := Value.type "function", data := Data.func { name := Str.ofString "_law_rule", qualname := Str.ofString "_law_rule", globals := 3, closure := [], defaults := Value.none, kwdefaults := Value.none, pyModule := Value.str (Str.ofString "law_rs0140_02") 379, code := Value.ref 161, params := p162, body := FuncBody.stmts (b162), scope := s162 } }) :: (nat_lit 163, { cls := Value.type "tuple", data := Data.seq #[] }) :: (nat_lit 166, { cls := Value.type "code", data := Data.fields #[Value.str (Str.ofString "_law_record") 405, Value.str (Str.ofString "_law_record") 406, Value.str (Str.ofString "/claim/cut.py") 407, Value.int 132 0, Value.int 3 0, Value.int 0 0, Value.int 0 0, Value.int 3 0, Value.ref 163, Value.bool Bool.true, Value.int 181 0, Value.ref 164, Value.none, Value.none, Value.none, Value.ref 165, Value.int 408 0, Value.int 132 0, Value.str (Str.ofString "/claim/cut.py") 409] }) :: (nat_lit 167, { cls := Value.type "function", data := Data.func { name := Str.ofString "_law_record", qualname := Str.ofString "_law_record", globals := 3, closure := [], defaults := Value.none, kwdefaults := Value.none, pyModule := Value.str (Str.ofString "law_rs0140_02") 379, code := Value.ref 166, params := p167, body := FuncBody.stmts (b167), scope := s167 } }) :: (nat_lit 168, { cls := Value.type "tuple", data := Data.seq #[] }) :: (nat_lit 170, { cls := Value.type "tuple", data := Data.seq #[Value.str (Str.ofString "record") 414, Value.str (Str.ofString "product") 415, Value.str (Str.ofString "prime") 416, Value.str (Str.ofString "verdict") 417] }) :: (nat_lit 171, { cls := Value.type "tuple", data := Data.seq #[] }) :: (nat_lit 173, { cls := Value.type "code", data := Data.fields #[Value.str (Str.ofString "_law_told") 411, Value.str (Str.ofString "_law_told") 412, Value.str (Str.ofString "/claim/cut.py") 413, Value.int 140 0, Value.int 1 0, Value.int 0 0, Value.int 0 0, Value.int 3 0, Value.ref 168, Value.bool Bool.true, Value.int 181 0, Value.ref 169, Value.none, Value.ref 170, Value.ref 171, Value.ref 172, Value.int 418 0, Value.int 140 0, Value.str (Str.ofString "/claim/cut.py") 419] }) :: (nat_lit 174, { cls := Value.type "function", data := Data.func { name := Str.ofString "_law_told", qualname := Str.ofString "_law_told", globals := 3, closure := [], defaults := Value.none, kwdefaults := Value.none, pyModule := Value.str (Str.ofString "law_rs0140_02") 379, code := Value.ref 173, params := p174, body := FuncBody.stmts (b174), scope := s174 } }) :: (nat_lit 175, { cls := Value.type "tuple", data := Data.seq #[] }) :: (nat_lit 178, { cls := Value.type "code", data := Data.fields #[Value.str (Str.ofString "_law_unlike") 421, Value.str (Str.ofString "_law_unlike") 422, Value.str (Str.ofString "/claim/cut.py") 423, Value.int 147 0, Value.int 2 0, Value.int 0 0, Value.int 0 0, Value.int 3 0, Value.ref 175, Value.bool Bool.true, Value.int 181 0, Value.ref 176, Value.none, Value.none, Value.none, Value.ref 177, Value.int 424 0, Value.int 147 0, Value.str (Str.ofString "/claim/cut.py") 425] }) :: (nat_lit 179, { cls := Value.type "function", data := Data.func { name := Str.ofString "_law_unlike", qualname := Str.ofString "_law_unlike", globals := 3, closure := [], defaults := Value.none, kwdefaults := Value.none, pyModule := Value.str (Str.ofString "law_rs0140_02") 379, code := Value.ref 178, params := p179, body := FuncBody.stmts (b179), scope := s179 } }) :: (nat_lit 180, { cls := Value.type "tuple", data := Data.seq #[] }) :: (nat_lit 183, { cls := Value.type "code", data := Data.fields #[Value.str (Str.ofString "law") 427, Value.str (Str.ofString "law") 428, Value.str (Str.ofString "/claim/cut.py") 429, Value.int 154 0, Value.int 1 0, Value.int 0 0, Value.int 0 0, Value.int 3 0, Value.ref 180, Value.bool Bool.true, Value.int 181 0, Value.ref 181, Value.none, Value.none, Value.none, Value.ref 182, Value.int 430 0, Value.int 154 0, Value.str (Str.ofString "/claim/cut.py") 431] }) :: (nat_lit 184, { cls := Value.type "function", data := Data.func { name := Str.ofString "law", qualname := Str.ofString "law", globals := 3, closure := [], defaults := Value.none, kwdefaults := Value.none, pyModule := Value.str (Str.ofString "law_rs0140_02") 379, code := Value.ref 183, params := p184, body := FuncBody.stmts (b184), scope := s184 } }) :: []
noncomputable def hd.view_39 : Program := { PySem.Challenge.rw_rs0140_02.row.toRowW.prog with main := { (PySem.Challenge.rw_rs0140_02.row.toRowW.prog).main with body := [sT0.1, sT2.1, sT3.1, sT5.1, sT6.1, sT8.1, sT9.1, sT10.1, sT11.1, sT12.1, sT13.1, sT14.1] } }
theorem hd.as (P : Params) : [2, 3, 15, 17, 18, 20, 21, 32, 34, 35, 37, 38, 39, 41, 42, 44, 45, 46, 48, 49, 51, 52, 53, 55, 56, 58, 59, 60, 62, 63, 65, 66, 67, 69, 70, 72, 73, 74, 76, 77, 79, 80, 81, 82, 83, 84, 85, 88, 90, 91, 93, 94, 102, 104, 105, 107, 108, 109, 111, 112, 114, 115, 116, 118, 119, 121, 122, 123, 125, 126, 128, 129, 130, 131, 132, 133, 134, 137, 139, 140, 142, 143, 144, 147, 148, 149, 151, 152, 154, 155, 156, 158, 159, 161, 162, 163, 166, 167, 168, 170, 171, 173, 174, 175, 178, 179, 180, 183, 184] = (hd.heap_39 P).map (·.1) := by kernel_rfl
noncomputable abbrev hd.hook := kmHook hd.heap_39 [2, 3, 15, 17, 18, 20, 21, 32, 34, 35, 37, 38, 39, 41, 42, 44, 45, 46, 48, 49, 51, 52, 53, 55, 56, 58, 59, 60, 62, 63, 65, 66, 67, 69, 70, 72, 73, 74, 76, 77, 79, 80, 81, 82, 83, 84, 85, 88, 90, 91, 93, 94, 102, 104, 105, 107, 108, 109, 111, 112, 114, 115, 116, 118, 119, 121, 122, 123, 125, 126, 128, 129, 130, 131, 132, 133, 134, 137, 139, 140, 142, 143, 144, 147, 148, 149, 151, 152, 154, 155, 156, 158, 159, 161, 162, 163, 166, 167, 168, 170, 171, 173, 174, 175, 178, 179, 180, 183, 184] hd.as [157]
theorem hd.left0 (w : World) : Option.map (fun s => (openSeen hd.view_39 [Str.ofString "Whitespace"] (importedModules PySem.Challenge.rw_rs0140_02.row.prog.main.body) (fun s => xlAt hd.view_39 [] s && recOk (RowW.records PySem.Challenge.rw_rs0140_02.row.toRowW) s) true s, Hook.obs hd.hook s)) (openEnds treeTable PySem.Challenge.rw_rs0140_02.row.prog (w.withFollow "special-get-raises" false) 2398) = some (openGood hd.view_39 [Str.ofString "Whitespace"], Hook.val hd.hook (w.withFollow "special-get-raises" false)) := by
  kernel_rfl
theorem hd.left1 (w : World) : Option.map (fun s => (openSeen hd.view_39 [Str.ofString "Whitespace"] (importedModules PySem.Challenge.rw_rs0140_02.row.prog.main.body) (fun s => xlAt hd.view_39 [] s && recOk (RowW.records PySem.Challenge.rw_rs0140_02.row.toRowW) s) true s, Hook.obs hd.hook s)) (openEnds treeTable PySem.Challenge.rw_rs0140_02.row.prog (w.withFollow "special-get-raises" true) 2398) = some (openGood hd.view_39 [Str.ofString "Whitespace"], Hook.val hd.hook (w.withFollow "special-get-raises" true)) := by
  kernel_rfl
theorem hd.left : LeftO PySem.Challenge.rw_rs0140_02.row.prog hd.view_39 [Str.ofString "Whitespace"] (fun s => xlAt hd.view_39 [] s && recOk (RowW.records PySem.Challenge.rw_rs0140_02.row.toRowW) s) (Hook.obs hd.hook) (Hook.val hd.hook) 2398 := by
  refine byRow2 "special-get-raises" ?_ ?_
  · exact hd.left0
  · exact hd.left1
end Mine
end

section
open PySem PySem.W PyProof.Rows
namespace Mine
theorem sec_B02 {M : Model} {A : Around} {E : Value → Shared → Prop} {s : Shared} {env : Env} {p : Pos} {Q : Flow → Shared → Prop} (h : Q .next s) : wpAny M A (exec (.Pass p) env) Q E s := by
  w_top off
  k_with_none
  walk1
  exact h
end Mine
end
section
open PySem PySem.W PyProof.Rows
set_option maxRecDepth 100000
namespace Mine
noncomputable abbrev Led := List (Addr × Obj)
noncomputable def Same (s s' : Shared) : Prop := s'.os = s.os ∧ s'.drawn = s.drawn ∧ (AllBare s.gens → AllBare s'.gens)
theorem Same.rfl {s : Shared} {h : Heap} {t : Nat} : Same s { s with heap := h, toks := t } := ⟨Eq.refl _, Eq.refl _, id⟩
theorem Same.trans {s s' s'' : Shared} (a : Same s s') (b : Same s' s'') : Same s s'' := ⟨b.1.trans a.1, b.2.1.trans a.2.1, fun x => b.2.2 (a.2.2 x)⟩
/-- the contract of a def of the text; the state changes in heap and tokens alone -/
noncomputable def Spec (lv : Nat) (w : World) (f : Addr) (vs : List Value) (news : Led) (Post : Value → Led → Prop) : Prop :=
  ∀ (loose : List Str) (mean : ExcName → Option Value) (mg mb : Str → Option Value) (dp un : Nat) (gd : Option (List Code)) (cn : Str) (cs : Scope) (a : Addr) (ccd : Value) (cl : List (Str × Addr)) (outer : List Env) (A₀ : Around) (base h₀ : Heap) (L : Addr) (m : Str → Option Value) (s : Shared) (Q E : Value → Shared → Prop),
    Below A₀ base outer h₀ → Fr h₀ L s.heap m → (hd.heap_39 w.params).In h₀ → News h₀ L s.heap news → Top topProg loose mean mg mb h₀ → cs.kind = .function →
    dp + lv < recursionLimit → un + 20 * lv < cLine →
    (∀ r news' h' tk', Fr h₀ L h' m → News h₀ L h' news' → Post r news' → Q r { s with heap := h', toks := tk' }) →
    wpAny (model PySem.Challenge.rw_rs0140_02.prog w) (ktrTop dp un gd cn cs L a ccd cl outer) (call (.ref f) vs) Q E s
/-- the code tables that the text's calls fill: format_witnesses' (a generator) and the lambda's maker's -/
noncomputable abbrev tb1 (t : Array Value) : Addr × Obj := (89, tabObj t)
noncomputable abbrev tb2 (t : Array Value) : Addr × Obj := (157, tabObj t)
/-- a table of made functions' codes: each code lies in the ledger and bears its name -/
noncomputable def TabC (qual : Str) (t : Array Value) (news : Led) : Prop :=
  TriplesOk t.toList ∧ ∀ pos cv, codeAmong pos t.toList = some cv → ∃ c' oc vs tk, cv = .ref c' ∧ (c', oc) ∈ news ∧ oc.data = .fields vs ∧ vs[1]? = some (.str qual tk)
noncomputable abbrev lamQ : Str := Str.ofString "_law_rule" ++ Str.ofString ".<locals>." ++ Str.ofString "<lambda>"
theorem TabC.mono {q : Str} {t : Array Value} {news news' : Led} (h : TabC q t news) (hs : ∀ p ∈ news, p ∈ news') : TabC q t news' :=
  ⟨h.1, fun pos cv e => let ⟨c', oc, vs, tk, e1, e2, e3⟩ := h.2 pos cv e; ⟨c', oc, vs, tk, e1, hs _ e2, e3⟩⟩
theorem TabC.nil {q : Str} {news : Led} : TabC q #[] news := ⟨trivial, fun _ _ e => by cases e⟩
theorem among_snoc {pos : Pos} {a b : Int} {c cv : Value} : ∀ {l : List Value}, TriplesOk l → codeAmong pos (l ++ [rawInt a, rawInt b, c]) = some cv → codeAmong pos l = some cv ∨ cv = c := by
  intro l h
  fun_induction TriplesOk l with
  | case1 =>
    intro e
    simp only [List.nil_append, codeAmong, rawInt] at e
    split at e
    · exact .inr (Option.some.inj e).symm
    · cases e
  | case2 x t y u z rest ih =>
    intro e
    simp only [List.cons_append, codeAmong] at e ⊢
    split at e
    · rename_i hc; rw [if_pos hc]; exact .inl e
    · rename_i hc; rw [if_neg hc]; exact ih h e
  | case3 l h1 h2 => exact h.elim
theorem TabC.snoc {q : Str} {t : Array Value} {news : Led} {a b : Int} {c' : Addr} {oc : Obj} {vs : Array Value} {tk : Tok} (h : TabC q t news) (hm : (c', oc) ∈ news) (hd : oc.data = .fields vs) (hv : vs[1]? = some (.str q tk)) : TabC q (t ++ #[rawInt a, rawInt b, .ref c']) news := by
  have hl : (t ++ #[rawInt a, rawInt b, Value.ref c']).toList = t.toList ++ [rawInt a, rawInt b, .ref c'] := by simp
  refine ⟨by rw [hl]; exact TriplesOk_snoc _ _ _ _ h.1, fun pos cv e => ?_⟩
  rw [hl] at e
  rcases among_snoc h.1 e with e | rfl
  · exact h.2 pos cv e
  · exact ⟨c', oc, vs, tk, rfl, hm, hd, hv⟩
/-- the same where generators and functions are made: the two tables lie ahead in the ledger, then the codes cd; Post speaks of what is new alone -/
noncomputable def SpecX (R : Shared → Shared → Prop) (lv : Nat) (w : World) (f : Addr) (vs : List Value) (news : Led) (Post : Value → Led → Led → Prop) : Prop :=
  ∀ (loose : List Str) (mean : ExcName → Option Value) (mg mb : Str → Option Value) (dp un : Nat) (gd : Option (List Code)) (cn : Str) (cs : Scope) (a : Addr) (ccd : Value) (cl : List (Str × Addr)) (outer : List Env) (A₀ : Around) (base h₀ : Heap) (L : Addr) (m : Str → Option Value) (s : Shared) (Q E : Value → Shared → Prop) (t1 t2 : Array Value) (cd : Led),
    Below A₀ base outer h₀ → Fr h₀ L s.heap m → (hd.heap_39 w.params).In h₀ → News h₀ L s.heap (tb1 t1 :: tb2 t2 :: (cd ++ news)) → TriplesOk t1.toList → TabC lamQ t2 cd → (∀ p ∈ cd ++ news, @LT.lt Nat _ 157 p.1) → Top topProg loose mean mg mb h₀ → cs.kind = .function →
    dp + lv < recursionLimit → un + 20 * lv < cLine →
    (∀ r tl t1' t2' cd' s', Fr h₀ L s'.heap m → News h₀ L s'.heap (tb1 t1' :: tb2 t2' :: (cd' ++ (tl ++ news))) → TriplesOk t1'.toList → TabC lamQ t2' cd' → (∀ p ∈ cd' ++ (tl ++ news), @LT.lt Nat _ 157 p.1) →
      (∀ p ∈ cd, p ∈ cd') → (∀ p ∈ cd', p ∈ cd ∨ ∀ q ∈ cd ++ news, q.1 < p.1) → (∀ p ∈ tl, ∀ q ∈ cd ++ news, q.1 < p.1) → Post r tl cd' → R s s' → Q r s') →
    wpAny (model PySem.Challenge.rw_rs0140_02.prog w) (ktrTop dp un gd cn cs L a ccd cl outer) (call (.ref f) vs) Q E s
noncomputable abbrev SpecG := SpecX Same
/-- the state has changed in heap and tokens alone -/
noncomputable def HT (s s' : Shared) : Prop := ∃ h tk, s' = { s with heap := h, toks := tk }
theorem HT.rfl {s : Shared} : HT s s := ⟨_, _, Eq.refl _⟩
theorem HT.move {s : Shared} (s' : Shared) (h : Heap) (tk : Nat) (x : HT s s') : HT s { s' with heap := h, toks := tk } := let ⟨_, _, e⟩ := x; ⟨h, tk, by rw [e]⟩
theorem HT.mk {s : Shared} {h : Heap} {tk : Nat} : HT s { s with heap := h, toks := tk } := ⟨h, tk, Eq.refl _⟩
theorem Same.move {s : Shared} (s' : Shared) (h : Heap) (tk : Nat) (x : Same s s') : Same s { s' with heap := h, toks := tk } := ⟨x.1, x.2.1, x.2.2⟩
theorem HT.same {s s' : Shared} (x : HT s s') : Same s s' := by obtain ⟨h, tk, rfl⟩ := x; exact Same.rfl
noncomputable abbrev SpecR := SpecX HT
/-- what the ledger gained is younger than what it held -/
theorem News.sub {h₀ h : Heap} {L : Addr} {a b : Led} (N : News h₀ L h a) (hs : ∀ p ∈ b, p ∈ a) : News h₀ L h b := fun p hp => N p (hs p hp)
theorem Spec.use {lv : Nat} {w : World} {f : Addr} {vs : List Value} {news : Led} {Post : Value → Led → Prop} (S : Spec lv w f vs news Post)
    {loose : List Str} {mean : ExcName → Option Value} {mg mb : Str → Option Value} {dp un : Nat} {gd : Option (List Code)} {cn : Str} {cs : Scope} {a : Addr} {ccd : Value} {cl : List (Str × Addr)} {outer : List Env} {A₀ : Around} {base h₀ : Heap} {L : Addr} {m : Str → Option Value} {s : Shared} {Q E : Value → Shared → Prop}
    (B : Below A₀ base outer h₀) (F : Fr h₀ L s.heap m) (X : (hd.heap_39 w.params).In h₀) (N : News h₀ L s.heap news) (T : Top topProg loose mean mg mb h₀) (hk : cs.kind = .function)
    (hd : dp + lv < recursionLimit) (hu : un + 20 * lv < cLine)
    (ret : ∀ r news' h' tk', Fr h₀ L h' m → News h₀ L h' news' → Post r news' → Q r { s with heap := h', toks := tk' }) :
    wpAny (model PySem.Challenge.rw_rs0140_02.prog w) (ktrTop dp un gd cn cs L a ccd cl outer) (call (.ref f) vs) Q E s := S _ _ _ _ _ _ _ _ _ _ _ _ _ _ _ _ _ _ _ _ _ B F X N T hk hd hu ret
noncomputable abbrev tupObj (vs : Array Value) (n : Nat) : Obj := { cls := .type "tuple", data := .seq vs n }
end Mine
end

section
open PySem PySem.W PyProof.Rows
namespace Mine
theorem sec_MA {M : Model} {A : Around} {E : Value → Shared → Prop} {s : Shared} {env : Env} {p : Pos} {Q : Flow → Shared → Prop} (h : Q .next s) : wpAny M A (exec (.Pass p) env) Q E s := by
  w_top off
  k_with_none
  walk1
  exact h
end Mine
end
section
open PySem PySem.W PyProof.Rows PySem.Calls PySem.Spec
set_option maxRecDepth 100000
namespace Mine
theorem lenT {prog : Program} {w : World} {A : Around} {E : Value → Shared → Prop} {s : Shared} {h₀ : Heap} {L t : Addr} {news : Led} {vs : List Value} {n : Nat} {Q : Value → Shared → Prop}
    (N : News h₀ L s.heap news) (hm : (t, tupObj vs.toArray n) ∈ news) (hfit : vs.length ≤ 1000000) (h : Q (.int vs.length (s.toks + 1)) { s with toks := s.toks + 1 + 1 }) :
    wpAny (model prog w) A (call (.builtin "len") [.ref t]) Q E s := len_tuple (N.isTup hm) (by simp; omega) (by simpa using h)

theorem lenL {prog : Program} {w : World} {A : Around} {E : Value → Shared → Prop} {s : Shared} {h₀ : Heap} {L t : Addr} {news : Led} {vs : List Value} {n : Nat} {Q : Value → Shared → Prop}
    (N : News h₀ L s.heap news) (hm : (t, W.listOf vs.toArray n) ∈ news) (hfit : vs.length ≤ 1000000) (h : Q (.int vs.length (s.toks + 1)) { s with toks := s.toks + 1 + 1 }) :
    wpAny (model prog w) A (call (.builtin "len") [.ref t]) Q E s := len_list (N.isList hm) (by simp; omega) (by simpa using h)
theorem allNe {news : Led} {B a : Nat} (h : ∀ p ∈ news, p.1 < B) (hb : B ≤ a) : ∀ p ∈ news, p.1 ≠ a := fun p hp => Nat.ne_of_lt (Nat.lt_of_lt_of_le (h p hp) hb)
theorem leN {a b : Nat} (h : a ≤ b) : a ≤ b := h
theorem mulOk_fdiv {a b c : Int} (h0 : 0 ≤ a) (h1 : a ≤ 1000000) (hb : 1 ≤ b) : IntMulOk (Int.fdiv a b) c := by
  refine IntMulOk.of_left (intBits_le_64 ?_ ?_)
  · have : 0 ≤ Int.fdiv a b := Int.fdiv_nonneg h0 (by omega)
    omega
  · have : Int.fdiv a b ≤ a := by rw [Int.fdiv_eq_ediv_of_nonneg _ (by omega)]; exact Int.ediv_le_self _ h0
    omega
theorem max2 {prog : Program} {w : World} {A : Around} {E : Value → Shared → Prop} {s : Shared} {h₀ : Heap} {L : Addr} {m : Str → Option Value} {news : Led} {a b : Int} {t u : Tok} {Q : Value → Shared → Prop} (hh : A.handled = none) (F : Fr h₀ L s.heap m) (N : News h₀ L s.heap news)
    (h : ∀ v h' tk, Fr h₀ L h' m → News h₀ L h' news → Q (.int (max a b) v) { s with heap := h', toks := tk }) :
    wpAny (model prog w) A (call (.builtin "max") [.int a t, .int b u]) Q E s :=
  max_two_N hh F N fun h' tk F' N' => by
    have e : (if b > a then b else a) = max a b := by omega
    rw [e]; exact h _ h' tk F' N'
noncomputable def Hold (P : Prop) : Prop := P
theorem holdIt {P : Prop} (h : Hold P) : P := h
/-- a list's items are refs to tuples of three ints, in the ledger -/
inductive RowsAt (led : Led) : List Value → List (Int × Int × Int) → Prop where
  | nil : RowsAt led [] []
  | cons {a : Addr} {i j k : Int} {t1 t2 t3 : Tok} {n : Nat} {vs : List Value} {rs : List (Int × Int × Int)} : (a, tupObj #[.int i t1, .int j t2, .int k t3] n) ∈ led → RowsAt led vs rs → RowsAt led (.ref a :: vs) ((i, j, k) :: rs)
theorem RowsAt.mono {led led' : Led} {vs : List Value} {rs : List (Int × Int × Int)} (h : RowsAt led vs rs) (hs : ∀ p ∈ led, p ∈ led') : RowsAt led' vs rs := by
  induction h with
  | nil => exact .nil
  | cons hm _ ih => exact .cons (hs _ hm) ih
theorem RowsAt.snoc {led : Led} {vs : List Value} {rs : List (Int × Int × Int)} {a : Addr} {i j k : Int} {t1 t2 t3 : Tok} {n : Nat} (h : RowsAt led vs rs) (hm : (a, tupObj #[.int i t1, .int j t2, .int k t3] n) ∈ led) : RowsAt led (vs ++ [.ref a]) (rs ++ [(i, j, k)]) := by
  induction h with
  | nil => exact .cons hm .nil
  | cons h1 _ ih => exact .cons h1 ih
theorem RowsAt.length {led : Led} {vs : List Value} {rs : List (Int × Int × Int)} (h : RowsAt led vs rs) : vs.length = rs.length := by
  induction h with
  | nil => rfl
  | cons _ _ ih => simp [ih]
theorem intEq {a b : Int} {t : Tok} (h : a = b) : ∃ t', Value.int a t = Value.int b t' := ⟨t, by rw [h]⟩
/-- the ledger has grown by younger objects alone -/
noncomputable def Ext (news news' : Led) : Prop := ∃ tl, news' = tl ++ news ∧ ∀ p ∈ tl, ∀ q ∈ news, q.1 < p.1
theorem Ext.refl (news : Led) : Ext news news := ⟨[], rfl, fun _ h => nomatch h⟩
theorem Ext.sub {news news' : Led} (h : Ext news news') : ∀ p ∈ news, p ∈ news' := by
  obtain ⟨tl, rfl, _⟩ := h; exact fun p hp => List.mem_append.mpr (.inr hp)
theorem Ext.trans {a b c : Led} (h : Ext a b) (k : Ext b c) : Ext a c := by
  obtain ⟨t1, rfl, h1⟩ := h; obtain ⟨t2, rfl, h2⟩ := k
  refine ⟨t2 ++ t1, (List.append_assoc ..).symm, fun p hp q hq => ?_⟩
  rcases List.mem_append.mp hp with hp | hp
  · exact h2 p hp q (List.mem_append.mpr (.inr hq))
  · exact h1 p hp q hq
theorem Ext.of {news : Led} {B : Nat} (tl : Led) (h : ∀ q ∈ news, q.1 < B) (hb : ∀ p ∈ tl, B ≤ p.1) : Ext news (tl ++ news) :=
  ⟨tl, rfl, fun p hp q hq => Nat.lt_of_lt_of_le (h q hq) (hb p hp)⟩
/-- what is new in the ledger, and what holds of it -/
noncomputable def ExtT (news news' : Led) (P : Led → Prop) : Prop := ∃ tl, news' = tl ++ news ∧ (∀ p ∈ tl, ∀ q ∈ news, q.1 < p.1) ∧ P tl
theorem ExtT.of {news : Led} {B : Nat} {P : Led → Prop} (tl : Led) (h : ∀ q ∈ news, q.1 < B) (hb : ∀ p ∈ tl, B ≤ p.1) (hp : P tl) : ExtT news (tl ++ news) P :=
  ⟨tl, rfl, fun p hp q hq => Nat.lt_of_lt_of_le (h q hq) (hb p hp), hp⟩
section loops
variable {prog : Program} {w : World} {A : Around} {E : Value → Shared → Prop} {s : Shared} {env : Env} {h₀ : Heap} {x : Str} {body : List Stmt} {Q : Flow → Shared → Prop}
/-- what a turn leaves: the letters' state c, in the frame and in the ledger -/
inductive Left {σ : Type} (h₀ : Heap) (L : Addr) (x : Str) (m₀ : Str → Option Value) (stored : List Str) (Ld : σ → Led) (ps : σ → List (Str × Value)) (I : Addr) (o : Obj) (s₁ : Shared) (P : σ → Prop) (s₂ : Shared) : Prop
  | intro (c : σ) (h' : Heap) (tk : Nat) (m' : Str → Option Value) (nw : Led) (h0 : s₂ = { s₁ with heap := h', toks := tk }) (h1 : Fr h₀ L h' m') (h2 : News h₀ L h' nw) (h3 : (I, o) ∈ nw) (h4 : (∀ p ∈ Ld c, p ∈ nw)) (h5 : (∀ p ∈ Ld c, p.1 ≠ I)) (h6 : (∀ p ∈ ps c, m' p.1 = some p.2)) (h7 : (∀ z, z ≠ x → (∀ p ∈ ps c, z ≠ p.1) → stored.contains z = false → m' z = m₀ z)) (h8 : P c) : Left h₀ L x m₀ stored Ld ps I o s₁ P s₂
noncomputable def Turn {σ : Type} (h₀ : Heap) (L : Addr) (x : Str) (m₀ : Str → Option Value) (stored : List Str) (Ld : σ → Led) (ps : σ → List (Str × Value)) (I : Addr) (o : Obj) (s₁ : Shared) (P Fin : σ → Prop) (Q : Flow → Shared → Prop) (f : Flow) (s₂ : Shared) : Prop :=
  match f with
  | .ret v => Q (.ret v) s₂
  | .brk => Left h₀ L x m₀ stored Ld ps I o s₁ Fin s₂
  | _ => Left h₀ L x m₀ stored Ld ps I o s₁ P s₂
theorem loop1 {σ : Type} {I : Addr} {n : Nat} {Pit : Nat → Value → Prop} {St : Nat → Heap → Prop} {m₀ : Str → Option Value} (Ld : σ → Led) (ps : σ → List (Str × Value)) (stored : List Str) (P : Nat → σ → Prop) (Fin : σ → Prop) (c₀ : σ)
    (W : Walks prog w A I [I] [I] n Pit St) (hSt : ∀ i h, St i h → ∃ o, h.get? I = some o) (hst : St 0 s.heap) (hI0 : h₀.get? I = none) (hIL : env.locals ≠ I)
    (F : Fr h₀ env.locals s.heap m₀) (N : News h₀ env.locals s.heap (Ld c₀)) (hN : ∀ p ∈ Ld c₀, p.1 ≠ I) (hk : ∀ p ∈ ps c₀, m₀ p.1 = some p.2) (hp : P 0 c₀)
    (turn : ∀ (c : σ) i v (u : Str → Option Value) h tk o, i < n → Pit i v → P i c → (∀ p ∈ Ld c, p.1 ≠ I) →
      Fr h₀ env.locals h (fun y => if y = x then some v else kstB (fun z => if stored.contains z then u z else m₀ z) (ps c) y) → News h₀ env.locals h ((I, o) :: Ld c) →
      wpAny (model prog w) A (execs body env) (Turn h₀ env.locals x m₀ stored Ld ps I o { s with heap := h, toks := tk } (P (i + 1)) Fin Q) E { s with heap := h, toks := tk })
    (done : ∀ c, P n c → Fin c)
    (fin : ∀ (c : σ) (u : Str → Option Value) h tk, Fin c → Fr h₀ env.locals h (fun y => if y = x then u y else kstB (fun z => if stored.contains z then u z else m₀ z) (ps c) y) → News h₀ env.locals h (Ld c) → Q .next { s with heap := h, toks := tk }) :
    LoopAtV prog w A h₀ env x body Q E (.ref I) s := by
  let J : Nat → (Str → Option Value) → Led → Prop := fun i m nx => ∃ c : σ, nx = Ld c ∧ (∀ p ∈ ps c, m p.1 = some p.2) ∧ (∀ z, z ≠ x → (∀ p ∈ ps c, z ≠ p.1) → stored.contains z = false → m z = m₀ z) ∧ P i c
  refine ⟨I, [I], [I], n, Pit, St, m₀, Ld c₀, J, rfl, W, ?_, ?_, ?_, hst, F, N, ⟨c₀, rfl, hk, fun _ _ _ _ => rfl, hp⟩, ?_, ?_⟩
  · intro hm; exact hIL (List.mem_singleton.mp hm)
  · intro b hb; rw [List.mem_singleton.mp hb]; exact hI0
  · intro p hp hI; exact hN p hp (List.mem_singleton.mp hI)
  · rintro i v m₁ news₁ s₁ own ⟨hh, tk, rfl⟩ hi hP ⟨c, rfl, h1, h2, hPc⟩ hoff hown hget hall hst' F₁ N₁
    have hne : ∀ p ∈ Ld c, p.1 ≠ I := fun p hp e => hoff p hp (by rw [e]; exact .head _)
    obtain ⟨o, ho⟩ := hSt _ _ hst'
    have hmem : (I, o) ∈ own := hall I (.head _) hI0 o ho
    have hown' : ∀ p ∈ own, p = (I, o) := fun p hp => by
      have e1 : p.1 = I := List.mem_singleton.mp (hown p hp)
      have e2 := hget p hp
      rw [e1] at e2
      have e3 : some o = some p.2 := ho.symm.trans e2
      exact Prod.ext e1 (Option.some.inj e3).symm
    have N₂ : News h₀ env.locals hh ((I, o) :: Ld c) := fun p hp => by
      rcases List.mem_cons.mp hp with rfl | hp
      · exact N₁ _ (List.mem_append.mpr (.inl hmem))
      · exact N₁ _ (List.mem_append.mpr (.inr hp))
    refine wpAny_mono (turn c i v m₁ hh tk o hi hP hPc hne (kst_fr h1 h2 F₁) N₂) (fun f s₂ p => ?_) fun _ _ e => e
    have go : Left h₀ env.locals x m₀ stored Ld ps I o { s with heap := hh, toks := tk } (P (i + 1)) s₂ → LoopStepU h₀ env.locals [I] own (J (i + 1)) { s with heap := hh, toks := tk } .next s₂ := by
      rintro ⟨c', h', tk', m', nw, rfl, F', N', hmI, hsub, hne', hps, hrest, hP'⟩
      refine ⟨rfl, h', tk', m', Ld c', rfl, F', fun p hp => ?_, fun p hp hI => hne' p hp (List.mem_singleton.mp hI), ⟨c', rfl, hps, hrest, hP'⟩⟩
      rcases List.mem_append.mp hp with hp | hp
      · rw [hown' p hp]; exact N' _ hmI
      · exact N' _ (hsub p hp)
    cases f with
    | ret v => exact .ret p
    | brk =>
      obtain ⟨c', h', tk', m', nw, rfl, F', N', hmI, hsub, hne', hps, hrest, hP'⟩ := p
      exact .brk (fin c' m' h' tk' hP' (kst_frOut hps hrest F') (fun p hp => N' _ (hsub p hp)))
    | next => exact .next (go p)
    | cont => exact .cont (go p)
  · rintro h' tk m' news' F' N' _ ⟨c, rfl, hps, hrest, hP'⟩
    exact fin c m' h' tk (done c hP') (kst_frOut hps hrest F') N'

theorem loopText {σ : Type} {xt : Str} {tx : Tok} {m₀ : Str → Option Value} (Ld : σ → Led) (ps : σ → List (Str × Value)) (stored : List Str) (P : Addr → Nat → σ → Prop) (Fin : σ → Prop) (c₀ : σ)
    (hh : A.handled = none) (F : Fr h₀ env.locals s.heap m₀) (N : News h₀ env.locals s.heap (Ld c₀)) (hk : ∀ p ∈ ps c₀, m₀ p.1 = some p.2)
    (hp : ∀ I, (∀ p ∈ Ld c₀, p.1 < I) → P I 0 c₀)
    (turn : ∀ I, (∀ p ∈ Ld c₀, p.1 < I) → ∀ (c : σ) i n t (u : Str → Option Value) h tk o, xt.cps[i]? = some n → P I i c → (∀ p ∈ Ld c, p.1 ≠ I) →
      Fr h₀ env.locals h (fun y => if y = x then some (.str ⟨#[n]⟩ t) else kstB (fun z => if stored.contains z then u z else m₀ z) (ps c) y) → News h₀ env.locals h ((I, o) :: Ld c) →
      ∀ s₁ : Shared, s₁ = { s with heap := h, toks := tk } → wpAny (model prog w) A (execs body env) (Turn h₀ env.locals x m₀ stored Ld ps I o s₁ (P I (i + 1)) Fin Q) E s₁)
    (done : ∀ I c, P I xt.cps.size c → Fin c)
    (fin : ∀ (c : σ) (u : Str → Option Value) h tk, Fin c → Fr h₀ env.locals h (fun y => if y = x then u y else kstB (fun z => if stored.contains z then u z else m₀ z) (ps c) y) → News h₀ env.locals h (Ld c) → Q .next { s with heap := h, toks := tk }) :
    wpAny (model prog w) A (pyIter (.str xt tx)) (fun it s₂ => LoopAtV prog w A h₀ env x body Q E it s₂) E s := by
  have hlt : ∀ p ∈ Ld c₀, p.1 < s.heap.objs.size := fun p hp => Heap.lt_size (N p hp).1
  have key : ∀ (o : Obj) (St : Nat → Heap → Prop), (Walks prog w A s.heap.objs.size [s.heap.objs.size] [s.heap.objs.size] xt.cps.size (SignAt xt) St) → (∀ i h, St i h → ∃ o, h.get? s.heap.objs.size = some o) → St 0 (s.heap.push o) →
      LoopAtV prog w A h₀ env x body Q E (.ref s.heap.objs.size) { s with heap := s.heap.push o } := by
    intro o St W hSt hst
    refine loop1 Ld ps stored (P s.heap.objs.size) Fin c₀ W hSt hst (next_is_new F) (fun e => absurd F.ns.lt (e ▸ Nat.lt_irrefl _)) (F.push _) (fun p hp => ⟨Heap.get?_push_of_some _ (N p hp).1, (N p hp).2⟩) (fun p hp => Nat.ne_of_lt (hlt p hp)) hk (hp _ hlt) ?_ (done _) (fun c u h tk a b d => fin c u h tk a b d)
    rintro c i v u h tk o' hi ⟨n, t, hn, rfl⟩ hP hne F₁ N₁
    exact turn _ hlt c i n t u h tk o' hn hP hne F₁ N₁ _ rfl
  cases ha : xt.cps.all (· < 128)
  · exact wpAny_pyIter_wide ha (key _ _ (Walks.strWide hh _ xt tx) (fun _ _ st => let ⟨o, ho, _⟩ := st; ⟨o, ho⟩) ⟨_, Heap.get?_push_size _ rfl, rfl, rfl⟩)
  · exact wpAny_pyIter_ascii ha (key _ _ (Walks.strAscii hh _ xt tx) (fun _ _ st => let ⟨o, ho, _⟩ := st; ⟨o, ho⟩) ⟨_, Heap.get?_push_size _ rfl, rfl, rfl⟩)

theorem loopRange {σ : Type} {r : Addr} {a₀ b₀ : Int} {t₀ u₀ v₀ : Tok} {n : Nat} {m₀ : Str → Option Value} (Ld : σ → Led) (ps : σ → List (Str × Value)) (stored : List Str) (P : Addr → Nat → σ → Prop) (Fin : σ → Prop) (c₀ : σ)
    (hh : A.handled = none) (hr : IsRange s.heap r a₀ b₀ 1 t₀ u₀ v₀) (hsmall : Builtin.Range.small a₀ b₀ 1 = true) (hn : Builtin.Range.rangeSize a₀ b₀ 1 = (n : Int)) (F : Fr h₀ env.locals s.heap m₀) (N : News h₀ env.locals s.heap (Ld c₀)) (hk : ∀ p ∈ ps c₀, m₀ p.1 = some p.2)
    (hp : ∀ I, (∀ p ∈ Ld c₀, p.1 < I) → P I 0 c₀)
    (turn : ∀ I, (∀ p ∈ Ld c₀, p.1 < I) → ∀ (c : σ) i t (u : Str → Option Value) h tk o, i < n → P I i c → (∀ p ∈ Ld c, p.1 ≠ I) →
      Fr h₀ env.locals h (fun y => if y = x then some (.int (a₀ + (i : Int)) t) else kstB (fun z => if stored.contains z then u z else m₀ z) (ps c) y) → News h₀ env.locals h ((I, o) :: Ld c) →
      ∀ s₁ : Shared, s₁ = { s with heap := h, toks := tk } → wpAny (model prog w) A (execs body env) (Turn h₀ env.locals x m₀ stored Ld ps I o s₁ (P I (i + 1)) Fin Q) E s₁)
    (done : ∀ I c, P I n c → Fin c)
    (fin : ∀ (c : σ) (u : Str → Option Value) h tk, Fin c → Fr h₀ env.locals h (fun y => if y = x then u y else kstB (fun z => if stored.contains z then u z else m₀ z) (ps c) y) → News h₀ env.locals h (Ld c) → Q .next { s with heap := h, toks := tk }) :
    wpAny (model prog w) A (pyIter (.ref r)) (fun it s₂ => LoopAtV prog w A h₀ env x body Q E it s₂) E s := by
  have hlt : ∀ p ∈ Ld c₀, p.1 < s.heap.objs.size := fun p hp => Heap.lt_size (N p hp).1
  refine wpAny_pyIter_range hr hsmall ?_
  have W := (Walks.range (prog := prog) (w := w) hh s.heap.objs.size a₀ 1 n)
  refine loop1 Ld ps stored (P s.heap.objs.size) Fin c₀ W (fun _ _ st => ⟨_, st⟩) (by show IsRangeIter _ _ _ _ _; rw [hn]; simpa using Heap.get?_push_size _ rfl) (next_is_new F) (fun e => absurd F.ns.lt (e ▸ Nat.lt_irrefl _)) (F.push _) (fun p hp => ⟨Heap.get?_push_of_some _ (N p hp).1, (N p hp).2⟩) (fun p hp => Nat.ne_of_lt (hlt p hp)) hk (hp _ hlt) ?_ (done _) (fun c u h tk a b d => fin c u h tk a b d)
  rintro c i v u h tk o' hi ⟨t, rfl⟩ hP hne F₁ N₁
  have e1 : a₀ + (i : Int) * 1 = a₀ + (i : Int) := by omega
  rw [e1] at F₁
  exact turn _ hlt c i t u h tk o' hi hP hne F₁ N₁ _ rfl

theorem loopTextH {σ : Type} {xt : Str} {tx : Tok} {m₀ : Str → Option Value} {rest : Led} (hdl : σ → Addr × Obj) (ps : σ → List (Str × Value)) (stored : List Str) (P : Addr → Nat → σ → Prop) (Fin : σ → Prop) (c₀ : σ)
    (hh : A.handled = none) (F : Fr h₀ env.locals s.heap m₀) (N : News h₀ env.locals s.heap (hdl c₀ :: rest)) (hk : ∀ p ∈ ps c₀, m₀ p.1 = some p.2)
    (hp : ∀ I, (∀ p ∈ hdl c₀ :: rest, p.1 < I) → P I 0 c₀)
    (turn : ∀ I, (∀ p ∈ hdl c₀ :: rest, p.1 < I) → ∀ (c : σ) i n t (u : Str → Option Value) h tk o, xt.cps[i]? = some n → P I i c → (∀ p ∈ hdl c :: rest, p.1 ≠ I) →
      Fr h₀ env.locals h (fun y => if y = x then some (.str ⟨#[n]⟩ t) else kstB (fun z => if stored.contains z then u z else m₀ z) (ps c) y) → News h₀ env.locals h ((I, o) :: hdl c :: rest) →
      ∀ s₁ : Shared, s₁ = { s with heap := h, toks := tk } → wpAny (model prog w) A (execs body env) (Turn h₀ env.locals x m₀ stored (fun c => hdl c :: rest) ps I o s₁ (P I (i + 1)) Fin Q) E s₁)
    (done : ∀ I c, P I xt.cps.size c → Fin c)
    (fin : ∀ (c : σ) (u : Str → Option Value) h tk, Fin c → Fr h₀ env.locals h (fun y => if y = x then u y else kstB (fun z => if stored.contains z then u z else m₀ z) (ps c) y) → News h₀ env.locals h (hdl c :: rest) → Q .next { s with heap := h, toks := tk }) :
    wpAny (model prog w) A (pyIter (.str xt tx)) (fun it s₂ => LoopAtV prog w A h₀ env x body Q E it s₂) E s :=
  loopText (fun c => hdl c :: rest) ps stored P Fin c₀ hh F N hk hp turn done fin
end loops
theorem cons_cut {M : Model} {A : Around} {E : Value → Shared → Prop} {s0 : Shared} {H : Heap} {T : Nat} {env : Env} {st : Stmt} {rest : List Stmt} {Q : Flow → Shared → Prop} {h₀ : Heap} {L : Addr} {H' : Heap} {m : Str → Option Value} (F : Fr h₀ L H' m)
    (h : let Q' : Flow → Shared → Prop := (fun f s' => match f with | .next => wpAny M A (execs rest env) Q E s' | f => Q f s'); ∀ tk, let m' := m; Fr h₀ L H' m' → wpAny M A (exec st env) Q' E { s0 with heap := H, toks := tk }) : wpAny M A (execs (st :: rest) env) Q E { s0 with heap := H, toks := T } := wpAny_execs_cons (h T F)
theorem fin_mem {l : List Int} {m : Nat} (hl : ∀ k : Nat, k < m + 1 → 1 ≤ k → (k : Int) ∈ l) {z : Int} (h : 1 ≤ z ∧ z ≤ (m : Int)) : z ∈ l := by
  have e : ((z.toNat : Nat) : Int) = z := Int.toNat_of_nonneg (Int.le_trans (by decide) h.1)
  rw [← e] at h ⊢
  exact hl _ (Nat.lt_succ_of_le (Int.ofNat_le.mp h.2)) (Int.ofNat_le.mp h.1)
theorem fin_mem0 {l : List Int} {m : Nat} (hl : ∀ k : Nat, k < m + 1 → (k : Int) ∈ l) {z : Int} (h : 0 ≤ z ∧ z ≤ (m : Int)) : z ∈ l := by
  have e : ((z.toNat : Nat) : Int) = z := Int.toNat_of_nonneg h.1
  rw [← e] at h ⊢
  exact hl _ (Nat.lt_succ_of_le (Int.ofNat_le.mp h.2))
end Mine
end

section
open PySem PySem.W PyProof.Rows
open Mine
local macro_rules | `(tactic| omega) => `(tactic| first
  | (refine Nat.ne_of_lt ?_; (simp (maxSteps := 300) only [*]); done)
  | (refine Nat.ne_of_gt ?_; (simp (maxSteps := 300) only [*]); done)
  | (refine Nat.le_of_lt ?_; (simp (maxSteps := 300) only [*]); done)
  | (refine Nat.lt_of_lt_of_le ?_ (Nat.le_refl _); (simp (maxSteps := 300) only [*]); done)
  | lia)
section
local macro_rules | `(tactic| k_all) => `(tactic| first | assumption | (refine' allNe ?hA9 ?hB9; (case hA9 => assumption); (case hB9 => (refine leN ?_; (try dsimp only); omega))))
section
local macro_rules | `(tactic| walk_at "mine enter") => `(tactic| first
  | (refine' code_def ?k1 ?k2 ?k3 ?k4 ?k5 ?kA ?kF ?kK ?k6 ?k7 ?k8 ?k9 ?kB ?_ ?c2 ?c3 ?c4 ?c5; (case kA => exact rfl); (case kF => exact rfl); (case kK => first | exact rfl | assumption); (case k1 => k_asm); (case k2 => k_asm); (case k3 => k_asm); (case k4 => k_asm); (case k5 => k_asm); (case k6 => k_is); (case k7 => k_is); (case k8 => ktr_room); (case k9 => first | exact BindsTo.of_eq rfl | exact binds_K (by k_in) rfl (by k_is) rfl rfl rfl); (case c5 => decide); (case kB => exact locs rfl); (case c2 => exact rfl); (case c3 => exact rfl); (case c4 => exact rfl); k_whole; intro g' L' h' FG' F' N' B' X' T'; (try dsimp only); (try k_lift B'); (try k_fold))
  | (refine' code_defC ?k1 ?k2 ?k3 ?k4 ?k5 ?kA ?kF ?kK ?k6 ?k7 ?k8 ?k9 ?kB ?kD ?_ ?c2 ?c3 ?c4; (case kA => exact rfl); (case kF => exact rfl); (case kK => first | exact rfl | assumption); (case k1 => k_asm); (case k2 => k_asm); (case k3 => k_asm); (case k4 => k_asm); (case k5 => k_asm); (case k6 => k_is); (case k7 => k_is); (case k8 => ktr_room); (case k9 => first | exact BindsTo.of_eq rfl | exact binds_K (by k_in) rfl (by k_is) rfl rfl rfl); (case kB => exact rfl); (case kD => decide +kernel); (case c2 => exact rfl); (case c3 => exact rfl); (case c4 => exact rfl); k_whole; intro g' L' h' tk' cells' FG' F' N' Y' B' X' T' l1; (try k_lt l1); k_cells Y'; (try simp only [List.cons_append, List.nil_append] at N'); (try dsimp only); (try k_lift B'); (try k_fold)))
section
local macro_rules | `(tactic| walk_at "call builtin:len") => `(tactic| (k_here; (with_reducible show wpAny _ _ (call (Value.builtin "len") [Value.ref _]) _ _ _); k_dflt (refine' lenT ?k1 ?k2 ?k3 ?_; (case k1 => k_asm); (case k2 => first | assumption | k_mem); (case k3 => omega); k_whole)))
section
local macro_rules | `(tactic| walk_at "mine left") => `(tactic| ((case a1 => k_asm); (case a2 => k_asm); (case a3 => k_mem); (case a6 => kst_all); (case a4 => kst_in); (case a7 => kst_same)))
section
local macro_rules | `(tactic| walk_at "call type:tuple") => `(tactic| (k_here; (with_reducible show wpAny _ _ (call (Value.type _) [Value.ref _]) _ _ _); k_dflt (refine' kde_tupleOf ?k1 ?k2 ?k3 ?k4 ?k5 ?_; (case k1 => k_asm); (case k2 => k_asm); (case k3 => exact News.isList (by k_asm) (by k_mem)); (case k4 => (simp only [List.size_toArray]; omega)); (case k5 => exact rfl); k_whole); intro D' h' F' N' l1; (try k_lt l1)))
section
local macro_rules | `(tactic| walk_at "binaryOp Mult int int") => `(tactic| ((with_reducible show wpAny _ _ (binaryOp Operator.Mult (Value.int (Int.fdiv _ _) _) (Value.int _ _)) _ _ _); refine mul_int ?_ (mulOk_fdiv (by omega) (by omega) (by omega))))
section
local macro_rules | `(tactic| walk_at "call builtin:max") => `(tactic| (k_here; (with_reducible show wpAny _ _ (call (Value.builtin _) [Value.int _ _, Value.int _ _]) _ _ _); k_dflt (refine' max2 ?k1 ?k2 ?k3 ?_; (case k1 => with_unfolding_all rfl); (case k2 => k_asm); (case k3 => k_asm); k_whole); intro v' h' tk' F' N'))
section
local macro_rules | `(tactic| walk_at "mine leftb") => `(tactic| ((case b1 => k_asm); (case b2 => k_asm); (case b3 => k_mem); (case b6 => kst_all); (case b4 => kst_in); (case b7 => kst_same)))
section
local macro_rules | `(tactic| kst_same) => `(tactic| ((dsimp +zetaDelta only); kst_same))
section
local macro_rules | `(tactic| walk_at "execs cons") => `(tactic| ((rename Shared => s9); (rename Fr _ _ _ _ => F9); (with_reducible refine cons_cut (s0 := s9) F9 ?_); (try clear F9); intro qx tk9 m9 F9))
section
open PySem PySem.W PyProof.Rows
namespace Mine
theorem sec_W1 {M : Model} {A : Around} {E : Value → Shared → Prop} {s : Shared} {env : Env} {p : Pos} {Q : Flow → Shared → Prop} (h : Q .next s) : wpAny M A (exec (.Pass p) env) Q E s := by
  w_top off
  k_with_none
  walk1
  exact h
end Mine
end
section

open PySem PySem.W PyProof.Rows
set_option maxRecDepth 100000
set_option maxHeartbeats 2000000
namespace Mine
structure Ws where
  cs : List Int
  b : Int
  n : Int
  nt : Int
noncomputable def grown (cs : List Int) (b : Int) : List Int := if (cs.length : Int) ≤ b then cs ++ (List.replicate (b - cs.length + 1).toNat [0]).flatten else cs
noncomputable def bump (cs : List Int) (b : Int) : List Int := (grown cs b).set b.toNat ((grown cs b).getD b.toNat 0 + 1)
noncomputable def wsRun : List Nat → Ws → Ws
  | [], st => st
  | c :: r, st => if c = 32 then wsRun r ⟨st.cs, st.b + 1, st.n + 1, st.nt⟩ else if c = 9 then wsRun r ⟨bump st.cs st.b, 0, st.n + 1, st.nt + 1⟩ else st
structure WsC where
  ca : Addr
  k : Nat
  vs : List Value
  st : Ws
  tb : Tok
  tn : Tok
  tt : Tok
theorem one_eq {n : Nat} {c : Nat} {x : Str} (hx : x = ⟨#[c]⟩) {b : Bool} (h : (Str.mk #[n] == x) = b) : b = decide (n = c) := by
  subst hx
  rw [← h]
  by_cases e : n = c
  · subst e; simp
  · have : ¬ (Str.mk #[n] = Str.mk #[c]) := fun q => e (by injection q with q; injection q with q; injection q)
    rw [decide_eq_false e, beq_eq_false_iff_ne]; exact this
theorem drop_at {l : Array Nat} {i n : Nat} (h : l[i]? = some n) : l.toList.drop i = n :: l.toList.drop (i + 1) := by
  obtain ⟨hi, e⟩ := Array.getElem?_eq_some_iff.mp h
  have : i < l.toList.length := by simpa using hi
  rw [List.drop_eq_getElem_cons this]
  simp [← e]
theorem lt_of_at {l : Array Nat} {i n : Nat} (h : l[i]? = some n) : i < l.size := (Array.getElem?_eq_some_iff.mp h).1
theorem ws1 {l : Array Nat} {i n : Nat} {st R : Ws} (hn : l[i]? = some n) (a : (Str.mk #[n] == Str.ofString " ") = true) (h : wsRun (l.toList.drop i) st = R) : wsRun (l.toList.drop (i + 1)) ⟨st.cs, st.b + 1, st.n + 1, st.nt⟩ = R := by
  have e := one_eq (c := 32) (by decide +kernel) a
  rw [drop_at hn, wsRun, if_pos (of_decide_eq_true e.symm)] at h; exact h
theorem ws2 {l : Array Nat} {i n : Nat} {st R : Ws} (hn : l[i]? = some n) (a : (Str.mk #[n] == Str.ofString " ") = false) (b : (Str.mk #[n] == Str.ofString "\t") = true) (h : wsRun (l.toList.drop i) st = R) : wsRun (l.toList.drop (i + 1)) ⟨bump st.cs st.b, 0, st.n + 1, st.nt + 1⟩ = R := by
  have e := one_eq (c := 32) (by decide +kernel) a
  have e' := one_eq (c := 9) (by decide +kernel) b
  rw [drop_at hn, wsRun, if_neg (of_decide_eq_false e.symm), if_pos (of_decide_eq_true e'.symm)] at h; exact h
theorem ws3 {l : Array Nat} {i n : Nat} {st R : Ws} (hn : l[i]? = some n) (a : (Str.mk #[n] == Str.ofString " ") = false) (b : (Str.mk #[n] == Str.ofString "\t") = false) (h : wsRun (l.toList.drop i) st = R) : st = R := by
  have e := one_eq (c := 32) (by decide +kernel) a
  have e' := one_eq (c := 9) (by decide +kernel) b
  rw [drop_at hn, wsRun, if_neg (of_decide_eq_false e.symm), if_neg (of_decide_eq_false e'.symm)] at h; exact h
theorem bump_len {cs : List Int} {b : Int} (h0 : 0 ≤ b) : ((bump cs b).length : Int) ≤ max (cs.length : Int) (b + 1) := by
  unfold bump grown; rw [List.length_set]; split
  · simp; omega
  · omega
theorem bump_pos {cs : List Int} {b : Int} (h : (cs.length : Int) ≤ b) : bump cs b = (cs ++ (List.replicate (b - cs.length + 1).toNat [0]).flatten).set b.toNat ((cs ++ (List.replicate (b - cs.length + 1).toNat [0]).flatten).getD b.toNat 0 + 1) := by
  unfold bump grown; rw [if_pos h]
theorem bump_neg {cs : List Int} {b : Int} (h : ¬ (cs.length : Int) ≤ b) : bump cs b = cs.set b.toNat (cs.getD b.toNat 0 + 1) := by
  unfold bump grown; rw [if_neg h]
inductive WhiteAt (news : Led) (x : Addr) (st : Ws) : Prop
  | intro {d nr ct : Addr} {vs : List Value} {raw : Str} {a1 a2 a3 a4 a5 : Int} {b1 b2 b3 b4 b5 c1 c2 c3 c6 : Tok} {k1 k2 k3 : Nat} (h1 : (x, instObj 83 d) ∈ news) (h2 : (d, dictOf [⟨a1, .str (Str.ofString "raw") b1, .str raw c1⟩, ⟨a2, .str (Str.ofString "n") b2, .int st.n c2⟩, ⟨a3, .str (Str.ofString "nt") b3, .int st.nt c3⟩, ⟨a4, .str (Str.ofString "norm") b4, .ref nr⟩, ⟨a5, .str (Str.ofString "is_simple") b5, .bool (decide ((st.cs.length : Int) ≤ 1))⟩] k1) ∈ news) (h3 : (nr, tupObj #[.ref ct, .int st.b c6] k2) ∈ news) (h4 : (ct, tupObj vs.toArray k3) ∈ news) (h5 : IntsAre vs st.cs) (h6 : st.cs.length ≤ 1001) (h7 : 0 ≤ st.b) (h8 : st.b ≤ 1000) : WhiteAt news x st
theorem WhiteAt.el {news : Led} {x : Addr} {st : Ws} {C : Prop} (h : WhiteAt news x st) (k : ∀ (d nr ct : Addr) (vs : List Value) (raw : Str) (a1 a2 a3 a4 a5 : Int) (b1 b2 b3 b4 b5 c1 c2 c3 c6 : Tok) (k1 k2 k3 : Nat), ((x, instObj 83 d) ∈ news) → ((d, dictOf [⟨a1, .str (Str.ofString "raw") b1, .str raw c1⟩, ⟨a2, .str (Str.ofString "n") b2, .int st.n c2⟩, ⟨a3, .str (Str.ofString "nt") b3, .int st.nt c3⟩, ⟨a4, .str (Str.ofString "norm") b4, .ref nr⟩, ⟨a5, .str (Str.ofString "is_simple") b5, .bool (decide ((st.cs.length : Int) ≤ 1))⟩] k1) ∈ news) → ((nr, tupObj #[.ref ct, .int st.b c6] k2) ∈ news) → ((ct, tupObj vs.toArray k3) ∈ news) → (IntsAre vs st.cs) → (st.cs.length ≤ 1001) → (0 ≤ st.b) → (st.b ≤ 1000) → C) : C := by
  cases h with
  | intro h0 h1 h2 h3 h4 h5 h6 h7 => exact k _ _ _ _ _ _ _ _ _ _ _ _ _ _ _ _ _ _ _ _ _ _ h0 h1 h2 h3 h4 h5 h6 h7
theorem WhiteAt.mono {news news' : Led} {x : Addr} {st : Ws} (h : WhiteAt news x st) (hs : ∀ p ∈ news, p ∈ news') : WhiteAt news' x st :=
  h.el fun _ _ _ _ _ _ _ _ _ _ _ _ _ _ _ _ _ _ _ _ _ _ h1 h2 h3 h4 h5 h6 h7 h8 => .intro (hs _ h1) (hs _ h2) (hs _ h3) (hs _ h4) h5 h6 h7 h8
theorem mk (w : World) (ws : Str) (t1 : Tok) (news : Led) (hl : ws.cps.size ≤ 1000) :
   Spec 3 w 83 [.str ws t1] news (fun r news' => Ext news news' ∧ ∃ x, r = .ref x ∧ WhiteAt news' x (wsRun ws.cps.toList ⟨[], 0, 0, 0⟩)) := by
  unfold Spec
  k_fill
  intros; rename_i hret
  (repeat' (first | (k_unfold; (try dsimp only)) | (k_end; wrow_close) | (first | ((with_reducible show wpAny _ _ (call (Value.ref _) _) _ _ _); (k_here; k_dflt (first | (refine' call_cls0 ?k1 ?k2 ?k3 ?k4 ?k5 ?_; (case k1 => k_asm); (case k2 => k_asm); (case k3 => k_asm); (case k4 => k_is); (case k5 => k_is); k_whole; intro x' d' h' F' N' l1 l2; (try k_lt l1); (try k_lt2 l2); (try k_sweep)) | (refine' call_cls ?k1 ?k2 ?k3 ?k4 ?k5 ?k6 ?_; (case k1 => k_asm); (case k2 => k_asm); (case k3 => k_asm); (case k4 => k_is); (case k5 => k_is); (case k6 => k_is); k_whole; intro x' d' h' F' N' l1 l2; (try k_lt l1); (try k_lt2 l2); (try k_sweep); walk_at "mine enter") | (refine' call_meth ?k1 ?k2 ?_; (case k1 => k_asm); (case k2 => k_mem); k_whole; walk_at "mine enter") | (refine wpAny_call ?_; walk_at "mine enter")))) | walk1) | (dsimp only; (first | ((with_reducible show wpAny _ _ (call (Value.ref _) _) _ _ _); (k_here; k_dflt (first | (refine' call_cls0 ?k1 ?k2 ?k3 ?k4 ?k5 ?_; (case k1 => k_asm); (case k2 => k_asm); (case k3 => k_asm); (case k4 => k_is); (case k5 => k_is); k_whole; intro x' d' h' F' N' l1 l2; (try k_lt l1); (try k_lt2 l2); (try k_sweep)) | (refine' call_cls ?k1 ?k2 ?k3 ?k4 ?k5 ?k6 ?_; (case k1 => k_asm); (case k2 => k_asm); (case k3 => k_asm); (case k4 => k_is); (case k5 => k_is); (case k6 => k_is); k_whole; intro x' d' h' F' N' l1 l2; (try k_lt l1); (try k_lt2 l2); (try k_sweep); walk_at "mine enter") | (refine' call_meth ?k1 ?k2 ?_; (case k1 => k_asm); (case k2 => k_mem); k_whole; walk_at "mine enter") | (refine wpAny_call ?_; walk_at "mine enter")))) | walk1)) | (leave1; walk_say "STEP leave1"; try dsimp only) | fail "no step"))
  rename Fr _ _ _ _ => lF
  rename News _ _ _ _ => NN
  rename_i l' _ l1 _ _ _ _ _ _ _ _ _ _
  refine' loopTextH (σ := WsC) (fun c => (c.ca, W.listOf c.vs.toArray c.k)) (fun c => [(Str.ofString "count", .ref c.ca), (Str.ofString "b", .int c.st.b c.tb), (Str.ofString "n", .int c.st.n c.tn), (Str.ofString "nt", .int c.st.nt c.tt)]) []
    (fun I i c => @LE.le Nat _ l' c.ca ∧ wsRun (ws.cps.toList.drop i) c.st = wsRun ws.cps.toList ⟨[], 0, 0, 0⟩ ∧ IntsAre c.vs c.st.cs ∧ c.st.cs.length ≤ i + 1 ∧ 0 ≤ c.st.b ∧ c.st.b ≤ i ∧ i ≤ ws.cps.size)
    (fun c => @LE.le Nat _ l' c.ca ∧ c.st = wsRun ws.cps.toList ⟨[], 0, 0, 0⟩ ∧ IntsAre c.vs c.st.cs ∧ c.st.cs.length ≤ 1001 ∧ 0 ≤ c.st.b ∧ c.st.b ≤ 1000) ⟨_, 0, [], ⟨[], 0, 0, 0⟩, _, _, _⟩ rfl (by k_asm) (by k_asm) ?hk ?hp ?turn ?done ?fin
  case hk => kst_all
  case hp => intro I hI; exact ⟨Nat.le_refl _, rfl, .nil, by simp, by simp, by simp, by simp⟩
  case done => rintro I c ⟨h0, h1, h2, h3, h4, h5, h6⟩; exact ⟨h0, by have e : ws.cps.toList.drop ws.cps.size = [] := (by simp); rw [e] at h1; exact h1, h2, by omega, h4, by omega⟩
  case turn =>
    rintro I hI c i n t u h tk o hn ⟨h0, h1, h2, h3, h4, h5, h6⟩ hne F N s₁ rfl
    dsimp only [kstB] at F
    have hcI : @Ne Nat c.ca I := hne _ (.head _)
    have hIr := fun p hp => Nat.ne_of_lt (hI p (.tail _ hp))
    have hi := lt_of_at hn
    (repeat' (first | (k_unfold; (try dsimp only)) | (k_end; wrow_close) | (first | ((with_reducible show wpAny _ _ (call (Value.ref _) _) _ _ _); (k_here; k_dflt (first | (refine' call_cls0 ?k1 ?k2 ?k3 ?k4 ?k5 ?_; (case k1 => k_asm); (case k2 => k_asm); (case k3 => k_asm); (case k4 => k_is); (case k5 => k_is); k_whole; intro x' d' h' F' N' l1 l2; (try k_lt l1); (try k_lt2 l2); (try k_sweep)) | (refine' call_cls ?k1 ?k2 ?k3 ?k4 ?k5 ?k6 ?_; (case k1 => k_asm); (case k2 => k_asm); (case k3 => k_asm); (case k4 => k_is); (case k5 => k_is); (case k6 => k_is); k_whole; intro x' d' h' F' N' l1 l2; (try k_lt l1); (try k_lt2 l2); (try k_sweep); walk_at "mine enter") | (refine' call_meth ?k1 ?k2 ?_; (case k1 => k_asm); (case k2 => k_mem); k_whole; walk_at "mine enter") | (refine wpAny_call ?_; walk_at "mine enter")))) | walk1) | (dsimp only; (first | ((with_reducible show wpAny _ _ (call (Value.ref _) _) _ _ _); (k_here; k_dflt (first | (refine' call_cls0 ?k1 ?k2 ?k3 ?k4 ?k5 ?_; (case k1 => k_asm); (case k2 => k_asm); (case k3 => k_asm); (case k4 => k_is); (case k5 => k_is); k_whole; intro x' d' h' F' N' l1 l2; (try k_lt l1); (try k_lt2 l2); (try k_sweep)) | (refine' call_cls ?k1 ?k2 ?k3 ?k4 ?k5 ?k6 ?_; (case k1 => k_asm); (case k2 => k_asm); (case k3 => k_asm); (case k4 => k_is); (case k5 => k_is); (case k6 => k_is); k_whole; intro x' d' h' F' N' l1 l2; (try k_lt l1); (try k_lt2 l2); (try k_sweep); walk_at "mine enter") | (refine' call_meth ?k1 ?k2 ?_; (case k1 => k_asm); (case k2 => k_mem); k_whole; walk_at "mine enter") | (refine wpAny_call ?_; walk_at "mine enter")))) | walk1)) | (leave1; walk_say "STEP leave1"; try dsimp only) | fail "no step"))
    · refine' ⟨⟨c.ca, c.k, c.vs, ⟨c.st.cs, c.st.b + 1, c.st.n + 1, c.st.nt⟩, _, _, _⟩, _, _, _, _, rfl, ?a1, ?a2, ?a3, ?a4, ?a5, ?a6, ?a7, ?a8⟩
      walk_at "mine left"
      case a5 => exact List.forall_mem_cons.mpr ⟨hcI, hIr⟩
      case a8 => dsimp only; exact ⟨h0, ws1 hn (by assumption) h1, h2, by omega, by omega, by omega, by omega⟩
    · have hb := bump_len (cs := c.st.cs) h4
      refine' ⟨⟨_, _, _, ⟨bump c.st.cs c.st.b, 0, c.st.n + 1, c.st.nt + 1⟩, _, _, _⟩, _, _, _, _, rfl, ?a1, ?a2, ?a3, ?a4, ?a5, ?a6, ?a7, ?a8⟩
      walk_at "mine left"
      case a5 => refine List.forall_mem_cons.mpr ⟨by k_ne, hIr⟩
      case a8 => dsimp only; exact ⟨by omega, ws2 hn (by assumption) (by assumption) h1, by rw [bump_pos (by assumption)]; assumption, by omega, by omega, by omega, by omega⟩
    · have hb := bump_len (cs := c.st.cs) h4
      refine' ⟨⟨_, _, _, ⟨bump c.st.cs c.st.b, 0, c.st.n + 1, c.st.nt + 1⟩, _, _, _⟩, _, _, _, _, rfl, ?a1, ?a2, ?a3, ?a4, ?a5, ?a6, ?a7, ?a8⟩
      walk_at "mine left"
      case a5 => refine List.forall_mem_cons.mpr ⟨by k_ne, hIr⟩
      case a8 => dsimp only; exact ⟨by omega, ws2 hn (by assumption) (by assumption) h1, by rw [bump_neg (by assumption)]; assumption, by omega, by omega, by omega, by omega⟩
    · try dsimp only
      refine' ⟨⟨c.ca, c.k, c.vs, c.st, _, _, _⟩, _, _, _, _, rfl, ?a1, ?a2, ?a3, ?a4, ?a5, ?a6, ?a7, ?a8⟩
      walk_at "mine left"
      case a5 => exact List.forall_mem_cons.mpr ⟨hcI, hIr⟩
      case a8 => dsimp only; exact ⟨h0, ws3 hn (by assumption) (by assumption) h1, h2, by omega, by omega, by omega⟩
  case fin =>
    rintro c u h tk ⟨h0, h1, h2, h3, h4, h5⟩ F N
    dsimp only [kstB] at F
    have hv := h2.length
    clear lF NN
    dsimp only
    (repeat' (first | (k_unfold; (try dsimp only)) | (k_end; wrow_close) | (first | ((with_reducible show wpAny _ _ (call (Value.ref _) _) _ _ _); (k_here; k_dflt (first | (refine' call_cls0 ?k1 ?k2 ?k3 ?k4 ?k5 ?_; (case k1 => k_asm); (case k2 => k_asm); (case k3 => k_asm); (case k4 => k_is); (case k5 => k_is); k_whole; intro x' d' h' F' N' l1 l2; (try k_lt l1); (try k_lt2 l2); (try k_sweep)) | (refine' call_cls ?k1 ?k2 ?k3 ?k4 ?k5 ?k6 ?_; (case k1 => k_asm); (case k2 => k_asm); (case k3 => k_asm); (case k4 => k_is); (case k5 => k_is); (case k6 => k_is); k_whole; intro x' d' h' F' N' l1 l2; (try k_lt l1); (try k_lt2 l2); (try k_sweep); walk_at "mine enter") | (refine' call_meth ?k1 ?k2 ?_; (case k1 => k_asm); (case k2 => k_mem); k_whole; walk_at "mine enter") | (refine wpAny_call ?_; walk_at "mine enter")))) | walk1) | (dsimp only; (first | ((with_reducible show wpAny _ _ (call (Value.ref _) _) _ _ _); (k_here; k_dflt (first | (refine' call_cls0 ?k1 ?k2 ?k3 ?k4 ?k5 ?_; (case k1 => k_asm); (case k2 => k_asm); (case k3 => k_asm); (case k4 => k_is); (case k5 => k_is); k_whole; intro x' d' h' F' N' l1 l2; (try k_lt l1); (try k_lt2 l2); (try k_sweep)) | (refine' call_cls ?k1 ?k2 ?k3 ?k4 ?k5 ?k6 ?_; (case k1 => k_asm); (case k2 => k_asm); (case k3 => k_asm); (case k4 => k_is); (case k5 => k_is); (case k6 => k_is); k_whole; intro x' d' h' F' N' l1 l2; (try k_lt l1); (try k_lt2 l2); (try k_sweep); walk_at "mine enter") | (refine' call_meth ?k1 ?k2 ?_; (case k1 => k_asm); (case k2 => k_mem); k_whole; walk_at "mine enter") | (refine wpAny_call ?_; walk_at "mine enter")))) | walk1)) | (leave1; walk_say "STEP leave1"; try dsimp only) | fail "no step"))
    refine hret _ _ _ _ (by k_asm) (by k_asm) ⟨Ext.of [_, _, _, _, _, _] (by assumption) ?_, _, rfl, ?_⟩
    · simp only [List.forall_mem_cons, List.not_mem_nil, false_implies, implies_true, and_true]
      refine ⟨?_, ?_, ?_, ?_, ?_, ?_⟩ <;> (refine leN ?_; omega)
    · rw [← h1]
      exact WhiteAt.intro (by k_mem) (by k_mem) (by k_mem) (by k_mem) (by simpa using h2) h3 h4 h5
end Mine
end

section
open PySem PySem.W PyProof.Rows
namespace Mine
theorem sec_W2 {M : Model} {A : Around} {E : Value → Shared → Prop} {s : Shared} {env : Env} {p : Pos} {Q : Flow → Shared → Prop} (h : Q .next s) : wpAny M A (exec (.Pass p) env) Q E s := by
  w_top off
  k_with_none
  walk1
  exact h
end Mine
end
section
open PySem PySem.W PyProof.Rows
set_option maxRecDepth 100000
set_option maxHeartbeats 2000000
namespace Mine
theorem lrs_ok (w : World) (x : Addr) (st : Ws) (news : Led) (hW : WhiteAt news x st) :
   Spec 3 w 45 [.ref x] news (fun r news' => news' = news ∧ ∃ t, r = .int (max ((st.cs.length : Int) - 1) st.b) t) := by
  refine hW.el fun d nr ct vs raw a1 a2 a3 a4 a5 b1 b2 b3 b4 b5 c1 c2 c3 c6 k1 k2 k3 h1 h2 h3 h4 h5 h6 h7 h8 => ?_
  have hl := h5.length
  unfold Spec
  k_fill
  intros; rename_i hret
  refine wpAny_call ?_
  k_dflt (walk_at "mine enter")
  k_steps
  refine hret _ _ _ _ (by k_asm) (by k_asm) ⟨rfl, intEq (by omega)⟩
noncomputable def ilSum (cs : List Int) (ts : Int) : Int := ((rangeKs ts (cs.length - ts).toNat).map (fun i => Int.fdiv i ts * cs.getD i.toNat 0)).sum
noncomputable def indentOf (st : Ws) (ts : Int) : Int := st.b + ts * (ilSum st.cs ts + st.nt)
theorem ind_ok (w : World) (x : Addr) (st : Ws) (news : Led) (ts : Int) (t5 : Tok) (hW : WhiteAt news x st) (hts : 1 ≤ ts) (hts2 : ts ≤ 2000) :
   Spec 3 w 52 [.ref x, .int ts t5] news (fun r news' => news' = news ∧ ∃ t, r = .int (indentOf st ts) t) := by
  refine hW.el fun d nr ct vs raw a1 a2 a3 a4 a5 b1 b2 b3 b4 b5 c1 c2 c3 c6 k1 k2 k3 h1 h2 h3 h4 h5 h6 h7 h8 => ?_
  have hl := h5.length
  unfold Spec
  k_fill
  intros; rename_i hret
  refine wpAny_call ?_
  k_dflt (walk_at "mine enter")
  (k_with "pyIter ref" => k_state (fun pre il => il = (pre.map (fun i => Int.fdiv i ts * st.cs.getD i.toNat 0)).sum) "il")
  k_steps
  k_with_none
  · refine hret _ _ _ _ (by k_asm) (by k_asm) ⟨rfl, intEq ?_⟩
    subst kInv
    rfl
end Mine
end

section
open PySem PySem.W PyProof.Rows
namespace Mine
theorem sec_W3 {M : Model} {A : Around} {E : Value → Shared → Prop} {s : Shared} {env : Env} {p : Pos} {Q : Flow → Shared → Prop} (h : Q .next s) : wpAny M A (exec (.Pass p) env) Q E s := by
  w_top off
  k_with_none
  walk1
  exact h
end Mine
end
section
open PySem PySem.W PyProof.Rows
set_option maxRecDepth 100000
set_option maxHeartbeats 2000000
namespace Mine
structure WiC where
  vs : List Value
  k : Nat
  tl : Led
noncomputable def newStep (st st' : Ws) (rs : List (Int × Int × Int)) (ts : Int) : List (Int × Int × Int) := if indentOf st ts = indentOf st' ts then rs else rs ++ [(ts, indentOf st ts, indentOf st' ts)]
noncomputable def topSize (st st' : Ws) : Int := max (max ((st.cs.length : Int) - 1) st.b) (max ((st'.cs.length : Int) - 1) st'.b) + 1
noncomputable def newRows (st st' : Ws) (n : Nat) : List (Int × Int × Int) := (rangeKs 1 n).foldl (newStep st st') []
theorem newRows_succ (st st' : Ws) (i : Nat) : newRows st st' (i + 1) = newStep st st' (newRows st st' i) (1 + (i : Int)) := by
  unfold newRows
  have : rangeKs 1 (i + 1) = rangeKs 1 i ++ [1 + (i : Int)] := by simp [rangeKs, List.range_succ]
  rw [this, List.foldl_append]; rfl
theorem new_ok (w : World) (x y : Addr) (st st' : Ws) (news : Led) (hW : WhiteAt news x st) (hW' : WhiteAt news y st') :
   Spec 5 w 66 [.ref x, .ref y] news (fun r news' => ExtT news news' fun tl => ∃ a vs k, r = .ref a ∧ (a, W.listOf vs.toArray k) ∈ tl ∧ RowsAt tl vs (newRows st st' (topSize st st').toNat)) := by
  refine hW.el fun d nr ct vs raw a1 a2 a3 a4 a5 b1 b2 b3 b4 b5 c1 c2 c3 c6 k1 k2 k3 h1 h2 h3 h4 h5 h6 h7 h8 => ?_
  refine (hW').el fun d' nr' ct' vs' raw' a1' a2' a3' a4' a5' b1' b2' b3' b4' b5' c1' c2' c3' c6' k1' k2' k3' h1' h2' h3' h4' h5' h6' h7' h8' => ?_
  unfold Spec
  k_fill
  intros; rename_i hret
  refine wpAny_call ?_
  k_dflt (walk_at "mine enter")
  (repeat' (first | (k_unfold; (try dsimp only)) | (k_end; wrow_close) | (first | ((with_reducible show wpAny _ _ (pyIter (Value.ref _)) _ _ _); (with_reducible refine holdIt ?_)) | ((with_reducible show wpAny _ _ (call (Value.ref _) _) _ _ _); (k_here; k_dflt (refine' Spec.use (mk _ _ _ _ ?kL) ?k1 ?k2 ?k3 ?k4 ?k5 ?kK ?kd ?ku ?_; (((case k4 => k_asm); (case k1 => k_asm); (case k2 => k_asm); (case k3 => k_asm); (case k5 => k_asm); (case kK => first | exact rfl | assumption); (case kd => ktr_room); (case ku => ktr_units))); (case kL => (show PySem.Str.length _ ≤ 1000; omega))); intro r9 n9 h9 tk9 F9 N9 P9; obtain ⟨e9, x9, e8, w9⟩ := P9; subst e8; (try dsimp only); (try k_fold))) | ((with_reducible show wpAny _ _ (call (Value.ref _) _) _ _ _); (k_here; k_dflt (refine' Spec.use (ind_ok _ _ _ _ _ _ ?kW ?kA ?kB) ?k1 ?k2 ?k3 ?k4 ?k5 ?kK ?kd ?ku ?_; (((case k4 => k_asm); (case k1 => k_asm); (case k2 => k_asm); (case k3 => k_asm); (case k5 => k_asm); (case kK => first | exact rfl | assumption); (case kd => ktr_room); (case ku => ktr_units))); (case kW => assumption); (case kA => omega); (case kB => omega)); intro r9 n9 h9 tk9 F9 N9 P9; obtain ⟨e9, t9, e8⟩ := P9; rw [e9] at N9; clear e9; subst e8; (try dsimp only); (try k_fold))) | ((with_reducible show wpAny _ _ (call (Value.ref _) _) _ _ _); (k_here; k_dflt (refine' Spec.use (lrs_ok _ _ _ _ ?kW) ?k1 ?k2 ?k3 ?k4 ?k5 ?kK ?kd ?ku ?_; (((case k4 => k_asm); (case k1 => k_asm); (case k2 => k_asm); (case k3 => k_asm); (case k5 => k_asm); (case kK => first | exact rfl | assumption); (case kd => ktr_room); (case ku => ktr_units))); (case kW => assumption)); intro r9 n9 h9 tk9 F9 N9 P9; obtain ⟨e9, t9, e8⟩ := P9; rw [e9] at N9; clear e9; subst e8; (try dsimp only); (try k_fold))) | walk1) | (dsimp only; (first | ((with_reducible show wpAny _ _ (pyIter (Value.ref _)) _ _ _); (with_reducible refine holdIt ?_)) | ((with_reducible show wpAny _ _ (call (Value.ref _) _) _ _ _); (k_here; k_dflt (refine' Spec.use (mk _ _ _ _ ?kL) ?k1 ?k2 ?k3 ?k4 ?k5 ?kK ?kd ?ku ?_; (((case k4 => k_asm); (case k1 => k_asm); (case k2 => k_asm); (case k3 => k_asm); (case k5 => k_asm); (case kK => first | exact rfl | assumption); (case kd => ktr_room); (case ku => ktr_units))); (case kL => (show PySem.Str.length _ ≤ 1000; omega))); intro r9 n9 h9 tk9 F9 N9 P9; obtain ⟨e9, x9, e8, w9⟩ := P9; subst e8; (try dsimp only); (try k_fold))) | ((with_reducible show wpAny _ _ (call (Value.ref _) _) _ _ _); (k_here; k_dflt (refine' Spec.use (ind_ok _ _ _ _ _ _ ?kW ?kA ?kB) ?k1 ?k2 ?k3 ?k4 ?k5 ?kK ?kd ?ku ?_; (((case k4 => k_asm); (case k1 => k_asm); (case k2 => k_asm); (case k3 => k_asm); (case k5 => k_asm); (case kK => first | exact rfl | assumption); (case kd => ktr_room); (case ku => ktr_units))); (case kW => assumption); (case kA => omega); (case kB => omega)); intro r9 n9 h9 tk9 F9 N9 P9; obtain ⟨e9, t9, e8⟩ := P9; rw [e9] at N9; clear e9; subst e8; (try dsimp only); (try k_fold))) | ((with_reducible show wpAny _ _ (call (Value.ref _) _) _ _ _); (k_here; k_dflt (refine' Spec.use (lrs_ok _ _ _ _ ?kW) ?k1 ?k2 ?k3 ?k4 ?k5 ?kK ?kd ?ku ?_; (((case k4 => k_asm); (case k1 => k_asm); (case k2 => k_asm); (case k3 => k_asm); (case k5 => k_asm); (case kK => first | exact rfl | assumption); (case kd => ktr_room); (case ku => ktr_units))); (case kW => assumption)); intro r9 n9 h9 tk9 F9 N9 P9; obtain ⟨e9, t9, e8⟩ := P9; rw [e9] at N9; clear e9; subst e8; (try dsimp only); (try k_fold))) | walk1)) | (leave1; walk_say "STEP leave1"; try dsimp only) | fail "no step"))
  first
    | (rename_i l' _ hB _ _ _ _ _ _ hp tk1 ta tb tc rg F N keep; have hB9 := (hB : ∀ p ∈ news, @LT.lt Nat _ p.1 l'); clear hB9)
    | (rename_i l' _ hB _ _ _ _ _ _ _ hp tk1 ta tb tc rg F N keep; have hB9 := (hB : ∀ p ∈ news, @LT.lt Nat _ p.1 l'); clear hB9)
  unfold Hold
  refine' loopRange (σ := WiC) (fun c => (l', W.listOf c.vs.toArray c.k) :: (c.tl ++ news)) (fun _ => []) []
    (fun I i c => (∀ p ∈ c.tl, @LT.lt Nat _ l' p.1) ∧ RowsAt c.tl c.vs (newRows st st' i) ∧ c.vs.length ≤ i) (fun c => (∀ p ∈ c.tl, @LT.lt Nat _ l' p.1) ∧ RowsAt c.tl c.vs (newRows st st' (topSize st st').toNat)) ⟨[], 0, []⟩ rfl rg (small_one (by omega) (by omega) (by omega) (by omega)) (rangeSize_nat _ _) (by k_asm) (by k_asm) ?hk ?hp ?turn ?done ?fin
  case hk => kst_all
  case hp => intro I hI; exact ⟨fun _ h => (nomatch h), .nil, Nat.le_refl _⟩
  case done =>
    rintro I c ⟨h1, h2, h3⟩
    refine ⟨h1, ?_⟩
    have e : (max (max ((st.cs.length : Int) - 1) st.b) (max ((st'.cs.length : Int) - 1) st'.b) + 1 + 1 - 1).toNat = (topSize st st').toNat := by unfold topSize; omega
    rw [← e]; exact h2
  case turn =>
    rintro I hI c i t u h tk o hn ⟨g1, g2, g3⟩ hne F' N' s₁ rfl
    dsimp only [kstB] at F'
    have hcI : @Ne Nat l' I := hne _ (.head _)
    have hIr : ∀ p ∈ c.tl ++ news, p.1 ≠ I := fun p hp => hne p (.tail _ hp)
    have hNe : ∀ p ∈ c.tl ++ news, p.1 ≠ l' := fun p hp => (List.mem_append.mp hp).elim (fun h => Nat.ne_of_gt (g1 p h)) (fun h => Nat.ne_of_lt (hB p h))
    have sub : ∀ p ∈ news, p ∈ (I, o) :: (l', W.listOf c.vs.toArray c.k) :: (c.tl ++ news) := fun p hp => .tail _ (.tail _ (List.mem_append.mpr (.inr hp)))
    have hWc := hW.mono sub
    have hWc' := hW'.mono sub
    have m1 := sub _ h1
    have m2 := sub _ h2
    have m3 := sub _ h1'
    have m4 := sub _ h2'
    (repeat' (first | (k_unfold; (try dsimp only)) | (k_end; wrow_close) | (first | ((with_reducible show wpAny _ _ (pyIter (Value.ref _)) _ _ _); (with_reducible refine holdIt ?_)) | ((with_reducible show wpAny _ _ (call (Value.ref _) _) _ _ _); (k_here; k_dflt (refine' Spec.use (mk _ _ _ _ ?kL) ?k1 ?k2 ?k3 ?k4 ?k5 ?kK ?kd ?ku ?_; (((case k4 => k_asm); (case k1 => k_asm); (case k2 => k_asm); (case k3 => k_asm); (case k5 => k_asm); (case kK => first | exact rfl | assumption); (case kd => ktr_room); (case ku => ktr_units))); (case kL => (show PySem.Str.length _ ≤ 1000; omega))); intro r9 n9 h9 tk9 F9 N9 P9; obtain ⟨e9, x9, e8, w9⟩ := P9; subst e8; (try dsimp only); (try k_fold))) | ((with_reducible show wpAny _ _ (call (Value.ref _) _) _ _ _); (k_here; k_dflt (refine' Spec.use (ind_ok _ _ _ _ _ _ ?kW ?kA ?kB) ?k1 ?k2 ?k3 ?k4 ?k5 ?kK ?kd ?ku ?_; (((case k4 => k_asm); (case k1 => k_asm); (case k2 => k_asm); (case k3 => k_asm); (case k5 => k_asm); (case kK => first | exact rfl | assumption); (case kd => ktr_room); (case ku => ktr_units))); (case kW => assumption); (case kA => omega); (case kB => omega)); intro r9 n9 h9 tk9 F9 N9 P9; obtain ⟨e9, t9, e8⟩ := P9; rw [e9] at N9; clear e9; subst e8; (try dsimp only); (try k_fold))) | ((with_reducible show wpAny _ _ (call (Value.ref _) _) _ _ _); (k_here; k_dflt (refine' Spec.use (lrs_ok _ _ _ _ ?kW) ?k1 ?k2 ?k3 ?k4 ?k5 ?kK ?kd ?ku ?_; (((case k4 => k_asm); (case k1 => k_asm); (case k2 => k_asm); (case k3 => k_asm); (case k5 => k_asm); (case kK => first | exact rfl | assumption); (case kd => ktr_room); (case ku => ktr_units))); (case kW => assumption)); intro r9 n9 h9 tk9 F9 N9 P9; obtain ⟨e9, t9, e8⟩ := P9; rw [e9] at N9; clear e9; subst e8; (try dsimp only); (try k_fold))) | walk1) | (dsimp only; (first | ((with_reducible show wpAny _ _ (pyIter (Value.ref _)) _ _ _); (with_reducible refine holdIt ?_)) | ((with_reducible show wpAny _ _ (call (Value.ref _) _) _ _ _); (k_here; k_dflt (refine' Spec.use (mk _ _ _ _ ?kL) ?k1 ?k2 ?k3 ?k4 ?k5 ?kK ?kd ?ku ?_; (((case k4 => k_asm); (case k1 => k_asm); (case k2 => k_asm); (case k3 => k_asm); (case k5 => k_asm); (case kK => first | exact rfl | assumption); (case kd => ktr_room); (case ku => ktr_units))); (case kL => (show PySem.Str.length _ ≤ 1000; omega))); intro r9 n9 h9 tk9 F9 N9 P9; obtain ⟨e9, x9, e8, w9⟩ := P9; subst e8; (try dsimp only); (try k_fold))) | ((with_reducible show wpAny _ _ (call (Value.ref _) _) _ _ _); (k_here; k_dflt (refine' Spec.use (ind_ok _ _ _ _ _ _ ?kW ?kA ?kB) ?k1 ?k2 ?k3 ?k4 ?k5 ?kK ?kd ?ku ?_; (((case k4 => k_asm); (case k1 => k_asm); (case k2 => k_asm); (case k3 => k_asm); (case k5 => k_asm); (case kK => first | exact rfl | assumption); (case kd => ktr_room); (case ku => ktr_units))); (case kW => assumption); (case kA => omega); (case kB => omega)); intro r9 n9 h9 tk9 F9 N9 P9; obtain ⟨e9, t9, e8⟩ := P9; rw [e9] at N9; clear e9; subst e8; (try dsimp only); (try k_fold))) | ((with_reducible show wpAny _ _ (call (Value.ref _) _) _ _ _); (k_here; k_dflt (refine' Spec.use (lrs_ok _ _ _ _ ?kW) ?k1 ?k2 ?k3 ?k4 ?k5 ?kK ?kd ?ku ?_; (((case k4 => k_asm); (case k1 => k_asm); (case k2 => k_asm); (case k3 => k_asm); (case k5 => k_asm); (case kK => first | exact rfl | assumption); (case kd => ktr_room); (case ku => ktr_units))); (case kW => assumption)); intro r9 n9 h9 tk9 F9 N9 P9; obtain ⟨e9, t9, e8⟩ := P9; rw [e9] at N9; clear e9; subst e8; (try dsimp only); (try k_fold))) | walk1)) | (leave1; walk_say "STEP leave1"; try dsimp only) | fail "no step"))
    · rename News _ _ _ _ => N8
      rename Fr _ _ _ _ => F8
      simp only [List.push_toArray] at N8
      rename ¬ _ = _ => hd9
      rename_i D' _ l9 _
      refine' ⟨⟨c.vs ++ [.ref D'], c.k + 1, (D', tupObj #[.int (1 + (i : Int)) _, .int (indentOf st (1 + (i : Int))) _, .int (indentOf st' (1 + (i : Int))) _] 0) :: c.tl⟩, _, _, _, _, rfl, F8, N8, ?a3, ?a4, ?a5, ?a6, ?a7, ?a8⟩
      case a3 => k_mem
      case a4 => exact List.forall_mem_cons.mpr ⟨by k_mem, List.forall_mem_cons.mpr ⟨by k_mem, fun p hp => .tail _ (.tail _ (.tail _ hp))⟩⟩
      case a5 => exact List.forall_mem_cons.mpr ⟨hcI, List.forall_mem_cons.mpr ⟨by k_ne, hIr⟩⟩
      case a6 => kst_all
      case a7 => kst_same
      case a8 =>
        refine ⟨List.forall_mem_cons.mpr ⟨by dsimp only; omega, g1⟩, ?_, by simp; omega⟩
        rw [newRows_succ, newStep, if_neg hd9]
        exact (g2.mono fun p hp => .tail _ hp).snoc (.head _)
    · refine' ⟨c, _, _, _, _, rfl, ?b1, ?b2, ?b3, ?b4, ?b5, ?b6, ?b7, ?b8⟩
      walk_at "mine leftb"
      case b5 => exact List.forall_mem_cons.mpr ⟨hcI, hIr⟩
      case b8 =>
        refine ⟨g1, ?_, by omega⟩
        rw [newRows_succ, newStep, if_pos (by assumption)]; exact g2
  case fin =>
    rintro c u h tk ⟨g1, g2⟩ F' N'
    dsimp only [kstB] at F'
    dsimp only
    (repeat' (first | (k_unfold; (try dsimp only)) | (k_end; wrow_close) | (first | ((with_reducible show wpAny _ _ (pyIter (Value.ref _)) _ _ _); (with_reducible refine holdIt ?_)) | ((with_reducible show wpAny _ _ (call (Value.ref _) _) _ _ _); (k_here; k_dflt (refine' Spec.use (mk _ _ _ _ ?kL) ?k1 ?k2 ?k3 ?k4 ?k5 ?kK ?kd ?ku ?_; (((case k4 => k_asm); (case k1 => k_asm); (case k2 => k_asm); (case k3 => k_asm); (case k5 => k_asm); (case kK => first | exact rfl | assumption); (case kd => ktr_room); (case ku => ktr_units))); (case kL => (show PySem.Str.length _ ≤ 1000; omega))); intro r9 n9 h9 tk9 F9 N9 P9; obtain ⟨e9, x9, e8, w9⟩ := P9; subst e8; (try dsimp only); (try k_fold))) | ((with_reducible show wpAny _ _ (call (Value.ref _) _) _ _ _); (k_here; k_dflt (refine' Spec.use (ind_ok _ _ _ _ _ _ ?kW ?kA ?kB) ?k1 ?k2 ?k3 ?k4 ?k5 ?kK ?kd ?ku ?_; (((case k4 => k_asm); (case k1 => k_asm); (case k2 => k_asm); (case k3 => k_asm); (case k5 => k_asm); (case kK => first | exact rfl | assumption); (case kd => ktr_room); (case ku => ktr_units))); (case kW => assumption); (case kA => omega); (case kB => omega)); intro r9 n9 h9 tk9 F9 N9 P9; obtain ⟨e9, t9, e8⟩ := P9; rw [e9] at N9; clear e9; subst e8; (try dsimp only); (try k_fold))) | ((with_reducible show wpAny _ _ (call (Value.ref _) _) _ _ _); (k_here; k_dflt (refine' Spec.use (lrs_ok _ _ _ _ ?kW) ?k1 ?k2 ?k3 ?k4 ?k5 ?kK ?kd ?ku ?_; (((case k4 => k_asm); (case k1 => k_asm); (case k2 => k_asm); (case k3 => k_asm); (case k5 => k_asm); (case kK => first | exact rfl | assumption); (case kd => ktr_room); (case ku => ktr_units))); (case kW => assumption)); intro r9 n9 h9 tk9 F9 N9 P9; obtain ⟨e9, t9, e8⟩ := P9; rw [e9] at N9; clear e9; subst e8; (try dsimp only); (try k_fold))) | walk1) | (dsimp only; (first | ((with_reducible show wpAny _ _ (pyIter (Value.ref _)) _ _ _); (with_reducible refine holdIt ?_)) | ((with_reducible show wpAny _ _ (call (Value.ref _) _) _ _ _); (k_here; k_dflt (refine' Spec.use (mk _ _ _ _ ?kL) ?k1 ?k2 ?k3 ?k4 ?k5 ?kK ?kd ?ku ?_; (((case k4 => k_asm); (case k1 => k_asm); (case k2 => k_asm); (case k3 => k_asm); (case k5 => k_asm); (case kK => first | exact rfl | assumption); (case kd => ktr_room); (case ku => ktr_units))); (case kL => (show PySem.Str.length _ ≤ 1000; omega))); intro r9 n9 h9 tk9 F9 N9 P9; obtain ⟨e9, x9, e8, w9⟩ := P9; subst e8; (try dsimp only); (try k_fold))) | ((with_reducible show wpAny _ _ (call (Value.ref _) _) _ _ _); (k_here; k_dflt (refine' Spec.use (ind_ok _ _ _ _ _ _ ?kW ?kA ?kB) ?k1 ?k2 ?k3 ?k4 ?k5 ?kK ?kd ?ku ?_; (((case k4 => k_asm); (case k1 => k_asm); (case k2 => k_asm); (case k3 => k_asm); (case k5 => k_asm); (case kK => first | exact rfl | assumption); (case kd => ktr_room); (case ku => ktr_units))); (case kW => assumption); (case kA => omega); (case kB => omega)); intro r9 n9 h9 tk9 F9 N9 P9; obtain ⟨e9, t9, e8⟩ := P9; rw [e9] at N9; clear e9; subst e8; (try dsimp only); (try k_fold))) | ((with_reducible show wpAny _ _ (call (Value.ref _) _) _ _ _); (k_here; k_dflt (refine' Spec.use (lrs_ok _ _ _ _ ?kW) ?k1 ?k2 ?k3 ?k4 ?k5 ?kK ?kd ?ku ?_; (((case k4 => k_asm); (case k1 => k_asm); (case k2 => k_asm); (case k3 => k_asm); (case k5 => k_asm); (case kK => first | exact rfl | assumption); (case kd => ktr_room); (case ku => ktr_units))); (case kW => assumption)); intro r9 n9 h9 tk9 F9 N9 P9; obtain ⟨e9, t9, e8⟩ := P9; rw [e9] at N9; clear e9; subst e8; (try dsimp only); (try k_fold))) | walk1)) | (leave1; walk_say "STEP leave1"; try dsimp only) | fail "no step"))
    refine hret _ _ _ _ (by k_asm) (by k_asm) (ExtT.of ((l', _) :: c.tl) hB (List.forall_mem_cons.mpr ⟨Nat.le_refl _, fun p hp => Nat.le_of_lt (g1 p hp)⟩) ⟨_, _, _, rfl, .head _, g2.mono fun p hp => .tail _ hp⟩)
end Mine
end

section
open PySem PySem.W PyProof.Rows
namespace Mine
theorem sec_LF {M : Model} {A : Around} {E : Value → Shared → Prop} {s : Shared} {env : Env} {p : Pos} {Q : Flow → Shared → Prop} (h : Q .next s) : wpAny M A (exec (.Pass p) env) Q E s := by
  w_top off
  k_with_none
  walk1
  exact h
end Mine
end
section
open PySem PySem.W PyProof.Rows PySem.Calls PySem.Spec
set_option maxRecDepth 100000
namespace Mine
section
variable {prog : Program} {w : World} {A : Around} {E : Value → Shared → Prop} {s : Shared} {env : Env} {h₀ : Heap} {target : Expr} {body : List Stmt} {Q : Flow → Shared → Prop}
noncomputable def TurnS (Q : Flow → Shared → Prop) (R : Shared → Prop) (f : Flow) (s : Shared) : Prop :=
  match f with
  | .ret v => Q (.ret v) s
  | .brk => Q .next s
  | _ => R s
/-- a loop by an invariant over whole states -/
noncomputable def LoopS (prog : Program) (w : World) (A : Around) (env : Env) (target : Expr) (body : List Stmt) (Q : Flow → Shared → Prop) (E : Value → Shared → Prop) (it : Value) (s₂ : Shared) : Prop :=
  ∃ (I : Addr) (fp wr : List Addr) (n : Nat) (P Md : Nat → Value → Heap → Prop) (St : Nat → Heap → Prop) (J : Nat → Shared → Prop),
    it = .ref I ∧ KTurns prog w A target I fp wr n P Md St ∧ St 0 s₂.heap ∧ J 0 s₂ ∧
    (∀ i s' h' tk, J i s' → (∀ b o, b ∉ wr → s'.heap.get? b = some o → h'.get? b = some o) → J i { s' with heap := h', toks := tk }) ∧
    (∀ i v s', i < n → P i v s'.heap → J i s' → St (i + 1) s'.heap → wpAny (model prog w) A (assign target env v) (fun _ s₃ => wpAny (model prog w) A (execs body env) (TurnS Q fun s₄ => J (i + 1) s₄ ∧ ∀ b ∈ fp, ∀ o, s'.heap.get? b = some o → s₄.heap.get? b = some o) E s₃) E s') ∧
    ∀ s', J n s' → Q .next s'
theorem For_S {iter : Expr} {pos : Pos}
    (h : wpAny (model prog w) A (eval iter env) (fun xv s₁ => wpAny (model prog w) A (pyIter xv) (fun it s₂ => LoopS prog w A env target body Q E it s₂) E s₁) E s)
    (hs : ∀ x, foldedSetIterable iter env x = pure x := by intro _; rfl)
    (hE : PassesOwn (model prog w) A env E := by passes_own) :
    wpAny (model prog w) A (exec (.For target iter body [] pos) env) Q E s := by
  refine wpAny_For (wpAny_mono h (fun xv s₁ h₁ => wpAny_mono h₁ (fun it s₂ h₂ => ?_) fun _ _ e => e) fun _ _ e => e) hs
  obtain ⟨I, fp, wr, n, P, Md, St, J, rfl, W, hst, h0, hmove, step, hQ⟩ := h₂
  refine codeAny_forLoop_any (fun k s' => ∃ i, St i s'.heap ∧ J i s' ∧ i ≤ n ∧ k = n + 1 - i) ?_ (n + 1) ⟨0, hst, h0, Nat.zero_le _, rfl⟩
  rintro k s' ⟨i, hst', hJ, hi, rfl⟩
  by_cases hlt : i < n
  · refine W.item i _ _ _ hlt hst' fun v h₁ tk₁ hMd hk₁ => ?_
    refine W.go i v _ _ _ hMd fun h₂ hP hst₂ hk₂ => ?_
    have hJ2 := hmove i s' h₂ tk₁ hJ fun b o hb x => hk₂ b o hb (hk₁ b o hb x)
    refine wpAny_mono (step i v { s' with heap := h₂, toks := tk₁ } hlt hP hJ2 hst₂) (fun _ s₃ h₃ => wpAny_passesOwn hE (wpAny_mono h₃ (fun f s₄ h₄ => ?_) fun _ _ e => e)) hE
    cases f with
    | ret v => exact h₄
    | brk => exact h₄
    | next => exact ⟨n + 1 - (i + 1), by omega, i + 1, W.frame _ _ _ hst₂ h₄.2, h₄.1, hlt, rfl⟩
    | cont => exact ⟨n + 1 - (i + 1), by omega, i + 1, W.frame _ _ _ hst₂ h₄.2, h₄.1, hlt, rfl⟩
  · have hin : i = n := by omega
    subst hin
    refine W.done _ _ _ hst' fun h₁ tk₁ hk₁ => wpAny_execs_nil ?_
    exact hQ _ (hmove i s' h₁ tk₁ hJ hk₁)
/-- what a turn leaves -/
inductive LeftK {σ : Type} (h₀ : Heap) (L : Addr) (m₀ : Str → Option Value) (stored : List Str) (Ld : σ → Led) (ps : σ → List (Str × Value)) (wr : List Addr) (own : Led) (Rel : Shared → Prop) (P : σ → Prop) (s₂ : Shared) : Prop
  | intro (c : σ) (m' : Str → Option Value) (nw : Led) (h0 : Rel s₂) (h1 : Fr h₀ L s₂.heap m') (h2 : News h₀ L s₂.heap nw) (h3 : (∀ p ∈ own, p ∈ nw)) (h4 : (∀ p ∈ Ld c, p ∈ nw)) (h5 : (∀ p ∈ Ld c, p.1 ∉ wr)) (h6 : (∀ p ∈ ps c, m' p.1 = some p.2)) (h7 : (∀ z, (∀ p ∈ ps c, z ≠ p.1) → stored.contains z = false → m' z = m₀ z)) (h8 : P c) : LeftK h₀ L m₀ stored Ld ps wr own Rel P s₂
noncomputable def TurnK {σ : Type} (h₀ : Heap) (L : Addr) (m₀ : Str → Option Value) (stored : List Str) (Ld : σ → Led) (ps : σ → List (Str × Value)) (wr : List Addr) (own : Led) (Rel : Shared → Prop) (P Fin : σ → Prop) (Q : Flow → Shared → Prop) (f : Flow) (s₂ : Shared) : Prop :=
  match f with
  | .ret v => Q (.ret v) s₂
  | .brk => LeftK h₀ L m₀ stored Ld ps wr own Rel Fin s₂
  | _ => LeftK h₀ L m₀ stored Ld ps wr own Rel P s₂
theorem frT {L : Addr} {h : Heap} {ps : List (Str × Value)} {stored : List Str} {m₀ m₁ : Str → Option Value} (h1 : ∀ p ∈ ps, m₁ p.1 = some p.2) (h2 : ∀ z, (∀ p ∈ ps, z ≠ p.1) → stored.contains z = false → m₁ z = m₀ z)
    (F : Fr h₀ L h m₁) : Fr h₀ L h (kstB (fun z => if stored.contains z then m₁ z else m₀ z) ps) := by
  have em : (kstB (fun z => if stored.contains z then m₁ z else m₀ z) ps) = m₁ := by
    funext y
    refine kstB_eq h1 fun hy => ?_
    cases hc : stored.contains y with
    | true => simp
    | false => simp [h2 y hy hc]
  rw [em]; exact F
theorem loopK {σ : Type} {I : Addr} {fp wr : List Addr} {n : Nat} {P Md : Nat → Value → Heap → Prop} {St : Nat → Heap → Prop} {m₀ : Str → Option Value} (Ld : σ → Led) (ps : σ → List (Str × Value)) (stored : List Str) (PP : Nat → σ → Prop) (Fin : σ → Prop) (Rel : Shared → Prop) (c₀ : σ)
    (W : KTurns prog w A target I fp wr n P Md St) (hst : St 0 s.heap) (hex : ∀ i h, St i h → ∀ b ∈ fp, ∃ o, h.get? b = some o) (hLf : env.locals ∉ fp) (hwr : ∀ b ∈ wr, h₀.get? b = none)
    (hR0 : Rel s) (hRm : ∀ s' h tk, Rel s' → Rel { s' with heap := h, toks := tk })
    (F : Fr h₀ env.locals s.heap m₀) (N : News h₀ env.locals s.heap (Ld c₀)) (hoff : ∀ p ∈ Ld c₀, p.1 ∉ wr) (hk : ∀ p ∈ ps c₀, m₀ p.1 = some p.2) (hp : PP 0 c₀)
    (turn : ∀ (c : σ) i v (u : Str → Option Value) s₁ own, i < n → P i v s₁.heap → PP i c → (∀ p ∈ Ld c, p.1 ∉ wr) → (∀ p ∈ own, p.1 ∈ fp) → (∀ b ∈ fp, h₀.get? b = none → ∃ o, (b, o) ∈ own) → Rel s₁ →
      Fr h₀ env.locals s₁.heap (kstB (fun z => if stored.contains z then u z else m₀ z) (ps c)) → News h₀ env.locals s₁.heap (Ld c ++ own) →
      wpAny (model prog w) A (assign target env v) (fun _ s₂ => wpAny (model prog w) A (execs body env) (TurnK h₀ env.locals m₀ stored Ld ps wr own Rel (PP (i + 1)) Fin Q) E s₂) E s₁)
    (done : ∀ c, PP n c → Fin c)
    (fin : ∀ (c : σ) (u : Str → Option Value) s₁, Fin c → Rel s₁ → Fr h₀ env.locals s₁.heap (kstB (fun z => if stored.contains z then u z else m₀ z) (ps c)) → News h₀ env.locals s₁.heap (Ld c) → Q .next s₁) :
    LoopS prog w A env target body Q E (.ref I) s := by
  have hLw : env.locals ∉ wr := fun h => hLf (W.sub _ h)
  have old : ∀ b o, h₀.get? b = some o → b ∉ wr := fun b o e hb => by rw [hwr b hb] at e; cases e
  let J : Nat → Shared → Prop := fun i s' => ∃ c m, Rel s' ∧ Fr h₀ env.locals s'.heap m ∧ News h₀ env.locals s'.heap (Ld c) ∧ (∀ p ∈ Ld c, p.1 ∉ wr) ∧ (∀ p ∈ ps c, m p.1 = some p.2) ∧ (∀ z, (∀ p ∈ ps c, z ≠ p.1) → stored.contains z = false → m z = m₀ z) ∧ PP i c
  refine ⟨I, fp, wr, n, P, Md, St, J, rfl, W, hst, ⟨c₀, m₀, hR0, F, N, hoff, hk, fun _ _ _ => rfl, hp⟩, ?_, ?_, ?_⟩
  · rintro i s' h' tk ⟨c, m, hR, F', N', ho, h1, h2, hP⟩ hkp
    exact ⟨c, m, hRm _ _ _ hR, ⟨F'.ns.at' fun o e => hkp _ o hLw e, fun b o e => hkp b o (old b o e) (F'.keep b o e), F'.above⟩, fun p hp => ⟨hkp _ _ (ho p hp) (N' p hp).1, (N' p hp).2⟩, ho, h1, h2, hP⟩
  · rintro i v s' hi hP ⟨c, m, hR, F', N', ho, h1, h2, hPP⟩ hst'
    have Nown : News h₀ env.locals s'.heap (PyProof.Rows.ownOf h₀ fp s'.heap) := news_ownOf hLf
    refine wpAny_mono (turn c i v m s' (PyProof.Rows.ownOf h₀ fp s'.heap) hi hP hPP ho ownOf_sub (fun b hb hn => let ⟨o, e⟩ := hex _ _ hst' b hb; ⟨o, mem_ownOf hb hn e⟩) hR (frT h1 h2 F') (N'.append Nown))
      (fun _ s₃ h₃ => wpAny_mono h₃ (fun f s₄ h₄ => ?_) fun _ _ e => e) fun _ _ e => e
    have go : LeftK h₀ env.locals m₀ stored Ld ps wr (PyProof.Rows.ownOf h₀ fp s'.heap) Rel (PP (i + 1)) s₄ → J (i + 1) s₄ ∧ ∀ b ∈ fp, ∀ o, s'.heap.get? b = some o → s₄.heap.get? b = some o := by
      rintro ⟨c', m', nw, hR', F₄, N₄, hown, hsub, ho', h1', h2', hP'⟩
      refine ⟨⟨c', m', hR', F₄, fun p hp => N₄ _ (hsub p hp), ho', h1', h2', hP'⟩, fun b hb o e => ?_⟩
      cases hn : h₀.get? b with
      | some o₀ =>
        have : o₀ = o := by have q := F'.keep b o₀ hn; rw [e] at q; exact (Option.some.inj q).symm
        exact this ▸ F₄.keep b o₀ hn
      | none => exact (N₄ _ (hown _ (mem_ownOf hb hn e))).1
    cases f with
    | ret v => exact h₄
    | brk =>
      obtain ⟨c', m', nw, hR', F₄, N₄, hown, hsub, ho', h1', h2', hP'⟩ := h₄
      exact fin c' m' s₄ hP' hR' (frT h1' h2' F₄) fun p hp => N₄ _ (hsub p hp)
    | next => exact go h₄
    | cont => exact go h₄
  · rintro s' ⟨c, m, hR, F', N', ho, h1, h2, hP⟩
    exact fin c m s' (done c hP) hR (frT h1 h2 F') N'
end
end Mine
end

section
open PySem PySem.W PyProof.Rows
namespace Mine
theorem sec_GA {M : Model} {A : Around} {E : Value → Shared → Prop} {s : Shared} {env : Env} {p : Pos} {Q : Flow → Shared → Prop} (h : Q .next s) : wpAny M A (exec (.Pass p) env) Q E s := by
  w_top off
  k_with_none
  walk1
  exact h
end Mine
end
section
open PySem PySem.W PyProof.Rows PySem.Calls PySem.Spec
set_option maxRecDepth 100000
namespace Mine
section
variable {M : Model} {A : Around} {E : Value → Shared → Prop} {s : Shared}
theorem size_of_keep {h h' : Heap} {n : Nat} (hn : n < h.objs.size → ∃ o, h.get? n = some o) (hk : ∀ b o, h.get? b = some o → h'.get? b = some o) (hl : n < h.objs.size) : n < h'.objs.size := by
  obtain ⟨o, ho⟩ := hn hl; exact Heap.lt_size (hk _ _ ho)
/-- a generator's code, its maker's table at hand -/
theorem genCodeT {env : Env} {c P : Addr} {ps : Array Value} {pos : Pos} {qualname : Str} {scope : Scope} {Q : Value → Shared → Prop} (hc : env.code = .ref c) (C : CodeHd s.heap c P) (hP : s.heap.get? P = some (tabObj ps)) (ht : TriplesOk ps.toList)
    (hQ : ∀ code h' tk ps', Heap.ExtBut P s.heap h' → h'.get? P = some (tabObj ps') → TriplesOk ps'.toList → Q code { s with heap := h', toks := tk }) :
    wpAny M A (genexprCode env pos qualname scope) Q E s := by
  obtain ⟨o, vs, file, tf, flags, tg, inF, text, tt, ho, _, hd, _, h11, h2, h7, h9, h10, hne⟩ := C
  unfold genexprCode codeAt
  rw [hc, if_neg (show ¬ ((Value.ref c == Value.none) = true) from Bool.false_ne_true)]
  refine wpAny_bind (wpAny_fieldsOf ho hd ?_)
  rw [h11]
  refine wpAny_bind (wpAny_fieldsOf hP rfl ?_)
  cases hnf : codeAmong pos ps.toList with
  | some cv => exact wpAny_pure (hQ cv s.heap s.toks ps (Heap.ExtBut.refl _ _) hP ht)
  | none =>
    rw [h2, h7, h9, h10]
    refine wpAny_bind (wpAny_newCode fun c' P' h' tk hk hc' hP' hcode' hrec' => ?_)
    have hop' := hk _ _ hP
    refine wpAny_bind (wpAny_updateFieldsOfTheText hop' rfl ?_)
    have hnew : Obj.mapFields (fun vs => if (codeAmong pos vs.toList).isSome = true then vs else vs ++ #[rawInt pos.line, rawInt pos.col, .ref c']) (tabObj ps) = tabObj (ps ++ #[rawInt pos.line, rawInt pos.col, .ref c']) := by
      show tabObj (if (codeAmong pos ps.toList).isSome = true then ps else ps ++ #[rawInt pos.line, rawInt pos.col, .ref c']) = _
      rw [hnf]; rfl
    have hget : (h'.update P (Obj.mapFields fun vs => if (codeAmong pos vs.toList).isSome = true then vs else vs ++ #[rawInt pos.line, rawInt pos.col, .ref c'])).get? P = some (tabObj (ps ++ #[rawInt pos.line, rawInt pos.col, .ref c'])) := by
      have := Heap.get?_update_self (h := h') (Obj.mapFields fun vs => if (codeAmong pos vs.toList).isSome = true then vs else vs ++ #[rawInt pos.line, rawInt pos.col, .ref c']) hop' (by rw [hnew]; rfl)
      rw [hnew] at this; exact this
    refine wpAny_bind (wpAny_fieldsOf hget rfl ?_)
    have hl : (ps ++ #[rawInt pos.line, rawInt pos.col, Value.ref c']).toList = ps.toList ++ [rawInt pos.line, rawInt pos.col, .ref c'] := by simp
    rw [hl, codeAmong_snoc _ ht hnf]
    refine wpAny_pure (hQ _ _ _ (ps ++ #[rawInt pos.line, rawInt pos.col, .ref c']) (fun b o' hb e => ((Heap.SameBut.update ..).extBut b o' hb (hk b o' e))) hget ?_)
    rw [hl]; exact TriplesOk_snoc _ _ _ _ ht
end
theorem frExt {g h h' : Heap} {L P : Addr} {m : Str → Option Value} (F : Fr g L h m) (hx : Heap.ExtBut P h h') (hg : g.get? P = none) (hL : L ≠ P) : Fr g L h' m :=
  ⟨F.ns.extBut hx hL, fun b o e => hx b o (fun q => by rw [q, hg] at e; cases e) (F.keep b o e), F.above⟩
theorem newsExt {g h h' : Heap} {L P : Addr} {news : Led} (N : News g L h news) (hx : Heap.ExtBut P h h') (hn : ∀ p ∈ news, p.1 ≠ P) : News g L h' news :=
  fun p hp => ⟨hx _ _ (hn p hp) (N p hp).1, (N p hp).2⟩
theorem newsKeep {g h h' : Heap} {L : Addr} {news : Led} (N : News g L h news) (hk : ∀ b o, h.get? b = some o → h'.get? b = some o) : News g L h' news :=
  fun p hp => ⟨hk _ _ (N p hp).1, (N p hp).2⟩
theorem newsCons {g h : Heap} {L a : Addr} {o : Obj} {m : Str → Option Value} {news : Led} (F : Fr g L h m) (N : News g L h news) (ho : h.get? a = some o) (hl : @LT.lt Nat _ L a) : News g L h ((a, o) :: news) :=
  List.forall_mem_cons.mpr ⟨⟨ho, Nat.ne_of_gt hl, by
    cases q : g.get? a with
    | none => rfl
    | some o' => exact absurd (Nat.lt_of_lt_of_le (Heap.lt_size q) F.above) (Nat.not_lt.mpr (Nat.le_of_lt hl))⟩, N⟩
theorem ns_some {h : Heap} {L : Addr} {m : Str → Option Value} (x : h.Ns L m) : ∃ o, h.get? L = some o := let ⟨o, _, _, ho, _⟩ := x; ⟨o, ho⟩
theorem RowsAt.at {led : Led} {vs : List Value} {rs : List (Int × Int × Int)} (h : RowsAt led vs rs) : ∀ {i : Nat} {v : Value}, vs[i]? = some v → ∃ a t1 t2 t3 n r, v = .ref a ∧ rs[i]? = some r ∧ (a, tupObj #[.int r.1 t1, .int r.2.1 t2, .int r.2.2 t3] n) ∈ led := by
  induction h with
  | nil => intro i v e; simp at e
  | cons hm _ ih =>
    intro i v e
    cases i with
    | zero => simp at e; exact ⟨_, _, _, _, _, _, e.symm, rfl, hm⟩
    | succ i => exact ih (by simpa using e)
section
variable {prog : Program} {w : World} {A : Around} {E : Value → Shared → Prop} {s : Shared}
/-- a generator expression over a walk; the objects that it leans on are fpx -/
theorem genWalks {env : Env} {elt iter : Expr} {x : Str} {px : Pos} {ifs : List Expr} {scope : Scope} {cl : List (Str × Addr)} {pos : Pos} {Q : Value → Shared → Prop}
    (hh : A.handled = none) (hco : scope.isCoroutine = false) (hclos : closureFor scope env = pure cl) (hcell : ∀ y ∈ scope.names, y.2 ≠ .cell) (h0 : scope.names.lookup (".0" : Str) = some NameKind.local)
    (hx : scope.names.lookup x = some .local) (hkind : scope.kind = .function) (hroom : A.depth < recursionLimit)
    (h : wpAny (model prog w) A (eval iter env) (fun xv s₁ => wpAny (model prog w) A (pyIter xv) (fun it s₂ => s₂.heap.NoLimit ∧
      wpAny (model prog w) A (genexprCode env pos (env.qual ++ "<genexpr>") scope) (fun code s₃ => wpAny (model prog w) A (builtinsFor env.globals env.builtins) (fun bi s₄ =>
        ∃ I fp wr n₀ P St₀ pz F fpx, it = .ref I ∧ (∀ A' : Around, A'.handled = none → Walks prog w A' I fp wr n₀ P St₀) ∧ St₀ 0 s₄.heap ∧ (∀ b ∈ fp, b ∈ fpx) ∧ (∀ b ∈ fpx, b < s₄.heap.objs.size) ∧ s₄.heap.NoLimit ∧ cStatics ∉ wr ∧ cStatics ∈ fpx ∧
          (∀ href : Heap, (∀ b o, s₄.heap.get? b = some o → href.get? b = some o) →
            QuietGenD prog w (genEnv scope cl s₄.heap.objs.size code bi env) x ifs elt fpx wr P pz F href (A.depth + 1) (A.units + 8)) ∧
          (∀ a h₅ tk gs oC, gs.bare = true → s₄.heap.objs.size < a → h₅.objs.size = a + 1 → (∀ b o, s₄.heap.get? b = some o → h₅.get? b = some o) → (∃ oa, h₅.get? a = some oa) → h₅.get? s₄.heap.objs.size = some oC →
            WalksS prog w A.in4 a (a :: s₄.heap.objs.size :: fpx) (s₄.heap.objs.size :: wr) (GenOnlyQ s₄.gens.size) (passing pz n₀ 0).length
              (fun j y => ∃ i, (passing pz n₀ 0)[j]? = some i ∧ F i y) (GenAt prog w A.in4 a s₄.gens.size s₄.heap.objs.size fpx wr pz n₀ F) →
            GenAt prog w A.in4 a s₄.gens.size s₄.heap.objs.size fpx wr pz n₀ F 0 { s₄ with gens := s₄.gens.push gs, toks := tk, heap := h₅ } →
            Q (.ref a) { s₄ with gens := s₄.gens.push gs, toks := tk, heap := h₅ })) E s₃) E s₂) E s₁) E s)
    (hs : ∀ x, genFold iter env x = pure x) :
    wpAny (model prog w) A (eval (.GeneratorExp elt [⟨.Name x px, iter, ifs, 0⟩] scope pos) env) Q E s := by
  refine wpAny_GeneratorExp_make hco hclos hcell h0 hkind hroom (wpAny_mono h (fun xv s₁ h₁ => wpAny_mono h₁ (fun it s₂ h₂ => ⟨h₂.1, wpAny_mono h₂.2 (fun code s₃ h₃ => wpAny_mono h₃ (fun bi s₄ h₄ => ?_)
    fun _ _ e => e) fun _ _ e => e⟩) fun _ _ e => e) fun _ _ e => e) hs
  obtain ⟨I, fp, wr, n₀, P, St₀, pz, F, fpx, rfl, W₀, hst, hfp, hfx, hl₄, hcw, hcf, hq, hQ⟩ := h₄
  have hclt : cStatics < s₄.heap.objs.size := let ⟨_, hn, _⟩ := hl₄; hn.lt
  intro h' hn' hs'
  have hsz : h'.objs.size = s₄.heap.objs.size + 1 := by rw [hs'.1, Heap.size_push]
  have keep' : ∀ b o, s₄.heap.get? b = some o → h'.get? b = some o := fun b o e => hs'.extBut b o (Nat.ne_of_lt (Heap.lt_size e)) (Heap.get?_push_of_some _ e)
  have hsub : ∀ b ∈ wr, b ∈ fpx := fun b hb => hfp b ((W₀ A hh).sub b hb)
  have haC : h'.objs.size ≠ s₄.heap.objs.size := by rw [hsz]; exact Nat.succ_ne_self _
  have haf : h'.objs.size ∉ fpx := fun hm => by have := hfx _ hm; omega
  have keep₅ : ∀ b o, s₄.heap.get? b = some o → (h'.push { cls := .type "generator", data := .fields #[.int s₄.gens.size 0, .str "<genexpr>" (s₄.toks + 1), .str (env.qual ++ "<genexpr>") (s₄.toks + 1 + 1)] }).get? b = some o :=
    fun b o e => Heap.get?_push_of_some _ (keep' b o e)
  obtain ⟨oC, _, _, hoC, _⟩ := id hn'
  refine hQ _ _ _ _ oC rfl (by omega) (by rw [Heap.size_push]) keep₅ ⟨_, Heap.get?_push_size _ rfl⟩ (Heap.get?_push_of_some _ hoC) (WalksS.genexpQ (A := A.in4) hh _ _ _ _ wr pz n₀ F haC haf hsub hroom hcf (Nat.ne_of_lt hclt) hcw) ?_
  refine GenAt.freshD (A := A.in4) (cenv := genEnv scope cl s₄.heap.objs.size code bi env) (m := fun y => if y = ".0" then some (.ref I) else none) hh
    (fun A' hA => (W₀ A' hA).mono_fp hfp) pz F hx (by simp [genEnv, hkind]) hco
    (fun hm => Nat.lt_irrefl _ (hfx _ hm)) (hq _ keep₅) ⟨_, _, _, Heap.get?_push_size _ rfl, rfl, rfl, rfl⟩ (Array.getElem?_push_size ..) ((W₀ A hh).frame _ _ _ hst fun b _ o e => keep₅ b o e) (hn'.push _) (hl₄.keeps keep₅)
end

theorem genAt_move {prog : Program} {w : World} {A : Around} {a : Addr} {g : Nat} {C : Addr} {fp wr : List Addr} {pz : Nat → Bool} {n₀ : Nat} {F : Nat → Value → Prop} {j : Nat} {s s' : Shared} (x : GenAt prog w A a g C fp wr pz n₀ F j s)
    (hg : s'.gens = s.gens) (hk : ∀ b ∈ a :: C :: fp, ∀ o, s.heap.get? b = some o → s'.heap.get? b = some o) (hc : cStatics ∈ fp) : GenAt prog w A a g C fp wr pz n₀ F j s' := by
  obtain ⟨⟨o, p, q, ho, r⟩, ⟨mc, hn, hz⟩, gs, hgs, h⟩ := x
  exact ⟨⟨o, p, q, hk _ (.head _) _ ho, r⟩, ⟨mc, hn.at' (hk _ (.tail _ (.tail _ hc))), hz⟩, gs, by rw [hg]; exact hgs, fun s'' hal => h s'' fun b hb o e => hal b hb o (hk b (.tail _ hb) o e)⟩
theorem passing_all (n : Nat) : passing (fun _ => true) n 0 = List.range n := by
  unfold passing; simp
theorem ext_at {α : Type} {l l' : List α} (h : l.length = l'.length) (e : ∀ (j : Nat) a b, l[j]? = some a → l'[j]? = some b → a = b) : l = l' := by
  apply List.ext_getElem h
  intro n h1 h2
  exact e n _ _ (List.getElem?_eq_getElem h1) (List.getElem?_eq_getElem h2)
/-- the texts that the generator gives -/
noncomputable def firstsOf (rows : List (Int × Int × Int)) : List Str := rows.map fun r => Str.ofString (toString r.1)
theorem items_eq {rows : List (Int × Int × Int)} {l : List (Str × Tok)} {n : Nat} (hn : n = rows.length)
    (h : ItemsOf (fun j y => ∃ i, (passing (fun _ => true) n 0)[j]? = some i ∧ (fun i y => ∃ r t, rows[i]? = some r ∧ y = Value.str (Str.ofString (toString r.1)) t) i y) (strValues l).toArray (passing (fun _ => true) n 0).length) : l.map (·.1) = firstsOf rows := by
  obtain ⟨h1, h2⟩ := h
  rw [passing_all] at h1
  have hl : l.length = rows.length := by simpa [strValues, hn] using h1
  refine ext_at (by simp [firstsOf, hl]) fun j x y hx hy => ?_
  obtain ⟨p, hp, rfl⟩ : ∃ p, l[j]? = some p ∧ p.1 = x := by simpa using hx
  obtain ⟨r, hr, rfl⟩ : ∃ r, rows[j]? = some r ∧ Str.ofString (toString r.1) = y := by simpa [firstsOf] using hy
  obtain ⟨i, hi, r', t, hr', e⟩ := h2 j (.str p.1 p.2) (by simp [strValues, hp])
  rw [passing_all] at hi
  obtain ⟨hj, hi⟩ := List.getElem?_eq_some_iff.mp hi
  simp at hi
  subst hi
  rw [hr] at hr'; cases hr'
  injection e
theorem text_short {n : Int} (h0 : 0 ≤ n) (h1 : n ≤ 100000) : (Str.ofString (toString n)).length ≤ 7 := by
  rw [PySem.ofString_length]
  have e : (10 : Nat) ^ 6 = 1000000 := by decide
  exact int_text_length_le10 (k := 6) (by decide) (by omega)
theorem firsts_sum {rows : List (Int × Int × Int)} (hb : ∀ r ∈ rows, 0 ≤ r.1 ∧ r.1 ≤ 100000) : ((firstsOf rows).map (·.length)).sum ≤ 7 * rows.length := by
  induction rows with
  | nil => simp [firstsOf]
  | cons r rs ih =>
    have h1 := text_short (hb r (.head _)).1 (hb r (.head _)).2
    have h2 := ih fun q hq => hb q (.tail _ hq)
    simp only [firstsOf, List.map_cons, List.sum_cons, List.length_cons] at h2 ⊢
    omega
theorem firsts_ok {rows : List (Int × Int × Int)} (hb : ∀ r ∈ rows, 0 ≤ r.1 ∧ r.1 ≤ 100000) (hn : rows.length ≤ 1000) : JoinOk (Str.ofString ", ") (firstsOf rows) = true := by
  have h := firsts_sum hb
  have h2 : (firstsOf rows).length = rows.length := by simp [firstsOf]
  exact joinOk_of_weight (by omega) (by decide +kernel)
theorem firsts_len {rows : List (Int × Int × Int)} (hb : ∀ r ∈ rows, 0 ≤ r.1 ∧ r.1 ≤ 100000) (hn : rows.length ≤ 1000) : (Txt.join (Str.ofString ", ") (firstsOf rows)).length ≤ 9000 := by
  have h := firsts_sum hb
  have h2 : (firstsOf rows).length = rows.length := by simp [firstsOf]
  show (Builtin.Str.glued (Str.ofString ", ") (firstsOf rows)).length ≤ 9000
  rw [StrLaws.glued_eq_join]
  refine Nat.le_trans (StrLaws.join_length_le _ _) ?_
  have h3 : (Str.ofString ", ").length = 2 := by decide +kernel
  rw [h3]; omega
end Mine
end

section
open PySem PySem.W PyProof.Rows
namespace Mine
theorem sec_G1 {M : Model} {A : Around} {E : Value → Shared → Prop} {s : Shared} {env : Env} {p : Pos} {Q : Flow → Shared → Prop} (h : Q .next s) : wpAny M A (exec (.Pass p) env) Q E s := by
  w_top off
  k_with_none
  walk1
  exact h
end Mine
end
section
open PySem PySem.W PyProof.Rows PySem.Calls
set_option maxRecDepth 100000
set_option maxHeartbeats 400000
namespace Mine
theorem eltStr (w : World) {A : Around} {E : Value → Shared → Prop} {s : Shared} {cenv : Env} {m mg mb : Str → Option Value} {ta : Addr} {i j k : Int} {t1 t2 t3 : Tok} {p1 p2 p3 p4 p5 : Pos}
    (hk : cenv.scope.kind = .function) (hl : cenv.kindOf (Str.ofString "tup") = some .local) (hs : cenv.kindOf (Str.ofString "str") = some .globalImplicit)
    (ns : s.heap.Ns cenv.locals m) (hv : m (Str.ofString "tup") = some (.ref ta)) (ht : IsTup s.heap ta #[.int i t1, .int j t2, .int k t3]) (hi : 0 ≤ i ∧ i ≤ 100000)
    (gl : s.heap.Ns cenv.globals mg) (hm : mg (Str.ofString "str") = none) (bl : s.heap.Ns cenv.builtins mb) (hb : mb (Str.ofString "str") = some (.type "str")) :
    wpAny (model PySem.Challenge.rw_rs0140_02.prog w) A (eval (.Call (.Name (Str.ofString "str") p1) [.Subscript (.Name (Str.ofString "tup") p2) (.Constant (.int 0) 0 p3) p4] [] p5) cenv) (fun y s' => (∃ t, y = .str (Str.ofString (toString i)) t) ∧ Keeps s s') E s := by
  walk1
  refine wpAny_Name ?_
  rw [loadName_read hk hs]
  refine loadGlobal_builtin gl hm bl hb ?_
  walk1
  walk1
  walk1
  refine wpAny_Name (wpAny_loadName_local hk hl ns hv ?_)
  walk1
  refine item_tupleT (l := [.int i t1, .int j t2, .int k t3]) ht (by decide) (by decide) rfl rfl ?_
  walk1
  refine str_of_int_fit (N := 1000000) (by split <;> omega) (by decide) ?_
  intro tt
  exact ⟨⟨_, rfl⟩, ⟨s.heap, _, rfl, fun _ _ e => e⟩⟩
end Mine
end

section
open PySem PySem.W PyProof.Rows
namespace Mine
theorem sec_F1 {M : Model} {A : Around} {E : Value → Shared → Prop} {s : Shared} {env : Env} {p : Pos} {Q : Flow → Shared → Prop} (h : Q .next s) : wpAny M A (exec (.Pass p) env) Q E s := by
  w_top off
  k_with_none
  walk1
  exact h
end Mine
end
section
open PySem PySem.W PyProof.Rows
set_option maxRecDepth 100000
set_option maxHeartbeats 2000000
namespace Mine
noncomputable def fmtText (rows : List (Int × Int × Int)) : Str := (if 1 < rows.length then Str.ofString "at tab sizes" else Str.ofString "at tab size") ++ Str.ofString " " ++ Txt.join (Str.ofString ", ") (firstsOf rows)
theorem fmt_many {rows : List (Int × Int × Int)} {n : Nat} {t : Tok} (hn : n = rows.length) (h : 1 < (n : Int)) : ∃ t', Value.str (Str.ofString "at tab sizes" ++ Str.ofString " " ++ Txt.join (Str.ofString ", ") (firstsOf rows)) t = Value.str (fmtText rows) t' := by
  refine ⟨t, ?_⟩; unfold fmtText; rw [if_pos (by omega)]
theorem fmt_one {rows : List (Int × Int × Int)} {n : Nat} {t : Tok} (hn : n = rows.length) (h : ¬ 1 < (n : Int)) : ∃ t', Value.str (Str.ofString "at tab size" ++ Str.ofString " " ++ Txt.join (Str.ofString ", ") (firstsOf rows)) t = Value.str (fmtText rows) t' := by
  refine ⟨t, ?_⟩; unfold fmtText; rw [if_neg (by omega)]
theorem fmt_ok (w : World) (a : Addr) (vs : List Value) (k : Nat) (rows : List (Int × Int × Int)) (news : Led) (hl : (a, W.listOf vs.toArray k) ∈ news) (hr : RowsAt news vs rows) (hn : rows.length ≤ 1000) (hb : ∀ r ∈ rows, 0 ≤ r.1 ∧ r.1 ≤ 100000) :
   SpecG 4 w 94 [.ref a] news (fun r tl _ => tl = [] ∧ ∃ t, r = .str (fmtText rows) t) := by
  unfold SpecG SpecX
  k_fill
  intro loose mean mg mb dp un gd cn cs a₁ ccd cl outer A₀ base h₀ L m s Q E t1 t2 cd B F X N ht1 ht2 hT T hk hd hu hret
  replace hl := List.mem_append.mpr (Or.inr hl : _ ∈ cd ∨ _ ∈ news)
  replace hr := hr.mono fun p hp => List.mem_append.mpr (Or.inr hp : p ∈ cd ∨ p ∈ news)
  replace hret := fun r t1' s' F' N' h1 e R => hret r [] t1' t2 cd s' F' N' h1 ht2 hT (fun _ h => h) (fun _ h => .inl h) (fun _ h => (nomatch h)) ⟨rfl, e⟩ R
  dsimp only [List.nil_append] at hret
  generalize cd ++ news = nn at *
  refine wpAny_call ?_
  k_dflt (walk_at "mine enter")
  (repeat' (first | (k_unfold; (try dsimp only)) | (k_end; wrow_close) | (first | ((with_reducible show wpAny _ _ (eval (Expr.GeneratorExp _ _ _ _) _) _ _ _); (with_reducible refine holdIt ?_)) | (k_here; (with_reducible show wpAny _ _ (call (Value.builtin "len") [Value.ref _]) _ _ _); k_dflt (refine' lenL ?k1 ?k2 ?k3 ?_; (case k1 => k_asm); (case k2 => first | assumption | k_mem); (case k3 => omega); k_whole)) | walk1) | (dsimp only; (first | ((with_reducible show wpAny _ _ (eval (Expr.GeneratorExp _ _ _ _) _) _ _ _); (with_reducible refine holdIt ?_)) | (k_here; (with_reducible show wpAny _ _ (call (Value.builtin "len") [Value.ref _]) _ _ _); k_dflt (refine' lenL ?k1 ?k2 ?k3 ?_; (case k1 => k_asm); (case k2 => first | assumption | k_mem); (case k3 => omega); k_whole)) | walk1)) | (leave1; walk_say "STEP leave1"; try dsimp only) | fail "no step"))
  rename_i g L' h' FG' N' B' X' T' _ _ _ F'
  unfold Hold
  refine genWalks rfl rfl rfl (by decide) rfl rfl rfl (by ktr_room) ?_ (by intro _; rfl)
  walk1
  refine wpAny_pyIter_list (N'.isList (List.Mem.tail _ (List.Mem.tail _ hl))) ?_
  refine ⟨(T'.nolimit.keeps F'.keep).keeps fun b o e => Heap.get?_push_of_some _ e, ?_⟩
  have hI : L' < h'.objs.size := F'.ns.lt
  have hm89 := N' (tb1 t1) (.head _)
  have Fp := F'.push { cls := Value.type "list_iterator", data := Data.fields #[Value.ref a, Value.int 0 0] }
  have Np : News g L' (h'.push { cls := Value.type "list_iterator", data := Data.fields #[Value.ref a, Value.int 0 0] }) ((h'.objs.size, { cls := Value.type "list_iterator", data := Data.fields #[Value.ref a, Value.int 0 0] }) :: tb1 t1 :: tb2 t2 :: nn) := N'.push F' _
  refine genCodeT (c := 93) (P := 89) (ps := t1) rfl (codeHd_of_K (X'.keeps Fp.keep) (by kernel_rfl)) (Np (tb1 t1) (.tail _ (.head _))).1 ht1 ?_
  intro code h2 tk2 ps' hx hP' ht'
  have h89 : @LT.lt Nat _ 89 h'.objs.size := Heap.lt_size hm89.1
  have hL89 : L' ≠ 89 := fun q => hm89.2.1 q.symm
  have F2 := frExt Fp hx hm89.2.2 hL89
  have N2a : News g L' h2 ((h'.objs.size, { cls := Value.type "list_iterator", data := Data.fields #[Value.ref a, Value.int 0 0] }) :: tb2 t2 :: nn) := newsExt (P := 89) (fun p hp => by rcases List.mem_cons.mp hp with rfl | hp; exact Np _ (.head _); exact Np _ (.tail _ (.tail _ hp))) hx
    (List.forall_mem_cons.mpr ⟨Nat.ne_of_gt h89, List.forall_mem_cons.mpr ⟨(by decide : (157 : Nat) ≠ 89), fun p hp => Nat.ne_of_gt (Nat.lt_trans (by decide) (hT p hp))⟩⟩)
  have N2 : News g L' h2 ((h'.objs.size, { cls := Value.type "list_iterator", data := Data.fields #[Value.ref a, Value.int 0 0] }) :: tb1 ps' :: tb2 t2 :: nn) := fun p hp => by
    rcases List.mem_cons.mp hp with rfl | hp
    · exact N2a _ (.head _)
    · rcases List.mem_cons.mp hp with rfl | hp
      · exact ⟨hP', hm89.2⟩
      · exact N2a _ (.tail _ hp)
  obtain ⟨bm, ob, hbm, hne, hbo, hcls, hdict, hdata⟩ := T'.bmain
  refine wpAny_builtinsFor (T'.g.keeps F2.keep) hbm hne (F2.keep _ _ hbo) hcls hdict hdata ?_
  obtain ⟨mc, hmc, _⟩ := T'.nolimit
  obtain ⟨oc, hoc⟩ := ns_some hmc
  have hal : a ≠ h'.objs.size := Nat.ne_of_lt (Heap.lt_size (N' _ (.tail _ (.tail _ hl))).1)
  have hcs : cStatics ∈ (List.range h2.objs.size).filter (fun b => (g.get? b).isSome) ++ (h'.objs.size :: nn.map (·.1)) := List.mem_append.mpr (.inl (List.mem_filter.mpr ⟨List.mem_range.mpr (Heap.lt_size (F2.keep _ _ hoc)), by rw [hoc]; rfl⟩))
  refine ⟨h'.objs.size, [h'.objs.size, a], [h'.objs.size], vs.toArray.size, fun i v => vs.toArray[i]? = some v, _, fun _ => true, fun i y => ∃ r t, rows[i]? = some r ∧ y = .str (Str.ofString (toString r.1)) t,
    (List.range h2.objs.size).filter (fun b => (g.get? b).isSome) ++ (h'.objs.size :: nn.map (·.1)), rfl, fun A' hA => Walks.list hA _ a hal vs.toArray, ?w1, ?w2, ?w3, T'.nolimit.keeps F2.keep, ?w4, ?w5, ?w6, ?w7⟩
  case w1 => exact ⟨⟨_, (N2 _ (.head _)).1, rfl, rfl⟩, N2.isList (.tail _ (.tail _ (.tail _ hl)))⟩
  case w2 =>
    intro b hb
    rcases List.mem_cons.mp hb with rfl | hb
    · exact List.mem_append.mpr (.inr (.head _))
    · rw [List.mem_singleton.mp hb]; exact List.mem_append.mpr (.inr (.tail _ (List.mem_map.mpr ⟨_, hl, rfl⟩)))
  case w3 =>
    intro b hb
    rcases List.mem_append.mp hb with hb | hb
    · exact List.mem_range.mp (List.mem_filter.mp hb).1
    · rcases List.mem_cons.mp hb with rfl | hb
      · exact Heap.lt_size (N2 _ (.head _)).1
      · obtain ⟨q, hq, rfl⟩ := List.mem_map.mp hb
        exact Heap.lt_size (N2 _ (.tail _ (.tail _ (.tail _ hq)))).1
  case w4 => intro hm; have e := List.mem_singleton.mp hm; exact absurd (Nat.lt_of_lt_of_le (Heap.lt_size hoc) F'.above) (by rw [e]; exact Nat.not_lt.mpr (Nat.le_of_lt hI))
  case w5 => exact hcs
  case w6 =>
    intro href hk6
    refine ⟨?_, ?_⟩
    · intro A' E' i v s₂ m₂ _ _ _ _ _ _ _
      exact wpAny_pure ⟨rfl, ⟨s₂.heap, s₂.toks, rfl, fun _ _ e => e⟩⟩
    · intro A' E' i v s₂ m₂ hh' hd' hu' hv _ hns hmv hkb
      obtain ⟨ta, q1, q2, q3, qn, r, rfl, hri, hmem⟩ := hr.at (by simpa using hv)
      have hgk : ∀ b o, g.get? b = some o → s₂.heap.get? b = some o := by
        intro b o e
        have e1 : @LT.lt Nat _ b L' := Nat.lt_of_lt_of_le (Heap.lt_size e) F'.above
        refine hkb b (List.mem_append.mpr (.inl (List.mem_filter.mpr ⟨List.mem_range.mpr (Heap.lt_size (F2.keep _ _ e)), by rw [e]; rfl⟩))) (fun hm => ?_) o (hk6 _ _ (F2.keep _ _ e))
        exact absurd (Nat.lt_trans e1 hI) (by rw [List.mem_singleton.mp hm]; exact Nat.lt_irrefl _)
      have hta := N2 _ (.tail _ (.tail _ (.tail _ hmem)))
      have hti : IsTup s₂.heap ta #[.int r.1 q1, .int r.2.1 q2, .int r.2.2 q3] := by
        refine ⟨_, hkb ta (List.mem_append.mpr (.inr (.tail _ (List.mem_map.mpr ⟨_, hmem, rfl⟩)))) (fun hm => ?_) _ (hk6 _ _ hta.1), rfl, _, rfl⟩
        have := Heap.lt_size (N' _ (.tail _ (.tail _ hmem))).1
        exact absurd this (by rw [List.mem_singleton.mp hm]; exact Nat.lt_irrefl _)
      have hrb := hb r (List.mem_of_getElem? hri)
      refine wpAny_mono (eltStr w (cenv := genEnv _ _ _ _ _ _) rfl rfl rfl hns hmv hti hrb (T'.g.keeps hgk) ?_ (T'.b.keeps hgk) ?_) (fun y s3 hy => ?_) (fun _ _ e => e)
      · exact mg_none_of X' T'.g (by k_is)
      · exact (T'.builtins _ (by decide)).trans boot_str
      · obtain ⟨⟨t, rfl⟩, hk3⟩ := hy
        exact ⟨⟨r, t, hri, rfl⟩, hk3⟩
  case w7 =>
    intro a' h5 tk5 gs oC hbare hsz hsz5 keep5 hoa hoC Wk Gk
    obtain ⟨oa, hoa⟩ := hoa
    have F5 := F2.keeps keep5
    have hI2 : L' < h2.objs.size := F2.ns.lt
    have N5 := newsCons F5 (newsCons F5 (newsKeep N2 keep5) hoC hI2) hoa (Nat.lt_trans hI2 hsz)
    have key : ∀ h m', Fr g L' h m' → News g L' h ((a', oa) :: (h2.objs.size, oC) :: (h'.objs.size, { cls := Value.type "list_iterator", data := Data.fields #[Value.ref a, Value.int 0 0] }) :: tb1 ps' :: tb2 t2 :: nn) → ∀ b ∈ a' :: h2.objs.size :: ((List.range h2.objs.size).filter (fun b => (g.get? b).isSome) ++ (h'.objs.size :: nn.map (·.1))), ∀ o, h5.get? b = some o → h.get? b = some o := by
      intro h m' Fh Nh b hb o ho
      have byN : ∀ q : Addr × Obj, q ∈ ((a', oa) :: (h2.objs.size, oC) :: (h'.objs.size, { cls := Value.type "list_iterator", data := Data.fields #[Value.ref a, Value.int 0 0] }) :: tb1 ps' :: tb2 t2 :: nn) → q.1 = b → h.get? b = some o := by
        intro q hq e
        subst e
        have e1 := (N5 q hq).1
        rw [e1] at ho
        rw [← ho]; exact (Nh q hq).1
      rcases List.mem_cons.mp hb with rfl | hb
      · exact byN _ (.head _) rfl
      · rcases List.mem_cons.mp hb with rfl | hb
        · exact byN _ (.tail _ (.head _)) rfl
        · rcases List.mem_append.mp hb with hb | hb
          · obtain ⟨og, hog⟩ := Option.isSome_iff_exists.mp (List.mem_filter.mp hb).2
            have e1 := F5.keep _ _ hog
            rw [e1] at ho
            rw [← ho]; exact Fh.keep _ _ hog
          · rcases List.mem_cons.mp hb with rfl | hb
            · exact byN _ (.tail _ (.tail _ (.head _))) rfl
            · obtain ⟨q, hq, e⟩ := List.mem_map.mp hb
              exact byN q (.tail _ (.tail _ (.tail _ (.tail _ (.tail _ hq))))) e
    have has5 : ∀ b ∈ a' :: h2.objs.size :: ((List.range h2.objs.size).filter (fun b => (g.get? b).isSome) ++ (h'.objs.size :: nn.map (·.1))), ∃ o, h5.get? b = some o := by
      intro b hb
      rcases List.mem_cons.mp hb with rfl | hb
      · exact ⟨_, hoa⟩
      · rcases List.mem_cons.mp hb with rfl | hb
        · exact ⟨_, hoC⟩
        · rcases List.mem_append.mp hb with hb | hb
          · obtain ⟨og, hog⟩ := Option.isSome_iff_exists.mp (List.mem_filter.mp hb).2
            exact ⟨_, F5.keep _ _ hog⟩
          · rcases List.mem_cons.mp hb with rfl | hb
            · exact ⟨_, (N5 _ (.tail _ (.tail _ (.head _)))).1⟩
            · obtain ⟨q, hq, rfl⟩ := List.mem_map.mp hb
              exact ⟨_, (N5 q (.tail _ (.tail _ (.tail _ (.tail _ (.tail _ hq)))))).1⟩
    have hll := hr.length
    have hwr : ∀ p ∈ tb1 ps' :: tb2 t2 :: nn, p.1 ∉ [h2.objs.size, h'.objs.size] := by
      intro p hp hm
      have e1 : @LT.lt Nat _ p.1 h2.objs.size := Heap.lt_size (N2 p (.tail _ hp)).1
      have e2 : @LT.lt Nat _ p.1 h'.objs.size := by
        rcases List.mem_cons.mp hp with rfl | hp
        · exact h89
        · exact Heap.lt_size (N' p (.tail _ hp)).1
      rcases List.mem_cons.mp hm with q | hm
      · exact absurd e1 (by rw [q]; exact Nat.lt_irrefl _)
      · exact absurd e2 (by rw [List.mem_singleton.mp hm]; exact Nat.lt_irrefl _)
    have hLwr : L' ∉ [h2.objs.size, h'.objs.size] := by
      intro hm
      rcases List.mem_cons.mp hm with q | hm
      · exact absurd hI2 (by rw [← q]; exact Nat.lt_irrefl _)
      · exact absurd hI (by rw [← List.mem_singleton.mp hm]; exact Nat.lt_irrefl _)
    have hgwr : ∀ b o, g.get? b = some o → b ∉ [h2.objs.size, h'.objs.size] := by
      intro b o e hm
      have e1 : @LT.lt Nat _ b L' := Nat.lt_of_lt_of_le (Heap.lt_size e) F5.above
      rcases List.mem_cons.mp hm with q | hm
      · exact absurd (Nat.lt_trans e1 hI2) (by rw [q]; exact Nat.lt_irrefl _)
      · exact absurd (Nat.lt_trans e1 hI) (by rw [List.mem_singleton.mp hm]; exact Nat.lt_irrefl _)
    have hlz : (a, W.listOf vs.toArray k) ∈ ((a', oa) :: (h2.objs.size, oC) :: (h'.objs.size, { cls := Value.type "list_iterator", data := Data.fields #[Value.ref a, Value.int 0 0] }) :: tb1 ps' :: tb2 t2 :: nn) := .tail _ (.tail _ (.tail _ (.tail _ (.tail _ hl))))
    clear F' N' Fp Np F2 N2a N2
    (repeat' (first | (k_unfold; (try dsimp only)) | (k_end; wrow_close) | (first | ((with_reducible show wpAny _ _ (eval (Expr.GeneratorExp _ _ _ _) _) _ _ _); (with_reducible refine holdIt ?_)) | (k_here; (with_reducible show wpAny _ _ (call (Value.builtin "len") [Value.ref _]) _ _ _); k_dflt (refine' lenL ?k1 ?k2 ?k3 ?_; (case k1 => k_asm); (case k2 => first | assumption | k_mem); (case k3 => omega); k_whole)) | walk1) | (dsimp only; (first | ((with_reducible show wpAny _ _ (eval (Expr.GeneratorExp _ _ _ _) _) _ _ _); (with_reducible refine holdIt ?_)) | (k_here; (with_reducible show wpAny _ _ (call (Value.builtin "len") [Value.ref _]) _ _ _); k_dflt (refine' lenL ?k1 ?k2 ?k3 ?_; (case k1 => k_asm); (case k2 => first | assumption | k_mem); (case k3 => omega); k_whole)) | walk1)) | (leave1; walk_say "STEP leave1"; try dsimp only) | fail "no step"))
    all_goals (
      rename Fr _ _ _ _ => Fz
      rename News _ _ _ _ => Nz
      refine SC.joinGen (WalksS.in4_2 Wk) (fun i s st => st.1.typeIs) (genAt_move Gk rfl (key _ _ Fz Nz) hcs) (fun b hb => let ⟨o, ho⟩ := has5 b hb; Heap.lt_size (key _ _ Fz Nz b hb o ho)) (.head _) ?_ ?_ ?_
      · rintro i v ⟨i', _, r, t, _, rfl⟩; exact ⟨_, _, rfl⟩
      · intro s' l hm hi
        have e := items_eq (by simp [hll]) hi
        rw [e]
        refine ⟨firsts_ok hb hn, fun t' k => ?_⟩
        have Fs : Fr g L' s'.heap _ := ⟨Fz.ns.at' fun o e => hm.heap _ _ hLwr e, fun b o e => hm.heap _ _ (hgwr b o e) (Fz.keep b o e), Fz.above⟩
        have Ns : News g L' s'.heap (tb1 ps' :: tb2 t2 :: nn) := fun p hp => ⟨hm.heap _ _ (hwr p hp) (Nz p (.tail _ (.tail _ (.tail _ hp)))).1, (Nz p (.tail _ (.tail _ (.tail _ hp)))).2⟩
        have hJ := firsts_len hb hn
        clear Fz Nz
        (repeat' (first | (k_unfold; (try dsimp only)) | (k_end; wrow_close) | (first | ((with_reducible show wpAny _ _ (eval (Expr.GeneratorExp _ _ _ _) _) _ _ _); (with_reducible refine holdIt ?_)) | (k_here; (with_reducible show wpAny _ _ (call (Value.builtin "len") [Value.ref _]) _ _ _); k_dflt (refine' lenL ?k1 ?k2 ?k3 ?_; (case k1 => k_asm); (case k2 => first | assumption | k_mem); (case k3 => omega); k_whole)) | walk1) | (dsimp only; (first | ((with_reducible show wpAny _ _ (eval (Expr.GeneratorExp _ _ _ _) _) _ _ _); (with_reducible refine holdIt ?_)) | (k_here; (with_reducible show wpAny _ _ (call (Value.builtin "len") [Value.ref _]) _ _ _); k_dflt (refine' lenL ?k1 ?k2 ?k3 ?_; (case k1 => k_asm); (case k2 => first | assumption | k_mem); (case k3 => omega); k_whole)) | walk1)) | (leave1; walk_say "STEP leave1"; try dsimp only) | fail "no step"))
        exact hret _ ps' _ (by k_asm) (by k_asm) ht' (by first | exact fmt_many hll (by assumption) | exact fmt_one hll (by assumption)) ⟨hm.os, hm.drawn, fun hB => hm.gens.bare (AllBare.push hB hbare)⟩
      · rw [passing_all]; simp [sizeLine_eq]; omega)
end Mine
end

section
open PySem PySem.W PyProof.Rows
namespace Mine
theorem sec_LA {M : Model} {A : Around} {E : Value → Shared → Prop} {s : Shared} {env : Env} {p : Pos} {Q : Flow → Shared → Prop} (h : Q .next s) : wpAny M A (exec (.Pass p) env) Q E s := by
  w_top off
  k_with_none
  walk1
  exact h
end Mine
end
section
open PySem PySem.W PyProof.Rows PySem.Calls PySem.Spec
set_option maxRecDepth 100000
namespace Mine
section loops
variable {prog : Program} {w : World} {A : Around} {E : Value → Shared → Prop} {s : Shared} {env : Env} {h₀ : Heap} {x : Str} {body : List Stmt} {Q : Flow → Shared → Prop}
/-- a loop over a list of the ledger's -/
theorem loopList {σ : Type} {ax : Addr} {vs : List Value} {k : Nat} {m₀ : Str → Option Value} (Ld : σ → Led) (ps : σ → List (Str × Value)) (stored : List Str) (P : Addr → Nat → σ → Prop) (Fin : σ → Prop) (c₀ : σ)
    (hh : A.handled = none) (hin : ∀ c, (ax, W.listOf vs.toArray k) ∈ Ld c) (F : Fr h₀ env.locals s.heap m₀) (N : News h₀ env.locals s.heap (Ld c₀)) (hk : ∀ p ∈ ps c₀, m₀ p.1 = some p.2)
    (hp : ∀ I, (∀ p ∈ Ld c₀, p.1 < I) → P I 0 c₀)
    (turn : ∀ I, (∀ p ∈ Ld c₀, p.1 < I) → ∀ (c : σ) i v (u : Str → Option Value) h tk o, vs[i]? = some v → P I i c → (∀ p ∈ Ld c, p.1 ≠ I) →
      Fr h₀ env.locals h (fun y => if y = x then some v else kstB (fun z => if stored.contains z then u z else m₀ z) (ps c) y) → News h₀ env.locals h ((I, o) :: Ld c) →
      ∀ s₁ : Shared, s₁ = { s with heap := h, toks := tk } → wpAny (model prog w) A (execs body env) (Turn h₀ env.locals x m₀ stored Ld ps I o s₁ (P I (i + 1)) Fin Q) E s₁)
    (done : ∀ I c, P I vs.length c → Fin c)
    (fin : ∀ (c : σ) (u : Str → Option Value) h tk, Fin c → Fr h₀ env.locals h (fun y => if y = x then u y else kstB (fun z => if stored.contains z then u z else m₀ z) (ps c) y) → News h₀ env.locals h (Ld c) → Q .next { s with heap := h, toks := tk }) :
    wpAny (model prog w) A (pyIter (.ref ax)) (fun it s₂ => LoopAtV prog w A h₀ env x body Q E it s₂) E s := by
  have hlt : ∀ p ∈ Ld c₀, p.1 < s.heap.objs.size := fun p hp => Heap.lt_size (N p hp).1
  have hax := N _ (hin c₀)
  have hne : ax ≠ s.heap.objs.size := Nat.ne_of_lt (Heap.lt_size hax.1)
  refine wpAny_pyIter_list (N.isList (hin c₀)) ?_
  have Wk := Walks.list (prog := prog) (w := w) hh s.heap.objs.size ax hne vs.toArray
  have hIL : env.locals ≠ s.heap.objs.size := fun e => absurd F.ns.lt (e ▸ Nat.lt_irrefl _)
  have hI0 : h₀.get? s.heap.objs.size = none := next_is_new F
  generalize hI : s.heap.objs.size = I at *
  let J : Nat → (Str → Option Value) → Led → Prop := fun i m nx => ∃ c : σ, nx = Ld c ∧ (∀ p ∈ ps c, m p.1 = some p.2) ∧ (∀ z, z ≠ x → (∀ p ∈ ps c, z ≠ p.1) → stored.contains z = false → m z = m₀ z) ∧ P I i c
  have hN' : News h₀ env.locals (s.heap.push { cls := .type "list_iterator", data := .fields #[.ref ax, .int 0 0] }) (Ld c₀) := fun p hp => ⟨Heap.get?_push_of_some _ (N p hp).1, (N p hp).2⟩
  have hget : (s.heap.push { cls := .type "list_iterator", data := .fields #[.ref ax, .int 0 0] }).get? I = some { cls := .type "list_iterator", data := .fields #[.ref ax, .int 0 0] } := hI ▸ Heap.get?_push_size _ rfl
  refine ⟨I, [I, ax], [I], vs.toArray.size, _, _, m₀, Ld c₀, J, rfl, Wk, ?_, ?_, ?_, ⟨⟨_, hget, rfl, rfl⟩, hN'.isList (hin c₀)⟩, F.push _, hN', ⟨c₀, rfl, hk, fun _ _ _ _ => rfl, hp I hlt⟩, ?_, ?_⟩
  · intro hm
    rcases List.mem_cons.mp hm with e | hm
    · exact hIL e
    · exact hax.2.1 (List.mem_singleton.mp hm).symm
  · intro b hb; rw [List.mem_singleton.mp hb]; exact hI0
  · intro p hp hm; exact absurd (hlt p hp) (by rw [List.mem_singleton.mp hm]; exact Nat.lt_irrefl _)
  · rintro i v m₁ news₁ s₁ own ⟨hh1, tk, rfl⟩ hi hP ⟨c, rfl, h1, h2, hPc⟩ hoff hown hget1 hall hst' F₁ N₁
    have hne1 : ∀ p ∈ Ld c, p.1 ≠ I := fun p hp e => hoff p hp (by rw [e]; exact .head _)
    obtain ⟨o, ho, _⟩ := hst'.1
    have hmem : (I, o) ∈ own := hall I (.head _) hI0 o ho
    have hown' : ∀ p ∈ own, p = (I, o) ∨ p = (ax, W.listOf vs.toArray k) := fun p hp => by
      have e2 := hget1 p hp
      rcases List.mem_cons.mp (hown p hp) with e1 | e1
      · rw [e1] at e2
        exact .inl (Prod.ext e1 (Option.some.inj (ho.symm.trans e2)).symm)
      · have e1 := List.mem_singleton.mp e1
        rw [e1] at e2
        have e3 := (N₁ _ (List.mem_append.mpr (.inr (hin c)))).1
        exact .inr (Prod.ext e1 (Option.some.inj (e3.symm.trans e2)).symm)
    have N₂ : News h₀ env.locals hh1 ((I, o) :: Ld c) := fun p hp => by
      rcases List.mem_cons.mp hp with rfl | hp
      · exact N₁ _ (List.mem_append.mpr (.inl hmem))
      · exact N₁ _ (List.mem_append.mpr (.inr hp))
    refine wpAny_mono (turn I hlt c i v m₁ hh1 tk o (by simpa using hP) hPc hne1 (kst_fr h1 h2 F₁) N₂ _ rfl) (fun f s₂ p => ?_) fun _ _ e => e
    have go : Left h₀ env.locals x m₀ stored Ld ps I o { s with heap := hh1, toks := tk } (P I (i + 1)) s₂ → LoopStepU h₀ env.locals [I] own (J (i + 1)) { s with heap := hh1, toks := tk } .next s₂ := by
      rintro ⟨c', h', tk', m', nw, rfl, F', N', hmI, hsub, hne', hps, hrest, hP'⟩
      refine ⟨rfl, h', tk', m', Ld c', rfl, F', fun p hp => ?_, fun p hp hm => hne' p hp (List.mem_singleton.mp hm), ⟨c', rfl, hps, hrest, hP'⟩⟩
      rcases List.mem_append.mp hp with hp | hp
      · rcases hown' p hp with e | e
        · rw [e]; exact N' _ hmI
        · rw [e]; exact N' _ (hsub _ (hin c'))
      · exact N' _ (hsub p hp)
    cases f with
    | ret v => exact .ret p
    | brk =>
      obtain ⟨c', h', tk', m', nw, rfl, F', N', hmI, hsub, hne', hps, hrest, hP'⟩ := p
      exact .brk (fin c' m' h' tk' hP' (kst_frOut hps hrest F') (fun p hp => N' _ (hsub p hp)))
    | next => exact .next (go p)
    | cont => exact .cont (go p)
  · rintro h' tk m' news' F' N' _ ⟨c, rfl, hps, hrest, hP'⟩
    exact fin c m' h' tk (done I c (by simpa using hP')) (kst_frOut hps hrest F') N'
end loops
end Mine
end

section
open PySem PySem.W PyProof.Rows
namespace Mine
theorem sec_E1 {M : Model} {A : Around} {E : Value → Shared → Prop} {s : Shared} {env : Env} {p : Pos} {Q : Flow → Shared → Prop} (h : Q .next s) : wpAny M A (exec (.Pass p) env) Q E s := by
  w_top off
  k_with_none
  walk1
  exact h
end Mine
end
section
open PySem PySem.W PyProof.Rows
set_option maxRecDepth 100000
set_option maxHeartbeats 1000000
namespace Mine
/-- an Entry: its agents' texts, its rules' values -/
inductive EntAt (news : Led) (x : Addr) (ags : List Str) (rv : List Value) : Prop
  | intro {d la lr : Addr} {us : List Value} {a1 a2 a3 a4 : Int} {b1 b2 b3 b4 : Tok} {k1 k2 k3 : Nat} (h1 : (x, instObj 132 d) ∈ news) (h2 : (d, dictOf [⟨a1, .str (Str.ofString "useragents") b1, .ref la⟩, ⟨a2, .str (Str.ofString "rulelines") b2, .ref lr⟩, ⟨a3, .str (Str.ofString "delay") b3, .none⟩, ⟨a4, .str (Str.ofString "req_rate") b4, .none⟩] k1) ∈ news) (h3 : (la, W.listOf us.toArray k2) ∈ news) (h4 : (lr, W.listOf rv.toArray k3) ∈ news) (h5 : StrsAre us ags) : EntAt news x ags rv
theorem EntAt.el {news : Led} {x : Addr} {ags : List Str} {rv : List Value} {C : Prop} (h : EntAt news x ags rv) (k : ∀ (d la lr : Addr) (us : List Value) (a1 a2 a3 a4 : Int) (b1 b2 b3 b4 : Tok) (k1 k2 k3 : Nat), ((x, instObj 132 d) ∈ news) → ((d, dictOf [⟨a1, .str (Str.ofString "useragents") b1, .ref la⟩, ⟨a2, .str (Str.ofString "rulelines") b2, .ref lr⟩, ⟨a3, .str (Str.ofString "delay") b3, .none⟩, ⟨a4, .str (Str.ofString "req_rate") b4, .none⟩] k1) ∈ news) → ((la, W.listOf us.toArray k2) ∈ news) → ((lr, W.listOf rv.toArray k3) ∈ news) → (StrsAre us ags) → C) : C := by
  cases h with
  | intro h0 h1 h2 h3 h4 => exact k _ _ _ _ _ _ _ _ _ _ _ _ _ _ _ h0 h1 h2 h3 h4
theorem EntAt.mono {news news' : Led} {x : Addr} {ags : List Str} {rv : List Value} (h : EntAt news x ags rv) (hs : ∀ p ∈ news, p ∈ news') : EntAt news' x ags rv :=
  h.el fun _ _ _ _ _ _ _ _ _ _ _ _ _ _ _ h1 h2 h3 h4 h5 => .intro (hs _ h1) (hs _ h2) (hs _ h3) (hs _ h4) h5
theorem strs_at : ∀ {us : List Value} {ws : List Str}, StrsAre us ws → ∀ {i : Nat} {v : Value}, us[i]? = some v → ∃ g t, v = .str g t ∧ ws[i]? = some g := by
  intro us ws h
  induction h with
  | nil => intro i v e; simp at e
  | cons x t _ ih =>
    intro i v e
    cases i with
    | zero => simp at e; exact ⟨_, _, e.symm, rfl⟩
    | succ i => exact ih (by simpa using e)
noncomputable def agentHits (g y : Str) : Bool := (g != Str.ofString "*") && !(Builtin.Str.occurrences y (Txt.lower g) 0 y.length 1).isEmpty
noncomputable def firstPart (words : Str) : Str := ((Txt.split words (Str.ofString "/"))[0]?).getD Str.empty
noncomputable def applies (ags : List Str) (words : Str) : Bool := ags.any fun g => agentHits g (Txt.lower (firstPart words))
theorem take_more {α : Type} {l : List α} {i : Nat} {g : α} (hg : l[i]? = some g) {P : α → Prop} (h : ∀ x ∈ l.take i, P x) (hp : P g) : ∀ x ∈ l.take (i + 1), P x := by
  intro x hx
  rw [List.take_add_one, hg] at hx
  rcases List.mem_append.mp hx with hx | hx
  · exact h x hx
  · simp at hx; rw [hx]; exact hp
theorem boolEq {a b : Bool} (h : a = b) : Value.bool a = Value.bool b := by rw [h]
theorem app_ok (w : World) (x : Addr) (ags : List Str) (rv : List Value) (words : Str) (t5 : Tok) (news : Led) (hW : EntAt news x ags rv) (hw : words.length ≤ 100000) (ha : ∀ g ∈ ags, g.length ≤ 1000) :
   Spec 3 w 122 [.ref x, .str words t5] news (fun r news' => news' = news ∧ r = .bool (applies ags words)) := by
  refine hW.el fun d la lr us a1 a2 a3 a4 b1 b2 b3 b4 k1 k2 k3 h1 h2 h3 h4 h5 => ?_
  unfold Spec
  k_fill
  intro loose mean mg mb dp un gd cn cs a₁ ccd cl outer A₀ base h₀ L m s Q E B F X N T hk hd hu hret
  refine wpAny_call ?_
  k_dflt (walk_at "mine enter")
  (repeat' (first | (k_unfold; (try dsimp only)) | (k_end; wrow_close) | (first | ((with_reducible show wpAny _ _ (pyIter (Value.ref _)) _ _ _); (with_reducible refine holdIt ?_)) | walk1) | (dsimp only; (first | ((with_reducible show wpAny _ _ (pyIter (Value.ref _)) _ _ _); (with_reducible refine holdIt ?_)) | walk1)) | (leave1; walk_say "STEP leave1"; try dsimp only) | fail "no step"))
  rename_i l _ _ hsp _ hle _ _ _ y _ hy
  have hyl := hle _ (List.mem_of_getElem? hy)
  rw [hsp] at hy
  have h5l := h5.length
  have hfp : firstPart words = y := by unfold firstPart; rw [show (0 : Nat) = Int.toNat 0 from rfl, hy]; rfl
  (repeat' (first | (k_unfold; (try dsimp only)) | (k_end; wrow_close) | (first | ((with_reducible show wpAny _ _ (pyIter (Value.ref _)) _ _ _); (with_reducible refine holdIt ?_)) | walk1) | (dsimp only; (first | ((with_reducible show wpAny _ _ (pyIter (Value.ref _)) _ _ _); (with_reducible refine holdIt ?_)) | walk1)) | (leave1; walk_say "STEP leave1"; try dsimp only) | fail "no step"))

  rename News _ _ _ _ => N9
  replace N9 : News _ _ _ news := fun p hp => N9 p (.tail _ hp)
  (repeat' (first | (k_unfold; (try dsimp only)) | (k_end; wrow_close) | (first | ((with_reducible show wpAny _ _ (pyIter (Value.ref _)) _ _ _); (with_reducible refine holdIt ?_)) | walk1) | (dsimp only; (first | ((with_reducible show wpAny _ _ (pyIter (Value.ref _)) _ _ _); (with_reducible refine holdIt ?_)) | walk1)) | (leave1; walk_say "STEP leave1"; try dsimp only) | fail "no step"))
  unfold Hold
  refine' loopList (σ := Unit) (fun _ => news) (fun _ => []) [Str.ofString "agent"] (fun I i _ => ∀ g ∈ ags.take i, agentHits g (Txt.lower y) = false) (fun _ => ∀ g ∈ ags, agentHits g (Txt.lower y) = false) () rfl (fun _ => h3) (by k_asm) (by k_asm) ?hk ?hp ?turn ?done ?fin
  case hk => kst_all
  case hp => intro I hI g hg; simp at hg
  case done => intro I c h g hg; rw [h5l, List.take_length] at h; exact h g hg
  case turn =>
    rintro I hI c i v u h tk o hv hP hne F' N' s₁ rfl
    obtain ⟨g, tg, rfl, hg⟩ := strs_at h5 hv
    have hgl := ha g (List.mem_of_getElem? hg)
    dsimp only [kstB] at F'
    (repeat' (first | (k_unfold; (try dsimp only)) | (k_end; wrow_close) | (first | ((with_reducible show wpAny _ _ (pyIter (Value.ref _)) _ _ _); (with_reducible refine holdIt ?_)) | walk1) | (dsimp only; (first | ((with_reducible show wpAny _ _ (pyIter (Value.ref _)) _ _ _); (with_reducible refine holdIt ?_)) | walk1)) | (leave1; walk_say "STEP leave1"; try dsimp only) | fail "no step"))
    · refine' ⟨(), _, _, _, _, rfl, ?a1, ?a2, ?a3, ?a4, ?a5, ?a6, ?a7, ?a8⟩
      (case a1 => k_asm); (case a2 => k_asm); (case a3 => k_mem); (case a6 => kst_all); (case a4 => exact fun p hp => .tail _ hp); (case a7 => kst_same)
      case a5 => exact hne
      case a8 => exact take_more hg hP (by unfold agentHits; simp_all)
    · dsimp only [Turn]
      (repeat' (first | (k_unfold; (try dsimp only)) | (k_end; wrow_close) | (first | ((with_reducible show wpAny _ _ (pyIter (Value.ref _)) _ _ _); (with_reducible refine holdIt ?_)) | walk1) | (dsimp only; (first | ((with_reducible show wpAny _ _ (pyIter (Value.ref _)) _ _ _); (with_reducible refine holdIt ?_)) | walk1)) | (leave1; walk_say "STEP leave1"; try dsimp only) | fail "no step"))
      refine hret _ _ _ _ (by k_asm) (fun p hp => (by k_asm : News h₀ L _ ((I, o) :: news)) p (.tail _ hp)) ⟨rfl, boolEq ?_⟩
      exact (List.any_eq_true.mpr ⟨g, List.mem_of_getElem? hg, by unfold agentHits; rw [hfp]; simp_all⟩).symm
    · refine' ⟨(), _, _, _, _, rfl, ?b1, ?b2, ?b3, ?b4, ?b5, ?b6, ?b7, ?b8⟩
      (case b1 => k_asm); (case b2 => k_asm); (case b3 => k_mem); (case b6 => kst_all); (case b4 => exact fun p hp => .tail _ hp); (case b7 => kst_same)
      case b5 => exact hne
      case b8 => exact take_more hg hP (by unfold agentHits; simp_all)
  case fin =>
    rintro c u h tk hF F' N'
    dsimp only [kstB] at F'
    dsimp only
    (repeat' (first | (k_unfold; (try dsimp only)) | (k_end; wrow_close) | (first | ((with_reducible show wpAny _ _ (pyIter (Value.ref _)) _ _ _); (with_reducible refine holdIt ?_)) | walk1) | (dsimp only; (first | ((with_reducible show wpAny _ _ (pyIter (Value.ref _)) _ _ _); (with_reducible refine holdIt ?_)) | walk1)) | (leave1; walk_say "STEP leave1"; try dsimp only) | fail "no step"))
    refine hret _ _ _ _ (by k_asm) (by k_asm) ⟨rfl, boolEq ?_⟩
    unfold applies
    rw [hfp]
    exact (List.any_eq_false.mpr fun g hg => by rw [hF g hg]; decide).symm
end Mine
end

section
open PySem PySem.W PyProof.Rows
namespace Mine
theorem sec_CA {M : Model} {A : Around} {E : Value → Shared → Prop} {s : Shared} {env : Env} {p : Pos} {Q : Flow → Shared → Prop} (h : Q .next s) : wpAny M A (exec (.Pass p) env) Q E s := by
  w_top off
  k_with_none
  walk1
  exact h
end Mine
end
section
open PySem PySem.W PyProof.Rows PySem.Calls PySem.Spec
set_option maxRecDepth 100000
namespace Mine
theorem strs_snoc {y : Str} {t : Tok} : ∀ {vs : List Value} {ys : List Str}, StrsAre vs ys → StrsAre (vs ++ [.str y t]) (ys ++ [y])
  | _, _, .nil => .cons y t .nil
  | _, _, .cons z u r => .cons z u (strs_snoc r)
theorem strs_values : ∀ {vs : List Value} {ys : List Str}, StrsAre vs ys → ∃ l, strValues l = vs ∧ l.map (·.1) = ys
  | _, _, .nil => ⟨[], rfl, rfl⟩
  | _, _, .cons z u r => by
    obtain ⟨l, e1, e2⟩ := strs_values r
    exact ⟨(z, u) :: l, by simp only [strValues, List.map_cons] at e1 ⊢; rw [e1], by simp only [List.map_cons]; rw [e2]⟩
theorem joinS {prog : Program} {w : World} {A : Around} {E : Value → Shared → Prop} {s : Shared} {x : Str} {t : Tok} {Q : Value → Shared → Prop} {D : Addr} {us : List Value} {ys : List Str} {h₀ : Heap} {L : Addr} {news : Led} {k : Nat} (N : News h₀ L s.heap news) (hm : (D, W.listOf us.toArray k) ∈ news) (hs : StrsAre us ys)
    (hok : JoinOk x ys = true) (hq : ∀ t' k, Q (.str (Txt.join x ys) t') { s with toks := k }) : wpAny (model prog w) A (call (.builtin "str.join") [.str x t, .ref D]) Q E s := by
  obtain ⟨l, e1, e2⟩ := strs_values hs
  exact SC.join (l := l) (by rw [e1]; exact N.isList hm) e2 hok hq
theorem take_succ_of {α : Type} {l : List α} {i : Nat} {a : α} (h : l[i]? = some a) : l.take (i + 1) = l.take i ++ [a] := by rw [List.take_add_one, h]; rfl
section
variable {prog : Program} {w : World} {A : Around} {h₀ : Heap} {L : Addr} {m : Str → Option Value} {env : Env} {elt : Expr} {x : Str} {scope : Scope} {cl : List (Str × Addr)} {s : Shared} {S : Led → Prop} {P : Nat → Value → Prop} {Fin : List Value → Led → Prop}
/-- a comprehension's turns by what holds of the items made so far -/
theorem compBy {n : Nat} (R : Nat → List Value → Led → Prop) {news : Led} (h0 : R 0 [] news)
    (turn : ∀ i v I oI C oC D m₂ ys nw h tk (E' : Value → Shared → Prop), i < n → P i v → R i ys nw → LCg.NsObj oC m₂ → m₂ x = some v → Fr h₀ L h m → News h₀ L h ((I, oI) :: (C, oC) :: (D, LCg.lst ys) :: nw) → LCg.Off3 I C D nw → ((@Ne Nat I C) ∧ (@Ne Nat I D) ∧ (@Ne Nat C D)) →
      wpAny (model prog w) A (eval elt (compEnvC scope cl C env)) (LCg.CompEnd h₀ L m { s with heap := h, toks := tk } I oI C oC D (LCg.lst ys) S (fun y nw' => R (i + 1) (ys ++ [y]) nw')) E' { s with heap := h, toks := tk })
    (fin : ∀ ys nw, R n ys nw → Fin ys nw) : LCg.CompRest prog w A h₀ L m env elt x scope cl s S P Fin n 0 [] news := by
  have key : ∀ (j i : Nat) (ys : List Value) (nw : Led), i + j = n → R i ys nw → LCg.CompRest prog w A h₀ L m env elt x scope cl s S P Fin j i ys nw := by
    intro j
    induction j with
    | zero =>
      intro i ys nw hi hy
      have e : i = n := by omega
      subst e
      exact LCg.CompRest.zero (fin ys nw hy)
    | succ j ih =>
      intro i ys nw hi hy
      refine LCg.CompRest.succ ?_
      intro v I oI C oC D m₂ h tk E' hv hC hx F N off ne
      refine wpAny_mono (turn i v I oI C oC D m₂ ys nw h tk E' (by omega) hv hy hC hx F N off ne) (fun y s₂ hq => ?_) fun _ _ e => e
      obtain ⟨h', tk', nw', e, F', N', off', hS, hR⟩ := hq
      exact ⟨h', tk', nw', e, F', N', off', hS, ih (i + 1) _ nw' (by omega) hR⟩
  exact key n 0 [] news (by omega) h0
/-- the same with a test -/
theorem compTBy {ct : Expr} {n : Nat} (R : Nat → List Value → Led → Prop) {news : Led} (h0 : R 0 [] news)
    (turn : ∀ i v I oI C oC D m₂ ys nw h tk (E' : Value → Shared → Prop), i < n → P i v → R i ys nw → LCg.NsObj oC m₂ → m₂ x = some v → Fr h₀ L h m → News h₀ L h ((I, oI) :: (C, oC) :: (D, LCg.lst ys) :: nw) → LCg.Off3 I C D nw → ((@Ne Nat I C) ∧ (@Ne Nat I D) ∧ (@Ne Nat C D)) →
      wpAny (model prog w) A (isTrue ct (compEnvC scope cl C env) (eval ct (compEnvC scope cl C env))) (fun ok s' => if ok = true then
        wpAny (model prog w) A (eval elt (compEnvC scope cl C env)) (LCg.CompEnd h₀ L m { s with heap := h, toks := tk } I oI C oC D (LCg.lst ys) S (fun y nw' => R (i + 1) (ys ++ [y]) nw')) E' s'
        else LCg.CompEnd h₀ L m { s with heap := h, toks := tk } I oI C oC D (LCg.lst ys) S (fun _ nw' => R (i + 1) ys nw') Value.none s') E' { s with heap := h, toks := tk })
    (fin : ∀ ys nw, R n ys nw → Fin ys nw) : LCt.CompRestT prog w A h₀ L m env ct elt x scope cl s S P Fin n 0 [] news := by
  have key : ∀ (j i : Nat) (ys : List Value) (nw : Led), i + j = n → R i ys nw → LCt.CompRestT prog w A h₀ L m env ct elt x scope cl s S P Fin j i ys nw := by
    intro j
    induction j with
    | zero =>
      intro i ys nw hi hy
      have e : i = n := by omega
      subst e
      exact LCt.CompRestT.zero (fin ys nw hy)
    | succ j ih =>
      intro i ys nw hi hy
      refine LCt.CompRestT.succ ?_
      intro v I oI C oC D m₂ h tk E' hv hC hx F N off ne
      refine wpAny_mono (turn i v I oI C oC D m₂ ys nw h tk E' (by omega) hv hy hC hx F N off ne) (fun ok s₂ hq => ?_) fun _ _ e => e
      cases ok with
      | true =>
        rw [if_pos rfl] at hq ⊢
        refine wpAny_mono hq (fun y s₃ hq => ?_) fun _ _ e => e
        obtain ⟨h', tk', nw', e, F', N', off', hS, hR⟩ := hq
        exact ⟨h', tk', nw', e, F', N', off', hS, ih (i + 1) _ nw' (by omega) hR⟩
      | false =>
        rw [if_neg Bool.false_ne_true] at hq ⊢
        obtain ⟨h', tk', nw', e, F', N', off', hS, hR⟩ := hq
        exact ⟨h', tk', nw', e, F', N', off', hS, ih (i + 1) _ nw' (by omega) hR⟩
  exact key n 0 [] news (by omega) h0
end
end Mine
end

section
open PySem PySem.W PyProof.Rows
namespace Mine
theorem sec_L1 {M : Model} {A : Around} {E : Value → Shared → Prop} {s : Shared} {env : Env} {p : Pos} {Q : Flow → Shared → Prop} (h : Q .next s) : wpAny M A (exec (.Pass p) env) Q E s := by
  w_top off
  k_with_none
  walk1
  exact h
end Mine
end
section
open PySem PySem.W PyProof.Rows
set_option maxRecDepth 100000
set_option maxHeartbeats 1000000
namespace Mine
noncomputable def textRow (r : Int) : Str := Txt.mul (Str.ofString " ") r ++ Str.ofString "\t"
noncomputable def whiteText (rows : List Int) (behind : Str) : Str := Txt.join (Str.ofString "") (rows.map textRow) ++ behind
theorem textRow_len {r : Int} (h0 : 0 ≤ r) (h1 : r ≤ 10) : (textRow r).length ≤ 11 := by
  unfold textRow; rw [Str.length_append]
  have e := len_mul (Str.ofString " ") r
  have e1 : (Str.ofString " ").length = 1 := by decide +kernel
  have e2 : (Str.ofString "\t").length = 1 := by decide +kernel
  rw [if_neg (fun c => absurd (of_decide_eq_true c) (by omega)), e1] at e
  rw [e2]; omega
theorem rows_sum {rows : List Int} (hr : ∀ r ∈ rows, 0 ≤ r ∧ r ≤ 10) : ((rows.map textRow).map (·.length)).sum ≤ 11 * rows.length := by
  induction rows with
  | nil => simp
  | cons r rs ih =>
    have h1 := textRow_len (hr r (.head _)).1 (hr r (.head _)).2
    have h2 := ih fun q hq => hr q (.tail _ hq)
    simp only [List.map_cons, List.sum_cons, List.length_cons] at h2 ⊢
    omega
theorem rows_len {rows : List Int} (hr : ∀ r ∈ rows, 0 ≤ r ∧ r ≤ 10) (hn : rows.length ≤ 3) : (Txt.join (Str.ofString "") (rows.map textRow)).length ≤ 33 := by
  have h := rows_sum hr
  show (Builtin.Str.glued (Str.ofString "") (rows.map textRow)).length ≤ 33
  rw [StrLaws.glued_eq_join]
  refine Nat.le_trans (StrLaws.join_length_le _ _) ?_
  have h3 : (Str.ofString "").length = 0 := by decide +kernel
  rw [h3]; omega
theorem rows_ok {rows : List Int} (hr : ∀ r ∈ rows, 0 ≤ r ∧ r ≤ 10) (hn : rows.length ≤ 3) : JoinOk (Str.ofString "") (rows.map textRow) = true := by
  have h := rows_sum hr
  exact joinOk_of_weight (by rw [List.length_map]; omega) (by decide +kernel)
theorem white_ok (w : World) (lr : Addr) (vs : List Value) (rows : List Int) (k : Nat) (behind : Str) (t5 : Tok) (news : Led) (hl : (lr, W.listOf vs.toArray k) ∈ news) (hi : IntsAre vs rows) (hn : rows.length ≤ 3) (hr : ∀ r ∈ rows, 0 ≤ r ∧ r ≤ 10) (hb : behind.length ≤ 10) :
   Spec 5 w 148 [.ref lr, .str behind t5] news (fun r news' => Ext news news' ∧ ∃ x, r = .ref x ∧ WhiteAt news' x (wsRun (whiteText rows behind).cps.toList ⟨[], 0, 0, 0⟩)) := by
  unfold Spec
  k_fill
  intro loose mean mg mb dp un gd cn cs a₁ ccd cl outer A₀ base h₀ L m s Q E B F X N T hk hd hu hret
  refine wpAny_call ?_
  k_dflt (walk_at "mine enter")
  (repeat' (first | (k_unfold; (try dsimp only)) | (k_end; wrow_close) | (first | ((with_reducible show wpAny _ _ (eval (Expr.ListComp _ _ _ _) _) _ _ _); (with_reducible refine holdIt ?_)) | ((with_reducible show wpAny _ _ (call (Value.ref _) _) _ _ _); (k_here; k_dflt (refine' Spec.use (mk _ _ _ _ ?kL) ?k1 ?k2 ?k3 ?k4 ?k5 ?kK ?kd ?ku ?_; (((case k4 => k_asm); (case k1 => k_asm); (case k2 => k_asm); (case k3 => k_asm); (case k5 => k_asm); (case kK => first | exact rfl | assumption); (case kd => ktr_room); (case ku => ktr_units))); (case kL => (show PySem.Str.length _ ≤ 1000; omega))); intro r9 n9 h9 tk9 F9 N9 P9; obtain ⟨e9, x9, e8, w9⟩ := P9; subst e8; (try dsimp only); (try k_fold))) | ((with_reducible show wpAny _ _ (call (Value.ref _) _) _ _ _); (k_here; k_dflt (refine' Spec.use (ind_ok _ _ _ _ _ _ ?kW ?kA ?kB) ?k1 ?k2 ?k3 ?k4 ?k5 ?kK ?kd ?ku ?_; (((case k4 => k_asm); (case k1 => k_asm); (case k2 => k_asm); (case k3 => k_asm); (case k5 => k_asm); (case kK => first | exact rfl | assumption); (case kd => ktr_room); (case ku => ktr_units))); (case kW => assumption); (case kA => omega); (case kB => omega)); intro r9 n9 h9 tk9 F9 N9 P9; obtain ⟨e9, t9, e8⟩ := P9; rw [e9] at N9; clear e9; subst e8; (try dsimp only); (try k_fold))) | ((with_reducible show wpAny _ _ (call (Value.ref _) _) _ _ _); (k_here; k_dflt (refine' Spec.use (lrs_ok _ _ _ _ ?kW) ?k1 ?k2 ?k3 ?k4 ?k5 ?kK ?kd ?ku ?_; (((case k4 => k_asm); (case k1 => k_asm); (case k2 => k_asm); (case k3 => k_asm); (case k5 => k_asm); (case kK => first | exact rfl | assumption); (case kd => ktr_room); (case ku => ktr_units))); (case kW => assumption)); intro r9 n9 h9 tk9 F9 N9 P9; obtain ⟨e9, t9, e8⟩ := P9; rw [e9] at N9; clear e9; subst e8; (try dsimp only); (try k_fold))) | walk1) | (dsimp only; (first | ((with_reducible show wpAny _ _ (eval (Expr.ListComp _ _ _ _) _) _ _ _); (with_reducible refine holdIt ?_)) | ((with_reducible show wpAny _ _ (call (Value.ref _) _) _ _ _); (k_here; k_dflt (refine' Spec.use (mk _ _ _ _ ?kL) ?k1 ?k2 ?k3 ?k4 ?k5 ?kK ?kd ?ku ?_; (((case k4 => k_asm); (case k1 => k_asm); (case k2 => k_asm); (case k3 => k_asm); (case k5 => k_asm); (case kK => first | exact rfl | assumption); (case kd => ktr_room); (case ku => ktr_units))); (case kL => (show PySem.Str.length _ ≤ 1000; omega))); intro r9 n9 h9 tk9 F9 N9 P9; obtain ⟨e9, x9, e8, w9⟩ := P9; subst e8; (try dsimp only); (try k_fold))) | ((with_reducible show wpAny _ _ (call (Value.ref _) _) _ _ _); (k_here; k_dflt (refine' Spec.use (ind_ok _ _ _ _ _ _ ?kW ?kA ?kB) ?k1 ?k2 ?k3 ?k4 ?k5 ?kK ?kd ?ku ?_; (((case k4 => k_asm); (case k1 => k_asm); (case k2 => k_asm); (case k3 => k_asm); (case k5 => k_asm); (case kK => first | exact rfl | assumption); (case kd => ktr_room); (case ku => ktr_units))); (case kW => assumption); (case kA => omega); (case kB => omega)); intro r9 n9 h9 tk9 F9 N9 P9; obtain ⟨e9, t9, e8⟩ := P9; rw [e9] at N9; clear e9; subst e8; (try dsimp only); (try k_fold))) | ((with_reducible show wpAny _ _ (call (Value.ref _) _) _ _ _); (k_here; k_dflt (refine' Spec.use (lrs_ok _ _ _ _ ?kW) ?k1 ?k2 ?k3 ?k4 ?k5 ?kK ?kd ?ku ?_; (((case k4 => k_asm); (case k1 => k_asm); (case k2 => k_asm); (case k3 => k_asm); (case k5 => k_asm); (case kK => first | exact rfl | assumption); (case kd => ktr_room); (case ku => ktr_units))); (case kW => assumption)); intro r9 n9 h9 tk9 F9 N9 P9; obtain ⟨e9, t9, e8⟩ := P9; rw [e9] at N9; clear e9; subst e8; (try dsimp only); (try k_fold))) | walk1)) | (leave1; walk_say "STEP leave1"; try dsimp only) | fail "no step"))
  unfold Hold
  rename_i g L' h' FG' N' B' X' T' _ _ _ F'
  have hil := hi.length
  refine LCg.ListComp_U F' rfl (by decide) rfl (by decide) rfl ?_
  walk1
  refine LCg.CompSrc.ledger rfl (by k_asm) (by k_asm) hl (by simp [sizeLine_eq]; omega) ?_
  intro g5
  refine compBy (fun i ys nw => nw = news ∧ StrsAre ys ((rows.take i).map textRow)) ⟨rfl, .nil⟩ ?_ ?_
  · rintro i v I oI C oC D m₂ ys nw h tk E' hlt hv ⟨rfl, hys⟩ hC hx F5 N5 off ne
    obtain ⟨r, t, rfl, hri⟩ := IntsAre.at hi i v (by simpa using hv)
    have hrr := hr r (List.mem_of_getElem? hri)
    (repeat' (first | (k_unfold; (try dsimp only)) | (k_end; wrow_close) | (first | ((with_reducible show wpAny _ _ (eval (Expr.ListComp _ _ _ _) _) _ _ _); (with_reducible refine holdIt ?_)) | ((with_reducible show wpAny _ _ (call (Value.ref _) _) _ _ _); (k_here; k_dflt (refine' Spec.use (mk _ _ _ _ ?kL) ?k1 ?k2 ?k3 ?k4 ?k5 ?kK ?kd ?ku ?_; (((case k4 => k_asm); (case k1 => k_asm); (case k2 => k_asm); (case k3 => k_asm); (case k5 => k_asm); (case kK => first | exact rfl | assumption); (case kd => ktr_room); (case ku => ktr_units))); (case kL => (show PySem.Str.length _ ≤ 1000; omega))); intro r9 n9 h9 tk9 F9 N9 P9; obtain ⟨e9, x9, e8, w9⟩ := P9; subst e8; (try dsimp only); (try k_fold))) | ((with_reducible show wpAny _ _ (call (Value.ref _) _) _ _ _); (k_here; k_dflt (refine' Spec.use (ind_ok _ _ _ _ _ _ ?kW ?kA ?kB) ?k1 ?k2 ?k3 ?k4 ?k5 ?kK ?kd ?ku ?_; (((case k4 => k_asm); (case k1 => k_asm); (case k2 => k_asm); (case k3 => k_asm); (case k5 => k_asm); (case kK => first | exact rfl | assumption); (case kd => ktr_room); (case ku => ktr_units))); (case kW => assumption); (case kA => omega); (case kB => omega)); intro r9 n9 h9 tk9 F9 N9 P9; obtain ⟨e9, t9, e8⟩ := P9; rw [e9] at N9; clear e9; subst e8; (try dsimp only); (try k_fold))) | ((with_reducible show wpAny _ _ (call (Value.ref _) _) _ _ _); (k_here; k_dflt (refine' Spec.use (lrs_ok _ _ _ _ ?kW) ?k1 ?k2 ?k3 ?k4 ?k5 ?kK ?kd ?ku ?_; (((case k4 => k_asm); (case k1 => k_asm); (case k2 => k_asm); (case k3 => k_asm); (case k5 => k_asm); (case kK => first | exact rfl | assumption); (case kd => ktr_room); (case ku => ktr_units))); (case kW => assumption)); intro r9 n9 h9 tk9 F9 N9 P9; obtain ⟨e9, t9, e8⟩ := P9; rw [e9] at N9; clear e9; subst e8; (try dsimp only); (try k_fold))) | walk1) | (dsimp only; (first | ((with_reducible show wpAny _ _ (eval (Expr.ListComp _ _ _ _) _) _ _ _); (with_reducible refine holdIt ?_)) | ((with_reducible show wpAny _ _ (call (Value.ref _) _) _ _ _); (k_here; k_dflt (refine' Spec.use (mk _ _ _ _ ?kL) ?k1 ?k2 ?k3 ?k4 ?k5 ?kK ?kd ?ku ?_; (((case k4 => k_asm); (case k1 => k_asm); (case k2 => k_asm); (case k3 => k_asm); (case k5 => k_asm); (case kK => first | exact rfl | assumption); (case kd => ktr_room); (case ku => ktr_units))); (case kL => (show PySem.Str.length _ ≤ 1000; omega))); intro r9 n9 h9 tk9 F9 N9 P9; obtain ⟨e9, x9, e8, w9⟩ := P9; subst e8; (try dsimp only); (try k_fold))) | ((with_reducible show wpAny _ _ (call (Value.ref _) _) _ _ _); (k_here; k_dflt (refine' Spec.use (ind_ok _ _ _ _ _ _ ?kW ?kA ?kB) ?k1 ?k2 ?k3 ?k4 ?k5 ?kK ?kd ?ku ?_; (((case k4 => k_asm); (case k1 => k_asm); (case k2 => k_asm); (case k3 => k_asm); (case k5 => k_asm); (case kK => first | exact rfl | assumption); (case kd => ktr_room); (case ku => ktr_units))); (case kW => assumption); (case kA => omega); (case kB => omega)); intro r9 n9 h9 tk9 F9 N9 P9; obtain ⟨e9, t9, e8⟩ := P9; rw [e9] at N9; clear e9; subst e8; (try dsimp only); (try k_fold))) | ((with_reducible show wpAny _ _ (call (Value.ref _) _) _ _ _); (k_here; k_dflt (refine' Spec.use (lrs_ok _ _ _ _ ?kW) ?k1 ?k2 ?k3 ?k4 ?k5 ?kK ?kd ?ku ?_; (((case k4 => k_asm); (case k1 => k_asm); (case k2 => k_asm); (case k3 => k_asm); (case k5 => k_asm); (case kK => first | exact rfl | assumption); (case kd => ktr_room); (case ku => ktr_units))); (case kW => assumption)); intro r9 n9 h9 tk9 F9 N9 P9; obtain ⟨e9, t9, e8⟩ := P9; rw [e9] at N9; clear e9; subst e8; (try dsimp only); (try k_fold))) | walk1)) | (leave1; walk_say "STEP leave1"; try dsimp only) | fail "no step"))
    refine LCg.CompEnd.intro (by k_asm) N5 _ (fun p hp => hp) off (.inr ⟨_, hl, rfl, _, rfl⟩) ⟨rfl, ?_⟩
    rw [take_succ_of hri, List.map_append]
    exact strs_snoc hys
  · rintro ys nw ⟨rfl, hys⟩
    have e : rows.take vs.toArray.size = rows := by rw [List.size_toArray, hil]; exact List.take_length
    rw [e] at hys
    intro D h tk F5 N5 off
    (repeat' (first | (k_unfold; (try dsimp only)) | (k_end; wrow_close) | (first | ((with_reducible show wpAny _ _ (eval (Expr.ListComp _ _ _ _) _) _ _ _); (with_reducible refine holdIt ?_)) | ((with_reducible show wpAny _ _ (call (Value.ref _) _) _ _ _); (k_here; k_dflt (refine' Spec.use (mk _ _ _ _ ?kL) ?k1 ?k2 ?k3 ?k4 ?k5 ?kK ?kd ?ku ?_; (((case k4 => k_asm); (case k1 => k_asm); (case k2 => k_asm); (case k3 => k_asm); (case k5 => k_asm); (case kK => first | exact rfl | assumption); (case kd => ktr_room); (case ku => ktr_units))); (case kL => (show PySem.Str.length _ ≤ 1000; omega))); intro r9 n9 h9 tk9 F9 N9 P9; obtain ⟨e9, x9, e8, w9⟩ := P9; subst e8; (try dsimp only); (try k_fold))) | ((with_reducible show wpAny _ _ (call (Value.ref _) _) _ _ _); (k_here; k_dflt (refine' Spec.use (ind_ok _ _ _ _ _ _ ?kW ?kA ?kB) ?k1 ?k2 ?k3 ?k4 ?k5 ?kK ?kd ?ku ?_; (((case k4 => k_asm); (case k1 => k_asm); (case k2 => k_asm); (case k3 => k_asm); (case k5 => k_asm); (case kK => first | exact rfl | assumption); (case kd => ktr_room); (case ku => ktr_units))); (case kW => assumption); (case kA => omega); (case kB => omega)); intro r9 n9 h9 tk9 F9 N9 P9; obtain ⟨e9, t9, e8⟩ := P9; rw [e9] at N9; clear e9; subst e8; (try dsimp only); (try k_fold))) | ((with_reducible show wpAny _ _ (call (Value.ref _) _) _ _ _); (k_here; k_dflt (refine' Spec.use (lrs_ok _ _ _ _ ?kW) ?k1 ?k2 ?k3 ?k4 ?k5 ?kK ?kd ?ku ?_; (((case k4 => k_asm); (case k1 => k_asm); (case k2 => k_asm); (case k3 => k_asm); (case k5 => k_asm); (case kK => first | exact rfl | assumption); (case kd => ktr_room); (case ku => ktr_units))); (case kW => assumption)); intro r9 n9 h9 tk9 F9 N9 P9; obtain ⟨e9, t9, e8⟩ := P9; rw [e9] at N9; clear e9; subst e8; (try dsimp only); (try k_fold))) | walk1) | (dsimp only; (first | ((with_reducible show wpAny _ _ (eval (Expr.ListComp _ _ _ _) _) _ _ _); (with_reducible refine holdIt ?_)) | ((with_reducible show wpAny _ _ (call (Value.ref _) _) _ _ _); (k_here; k_dflt (refine' Spec.use (mk _ _ _ _ ?kL) ?k1 ?k2 ?k3 ?k4 ?k5 ?kK ?kd ?ku ?_; (((case k4 => k_asm); (case k1 => k_asm); (case k2 => k_asm); (case k3 => k_asm); (case k5 => k_asm); (case kK => first | exact rfl | assumption); (case kd => ktr_room); (case ku => ktr_units))); (case kL => (show PySem.Str.length _ ≤ 1000; omega))); intro r9 n9 h9 tk9 F9 N9 P9; obtain ⟨e9, x9, e8, w9⟩ := P9; subst e8; (try dsimp only); (try k_fold))) | ((with_reducible show wpAny _ _ (call (Value.ref _) _) _ _ _); (k_here; k_dflt (refine' Spec.use (ind_ok _ _ _ _ _ _ ?kW ?kA ?kB) ?k1 ?k2 ?k3 ?k4 ?k5 ?kK ?kd ?ku ?_; (((case k4 => k_asm); (case k1 => k_asm); (case k2 => k_asm); (case k3 => k_asm); (case k5 => k_asm); (case kK => first | exact rfl | assumption); (case kd => ktr_room); (case ku => ktr_units))); (case kW => assumption); (case kA => omega); (case kB => omega)); intro r9 n9 h9 tk9 F9 N9 P9; obtain ⟨e9, t9, e8⟩ := P9; rw [e9] at N9; clear e9; subst e8; (try dsimp only); (try k_fold))) | ((with_reducible show wpAny _ _ (call (Value.ref _) _) _ _ _); (k_here; k_dflt (refine' Spec.use (lrs_ok _ _ _ _ ?kW) ?k1 ?k2 ?k3 ?k4 ?k5 ?kK ?kd ?ku ?_; (((case k4 => k_asm); (case k1 => k_asm); (case k2 => k_asm); (case k3 => k_asm); (case k5 => k_asm); (case kK => first | exact rfl | assumption); (case kd => ktr_room); (case ku => ktr_units))); (case kW => assumption)); intro r9 n9 h9 tk9 F9 N9 P9; obtain ⟨e9, t9, e8⟩ := P9; rw [e9] at N9; clear e9; subst e8; (try dsimp only); (try k_fold))) | walk1)) | (leave1; walk_say "STEP leave1"; try dsimp only) | fail "no step"))
    refine joinS N5 (.head _) hys (rows_ok hr hn) ?_
    intro t' k'
    replace N5 : News _ _ _ nw := fun p hp => N5 p (.tail _ hp)
    have hJ := rows_len hr hn
    (repeat' (first | (k_unfold; (try dsimp only)) | (k_end; wrow_close) | (first | ((with_reducible show wpAny _ _ (eval (Expr.ListComp _ _ _ _) _) _ _ _); (with_reducible refine holdIt ?_)) | ((with_reducible show wpAny _ _ (call (Value.ref _) _) _ _ _); (k_here; k_dflt (refine' Spec.use (mk _ _ _ _ ?kL) ?k1 ?k2 ?k3 ?k4 ?k5 ?kK ?kd ?ku ?_; (((case k4 => k_asm); (case k1 => k_asm); (case k2 => k_asm); (case k3 => k_asm); (case k5 => k_asm); (case kK => first | exact rfl | assumption); (case kd => ktr_room); (case ku => ktr_units))); (case kL => (show PySem.Str.length _ ≤ 1000; omega))); intro r9 n9 h9 tk9 F9 N9 P9; obtain ⟨e9, x9, e8, w9⟩ := P9; subst e8; (try dsimp only); (try k_fold))) | ((with_reducible show wpAny _ _ (call (Value.ref _) _) _ _ _); (k_here; k_dflt (refine' Spec.use (ind_ok _ _ _ _ _ _ ?kW ?kA ?kB) ?k1 ?k2 ?k3 ?k4 ?k5 ?kK ?kd ?ku ?_; (((case k4 => k_asm); (case k1 => k_asm); (case k2 => k_asm); (case k3 => k_asm); (case k5 => k_asm); (case kK => first | exact rfl | assumption); (case kd => ktr_room); (case ku => ktr_units))); (case kW => assumption); (case kA => omega); (case kB => omega)); intro r9 n9 h9 tk9 F9 N9 P9; obtain ⟨e9, t9, e8⟩ := P9; rw [e9] at N9; clear e9; subst e8; (try dsimp only); (try k_fold))) | ((with_reducible show wpAny _ _ (call (Value.ref _) _) _ _ _); (k_here; k_dflt (refine' Spec.use (lrs_ok _ _ _ _ ?kW) ?k1 ?k2 ?k3 ?k4 ?k5 ?kK ?kd ?ku ?_; (((case k4 => k_asm); (case k1 => k_asm); (case k2 => k_asm); (case k3 => k_asm); (case k5 => k_asm); (case kK => first | exact rfl | assumption); (case kd => ktr_room); (case ku => ktr_units))); (case kW => assumption)); intro r9 n9 h9 tk9 F9 N9 P9; obtain ⟨e9, t9, e8⟩ := P9; rw [e9] at N9; clear e9; subst e8; (try dsimp only); (try k_fold))) | walk1) | (dsimp only; (first | ((with_reducible show wpAny _ _ (eval (Expr.ListComp _ _ _ _) _) _ _ _); (with_reducible refine holdIt ?_)) | ((with_reducible show wpAny _ _ (call (Value.ref _) _) _ _ _); (k_here; k_dflt (refine' Spec.use (mk _ _ _ _ ?kL) ?k1 ?k2 ?k3 ?k4 ?k5 ?kK ?kd ?ku ?_; (((case k4 => k_asm); (case k1 => k_asm); (case k2 => k_asm); (case k3 => k_asm); (case k5 => k_asm); (case kK => first | exact rfl | assumption); (case kd => ktr_room); (case ku => ktr_units))); (case kL => (show PySem.Str.length _ ≤ 1000; omega))); intro r9 n9 h9 tk9 F9 N9 P9; obtain ⟨e9, x9, e8, w9⟩ := P9; subst e8; (try dsimp only); (try k_fold))) | ((with_reducible show wpAny _ _ (call (Value.ref _) _) _ _ _); (k_here; k_dflt (refine' Spec.use (ind_ok _ _ _ _ _ _ ?kW ?kA ?kB) ?k1 ?k2 ?k3 ?k4 ?k5 ?kK ?kd ?ku ?_; (((case k4 => k_asm); (case k1 => k_asm); (case k2 => k_asm); (case k3 => k_asm); (case k5 => k_asm); (case kK => first | exact rfl | assumption); (case kd => ktr_room); (case ku => ktr_units))); (case kW => assumption); (case kA => omega); (case kB => omega)); intro r9 n9 h9 tk9 F9 N9 P9; obtain ⟨e9, t9, e8⟩ := P9; rw [e9] at N9; clear e9; subst e8; (try dsimp only); (try k_fold))) | ((with_reducible show wpAny _ _ (call (Value.ref _) _) _ _ _); (k_here; k_dflt (refine' Spec.use (lrs_ok _ _ _ _ ?kW) ?k1 ?k2 ?k3 ?k4 ?k5 ?kK ?kd ?ku ?_; (((case k4 => k_asm); (case k1 => k_asm); (case k2 => k_asm); (case k3 => k_asm); (case k5 => k_asm); (case kK => first | exact rfl | assumption); (case kd => ktr_room); (case ku => ktr_units))); (case kW => assumption)); intro r9 n9 h9 tk9 F9 N9 P9; obtain ⟨e9, t9, e8⟩ := P9; rw [e9] at N9; clear e9; subst e8; (try dsimp only); (try k_fold))) | walk1)) | (leave1; walk_say "STEP leave1"; try dsimp only) | fail "no step"))
    refine hret _ _ _ _ (by k_asm) (by k_asm) ⟨by assumption, _, rfl, by assumption⟩
end Mine
end

section
open PySem PySem.W PyProof.Rows
namespace Mine
theorem sec_L2 {M : Model} {A : Around} {E : Value → Shared → Prop} {s : Shared} {env : Env} {p : Pos} {Q : Flow → Shared → Prop} (h : Q .next s) : wpAny M A (exec (.Pass p) env) Q E s := by
  w_top off
  k_with_none
  walk1
  exact h
end Mine
end
section
open PySem PySem.W PyProof.Rows
set_option maxRecDepth 100000
set_option maxHeartbeats 1000000
namespace Mine
noncomputable def agentText (n : Int) : Str := Str.ofString " " ++ Str.ofString (toString n) ++ Str.ofString ","
theorem reader_ok (w : World) (n : Int) (t5 : Tok) (news : Led) (hn : 0 ≤ n ∧ n ≤ 100000) :
   Spec 5 w 155 [.int n t5] news (fun r news' => ExtT news news' fun tl => ∃ x, r = .ref x ∧ EntAt tl x [agentText n] []) := by
  unfold Spec
  k_fill
  intro loose mean mg mb dp un gd cn cs a₁ ccd cl outer A₀ base h₀ L m s Q E B F X N T hk hd hu hret
  refine wpAny_call ?_
  k_dflt (walk_at "mine enter")
  (repeat' (first | (k_unfold; (try dsimp only)) | (k_end; wrow_close) | (first | ((with_reducible show wpAny _ _ (call (Value.ref _) _) _ _ _); (k_here; k_dflt (refine' Spec.use (mk _ _ _ _ ?kL) ?k1 ?k2 ?k3 ?k4 ?k5 ?kK ?kd ?ku ?_; (((case k4 => k_asm); (case k1 => k_asm); (case k2 => k_asm); (case k3 => k_asm); (case k5 => k_asm); (case kK => first | exact rfl | assumption); (case kd => ktr_room); (case ku => ktr_units))); (case kL => (show PySem.Str.length _ ≤ 1000; omega))); intro r9 n9 h9 tk9 F9 N9 P9; obtain ⟨e9, x9, e8, w9⟩ := P9; subst e8; (try dsimp only); (try k_fold))) | ((with_reducible show wpAny _ _ (call (Value.ref _) _) _ _ _); (k_here; k_dflt (refine' Spec.use (ind_ok _ _ _ _ _ _ ?kW ?kA ?kB) ?k1 ?k2 ?k3 ?k4 ?k5 ?kK ?kd ?ku ?_; (((case k4 => k_asm); (case k1 => k_asm); (case k2 => k_asm); (case k3 => k_asm); (case k5 => k_asm); (case kK => first | exact rfl | assumption); (case kd => ktr_room); (case ku => ktr_units))); (case kW => assumption); (case kA => omega); (case kB => omega)); intro r9 n9 h9 tk9 F9 N9 P9; obtain ⟨e9, t9, e8⟩ := P9; rw [e9] at N9; clear e9; subst e8; (try dsimp only); (try k_fold))) | ((with_reducible show wpAny _ _ (call (Value.ref _) _) _ _ _); (k_here; k_dflt (refine' Spec.use (lrs_ok _ _ _ _ ?kW) ?k1 ?k2 ?k3 ?k4 ?k5 ?kK ?kd ?ku ?_; (((case k4 => k_asm); (case k1 => k_asm); (case k2 => k_asm); (case k3 => k_asm); (case k5 => k_asm); (case kK => first | exact rfl | assumption); (case kd => ktr_room); (case ku => ktr_units))); (case kW => assumption)); intro r9 n9 h9 tk9 F9 N9 P9; obtain ⟨e9, t9, e8⟩ := P9; rw [e9] at N9; clear e9; subst e8; (try dsimp only); (try k_fold))) | ((with_reducible show wpAny _ _ (call (Value.ref _) _) _ _ _); (k_here; k_dflt (first | (refine' call_cls0 ?k1 ?k2 ?k3 ?k4 ?k5 ?_; (case k1 => k_asm); (case k2 => k_asm); (case k3 => k_asm); (case k4 => k_is); (case k5 => k_is); k_whole; intro x' d' h' F' N' l1 l2; (try k_lt l1); (try k_lt2 l2); (try k_sweep)) | (refine' call_cls ?k1 ?k2 ?k3 ?k4 ?k5 ?k6 ?_; (case k1 => k_asm); (case k2 => k_asm); (case k3 => k_asm); (case k4 => k_is); (case k5 => k_is); (case k6 => k_is); k_whole; intro x' d' h' F' N' l1 l2; (try k_lt l1); (try k_lt2 l2); (try k_sweep); walk_at "mine enter") | (refine' call_meth ?k1 ?k2 ?_; (case k1 => k_asm); (case k2 => k_mem); k_whole; walk_at "mine enter") | (refine wpAny_call ?_; walk_at "mine enter")))) | walk1) | (dsimp only; (first | ((with_reducible show wpAny _ _ (call (Value.ref _) _) _ _ _); (k_here; k_dflt (refine' Spec.use (mk _ _ _ _ ?kL) ?k1 ?k2 ?k3 ?k4 ?k5 ?kK ?kd ?ku ?_; (((case k4 => k_asm); (case k1 => k_asm); (case k2 => k_asm); (case k3 => k_asm); (case k5 => k_asm); (case kK => first | exact rfl | assumption); (case kd => ktr_room); (case ku => ktr_units))); (case kL => (show PySem.Str.length _ ≤ 1000; omega))); intro r9 n9 h9 tk9 F9 N9 P9; obtain ⟨e9, x9, e8, w9⟩ := P9; subst e8; (try dsimp only); (try k_fold))) | ((with_reducible show wpAny _ _ (call (Value.ref _) _) _ _ _); (k_here; k_dflt (refine' Spec.use (ind_ok _ _ _ _ _ _ ?kW ?kA ?kB) ?k1 ?k2 ?k3 ?k4 ?k5 ?kK ?kd ?ku ?_; (((case k4 => k_asm); (case k1 => k_asm); (case k2 => k_asm); (case k3 => k_asm); (case k5 => k_asm); (case kK => first | exact rfl | assumption); (case kd => ktr_room); (case ku => ktr_units))); (case kW => assumption); (case kA => omega); (case kB => omega)); intro r9 n9 h9 tk9 F9 N9 P9; obtain ⟨e9, t9, e8⟩ := P9; rw [e9] at N9; clear e9; subst e8; (try dsimp only); (try k_fold))) | ((with_reducible show wpAny _ _ (call (Value.ref _) _) _ _ _); (k_here; k_dflt (refine' Spec.use (lrs_ok _ _ _ _ ?kW) ?k1 ?k2 ?k3 ?k4 ?k5 ?kK ?kd ?ku ?_; (((case k4 => k_asm); (case k1 => k_asm); (case k2 => k_asm); (case k3 => k_asm); (case k5 => k_asm); (case kK => first | exact rfl | assumption); (case kd => ktr_room); (case ku => ktr_units))); (case kW => assumption)); intro r9 n9 h9 tk9 F9 N9 P9; obtain ⟨e9, t9, e8⟩ := P9; rw [e9] at N9; clear e9; subst e8; (try dsimp only); (try k_fold))) | ((with_reducible show wpAny _ _ (call (Value.ref _) _) _ _ _); (k_here; k_dflt (first | (refine' call_cls0 ?k1 ?k2 ?k3 ?k4 ?k5 ?_; (case k1 => k_asm); (case k2 => k_asm); (case k3 => k_asm); (case k4 => k_is); (case k5 => k_is); k_whole; intro x' d' h' F' N' l1 l2; (try k_lt l1); (try k_lt2 l2); (try k_sweep)) | (refine' call_cls ?k1 ?k2 ?k3 ?k4 ?k5 ?k6 ?_; (case k1 => k_asm); (case k2 => k_asm); (case k3 => k_asm); (case k4 => k_is); (case k5 => k_is); (case k6 => k_is); k_whole; intro x' d' h' F' N' l1 l2; (try k_lt l1); (try k_lt2 l2); (try k_sweep); walk_at "mine enter") | (refine' call_meth ?k1 ?k2 ?_; (case k1 => k_asm); (case k2 => k_mem); k_whole; walk_at "mine enter") | (refine wpAny_call ?_; walk_at "mine enter")))) | walk1)) | (leave1; walk_say "STEP leave1"; try dsimp only) | fail "no step"))
  rename News h₀ L _ _ => N9
  simp only [List.push_toArray, List.nil_append] at N9
  refine hret _ _ _ _ (by k_asm) N9 (ExtT.of [_, _, _, _] (by assumption) ?_ ⟨_, rfl, EntAt.intro (by k_mem) (by k_mem) (by k_mem) (.head _) (.cons _ _ .nil)⟩)
  simp only [List.forall_mem_cons, List.not_mem_nil, false_implies, implies_true, and_true]
  refine ⟨?_, ?_, ?_, ?_⟩ <;> (refine leN ?_; omega)
end Mine
end

section
open PySem PySem.W PyProof.Rows
namespace Mine
theorem sec_RA {M : Model} {A : Around} {E : Value → Shared → Prop} {s : Shared} {env : Env} {p : Pos} {Q : Flow → Shared → Prop} (h : Q .next s) : wpAny M A (exec (.Pass p) env) Q E s := by
  w_top off
  k_with_none
  walk1
  exact h
end Mine
end
section
open PySem PySem.W PyProof.Rows PySem.Calls PySem.Spec
set_option maxRecDepth 100000
namespace Mine
section
variable {M : Model} {A : Around} {E : Value → Shared → Prop} {s : Shared} {h₀ : Heap} {L a c P : Addr} {m mg mb : Str → Option Value} {cn : Str} {cs : Scope} {ccd : Value} {cl : List (Str × Addr)} {rest tl : Led}
  {p : Program} {loose : List Str} {mean : ExcName → Option Value} {params : Arguments} {body : Expr} {scope : Scope} {ps : Array Value} {pos : Pos} {clos : List (Str × Addr)}
/-- a lambda made: its code from the table, or new into it -/
theorem lamMake {Q : Value → Shared → Prop} (hdef : defaultsOf params (envX cn cs L a ccd cl) = ([], [])) (F : Fr h₀ L s.heap m) (N : News h₀ L s.heap ((P, tabObj ps) :: rest)) (T : Top p loose mean mg mb h₀) (C : CodeHd h₀ c P) (hcd : ccd = .ref c)
    (hP : ∀ q ∈ rest, q.1 ≠ P) (ht : TabC ((envX cn cs L a ccd cl).qual ++ "<lambda>") ps tl) (hs : ∀ p ∈ tl, p ∈ rest) (hcl : closureFor scope (envX cn cs L a ccd cl) = pure clos)
    (h : ∀ f c' ctv ps' ex h' tk oc vs t, Fr h₀ L h' m →
      News h₀ L h' ((f, kla_obj "<lambda>" ((envX cn cs L a ccd cl).qual ++ "<lambda>") params body scope clos ((mg "__name__").getD .none) c' ctv) :: (ex ++ (P, tabObj ps') :: rest)) →
      TabC ((envX cn cs L a ccd cl).qual ++ "<lambda>") ps' (ex ++ tl) → (∀ q ∈ ex, (∀ r ∈ rest, r.1 < q.1) ∧ q.1 < f ∧ P < q.1) → (∀ r ∈ rest, r.1 < f) → P < f →
      (c', oc) ∈ ex ++ tl → oc.data = .fields vs → vs[1]? = some (.str ((envX cn cs L a ccd cl).qual ++ "<lambda>") t) → Q (.ref f) { s with heap := h', toks := tk }) :
    wpAny M A (eval (.Lambda params body scope pos) (envX cn cs L a ccd cl)) Q E s := by
  refine kla_eval hdef ?_
  have hin : (P, tabObj ps) ∈ (P, tabObj ps) :: rest := .head _
  cases hcm : codeAmong pos ps.toList with
  | none =>
    refine kla_nest (ps := ps) F N T C hcd (UpdF.head hP) ht.1 hcm hcl ?_
    intro f' c' oc' vs' t' ct' h' tk' F' N' d1' d2' l1 l2
    refine h f' c' ct' _ [(c', oc')] h' tk' oc' vs' t' F' N' ((ht.mono fun q hq => .tail _ hq).snoc (.head _) d1' d2') ?_ (fun r hr => Nat.lt_trans (l1 r (.tail _ hr)) l2) (Nat.lt_trans (l1 _ hin) l2) (.head _) d1' d2'
    intro q hq
    rw [List.mem_singleton.mp hq]
    exact ⟨fun r hr => l1 r (.tail _ hr), l2, l1 _ hin⟩
  | some cv =>
    obtain ⟨c', oc, vs, tk, rfl, hm, hd', hv⟩ := ht.2 pos cv hcm
    refine kla_hit (ps := ps) F N T C hcd hin ht.1 hcm hcl ?_
    intro f' ct' h' tk' F' N' l1
    exact h f' c' ct' ps [] h' tk' oc vs tk F' N' ht (fun q hq => nomatch hq) (fun r hr => l1 r (.tail _ hr)) (l1 _ hin) hm hd' hv
end
end Mine
end

section
open PySem PySem.W PyProof.Rows
namespace Mine
theorem sec_L3 {M : Model} {A : Around} {E : Value → Shared → Prop} {s : Shared} {env : Env} {p : Pos} {Q : Flow → Shared → Prop} (h : Q .next s) : wpAny M A (exec (.Pass p) env) Q E s := by
  w_top off
  k_with_none
  walk1
  exact h
end Mine
end
section
open PySem PySem.W PyProof.Rows
set_option maxRecDepth 100000
set_option maxHeartbeats 1000000
namespace Mine
theorem mv6 {h₀ h : Heap} {L : Addr} {a b c d e f t : Addr × Obj} {news : Led} (N : News h₀ L h (a :: b :: c :: d :: e :: f :: t :: news)) : News h₀ L h (t :: a :: b :: c :: d :: e :: f :: news) := by
  intro p hp
  refine N p ?_
  simp only [List.mem_cons] at hp ⊢
  rcases hp with h | h | h | h | h | h | h | h <;> simp [h]
theorem mvEx {h₀ h : Heap} {L : Addr} {u a b c d e f t : Addr × Obj} {ex news : Led} (N : News h₀ L h (u :: (ex ++ t :: a :: b :: c :: d :: e :: f :: news))) : News h₀ L h (u :: a :: b :: c :: d :: e :: f :: t :: (ex ++ news)) := by
  intro p hp
  refine N p ?_
  simp only [List.mem_cons, List.mem_append] at hp ⊢
  rcases hp with h | h | h | h | h | h | h | h | h | h <;> simp [h]
theorem ltEx {ex rest news : Led} {q : Addr × Obj} {P f : Addr} (hex : ∀ q ∈ ex, (∀ r ∈ rest, r.1 < q.1) ∧ q.1 < f ∧ P < q.1) (hq : q ∈ rest) (hn : ∀ p ∈ news, p.1 ≠ q.1) : ∀ p ∈ ex ++ news, p.1 ≠ q.1 := by
  intro p hp
  rcases List.mem_append.mp hp with h | h
  · exact Nat.ne_of_gt ((hex p h).1 q hq)
  · exact hn p h
/-- a rule: its reach is a call of the function that it holds -/
inductive RuleAt (w : World) (news : Led) (x : Addr) (p v : Int) : Prop
  | intro {d f la lr : Addr} {a1 a2 a3 a4 a5 a6 : Int} {b1 b2 b3 b4 b5 b6 t : Tok} {k1 : Nat} {fc : Value} {fo : Option Addr} {fd : FuncData} {fs : Array (Option Value)} (h0 : (f, (⟨fc, fo, .func fd, fs⟩ : Obj)) ∈ news) (h1 : (x, instObj 132 d) ∈ news) (h2 : (d, dictOf [⟨a1, .str (Str.ofString "useragents") b1, .ref la⟩, ⟨a2, .str (Str.ofString "rulelines") b2, .ref lr⟩, ⟨a3, .str (Str.ofString "delay") b3, .none⟩, ⟨a4, .str (Str.ofString "req_rate") b4, .none⟩, ⟨a5, .str (Str.ofString "applies_to") b5, .ref f⟩, ⟨a6, .str (Str.ofString "allowance") b6, .int v t⟩] k1) ∈ news) (h3 : ∀ news', (∀ p ∈ news, p ∈ news') → ∀ (q : Int) (tq : Tok), 1 ≤ q → q ≤ 1000 → Spec 2 w f [.int q tq] news' (fun r n => n = news' ∧ ∃ t, r = .int (if Int.fmod p q = 0 then p + 1 else 0) t)) : RuleAt w news x p v
theorem RuleAt.el {w : World} {news : Led} {x : Addr} {p v : Int} {C : Prop} (h : RuleAt w news x p v) (k : ∀ (d f la lr : Addr) (a1 a2 a3 a4 a5 a6 : Int) (b1 b2 b3 b4 b5 b6 t : Tok) (k1 : Nat) (fc : Value) (fo : Option Addr) (fd : FuncData) (fs : Array (Option Value)), ((f, (⟨fc, fo, .func fd, fs⟩ : Obj)) ∈ news) → ((x, instObj 132 d) ∈ news) → ((d, dictOf [⟨a1, .str (Str.ofString "useragents") b1, .ref la⟩, ⟨a2, .str (Str.ofString "rulelines") b2, .ref lr⟩, ⟨a3, .str (Str.ofString "delay") b3, .none⟩, ⟨a4, .str (Str.ofString "req_rate") b4, .none⟩, ⟨a5, .str (Str.ofString "applies_to") b5, .ref f⟩, ⟨a6, .str (Str.ofString "allowance") b6, .int v t⟩] k1) ∈ news) → (∀ news', (∀ p ∈ news, p ∈ news') → ∀ (q : Int) (tq : Tok), 1 ≤ q → q ≤ 1000 → Spec 2 w f [.int q tq] news' (fun r n => n = news' ∧ ∃ t, r = .int (if Int.fmod p q = 0 then p + 1 else 0) t)) → C) : C := by
  cases h with
  | intro h0 h1 h2 h3 => exact k _ _ _ _ _ _ _ _ _ _ _ _ _ _ _ _ _ _ _ _ _ _ h0 h1 h2 h3
theorem RuleAt.mono {w : World} {news news' : Led} {x : Addr} {p v : Int} (h : RuleAt w news x p v) (hs : ∀ p ∈ news, p ∈ news') : RuleAt w news' x p v :=
  h.el fun _ _ _ _ _ _ _ _ _ _ _ _ _ _ _ _ _ _ _ _ _ _ h0 h1 h2 h3 => .intro (hs _ h0) (hs _ h1) (hs _ h2) fun n hn => h3 n fun p hp => hn p (hs p hp)
theorem ltN {a b : Nat} (h : a < b) : a < b := h
theorem all6 {P : Addr × Obj → Prop} {a b c d e f : Addr × Obj} (ha : P a) (hb : P b) (hc : P c) (hd : P d) (he : P e) (hf : P f) : ∀ q ∈ [a, b, c, d, e, f], P q := by
  simp only [List.forall_mem_cons, List.not_mem_nil, false_implies, implies_true, and_true]
  exact ⟨ha, hb, hc, hd, he, hf⟩
theorem mvR {h₀ h : Heap} {L : Addr} {u a b c d e x y : Addr × Obj} {ex cd news nn : Led} (N : News h₀ L h (u :: a :: b :: c :: d :: e :: x :: y :: (ex ++ nn))) (hn : nn = cd ++ news) : News h₀ L h (x :: y :: ((ex ++ cd) ++ ([u, a, b, c, d, e] ++ news))) := by
  subst hn
  intro p hp
  refine N p ?_
  simp only [List.mem_cons, List.mem_append, List.not_mem_nil, or_false] at hp ⊢
  rcases hp with h | h | h | h <;> grind
theorem mvBk {h₀ h : Heap} {L : Addr} {u a b c d e f t : Addr × Obj} {ex : Led} (N : News h₀ L h (u :: a :: b :: c :: d :: e :: f :: t :: ex)) : News h₀ L h (f :: t :: u :: a :: b :: c :: d :: e :: ex) := by
  intro p hp
  refine N p ?_
  simp only [List.mem_cons] at hp ⊢
  rcases hp with h | h | h | h | h | h | h | h | h <;> simp [h]
theorem rule_ok (w : World) (p v : Int) (t5 t6 : Tok) (news : Led) :
   SpecR 5 w 162 [.int p t5, .int v t6] news (fun r tl cd => ∃ x, r = .ref x ∧ RuleAt w (tl ++ cd) x p v) := by
  unfold SpecR SpecX
  k_fill
  intro loose mean mg mb dp un gd cn cs a₁ ccd cl outer A₀ base h₀ L m s Q E t1 t2 cd B F X N ht1 ht2 hT T hk hdp hu hret
  obtain ⟨nn, hnn⟩ : ∃ nn, nn = cd ++ news := ⟨_, rfl⟩
  have hcn : ∀ p ∈ cd, p ∈ nn := fun p hp => hnn ▸ List.mem_append.mpr (.inl hp)
  rw [← hnn] at N hT hret
  refine wpAny_call ?_
  k_dflt (walk_at "mine enter")
  (repeat' (first | (k_unfold; (try dsimp only)) | (k_end; wrow_close) | (first | (k_here; (with_reducible show wpAny _ _ (eval (Expr.Name (Str.ofString "power") _) (envX _ _ _ _ _ _)) _ _ _); k_dflt (refine' nameX_F ?N ?c ?m ?d ?_ ?a ?b; (case a => rfl); (case b => rfl); (case N => k_asm); (case c => rfl); (case m => assumption); (case d => assumption); k_whole)) | ((with_reducible show wpAny _ _ (eval (Expr.Lambda _ _ _ _) _) _ _ _); (with_reducible refine holdIt ?_)) | ((with_reducible show wpAny _ _ (call (Value.ref _) _) _ _ _); (k_here; k_dflt (refine' Spec.use (mk _ _ _ _ ?kL) ?k1 ?k2 ?k3 ?k4 ?k5 ?kK ?kd ?ku ?_; (((case k4 => k_asm); (case k1 => k_asm); (case k2 => k_asm); (case k3 => k_asm); (case k5 => k_asm); (case kK => first | exact rfl | assumption); (case kd => ktr_room); (case ku => ktr_units))); (case kL => (show PySem.Str.length _ ≤ 1000; omega))); intro r9 n9 h9 tk9 F9 N9 P9; obtain ⟨e9, x9, e8, w9⟩ := P9; subst e8; (try dsimp only); (try k_fold))) | ((with_reducible show wpAny _ _ (call (Value.ref _) _) _ _ _); (k_here; k_dflt (refine' Spec.use (ind_ok _ _ _ _ _ _ ?kW ?kA ?kB) ?k1 ?k2 ?k3 ?k4 ?k5 ?kK ?kd ?ku ?_; (((case k4 => k_asm); (case k1 => k_asm); (case k2 => k_asm); (case k3 => k_asm); (case k5 => k_asm); (case kK => first | exact rfl | assumption); (case kd => ktr_room); (case ku => ktr_units))); (case kW => assumption); (case kA => omega); (case kB => omega)); intro r9 n9 h9 tk9 F9 N9 P9; obtain ⟨e9, t9, e8⟩ := P9; rw [e9] at N9; clear e9; subst e8; (try dsimp only); (try k_fold))) | ((with_reducible show wpAny _ _ (call (Value.ref _) _) _ _ _); (k_here; k_dflt (refine' Spec.use (lrs_ok _ _ _ _ ?kW) ?k1 ?k2 ?k3 ?k4 ?k5 ?kK ?kd ?ku ?_; (((case k4 => k_asm); (case k1 => k_asm); (case k2 => k_asm); (case k3 => k_asm); (case k5 => k_asm); (case kK => first | exact rfl | assumption); (case kd => ktr_room); (case ku => ktr_units))); (case kW => assumption)); intro r9 n9 h9 tk9 F9 N9 P9; obtain ⟨e9, t9, e8⟩ := P9; rw [e9] at N9; clear e9; subst e8; (try dsimp only); (try k_fold))) | ((with_reducible show wpAny _ _ (call (Value.ref _) _) _ _ _); (k_here; k_dflt (first | (refine' call_cls0 ?k1 ?k2 ?k3 ?k4 ?k5 ?_; (case k1 => k_asm); (case k2 => k_asm); (case k3 => k_asm); (case k4 => k_is); (case k5 => k_is); k_whole; intro x' d' h' F' N' l1 l2; (try k_lt l1); (try k_lt2 l2); (try k_sweep)) | (refine' call_cls ?k1 ?k2 ?k3 ?k4 ?k5 ?k6 ?_; (case k1 => k_asm); (case k2 => k_asm); (case k3 => k_asm); (case k4 => k_is); (case k5 => k_is); (case k6 => k_is); k_whole; intro x' d' h' F' N' l1 l2; (try k_lt l1); (try k_lt2 l2); (try k_sweep); walk_at "mine enter") | (refine' call_meth ?k1 ?k2 ?_; (case k1 => k_asm); (case k2 => k_mem); k_whole; walk_at "mine enter") | (refine wpAny_call ?_; walk_at "mine enter")))) | walk1) | (dsimp only; (first | (k_here; (with_reducible show wpAny _ _ (eval (Expr.Name (Str.ofString "power") _) (envX _ _ _ _ _ _)) _ _ _); k_dflt (refine' nameX_F ?N ?c ?m ?d ?_ ?a ?b; (case a => rfl); (case b => rfl); (case N => k_asm); (case c => rfl); (case m => assumption); (case d => assumption); k_whole)) | ((with_reducible show wpAny _ _ (eval (Expr.Lambda _ _ _ _) _) _ _ _); (with_reducible refine holdIt ?_)) | ((with_reducible show wpAny _ _ (call (Value.ref _) _) _ _ _); (k_here; k_dflt (refine' Spec.use (mk _ _ _ _ ?kL) ?k1 ?k2 ?k3 ?k4 ?k5 ?kK ?kd ?ku ?_; (((case k4 => k_asm); (case k1 => k_asm); (case k2 => k_asm); (case k3 => k_asm); (case k5 => k_asm); (case kK => first | exact rfl | assumption); (case kd => ktr_room); (case ku => ktr_units))); (case kL => (show PySem.Str.length _ ≤ 1000; omega))); intro r9 n9 h9 tk9 F9 N9 P9; obtain ⟨e9, x9, e8, w9⟩ := P9; subst e8; (try dsimp only); (try k_fold))) | ((with_reducible show wpAny _ _ (call (Value.ref _) _) _ _ _); (k_here; k_dflt (refine' Spec.use (ind_ok _ _ _ _ _ _ ?kW ?kA ?kB) ?k1 ?k2 ?k3 ?k4 ?k5 ?kK ?kd ?ku ?_; (((case k4 => k_asm); (case k1 => k_asm); (case k2 => k_asm); (case k3 => k_asm); (case k5 => k_asm); (case kK => first | exact rfl | assumption); (case kd => ktr_room); (case ku => ktr_units))); (case kW => assumption); (case kA => omega); (case kB => omega)); intro r9 n9 h9 tk9 F9 N9 P9; obtain ⟨e9, t9, e8⟩ := P9; rw [e9] at N9; clear e9; subst e8; (try dsimp only); (try k_fold))) | ((with_reducible show wpAny _ _ (call (Value.ref _) _) _ _ _); (k_here; k_dflt (refine' Spec.use (lrs_ok _ _ _ _ ?kW) ?k1 ?k2 ?k3 ?k4 ?k5 ?kK ?kd ?ku ?_; (((case k4 => k_asm); (case k1 => k_asm); (case k2 => k_asm); (case k3 => k_asm); (case k5 => k_asm); (case kK => first | exact rfl | assumption); (case kd => ktr_room); (case ku => ktr_units))); (case kW => assumption)); intro r9 n9 h9 tk9 F9 N9 P9; obtain ⟨e9, t9, e8⟩ := P9; rw [e9] at N9; clear e9; subst e8; (try dsimp only); (try k_fold))) | ((with_reducible show wpAny _ _ (call (Value.ref _) _) _ _ _); (k_here; k_dflt (first | (refine' call_cls0 ?k1 ?k2 ?k3 ?k4 ?k5 ?_; (case k1 => k_asm); (case k2 => k_asm); (case k3 => k_asm); (case k4 => k_is); (case k5 => k_is); k_whole; intro x' d' h' F' N' l1 l2; (try k_lt l1); (try k_lt2 l2); (try k_sweep)) | (refine' call_cls ?k1 ?k2 ?k3 ?k4 ?k5 ?k6 ?_; (case k1 => k_asm); (case k2 => k_asm); (case k3 => k_asm); (case k4 => k_is); (case k5 => k_is); (case k6 => k_is); k_whole; intro x' d' h' F' N' l1 l2; (try k_lt l1); (try k_lt2 l2); (try k_sweep); walk_at "mine enter") | (refine' call_meth ?k1 ?k2 ?_; (case k1 => k_asm); (case k2 => k_mem); k_whole; walk_at "mine enter") | (refine wpAny_call ?_; walk_at "mine enter")))) | walk1)) | (leave1; walk_say "STEP leave1"; try dsimp only) | fail "no step"))
  unfold Hold
  rename News _ _ _ _ => N9
  have hne : ∀ p ∈ nn, p.1 ≠ (157 : Addr) := fun p hp => Nat.ne_of_gt (hT p hp)
  refine lamMake (c := 161) (P := 157) (ps := t2) rfl (by k_asm) (mv6 N9) (by k_asm) (codeHd_of_K (by k_asm) (by kernel_rfl)) rfl ?_ ht2 (fun p hp => .tail _ (.tail _ (.tail _ (.tail _ (.tail _ (.tail _ (hcn p hp))))))) rfl ?_
  · simp only [List.forall_mem_cons]
    refine ⟨?_, ?_, ?_, ?_, ?_, ?_, hne⟩ <;> k_ne
  · intro f' c' ct' ps' ex h' tk' oc' vs' t' F' N' hTab hex hrf hPf hcm hcd hcv
    have N2 := mvEx N'
    clear N' N9
    have hall : ∀ q ∈ ex ++ nn, q.1 < f' := by
      intro q hq
      rcases List.mem_append.mp hq with h | h
      · exact (hex q h).2.1
      · exact hrf q (.tail _ (.tail _ (.tail _ (.tail _ (.tail _ (.tail _ h))))))
    rename _ ∧ _ ∧ AllLt _ nn => hL0
    rename _ ∧ _ ∧ _ ∧ AllLt _ nn => hA0
    have hdn := ltEx hex (.tail _ (.tail _ (.tail _ (.head _)))) (allNe (kst_ltOf hA0.2.2.2) (Nat.le_refl _))
    dsimp only at hdn
    have hf1 : @LT.lt Nat _ _ f' := hrf _ (.head _)
    have hf2 : @LT.lt Nat _ _ f' := hrf _ (.tail _ (.head _))
    have hf3 : @LT.lt Nat _ _ f' := hrf _ (.tail _ (.tail _ (.head _)))
    have hf4 : @LT.lt Nat _ _ f' := hrf _ (.tail _ (.tail _ (.tail _ (.head _))))
    have hf5 : @LT.lt Nat _ _ f' := hrf _ (.tail _ (.tail _ (.tail _ (.tail _ (.head _)))))
    dsimp only at hf1 hf2 hf3 hf4 hf5
    (repeat' (first | (k_unfold; (try dsimp only)) | (k_end; wrow_close) | (first | (k_here; (with_reducible show wpAny _ _ (eval (Expr.Name (Str.ofString "power") _) (envX _ _ _ _ _ _)) _ _ _); k_dflt (refine' nameX_F ?N ?c ?m ?d ?_ ?a ?b; (case a => rfl); (case b => rfl); (case N => k_asm); (case c => rfl); (case m => assumption); (case d => assumption); k_whole)) | ((with_reducible show wpAny _ _ (eval (Expr.Lambda _ _ _ _) _) _ _ _); (with_reducible refine holdIt ?_)) | ((with_reducible show wpAny _ _ (call (Value.ref _) _) _ _ _); (k_here; k_dflt (refine' Spec.use (mk _ _ _ _ ?kL) ?k1 ?k2 ?k3 ?k4 ?k5 ?kK ?kd ?ku ?_; (((case k4 => k_asm); (case k1 => k_asm); (case k2 => k_asm); (case k3 => k_asm); (case k5 => k_asm); (case kK => first | exact rfl | assumption); (case kd => ktr_room); (case ku => ktr_units))); (case kL => (show PySem.Str.length _ ≤ 1000; omega))); intro r9 n9 h9 tk9 F9 N9 P9; obtain ⟨e9, x9, e8, w9⟩ := P9; subst e8; (try dsimp only); (try k_fold))) | ((with_reducible show wpAny _ _ (call (Value.ref _) _) _ _ _); (k_here; k_dflt (refine' Spec.use (ind_ok _ _ _ _ _ _ ?kW ?kA ?kB) ?k1 ?k2 ?k3 ?k4 ?k5 ?kK ?kd ?ku ?_; (((case k4 => k_asm); (case k1 => k_asm); (case k2 => k_asm); (case k3 => k_asm); (case k5 => k_asm); (case kK => first | exact rfl | assumption); (case kd => ktr_room); (case ku => ktr_units))); (case kW => assumption); (case kA => omega); (case kB => omega)); intro r9 n9 h9 tk9 F9 N9 P9; obtain ⟨e9, t9, e8⟩ := P9; rw [e9] at N9; clear e9; subst e8; (try dsimp only); (try k_fold))) | ((with_reducible show wpAny _ _ (call (Value.ref _) _) _ _ _); (k_here; k_dflt (refine' Spec.use (lrs_ok _ _ _ _ ?kW) ?k1 ?k2 ?k3 ?k4 ?k5 ?kK ?kd ?ku ?_; (((case k4 => k_asm); (case k1 => k_asm); (case k2 => k_asm); (case k3 => k_asm); (case k5 => k_asm); (case kK => first | exact rfl | assumption); (case kd => ktr_room); (case ku => ktr_units))); (case kW => assumption)); intro r9 n9 h9 tk9 F9 N9 P9; obtain ⟨e9, t9, e8⟩ := P9; rw [e9] at N9; clear e9; subst e8; (try dsimp only); (try k_fold))) | ((with_reducible show wpAny _ _ (call (Value.ref _) _) _ _ _); (k_here; k_dflt (first | (refine' call_cls0 ?k1 ?k2 ?k3 ?k4 ?k5 ?_; (case k1 => k_asm); (case k2 => k_asm); (case k3 => k_asm); (case k4 => k_is); (case k5 => k_is); k_whole; intro x' d' h' F' N' l1 l2; (try k_lt l1); (try k_lt2 l2); (try k_sweep)) | (refine' call_cls ?k1 ?k2 ?k3 ?k4 ?k5 ?k6 ?_; (case k1 => k_asm); (case k2 => k_asm); (case k3 => k_asm); (case k4 => k_is); (case k5 => k_is); (case k6 => k_is); k_whole; intro x' d' h' F' N' l1 l2; (try k_lt l1); (try k_lt2 l2); (try k_sweep); walk_at "mine enter") | (refine' call_meth ?k1 ?k2 ?_; (case k1 => k_asm); (case k2 => k_mem); k_whole; walk_at "mine enter") | (refine wpAny_call ?_; walk_at "mine enter")))) | walk1) | (dsimp only; (first | (k_here; (with_reducible show wpAny _ _ (eval (Expr.Name (Str.ofString "power") _) (envX _ _ _ _ _ _)) _ _ _); k_dflt (refine' nameX_F ?N ?c ?m ?d ?_ ?a ?b; (case a => rfl); (case b => rfl); (case N => k_asm); (case c => rfl); (case m => assumption); (case d => assumption); k_whole)) | ((with_reducible show wpAny _ _ (eval (Expr.Lambda _ _ _ _) _) _ _ _); (with_reducible refine holdIt ?_)) | ((with_reducible show wpAny _ _ (call (Value.ref _) _) _ _ _); (k_here; k_dflt (refine' Spec.use (mk _ _ _ _ ?kL) ?k1 ?k2 ?k3 ?k4 ?k5 ?kK ?kd ?ku ?_; (((case k4 => k_asm); (case k1 => k_asm); (case k2 => k_asm); (case k3 => k_asm); (case k5 => k_asm); (case kK => first | exact rfl | assumption); (case kd => ktr_room); (case ku => ktr_units))); (case kL => (show PySem.Str.length _ ≤ 1000; omega))); intro r9 n9 h9 tk9 F9 N9 P9; obtain ⟨e9, x9, e8, w9⟩ := P9; subst e8; (try dsimp only); (try k_fold))) | ((with_reducible show wpAny _ _ (call (Value.ref _) _) _ _ _); (k_here; k_dflt (refine' Spec.use (ind_ok _ _ _ _ _ _ ?kW ?kA ?kB) ?k1 ?k2 ?k3 ?k4 ?k5 ?kK ?kd ?ku ?_; (((case k4 => k_asm); (case k1 => k_asm); (case k2 => k_asm); (case k3 => k_asm); (case k5 => k_asm); (case kK => first | exact rfl | assumption); (case kd => ktr_room); (case ku => ktr_units))); (case kW => assumption); (case kA => omega); (case kB => omega)); intro r9 n9 h9 tk9 F9 N9 P9; obtain ⟨e9, t9, e8⟩ := P9; rw [e9] at N9; clear e9; subst e8; (try dsimp only); (try k_fold))) | ((with_reducible show wpAny _ _ (call (Value.ref _) _) _ _ _); (k_here; k_dflt (refine' Spec.use (lrs_ok _ _ _ _ ?kW) ?k1 ?k2 ?k3 ?k4 ?k5 ?kK ?kd ?ku ?_; (((case k4 => k_asm); (case k1 => k_asm); (case k2 => k_asm); (case k3 => k_asm); (case k5 => k_asm); (case kK => first | exact rfl | assumption); (case kd => ktr_room); (case ku => ktr_units))); (case kW => assumption)); intro r9 n9 h9 tk9 F9 N9 P9; obtain ⟨e9, t9, e8⟩ := P9; rw [e9] at N9; clear e9; subst e8; (try dsimp only); (try k_fold))) | ((with_reducible show wpAny _ _ (call (Value.ref _) _) _ _ _); (k_here; k_dflt (first | (refine' call_cls0 ?k1 ?k2 ?k3 ?k4 ?k5 ?_; (case k1 => k_asm); (case k2 => k_asm); (case k3 => k_asm); (case k4 => k_is); (case k5 => k_is); k_whole; intro x' d' h' F' N' l1 l2; (try k_lt l1); (try k_lt2 l2); (try k_sweep)) | (refine' call_cls ?k1 ?k2 ?k3 ?k4 ?k5 ?k6 ?_; (case k1 => k_asm); (case k2 => k_asm); (case k3 => k_asm); (case k4 => k_is); (case k5 => k_is); (case k6 => k_is); k_whole; intro x' d' h' F' N' l1 l2; (try k_lt l1); (try k_lt2 l2); (try k_sweep); walk_at "mine enter") | (refine' call_meth ?k1 ?k2 ?_; (case k1 => k_asm); (case k2 => k_mem); k_whole; walk_at "mine enter") | (refine wpAny_call ?_; walk_at "mine enter")))) | walk1)) | (leave1; walk_say "STEP leave1"; try dsimp only) | fail "no step"))
    rename News h₀ _ _ _ => N5
    have hB := kst_ltOf hL0.2.2
    refine hret _ [_, _, _, _, _, _] t1 ps' (ex ++ cd) _ (by k_asm) (mvR N5 hnn) ht1 hTab ?_ (fun p hp => List.mem_append.mpr (.inr hp)) ?_ ?_ ⟨_, rfl, ?_⟩ HT.mk
    · intro q hq
      rcases List.mem_append.mp hq with hq | hq
      · rcases List.mem_append.mp hq with h | h
        · exact (hex q h).2.2
        · exact hT q (hcn q h)
      · rcases List.mem_append.mp hq with hq | hq
        · refine all6 (P := fun q => @LT.lt Nat _ 157 q.1) ?_ ?_ ?_ ?_ ?_ ?_ q hq
          · exact hPf
          · (refine ltN ?_; omega)
          · (refine ltN ?_; omega)
          · (refine ltN ?_; omega)
          · (refine ltN ?_; omega)
          · (refine ltN ?_; omega)
        · exact hT q (hnn ▸ List.mem_append.mpr (.inr hq))
    · intro p hp
      rcases List.mem_append.mp hp with h | h
      · exact .inr fun q hq => (hex p h).1 q (.tail _ (.tail _ (.tail _ (.tail _ (.tail _ (.tail _ hq))))))
      · exact .inl h
    · simp only [List.forall_mem_cons, List.not_mem_nil, false_implies, implies_true, and_true]
      refine ⟨?_, ?_, ?_, ?_, ?_, ?_⟩ <;> (intro q hq; (have hq0 : @LT.lt Nat _ q.1 _ := hB q hq); refine ltN ?_; omega)
    · refine RuleAt.intro (f := f') (.head _) (.tail _ (.tail _ (.tail _ (.head _)))) (.tail _ (.tail _ (.tail _ (.tail _ (.head _))))) fun news' hs q tq hq1 hq2 => ?_
      have hm1 := hs _ (.head _)
      have hm2 := hs _ (.tail _ (.tail _ (.tail _ (.tail _ (.tail _ (.head _))))))
      have hm3 := hs _ (.tail _ (.tail _ (.tail _ (.tail _ (.tail _ (.tail _ (hcm)))))))
      rename (Obj.data _ = Data.cell _) => hcell
      have hcell' := hcell.trans (congrArg Data.cell (show _ = some (Value.int p t5) from rfl))
      clear hcell hs hret
      unfold Spec
      intro loose mean mg mb dp un gd cn cs a₁ ccd cl outer A₀ base h₀ L m s Q E B F X N T hk hdp hu hret
      refine wpAny_call ?_
      k_dflt (((refine' kla_code ?k1 ?k2 ?k3 ?k4 ?k5 ?kA ?kF ?kK ?k6 ?k7 ?k8 ?k9 ?kB ?_ ?c2 ?c3 ?c4 ?c5; (case kA => exact rfl); (case kF => exact rfl); (case kK => first | exact rfl | assumption); (case k4 => k_asm); (case k1 => k_asm); (case k2 => k_asm); (case k3 => k_asm); (case k5 => k_asm); (case k6 => assumption); (case k7 => exact codeRec_news (by k_asm) (by assumption) (by assumption) (by assumption)); (case k8 => ktr_room); (case k9 => exact rfl); (case c5 => decide); (case kB => exact locs rfl); (case c2 => exact rfl); (case c3 => exact rfl); (case c4 => exact rfl); k_whole; intro g' L' h' FG' F' N' B' X' T'; (try dsimp only); (try k_lift B'); (try k_fold))))
      (repeat' (first | (k_unfold; (try dsimp only)) | (k_end; wrow_close) | (first | (k_here; (with_reducible show wpAny _ _ (eval (Expr.Name (Str.ofString "power") _) (envX _ _ _ _ _ _)) _ _ _); k_dflt (refine' nameX_F ?N ?c ?m ?d ?_ ?a ?b; (case a => rfl); (case b => rfl); (case N => k_asm); (case c => rfl); (case m => assumption); (case d => assumption); k_whole)) | ((with_reducible show wpAny _ _ (eval (Expr.Lambda _ _ _ _) _) _ _ _); (with_reducible refine holdIt ?_)) | ((with_reducible show wpAny _ _ (call (Value.ref _) _) _ _ _); (k_here; k_dflt (refine' Spec.use (mk _ _ _ _ ?kL) ?k1 ?k2 ?k3 ?k4 ?k5 ?kK ?kd ?ku ?_; (((case k4 => k_asm); (case k1 => k_asm); (case k2 => k_asm); (case k3 => k_asm); (case k5 => k_asm); (case kK => first | exact rfl | assumption); (case kd => ktr_room); (case ku => ktr_units))); (case kL => (show PySem.Str.length _ ≤ 1000; omega))); intro r9 n9 h9 tk9 F9 N9 P9; obtain ⟨e9, x9, e8, w9⟩ := P9; subst e8; (try dsimp only); (try k_fold))) | ((with_reducible show wpAny _ _ (call (Value.ref _) _) _ _ _); (k_here; k_dflt (refine' Spec.use (ind_ok _ _ _ _ _ _ ?kW ?kA ?kB) ?k1 ?k2 ?k3 ?k4 ?k5 ?kK ?kd ?ku ?_; (((case k4 => k_asm); (case k1 => k_asm); (case k2 => k_asm); (case k3 => k_asm); (case k5 => k_asm); (case kK => first | exact rfl | assumption); (case kd => ktr_room); (case ku => ktr_units))); (case kW => assumption); (case kA => omega); (case kB => omega)); intro r9 n9 h9 tk9 F9 N9 P9; obtain ⟨e9, t9, e8⟩ := P9; rw [e9] at N9; clear e9; subst e8; (try dsimp only); (try k_fold))) | ((with_reducible show wpAny _ _ (call (Value.ref _) _) _ _ _); (k_here; k_dflt (refine' Spec.use (lrs_ok _ _ _ _ ?kW) ?k1 ?k2 ?k3 ?k4 ?k5 ?kK ?kd ?ku ?_; (((case k4 => k_asm); (case k1 => k_asm); (case k2 => k_asm); (case k3 => k_asm); (case k5 => k_asm); (case kK => first | exact rfl | assumption); (case kd => ktr_room); (case ku => ktr_units))); (case kW => assumption)); intro r9 n9 h9 tk9 F9 N9 P9; obtain ⟨e9, t9, e8⟩ := P9; rw [e9] at N9; clear e9; subst e8; (try dsimp only); (try k_fold))) | ((with_reducible show wpAny _ _ (call (Value.ref _) _) _ _ _); (k_here; k_dflt (first | (refine' call_cls0 ?k1 ?k2 ?k3 ?k4 ?k5 ?_; (case k1 => k_asm); (case k2 => k_asm); (case k3 => k_asm); (case k4 => k_is); (case k5 => k_is); k_whole; intro x' d' h' F' N' l1 l2; (try k_lt l1); (try k_lt2 l2); (try k_sweep)) | (refine' call_cls ?k1 ?k2 ?k3 ?k4 ?k5 ?k6 ?_; (case k1 => k_asm); (case k2 => k_asm); (case k3 => k_asm); (case k4 => k_is); (case k5 => k_is); (case k6 => k_is); k_whole; intro x' d' h' F' N' l1 l2; (try k_lt l1); (try k_lt2 l2); (try k_sweep); walk_at "mine enter") | (refine' call_meth ?k1 ?k2 ?_; (case k1 => k_asm); (case k2 => k_mem); k_whole; walk_at "mine enter") | (refine wpAny_call ?_; walk_at "mine enter")))) | walk1) | (dsimp only; (first | (k_here; (with_reducible show wpAny _ _ (eval (Expr.Name (Str.ofString "power") _) (envX _ _ _ _ _ _)) _ _ _); k_dflt (refine' nameX_F ?N ?c ?m ?d ?_ ?a ?b; (case a => rfl); (case b => rfl); (case N => k_asm); (case c => rfl); (case m => assumption); (case d => assumption); k_whole)) | ((with_reducible show wpAny _ _ (eval (Expr.Lambda _ _ _ _) _) _ _ _); (with_reducible refine holdIt ?_)) | ((with_reducible show wpAny _ _ (call (Value.ref _) _) _ _ _); (k_here; k_dflt (refine' Spec.use (mk _ _ _ _ ?kL) ?k1 ?k2 ?k3 ?k4 ?k5 ?kK ?kd ?ku ?_; (((case k4 => k_asm); (case k1 => k_asm); (case k2 => k_asm); (case k3 => k_asm); (case k5 => k_asm); (case kK => first | exact rfl | assumption); (case kd => ktr_room); (case ku => ktr_units))); (case kL => (show PySem.Str.length _ ≤ 1000; omega))); intro r9 n9 h9 tk9 F9 N9 P9; obtain ⟨e9, x9, e8, w9⟩ := P9; subst e8; (try dsimp only); (try k_fold))) | ((with_reducible show wpAny _ _ (call (Value.ref _) _) _ _ _); (k_here; k_dflt (refine' Spec.use (ind_ok _ _ _ _ _ _ ?kW ?kA ?kB) ?k1 ?k2 ?k3 ?k4 ?k5 ?kK ?kd ?ku ?_; (((case k4 => k_asm); (case k1 => k_asm); (case k2 => k_asm); (case k3 => k_asm); (case k5 => k_asm); (case kK => first | exact rfl | assumption); (case kd => ktr_room); (case ku => ktr_units))); (case kW => assumption); (case kA => omega); (case kB => omega)); intro r9 n9 h9 tk9 F9 N9 P9; obtain ⟨e9, t9, e8⟩ := P9; rw [e9] at N9; clear e9; subst e8; (try dsimp only); (try k_fold))) | ((with_reducible show wpAny _ _ (call (Value.ref _) _) _ _ _); (k_here; k_dflt (refine' Spec.use (lrs_ok _ _ _ _ ?kW) ?k1 ?k2 ?k3 ?k4 ?k5 ?kK ?kd ?ku ?_; (((case k4 => k_asm); (case k1 => k_asm); (case k2 => k_asm); (case k3 => k_asm); (case k5 => k_asm); (case kK => first | exact rfl | assumption); (case kd => ktr_room); (case ku => ktr_units))); (case kW => assumption)); intro r9 n9 h9 tk9 F9 N9 P9; obtain ⟨e9, t9, e8⟩ := P9; rw [e9] at N9; clear e9; subst e8; (try dsimp only); (try k_fold))) | ((with_reducible show wpAny _ _ (call (Value.ref _) _) _ _ _); (k_here; k_dflt (first | (refine' call_cls0 ?k1 ?k2 ?k3 ?k4 ?k5 ?_; (case k1 => k_asm); (case k2 => k_asm); (case k3 => k_asm); (case k4 => k_is); (case k5 => k_is); k_whole; intro x' d' h' F' N' l1 l2; (try k_lt l1); (try k_lt2 l2); (try k_sweep)) | (refine' call_cls ?k1 ?k2 ?k3 ?k4 ?k5 ?k6 ?_; (case k1 => k_asm); (case k2 => k_asm); (case k3 => k_asm); (case k4 => k_is); (case k5 => k_is); (case k6 => k_is); k_whole; intro x' d' h' F' N' l1 l2; (try k_lt l1); (try k_lt2 l2); (try k_sweep); walk_at "mine enter") | (refine' call_meth ?k1 ?k2 ?_; (case k1 => k_asm); (case k2 => k_mem); k_whole; walk_at "mine enter") | (refine wpAny_call ?_; walk_at "mine enter")))) | walk1)) | (leave1; walk_say "STEP leave1"; try dsimp only) | fail "no step"))
      · exact hret _ _ _ _ (by k_asm) (by k_asm) ⟨rfl, _, by rw [if_pos (by assumption)]⟩
      · exact hret _ _ _ _ (by k_asm) (by k_asm) ⟨rfl, _, by rw [if_neg (by assumption)]⟩
end Mine
end

section
open PySem PySem.W PyProof.Rows
namespace Mine
theorem sec_RB {M : Model} {A : Around} {E : Value → Shared → Prop} {s : Shared} {env : Env} {p : Pos} {Q : Flow → Shared → Prop} (h : Q .next s) : wpAny M A (exec (.Pass p) env) Q E s := by
  w_top off
  k_with_none
  walk1
  exact h
end Mine
end
section
open PySem PySem.W PyProof.Rows PySem.Calls PySem.Spec
set_option maxRecDepth 100000
namespace Mine
section
variable {prog : Program} {w : World} {A A₀ : Around} {E : Value → Shared → Prop} {s : Shared} {K : Frag} {x C dx L : Addr} {h₀ : Heap} {m : Str → Option Value} {ox : Obj} {es : List DictEntry} {n : Nat} {name : Str} {v g : Value} {f : Addr}
theorem findObj_shadow {od : Obj} (hh : hasDictIn K C = true) (ha : findIn K (.ref C) name = some (some (.ref f))) (hn : specialIn K (.ref f) "__get__" = some (some g)) (ht : takesIn K (.ref f) = some false) (hl : lookIn name od = some (some v)) :
    findObj K C (some od) name = some (.value v) := by
  obtain ⟨cd, hc, hd⟩ := any_some hh
  unfold findObj
  rw [hc, Option.bind_some, ha, Option.bind_some]
  have ho : W.ownOf cd (some od) name = some (some v) := by unfold W.ownOf; rw [if_pos hd]; exact hl
  simp [hn, ht, ho]
/-- an attribute of the object's own that hides a function of its class -/
theorem get_shadow {expr : Bool} {Q : Value → Shared → Prop} (F : Fr h₀ L s.heap m) (X₀ : K.In h₀) (I : InstAt s.heap x ox C (some (dictOf es n))) (hg : plainGet K C name = true) (hh : hasDictIn K C = true)
    (ha : findIn K (.ref C) name = some (some (.ref f))) (hn : specialIn K (.ref f) "__get__" = some (some g)) (ht : takesIn K (.ref f) = some false) (hl : getL name es = some (some v)) (hv : handedIn v = true) (h : Q v { s with toks := s.toks + 1 }) :
    wpAny (model prog w) A (getAttr (.ref x) name expr) Q E s :=
  get_value (X₀.keeps F.keep) I (plainGet_of hg).1 (findObj_shadow hh ha hn ht hl) hv h
theorem method_shadow {pl : Sem Bool} {Q : Value × List Value → Shared → Prop} (F : Fr h₀ L s.heap m) (X₀ : K.In h₀) (I : InstAt s.heap x ox C (some (dictOf es n))) (hdx : ox.dict = some dx) (hg : plainGet K C name = true) (hh : hasDictIn K C = true)
    (ha : findIn K (.ref C) name = some (some (.ref f))) (hf : isFn K (.ref f) = true) (hn : specialIn K (.ref f) "__get__" = some (some g)) (ht : takesIn K (.ref f) = some false) (hl : getL name es = some (some v)) (hv : handedIn v = true) (h : Q (v, []) { s with toks := s.toks + 1 }) :
    wpAny (model prog w) A (getMethod (.ref x) name pl) Q E s := by
  have hcan := PySem.F.canon_object_ga
  have X := X₀.keeps F.keep
  have u : wpAny (model prog w) A (do return (← getAttr (.ref x) name, ([] : List Value))) Q E s := wpAny_bind (wpAny_mono (get_shadow (Q := fun v => Q (v, [])) F X₀ I hg hh ha hn ht hl hv h) (fun _ _ z => wpAny_pure z) fun _ _ z => z)
  unfold getMethod specialOf
  refine wpAny_bind (wpAny_bind (I.type.here ((looks_findIn X (plainGet_of hg).1).here ?_)))
  dsimp only
  rw [hcan, if_neg (by decide)]
  refine wpAny_bind (wpAny_bind (I.type.here ((looks_findIn X (plainGet_of hg).2).here ?_)))
  refine wpAny_bind (wpAny_bind (I.type.here ((looks_findIn X ha).here (wpAny_bind ((looks_typeIn X (beq_iff_eq.mp hf)).here ?_)))))
  rw [if_neg (by decide +kernel)]
  refine wpAny_bind (wpAny_loadPart I.at_ ?_)
  have hd := I.dict
  rw [hdx] at hd
  rw [hdx]
  refine wpAny_bind (wpAny_bind (wpAny_loadPart hd ?_))
  rw [nsLook_of (show lookIn name (dictOf es n) = some (some v) by rw [lookIn_dict, hl])]
  refine wpAny_pure ?_
  exact u
end
end Mine
end

section
local macro_rules | `(tactic| walk_at "FnAt") => `(tactic| (k_dflt (exact FnAt.of (by k_asm) (List.Mem.tail _ (by assumption)))))
section
local macro_rules | `(tactic| walk_at "callWith ref") => `(tactic| (k_here; k_dflt (refine' callWith_F ?k1 ?_; (case k1 => exact FnAt.of (by k_asm) (List.Mem.tail _ (by assumption))); k_whole)))
section
open PySem PySem.W PyProof.Rows
namespace Mine
theorem sec_A1 {M : Model} {A : Around} {E : Value → Shared → Prop} {s : Shared} {env : Env} {p : Pos} {Q : Flow → Shared → Prop} (h : Q .next s) : wpAny M A (exec (.Pass p) env) Q E s := by
  w_top off
  k_with_none
  walk1
  exact h
end Mine
end
section
open PySem PySem.W PyProof.Rows
set_option maxRecDepth 100000
set_option maxHeartbeats 1000000
namespace Mine
noncomputable def RulesAt (w : World) (news : Led) (rv : List Value) (rules : List (Int × Int)) : Prop :=
  rv.length = rules.length ∧ ∀ (i : Nat) v, rv[i]? = some v → ∃ y p q, v = .ref y ∧ rules[i]? = some (p, q) ∧ RuleAt w news y p q
theorem RulesAt.mono {w : World} {news news' : Led} {rv : List Value} {rules : List (Int × Int)} (h : RulesAt w news rv rules) (hs : ∀ p ∈ news, p ∈ news') : RulesAt w news' rv rules :=
  ⟨h.1, fun i v e => let ⟨y, p, q, a, b, c⟩ := h.2 i v e; ⟨y, p, q, a, b, c.mono hs⟩⟩
noncomputable def alVal (a : Option Int) (t : Tok) : Value := match a with | none => .bool true | some v => .int v t
noncomputable def alStep (q : Int) (st : Int × Option Int) (r : Int × Int) : Int × Option Int :=
  let m := if Int.fmod r.1 q = 0 then r.1 + 1 else 0
  if m = 0 then st else if st.1 < m then (m, some r.2) else if m = st.1 ∧ st.2 = some 0 then (st.1, some r.2) else st
noncomputable def alOf (rules : List (Int × Int)) (q : Int) : Option Int := (rules.foldl (alStep q) (-1, none)).2
theorem fold_more {α β : Type} {f : β → α → β} {b : β} {l : List α} {i : Nat} {x : α} (h : l[i]? = some x) : (l.take (i + 1)).foldl f b = f ((l.take i).foldl f b) x := by
  rw [List.take_add_one, h]; simp
theorem st1 {q b p v : Int} {al : Option Int} (hz : Int.fmod p q = 0) (h : b < p + 1) (h0 : p + 1 ≠ 0) : alStep q (b, al) (p, v) = (p + 1, some v) := by
  unfold alStep; dsimp only; rw [if_pos hz, if_neg h0, if_pos h]
theorem st2 {q b p v : Int} {al : Option Int} (hz : Int.fmod p q = 0) (h : p + 1 = b) (h0 : p + 1 ≠ 0) (e : al = some 0) : alStep q (b, al) (p, v) = (b, some v) := by
  unfold alStep; dsimp only; rw [if_pos hz, if_neg h0, if_neg (by omega), if_pos ⟨h, e⟩]
theorem st3 {q b p v : Int} {al : Option Int} (hz : Int.fmod p q = 0) (h : ¬ b < p + 1) (e : p + 1 ≠ b ∨ al ≠ some 0) : alStep q (b, al) (p, v) = (b, al) := by
  unfold alStep; dsimp only; rw [if_pos hz]
  split
  · rfl
  · rw [if_neg]; rintro ⟨h1, h2⟩; rcases e with e | e
    · exact e h1
    · exact e h2
theorem st5 {q b p v : Int} {al : Option Int} (hz : ¬ Int.fmod p q = 0) : alStep q (b, al) (p, v) = (b, al) := by
  unfold alStep; dsimp only; rw [if_neg hz, if_pos rfl]
theorem all_ok (w : World) (x : Addr) (ags : List Str) (rv : List Value) (rules : List (Int × Int)) (q : Int) (t5 : Tok) (news : Led) (hW : EntAt news x ags rv) (hR : RulesAt w news rv rules) (hq : 1 ≤ q ∧ q ≤ 1000) (hb : ∀ r ∈ rules, 1 ≤ r.1 ∧ r.1 ≤ 1000 ∧ 0 ≤ r.2 ∧ r.2 ≤ 1000) :
   Spec 3 w 129 [.ref x, .int q t5] news (fun r news' => news' = news ∧ ∃ t, r = alVal (alOf rules q) t) := by
  refine hW.el fun d la lr us a1 a2 a3 a4 b1 b2 b3 b4 k1 k2 k3 h1 h2 h3 h4 h5 => ?_
  unfold Spec
  k_fill
  intro loose mean mg mb dp un gd cn cs a₁ ccd cl outer A₀ base h₀ L m s Q E B F X N T hk hdp hu hret
  refine wpAny_call ?_
  k_dflt (walk_at "mine enter")
  (repeat' (first | (k_unfold; (try dsimp only)) | (k_end; wrow_close) | (first | ((with_reducible show wpAny _ _ (call (Value.ref _) _) _ _ _); (with_reducible refine holdIt ?_)) | ((with_reducible show wpAny _ _ (getAttr (Value.ref _) _ _) _ _ _); (k_here; k_dflt (refine' get_shadow ?k1 ?k2 ?k3 ?k4 ?k5 ?k6 ?k7 ?k8 ?k9 ?k10 ?_; (case k1 => k_asm); (case k2 => k_asm); (case k3 => (first | exact InstAt.of_news (by k_asm) (List.Mem.tail _ (by assumption)) (List.Mem.tail _ (by assumption)) | exact InstAt.of_news (by k_asm) (by assumption) (by assumption))); (case k4 => k_is); (case k5 => k_is); (case k6 => k_is); (case k7 => k_is); (case k8 => k_is); (case k9 => k_get); (case k10 => k_handed); k_whole))) | ((with_reducible show wpAny _ _ (getMethod (Value.ref _) _ _) _ _ _); (k_here; k_dflt (refine' method_shadow ?k1 ?k2 ?k3 ?k4 ?k5 ?k6 ?k7 ?k8 ?k9 ?k10 ?k11 ?k12 ?_; (case k1 => k_asm); (case k2 => k_asm); (case k3 => (first | exact InstAt.of_news (by k_asm) (List.Mem.tail _ (by assumption)) (List.Mem.tail _ (by assumption)) | exact InstAt.of_news (by k_asm) (by assumption) (by assumption))); (case k4 => exact rfl); (case k5 => k_is); (case k6 => k_is); (case k7 => k_is); (case k8 => k_is); (case k9 => k_is); (case k10 => k_is); (case k11 => k_get); (case k12 => k_handed); k_whole))) | ((with_reducible show wpAny _ _ (pyIter (Value.ref _)) _ _ _); (with_reducible refine holdIt ?_)) | walk1) | (dsimp only; (first | ((with_reducible show wpAny _ _ (call (Value.ref _) _) _ _ _); (with_reducible refine holdIt ?_)) | ((with_reducible show wpAny _ _ (getAttr (Value.ref _) _ _) _ _ _); (k_here; k_dflt (refine' get_shadow ?k1 ?k2 ?k3 ?k4 ?k5 ?k6 ?k7 ?k8 ?k9 ?k10 ?_; (case k1 => k_asm); (case k2 => k_asm); (case k3 => (first | exact InstAt.of_news (by k_asm) (List.Mem.tail _ (by assumption)) (List.Mem.tail _ (by assumption)) | exact InstAt.of_news (by k_asm) (by assumption) (by assumption))); (case k4 => k_is); (case k5 => k_is); (case k6 => k_is); (case k7 => k_is); (case k8 => k_is); (case k9 => k_get); (case k10 => k_handed); k_whole))) | ((with_reducible show wpAny _ _ (getMethod (Value.ref _) _ _) _ _ _); (k_here; k_dflt (refine' method_shadow ?k1 ?k2 ?k3 ?k4 ?k5 ?k6 ?k7 ?k8 ?k9 ?k10 ?k11 ?k12 ?_; (case k1 => k_asm); (case k2 => k_asm); (case k3 => (first | exact InstAt.of_news (by k_asm) (List.Mem.tail _ (by assumption)) (List.Mem.tail _ (by assumption)) | exact InstAt.of_news (by k_asm) (by assumption) (by assumption))); (case k4 => exact rfl); (case k5 => k_is); (case k6 => k_is); (case k7 => k_is); (case k8 => k_is); (case k9 => k_is); (case k10 => k_is); (case k11 => k_get); (case k12 => k_handed); k_whole))) | ((with_reducible show wpAny _ _ (pyIter (Value.ref _)) _ _ _); (with_reducible refine holdIt ?_)) | walk1)) | (leave1; walk_say "STEP leave1"; try dsimp only) | fail "no step"))
  unfold Hold
  refine' loopList (σ := (Int × Option Int) × Tok × Tok) (fun _ => news) (fun c => [(Str.ofString "best_match", .int c.1.1 c.2.1), (Str.ofString "allowance", alVal c.1.2 c.2.2)]) [Str.ofString "line", Str.ofString "m"] (fun I i c => c.1 = (rules.take i).foldl (alStep q) (-1, none)) (fun c => c.1 = rules.foldl (alStep q) (-1, none)) ((-1, none), _, 0) rfl (fun _ => h4) (by k_asm) (by k_asm) ?hk ?hp ?turn ?done ?fin
  case hk => kst_all
  case hp => intro I hI; rfl
  case done => intro I c h; rw [hR.1, List.take_length] at h; exact h
  case turn =>
    rintro I hI ⟨⟨b, al⟩, tb, ta⟩ i v u h tk o hv hP hne F' N' s₁ rfl
    obtain ⟨y, p, vd, rfl, hr, hy⟩ := hR.2 _ _ hv
    refine hy.el fun dy f ya yr c1 c2 c3 c4 c5 c6 e1 e2 e3 e4 e5 e6 ty ky fc fo fd fs g0 g1 g2 g3 => ?_
    have hbr := hb _ (List.mem_of_getElem? hr)
    dsimp only [kstB] at F'
    rename News _ _ _ _ => N9
    (repeat' (first | (k_unfold; (try dsimp only)) | (k_end; wrow_close) | (first | ((with_reducible show wpAny _ _ (call (Value.ref _) _) _ _ _); (with_reducible refine holdIt ?_)) | ((with_reducible show wpAny _ _ (getAttr (Value.ref _) _ _) _ _ _); (k_here; k_dflt (refine' get_shadow ?k1 ?k2 ?k3 ?k4 ?k5 ?k6 ?k7 ?k8 ?k9 ?k10 ?_; (case k1 => k_asm); (case k2 => k_asm); (case k3 => (first | exact InstAt.of_news (by k_asm) (List.Mem.tail _ (by assumption)) (List.Mem.tail _ (by assumption)) | exact InstAt.of_news (by k_asm) (by assumption) (by assumption))); (case k4 => k_is); (case k5 => k_is); (case k6 => k_is); (case k7 => k_is); (case k8 => k_is); (case k9 => k_get); (case k10 => k_handed); k_whole))) | ((with_reducible show wpAny _ _ (getMethod (Value.ref _) _ _) _ _ _); (k_here; k_dflt (refine' method_shadow ?k1 ?k2 ?k3 ?k4 ?k5 ?k6 ?k7 ?k8 ?k9 ?k10 ?k11 ?k12 ?_; (case k1 => k_asm); (case k2 => k_asm); (case k3 => (first | exact InstAt.of_news (by k_asm) (List.Mem.tail _ (by assumption)) (List.Mem.tail _ (by assumption)) | exact InstAt.of_news (by k_asm) (by assumption) (by assumption))); (case k4 => exact rfl); (case k5 => k_is); (case k6 => k_is); (case k7 => k_is); (case k8 => k_is); (case k9 => k_is); (case k10 => k_is); (case k11 => k_get); (case k12 => k_handed); k_whole))) | ((with_reducible show wpAny _ _ (pyIter (Value.ref _)) _ _ _); (with_reducible refine holdIt ?_)) | walk1) | (dsimp only; (first | ((with_reducible show wpAny _ _ (call (Value.ref _) _) _ _ _); (with_reducible refine holdIt ?_)) | ((with_reducible show wpAny _ _ (getAttr (Value.ref _) _ _) _ _ _); (k_here; k_dflt (refine' get_shadow ?k1 ?k2 ?k3 ?k4 ?k5 ?k6 ?k7 ?k8 ?k9 ?k10 ?_; (case k1 => k_asm); (case k2 => k_asm); (case k3 => (first | exact InstAt.of_news (by k_asm) (List.Mem.tail _ (by assumption)) (List.Mem.tail _ (by assumption)) | exact InstAt.of_news (by k_asm) (by assumption) (by assumption))); (case k4 => k_is); (case k5 => k_is); (case k6 => k_is); (case k7 => k_is); (case k8 => k_is); (case k9 => k_get); (case k10 => k_handed); k_whole))) | ((with_reducible show wpAny _ _ (getMethod (Value.ref _) _ _) _ _ _); (k_here; k_dflt (refine' method_shadow ?k1 ?k2 ?k3 ?k4 ?k5 ?k6 ?k7 ?k8 ?k9 ?k10 ?k11 ?k12 ?_; (case k1 => k_asm); (case k2 => k_asm); (case k3 => (first | exact InstAt.of_news (by k_asm) (List.Mem.tail _ (by assumption)) (List.Mem.tail _ (by assumption)) | exact InstAt.of_news (by k_asm) (by assumption) (by assumption))); (case k4 => exact rfl); (case k5 => k_is); (case k6 => k_is); (case k7 => k_is); (case k8 => k_is); (case k9 => k_is); (case k10 => k_is); (case k11 => k_get); (case k12 => k_handed); k_whole))) | ((with_reducible show wpAny _ _ (pyIter (Value.ref _)) _ _ _); (with_reducible refine holdIt ?_)) | walk1)) | (leave1; walk_say "STEP leave1"; try dsimp only) | fail "no step"))
    unfold Hold
    refine Spec.use (g3 _ (fun p hp => List.Mem.tail (I, o) hp) q _ hq.1 hq.2) (by k_asm) (by k_asm) (by k_asm) N9 (by k_asm) rfl (by ktr_room) (by ktr_units) ?_
    rintro r9 n9 h9 tk9 F9 N7 ⟨rfl, t9, rfl⟩
    dsimp only at hP hbr
    have hpair := hP
    have hstep : ∀ c' : Int × Option Int, c' = alStep q (b, al) (p, vd) → c' = (rules.take (i + 1)).foldl (alStep q) (-1, none) := fun c' e => by rw [fold_more hr, ← hP]; exact e
    by_cases hz : Int.fmod p q = 0
    · rw [if_pos hz]
      cases al with
      | none =>
        (rename Fr _ _ _ _ => F9z); dsimp +zetaDelta only [alVal] at F9z
        clear hret
        (repeat' (first | (k_unfold; (try dsimp only)) | (k_end; wrow_close) | (first | ((with_reducible show wpAny _ _ (call (Value.ref _) _) _ _ _); (with_reducible refine holdIt ?_)) | ((with_reducible show wpAny _ _ (getAttr (Value.ref _) _ _) _ _ _); (k_here; k_dflt (refine' get_shadow ?k1 ?k2 ?k3 ?k4 ?k5 ?k6 ?k7 ?k8 ?k9 ?k10 ?_; (case k1 => k_asm); (case k2 => k_asm); (case k3 => (first | exact InstAt.of_news (by k_asm) (List.Mem.tail _ (by assumption)) (List.Mem.tail _ (by assumption)) | exact InstAt.of_news (by k_asm) (by assumption) (by assumption))); (case k4 => k_is); (case k5 => k_is); (case k6 => k_is); (case k7 => k_is); (case k8 => k_is); (case k9 => k_get); (case k10 => k_handed); k_whole))) | ((with_reducible show wpAny _ _ (getMethod (Value.ref _) _ _) _ _ _); (k_here; k_dflt (refine' method_shadow ?k1 ?k2 ?k3 ?k4 ?k5 ?k6 ?k7 ?k8 ?k9 ?k10 ?k11 ?k12 ?_; (case k1 => k_asm); (case k2 => k_asm); (case k3 => (first | exact InstAt.of_news (by k_asm) (List.Mem.tail _ (by assumption)) (List.Mem.tail _ (by assumption)) | exact InstAt.of_news (by k_asm) (by assumption) (by assumption))); (case k4 => exact rfl); (case k5 => k_is); (case k6 => k_is); (case k7 => k_is); (case k8 => k_is); (case k9 => k_is); (case k10 => k_is); (case k11 => k_get); (case k12 => k_handed); k_whole))) | ((with_reducible show wpAny _ _ (pyIter (Value.ref _)) _ _ _); (with_reducible refine holdIt ?_)) | walk1) | (dsimp only; (first | ((with_reducible show wpAny _ _ (call (Value.ref _) _) _ _ _); (with_reducible refine holdIt ?_)) | ((with_reducible show wpAny _ _ (getAttr (Value.ref _) _ _) _ _ _); (k_here; k_dflt (refine' get_shadow ?k1 ?k2 ?k3 ?k4 ?k5 ?k6 ?k7 ?k8 ?k9 ?k10 ?_; (case k1 => k_asm); (case k2 => k_asm); (case k3 => (first | exact InstAt.of_news (by k_asm) (List.Mem.tail _ (by assumption)) (List.Mem.tail _ (by assumption)) | exact InstAt.of_news (by k_asm) (by assumption) (by assumption))); (case k4 => k_is); (case k5 => k_is); (case k6 => k_is); (case k7 => k_is); (case k8 => k_is); (case k9 => k_get); (case k10 => k_handed); k_whole))) | ((with_reducible show wpAny _ _ (getMethod (Value.ref _) _ _) _ _ _); (k_here; k_dflt (refine' method_shadow ?k1 ?k2 ?k3 ?k4 ?k5 ?k6 ?k7 ?k8 ?k9 ?k10 ?k11 ?k12 ?_; (case k1 => k_asm); (case k2 => k_asm); (case k3 => (first | exact InstAt.of_news (by k_asm) (List.Mem.tail _ (by assumption)) (List.Mem.tail _ (by assumption)) | exact InstAt.of_news (by k_asm) (by assumption) (by assumption))); (case k4 => exact rfl); (case k5 => k_is); (case k6 => k_is); (case k7 => k_is); (case k8 => k_is); (case k9 => k_is); (case k10 => k_is); (case k11 => k_get); (case k12 => k_handed); k_whole))) | ((with_reducible show wpAny _ _ (pyIter (Value.ref _)) _ _ _); (with_reducible refine holdIt ?_)) | walk1)) | (leave1; walk_say "STEP leave1"; try dsimp only) | fail "no step"))
        · refine' ⟨((p + 1, some vd), _, ty), _, _, _, _, rfl, ?a1, ?a2, ?a3, ?a4, ?a5, ?a6, ?a7, hstep _ (st1 hz (by omega) (by omega)).symm⟩
          (((case a1 => k_asm); (case a2 => k_asm); (case a3 => k_mem); (case a4 => exact fun p hp => .tail _ hp); (case a6 => kst_all); (case a7 => kst_same)))
          (case a5 => exact hne)
        · refine' ⟨((b, none), tb, ta), _, _, _, _, rfl, ?b1, ?b2, ?b3, ?b4, ?b5, ?b6, ?b7, hstep _ (st3 hz (by omega) (.inr (fun e => by cases e))).symm⟩
          (((case b1 => k_asm); (case b2 => k_asm); (case b3 => k_mem); (case b4 => exact fun p hp => .tail _ hp); (case b6 => kst_all); (case b7 => kst_same)))
          (case b5 => exact hne)
        · refine' ⟨((b, none), tb, ta), _, _, _, _, rfl, ?c1, ?c2, ?c3, ?c4, ?c5, ?c6, ?c7, hstep _ (st3 hz (by omega) (.inl (by omega))).symm⟩
          (((case c1 => k_asm); (case c2 => k_asm); (case c3 => k_mem); (case c4 => exact fun p hp => .tail _ hp); (case c6 => kst_all); (case c7 => kst_same)))
          (case c5 => exact hne)
        all_goals (exfalso; omega)
      | some a =>
        (rename Fr _ _ _ _ => F9z); dsimp +zetaDelta only [alVal] at F9z
        clear hret
        (repeat' (first | (k_unfold; (try dsimp only)) | (k_end; wrow_close) | (first | ((with_reducible show wpAny _ _ (call (Value.ref _) _) _ _ _); (with_reducible refine holdIt ?_)) | ((with_reducible show wpAny _ _ (getAttr (Value.ref _) _ _) _ _ _); (k_here; k_dflt (refine' get_shadow ?k1 ?k2 ?k3 ?k4 ?k5 ?k6 ?k7 ?k8 ?k9 ?k10 ?_; (case k1 => k_asm); (case k2 => k_asm); (case k3 => (first | exact InstAt.of_news (by k_asm) (List.Mem.tail _ (by assumption)) (List.Mem.tail _ (by assumption)) | exact InstAt.of_news (by k_asm) (by assumption) (by assumption))); (case k4 => k_is); (case k5 => k_is); (case k6 => k_is); (case k7 => k_is); (case k8 => k_is); (case k9 => k_get); (case k10 => k_handed); k_whole))) | ((with_reducible show wpAny _ _ (getMethod (Value.ref _) _ _) _ _ _); (k_here; k_dflt (refine' method_shadow ?k1 ?k2 ?k3 ?k4 ?k5 ?k6 ?k7 ?k8 ?k9 ?k10 ?k11 ?k12 ?_; (case k1 => k_asm); (case k2 => k_asm); (case k3 => (first | exact InstAt.of_news (by k_asm) (List.Mem.tail _ (by assumption)) (List.Mem.tail _ (by assumption)) | exact InstAt.of_news (by k_asm) (by assumption) (by assumption))); (case k4 => exact rfl); (case k5 => k_is); (case k6 => k_is); (case k7 => k_is); (case k8 => k_is); (case k9 => k_is); (case k10 => k_is); (case k11 => k_get); (case k12 => k_handed); k_whole))) | ((with_reducible show wpAny _ _ (pyIter (Value.ref _)) _ _ _); (with_reducible refine holdIt ?_)) | walk1) | (dsimp only; (first | ((with_reducible show wpAny _ _ (call (Value.ref _) _) _ _ _); (with_reducible refine holdIt ?_)) | ((with_reducible show wpAny _ _ (getAttr (Value.ref _) _ _) _ _ _); (k_here; k_dflt (refine' get_shadow ?k1 ?k2 ?k3 ?k4 ?k5 ?k6 ?k7 ?k8 ?k9 ?k10 ?_; (case k1 => k_asm); (case k2 => k_asm); (case k3 => (first | exact InstAt.of_news (by k_asm) (List.Mem.tail _ (by assumption)) (List.Mem.tail _ (by assumption)) | exact InstAt.of_news (by k_asm) (by assumption) (by assumption))); (case k4 => k_is); (case k5 => k_is); (case k6 => k_is); (case k7 => k_is); (case k8 => k_is); (case k9 => k_get); (case k10 => k_handed); k_whole))) | ((with_reducible show wpAny _ _ (getMethod (Value.ref _) _ _) _ _ _); (k_here; k_dflt (refine' method_shadow ?k1 ?k2 ?k3 ?k4 ?k5 ?k6 ?k7 ?k8 ?k9 ?k10 ?k11 ?k12 ?_; (case k1 => k_asm); (case k2 => k_asm); (case k3 => (first | exact InstAt.of_news (by k_asm) (List.Mem.tail _ (by assumption)) (List.Mem.tail _ (by assumption)) | exact InstAt.of_news (by k_asm) (by assumption) (by assumption))); (case k4 => exact rfl); (case k5 => k_is); (case k6 => k_is); (case k7 => k_is); (case k8 => k_is); (case k9 => k_is); (case k10 => k_is); (case k11 => k_get); (case k12 => k_handed); k_whole))) | ((with_reducible show wpAny _ _ (pyIter (Value.ref _)) _ _ _); (with_reducible refine holdIt ?_)) | walk1)) | (leave1; walk_say "STEP leave1"; try dsimp only) | fail "no step"))
        · refine' ⟨((p + 1, some vd), _, ty), _, _, _, _, rfl, ?a1, ?a2, ?a3, ?a4, ?a5, ?a6, ?a7, hstep _ (st1 hz (by omega) (by omega)).symm⟩
          (((case a1 => k_asm); (case a2 => k_asm); (case a3 => k_mem); (case a4 => exact fun p hp => .tail _ hp); (case a6 => kst_all); (case a7 => kst_same)))
          (case a5 => exact hne)
        · refine' ⟨((b, some a), tb, ta), _, _, _, _, rfl, ?b1, ?b2, ?b3, ?b4, ?b5, ?b6, ?b7, hstep _ (st3 hz (by omega) (.inr (fun e => (by assumption : a ≠ 0) (Option.some.inj e)))).symm⟩
          (((case b1 => k_asm); (case b2 => k_asm); (case b3 => k_mem); (case b4 => exact fun p hp => .tail _ hp); (case b6 => kst_all); (case b7 => kst_same)))
          (case b5 => exact hne)
        · refine' ⟨((b, some vd), tb, ty), _, _, _, _, rfl, ?c1, ?c2, ?c3, ?c4, ?c5, ?c6, ?c7, hstep _ (st2 hz (by omega) (by omega) (by rw [(by assumption : a = 0)])).symm⟩
          (((case c1 => k_asm); (case c2 => k_asm); (case c3 => k_mem); (case c4 => exact fun p hp => .tail _ hp); (case c6 => kst_all); (case c7 => kst_same)))
          (case c5 => exact hne)
        · refine' ⟨((b, some a), tb, ta), _, _, _, _, rfl, ?d1, ?d2, ?d3, ?d4, ?d5, ?d6, ?d7, hstep _ (st3 hz (by omega) (.inl (by omega))).symm⟩
          (((case d1 => k_asm); (case d2 => k_asm); (case d3 => k_mem); (case d4 => exact fun p hp => .tail _ hp); (case d6 => kst_all); (case d7 => kst_same)))
          (case d5 => exact hne)
        all_goals (exfalso; omega)
    · rw [if_neg hz]
      clear hret
      (repeat' (first | (k_unfold; (try dsimp only)) | (k_end; wrow_close) | (first | ((with_reducible show wpAny _ _ (call (Value.ref _) _) _ _ _); (with_reducible refine holdIt ?_)) | ((with_reducible show wpAny _ _ (getAttr (Value.ref _) _ _) _ _ _); (k_here; k_dflt (refine' get_shadow ?k1 ?k2 ?k3 ?k4 ?k5 ?k6 ?k7 ?k8 ?k9 ?k10 ?_; (case k1 => k_asm); (case k2 => k_asm); (case k3 => (first | exact InstAt.of_news (by k_asm) (List.Mem.tail _ (by assumption)) (List.Mem.tail _ (by assumption)) | exact InstAt.of_news (by k_asm) (by assumption) (by assumption))); (case k4 => k_is); (case k5 => k_is); (case k6 => k_is); (case k7 => k_is); (case k8 => k_is); (case k9 => k_get); (case k10 => k_handed); k_whole))) | ((with_reducible show wpAny _ _ (getMethod (Value.ref _) _ _) _ _ _); (k_here; k_dflt (refine' method_shadow ?k1 ?k2 ?k3 ?k4 ?k5 ?k6 ?k7 ?k8 ?k9 ?k10 ?k11 ?k12 ?_; (case k1 => k_asm); (case k2 => k_asm); (case k3 => (first | exact InstAt.of_news (by k_asm) (List.Mem.tail _ (by assumption)) (List.Mem.tail _ (by assumption)) | exact InstAt.of_news (by k_asm) (by assumption) (by assumption))); (case k4 => exact rfl); (case k5 => k_is); (case k6 => k_is); (case k7 => k_is); (case k8 => k_is); (case k9 => k_is); (case k10 => k_is); (case k11 => k_get); (case k12 => k_handed); k_whole))) | ((with_reducible show wpAny _ _ (pyIter (Value.ref _)) _ _ _); (with_reducible refine holdIt ?_)) | walk1) | (dsimp only; (first | ((with_reducible show wpAny _ _ (call (Value.ref _) _) _ _ _); (with_reducible refine holdIt ?_)) | ((with_reducible show wpAny _ _ (getAttr (Value.ref _) _ _) _ _ _); (k_here; k_dflt (refine' get_shadow ?k1 ?k2 ?k3 ?k4 ?k5 ?k6 ?k7 ?k8 ?k9 ?k10 ?_; (case k1 => k_asm); (case k2 => k_asm); (case k3 => (first | exact InstAt.of_news (by k_asm) (List.Mem.tail _ (by assumption)) (List.Mem.tail _ (by assumption)) | exact InstAt.of_news (by k_asm) (by assumption) (by assumption))); (case k4 => k_is); (case k5 => k_is); (case k6 => k_is); (case k7 => k_is); (case k8 => k_is); (case k9 => k_get); (case k10 => k_handed); k_whole))) | ((with_reducible show wpAny _ _ (getMethod (Value.ref _) _ _) _ _ _); (k_here; k_dflt (refine' method_shadow ?k1 ?k2 ?k3 ?k4 ?k5 ?k6 ?k7 ?k8 ?k9 ?k10 ?k11 ?k12 ?_; (case k1 => k_asm); (case k2 => k_asm); (case k3 => (first | exact InstAt.of_news (by k_asm) (List.Mem.tail _ (by assumption)) (List.Mem.tail _ (by assumption)) | exact InstAt.of_news (by k_asm) (by assumption) (by assumption))); (case k4 => exact rfl); (case k5 => k_is); (case k6 => k_is); (case k7 => k_is); (case k8 => k_is); (case k9 => k_is); (case k10 => k_is); (case k11 => k_get); (case k12 => k_handed); k_whole))) | ((with_reducible show wpAny _ _ (pyIter (Value.ref _)) _ _ _); (with_reducible refine holdIt ?_)) | walk1)) | (leave1; walk_say "STEP leave1"; try dsimp only) | fail "no step"))
      refine' ⟨((b, al), tb, ta), _, _, _, _, rfl, ?a1, ?a2, ?a3, ?a4, ?a5, ?a6, ?a7, hstep _ (st5 hz).symm⟩
      (((case a1 => k_asm); (case a2 => k_asm); (case a3 => k_mem); (case a4 => exact fun p hp => .tail _ hp); (case a6 => kst_all); (case a7 => kst_same)))
      (case a5 => exact hne)
  case fin =>
    rintro ⟨⟨b, al⟩, tb, ta⟩ u h tk hF F' N'
    dsimp only [kstB] at F'
    dsimp only
    (repeat' (first | (k_unfold; (try dsimp only)) | (k_end; wrow_close) | (first | ((with_reducible show wpAny _ _ (call (Value.ref _) _) _ _ _); (with_reducible refine holdIt ?_)) | ((with_reducible show wpAny _ _ (getAttr (Value.ref _) _ _) _ _ _); (k_here; k_dflt (refine' get_shadow ?k1 ?k2 ?k3 ?k4 ?k5 ?k6 ?k7 ?k8 ?k9 ?k10 ?_; (case k1 => k_asm); (case k2 => k_asm); (case k3 => (first | exact InstAt.of_news (by k_asm) (List.Mem.tail _ (by assumption)) (List.Mem.tail _ (by assumption)) | exact InstAt.of_news (by k_asm) (by assumption) (by assumption))); (case k4 => k_is); (case k5 => k_is); (case k6 => k_is); (case k7 => k_is); (case k8 => k_is); (case k9 => k_get); (case k10 => k_handed); k_whole))) | ((with_reducible show wpAny _ _ (getMethod (Value.ref _) _ _) _ _ _); (k_here; k_dflt (refine' method_shadow ?k1 ?k2 ?k3 ?k4 ?k5 ?k6 ?k7 ?k8 ?k9 ?k10 ?k11 ?k12 ?_; (case k1 => k_asm); (case k2 => k_asm); (case k3 => (first | exact InstAt.of_news (by k_asm) (List.Mem.tail _ (by assumption)) (List.Mem.tail _ (by assumption)) | exact InstAt.of_news (by k_asm) (by assumption) (by assumption))); (case k4 => exact rfl); (case k5 => k_is); (case k6 => k_is); (case k7 => k_is); (case k8 => k_is); (case k9 => k_is); (case k10 => k_is); (case k11 => k_get); (case k12 => k_handed); k_whole))) | ((with_reducible show wpAny _ _ (pyIter (Value.ref _)) _ _ _); (with_reducible refine holdIt ?_)) | walk1) | (dsimp only; (first | ((with_reducible show wpAny _ _ (call (Value.ref _) _) _ _ _); (with_reducible refine holdIt ?_)) | ((with_reducible show wpAny _ _ (getAttr (Value.ref _) _ _) _ _ _); (k_here; k_dflt (refine' get_shadow ?k1 ?k2 ?k3 ?k4 ?k5 ?k6 ?k7 ?k8 ?k9 ?k10 ?_; (case k1 => k_asm); (case k2 => k_asm); (case k3 => (first | exact InstAt.of_news (by k_asm) (List.Mem.tail _ (by assumption)) (List.Mem.tail _ (by assumption)) | exact InstAt.of_news (by k_asm) (by assumption) (by assumption))); (case k4 => k_is); (case k5 => k_is); (case k6 => k_is); (case k7 => k_is); (case k8 => k_is); (case k9 => k_get); (case k10 => k_handed); k_whole))) | ((with_reducible show wpAny _ _ (getMethod (Value.ref _) _ _) _ _ _); (k_here; k_dflt (refine' method_shadow ?k1 ?k2 ?k3 ?k4 ?k5 ?k6 ?k7 ?k8 ?k9 ?k10 ?k11 ?k12 ?_; (case k1 => k_asm); (case k2 => k_asm); (case k3 => (first | exact InstAt.of_news (by k_asm) (List.Mem.tail _ (by assumption)) (List.Mem.tail _ (by assumption)) | exact InstAt.of_news (by k_asm) (by assumption) (by assumption))); (case k4 => exact rfl); (case k5 => k_is); (case k6 => k_is); (case k7 => k_is); (case k8 => k_is); (case k9 => k_is); (case k10 => k_is); (case k11 => k_get); (case k12 => k_handed); k_whole))) | ((with_reducible show wpAny _ _ (pyIter (Value.ref _)) _ _ _); (with_reducible refine holdIt ?_)) | walk1)) | (leave1; walk_say "STEP leave1"; try dsimp only) | fail "no step"))
    exact hret _ _ _ _ (by k_asm) (by k_asm) ⟨rfl, ta, by unfold alOf; rw [← hF]⟩
end Mine
end

section
open PySem PySem.W PyProof.Rows
namespace Mine
theorem sec_SA {M : Model} {A : Around} {E : Value → Shared → Prop} {s : Shared} {env : Env} {p : Pos} {Q : Flow → Shared → Prop} (h : Q .next s) : wpAny M A (exec (.Pass p) env) Q E s := by
  w_top off
  k_with_none
  walk1
  exact h
end Mine
end
section
open PySem PySem.W PyProof.Rows PySem.Calls PySem.Spec Builtin Builtin.ObjectAttr
set_option maxRecDepth 100000
set_option maxHeartbeats 1000000
namespace Mine
theorem set_getattr_none : typeLookup (.type "set") "__getattr__" = pure none := by rw [typeLookup_type, builtinLookup_eq_fast]; kernel_rfl
theorem entry_set_getattribute : entryFor table "set.__getattribute__" = some Builtin.«object.__getattribute__» :=
  entryFor_alias (id' := "object.__getattribute__") (by kernel_rfl) (by decide +kernel) (by decide +kernel) (by kernel_rfl)
theorem md_set_none : typeLookup (.type "method_descriptor") "__set__" = pure none := by rw [typeLookup_type, builtinLookup_eq_fast]; kernel_rfl
theorem md_del_none : typeLookup (.type "method_descriptor") "__delete__" = pure none := by rw [typeLookup_type, builtinLookup_eq_fast]; kernel_rfl
theorem set_contains_get : typeLookup (.type "method_descriptor") "__get__" = pure (some (.builtin "method_descriptor.__get__")) := by rw [typeLookup_type, builtinLookup_eq_fast]; kernel_rfl
theorem slot_md : Slot "method_descriptor" "__get__" "method_descriptor.__get__" :=
  .of (owner := "method_descriptor") (n := "__get__") (by rw [typeLookup_type, builtinLookup_eq_fast]; kernel_rfl) (by decide +kernel) (by decide +kernel) (by decide +kernel)
    (by first | exact .inl (by decide +kernel) | exact .inr (by decide +kernel)) (by rw [isSubtype_type]; kernel_rfl)
theorem entry_md : entryFor table "method_descriptor.__get__" = some Builtin.«method_descriptor.__get__» := entryFor_of_tree (by kernel_rfl)
theorem args_md (a b c : Value) : argsOk "method_descriptor.__get__" ⟨[a, b, c], []⟩ := by unfold argsOk; kernel_rfl
theorem told_sc : Manifest.toldItsClass.contains "set.__contains__" = false := by decide +kernel
section
variable {prog : Program} {w : World} {A : Around} {E : Value → Shared → Prop} {s : Shared} {a : Addr} {K : Type} [DecidableEq K] {knd : KeyKind prog w K}
theorem md_get {R : Result → Shared → Prop} (hT : s.TypeIs (.ref a) "set")
    (h : R (.ok (.ret (.ref s.heap.objs.size))) { s with heap := s.heap.push { cls := .type "builtin_function_or_method", data := .fields #[.builtin "set.__contains__", .ref a] } }) :
    codeAny (model prog w) A (.call (.builtin "method_descriptor.__get__") ⟨[.builtin "set.__contains__", .ref a, .type "set"], []⟩) R s := by
  obtain ⟨o, ho, hc⟩ := hT
  obtain ⟨oc, od, odat, osl⟩ := o
  dsimp only at hc
  subst hc
  obtain ⟨hp, g, d, tk, os⟩ := s
  refine codeAny_call_builtin slot_md.plain entry_md (slot_md.check _ _ _ _ _ _ _ _ F.type_set_contains (args_md _ _ _) ?_)
  have f11 := told_sc
  have f12 := sub_set_self
  unfold Builtin.«method_descriptor.__get__»
  repeat (any_goals (first | assumption | wp_step))
  rw [show ".".intercalate ("set.__contains__".cutAt '.').dropLast = "set" from by decide +kernel]
  repeat (any_goals (first | assumption | wp_step))
theorem get_contains {S : K → Bool} {n : Nat} {e : Bool} {Q : Value → Shared → Prop} (hS : s.heap.SetOf knd a S n)
    (h : ∀ tk, Q (.ref s.heap.objs.size) { s with heap := s.heap.push { cls := .type "builtin_function_or_method", data := .fields #[.builtin "set.__contains__", .ref a] }, toks := tk }) :
    wpAny (model prog w) A (getAttr (.ref a) "__contains__" e) Q E s := by
  obtain ⟨o, es, ep, t, ho, ⟨h1, h2, h3⟩, hd, hrest⟩ := hS
  obtain ⟨oc, od, odat, osl⟩ := o
  dsimp only at h1 h2 h3 hd
  subst h1; subst h2; subst hd
  obtain ⟨hp, g, d, tk, os⟩ := s
  have hT : ∀ tk', (⟨hp, g, d, tk', os⟩ : Shared).TypeIs (.ref a) "set" := fun _ => ⟨_, ho, rfl⟩
  have f3 := F.slot_set_getattribute.lookup
  have f4 := F.slot_set_getattribute.bind (.ref a)
  have f5 := set_getattr_none
  have f6 := F.slot_set_contains.lookup
  have f7 := F.type_set_contains
  have f8 := set_contains_get
  have f9 := md_set_none
  have f10 := md_del_none
  have hcan : (e && onTheHeap (Value.builtin "set.__getattribute__")) = false := by cases e <;> rfl
  unfold getAttr getAttrBy
  repeat (any_goals (first | assumption | exact hT _ | ((with_reducible show wpAny _ _ (if (e && onTheHeap (Value.builtin "set.__getattribute__")) = true then _ else _) _ _ _); rw [hcan]) | ((with_reducible show wpAny _ _ (call (Value.builtin "set.__getattribute__") _ _) _ _ _); refine wpAny_call_entry F.slot_set_getattribute (hT _) entry_set_getattribute ?_ (F.args_set_getattribute_2 _ _)) | wp_step))
  refine md_get ⟨_, ho, rfl⟩ ?_
  repeat (any_goals (first | assumption | exact hT _ | wp_step))
  exact ⟨_, rfl, wpAny_pure (h _)⟩
end
end Mine
end

section
open PySem PySem.W PyProof.Rows
namespace Mine
theorem sec_SB {M : Model} {A : Around} {E : Value → Shared → Prop} {s : Shared} {env : Env} {p : Pos} {Q : Flow → Shared → Prop} (h : Q .next s) : wpAny M A (exec (.Pass p) env) Q E s := by
  w_top off
  k_with_none
  walk1
  exact h
end Mine
end
section
open PySem PySem.W PyProof.Rows PySem.Calls PySem.Spec
set_option maxRecDepth 100000
set_option maxHeartbeats 3200000
namespace Mine
theorem strs_at0 : ∀ {us : List Value} {ws : List Str}, StrsAre us ws → ∀ {i : Nat} {v : Value}, us[i]? = some v → ∃ g t, v = .str g t ∧ ws[i]? = some g := by
  intro us ws h
  induction h with
  | nil => intro i v e; simp at e
  | cons x t _ ih =>
    intro i v e
    cases i with
    | zero => simp at e; exact ⟨_, _, e.symm, rfl⟩
    | succ i => exact ih (by simpa using e)
/-- the set's membership after i texts -/
noncomputable def hasS (ys : List Str) (k : Str) : Bool := ys.any (fun y => decide (k = y))
theorem hasS_more {ys : List Str} {i : Nat} {g : Str} (h : ys[i]? = some g) (k : Str) : hasS (ys.take (i + 1)) k = (hasS (ys.take i) k || decide (k = g)) := by
  unfold hasS; rw [List.take_add_one, h]; simp [List.any_append]
theorem hasS_zero (ys : List Str) (k : Str) : hasS (ys.take 0) k = false := by simp [hasS]
section
variable {prog : Program} {w : World} {A : Around}
noncomputable def SetIn (prog : Program) (w : World) (h : Heap) (S : Addr) (ys : List Str) (i : Nat) : Prop := ∃ c, c ≤ i ∧ h.SetOf (strKind prog w) S (hasS (ys.take i)) c
theorem SetIn.at {h h' : Heap} {S : Addr} {ys : List Str} {i : Nat} (x : SetIn prog w h S ys i) (e : ∀ o, h.get? S = some o → h'.get? S = some o) : SetIn prog w h' S ys i :=
  let ⟨c, hc, o, es, ep, t, ho, rest⟩ := x; ⟨c, hc, o, es, ep, t, e o ho, rest⟩
theorem set_loop {R : Result → Shared → Prop} {I : Addr} {fp wr : List Addr} {G : Array GenState → Array GenState → Prop} {n : Nat} {P : Nat → Value → Prop} {St : Nat → Shared → Prop} (W : WalksS prog w A.in1 I fp wr G n P St) (S : Addr) (hSf : S ∉ fp)
    (ys : List Str) (hval : ∀ i v, P i v → ∃ g t, v = .str g t ∧ ys[i]? = some g) (hb : n + 1 < scanBound) :
    ∀ (k i : Nat) (s : Shared), n - i = k → i ≤ n → St i s → SetIn prog w s.heap S ys i →
      (∀ s', Moved (S :: wr) G s s' → SetIn prog w s'.heap S ys n → R (.ok (.ret .none)) s') →
      codeAny (model prog w) A (.builtin "set.update.loop" ⟨[.ref S, .ref I], []⟩) R s := by
  have hSw : S ∉ wr := fun h => hSf (W.sub _ h)
  have hsub : ∀ b ∈ wr, b ∈ S :: wr := fun b hb => List.mem_cons_of_mem _ hb
  intro k
  induction k with
  | zero =>
    intro i s hk hi hst hS hR
    have hin : i = n := by omega
    subst hin
    refine codeAny_builtin F.entry_set_update_loop ?_
    rw [Around.under_plainId F.plain_set_update_loop _]
    show wpAny _ A.in1 (pyNext (.ref I) >>= _) _ _ s
    refine wpAny_bind (W.done s _ _ hst fun s' hm => ?_)
    exact wpAny_pure (hR s' (hm.mono hsub) (hS.at fun o e => hm.heap S _ hSw e))
  | succ k ih =>
    intro i s hk hi hst hS hR
    have hlt : i < n := by omega
    refine codeAny_builtin F.entry_set_update_loop ?_
    rw [Around.under_plainId F.plain_set_update_loop _]
    show wpAny _ A.in1 (pyNext (.ref I) >>= _) _ _ s
    refine wpAny_bind (W.item i s _ _ hlt hst fun v s' hP hst' hm => ?_)
    obtain ⟨g, t, rfl, hg⟩ := hval i v hP
    obtain ⟨c, hc, hS'⟩ := hS.at (h' := s'.heap) fun o e => hm.heap S _ hSw e
    show wpAny _ A.in1 (holding [Value.str g t] (setAdd S (.str g t)) >>= _) _ _ s'
    refine wpAny_bind (wpAny_holding ?_)
    unfold setAdd
    refine wpAny_holding ?_
    refine wpAny_bind ((strKind prog w).pyHash (k := g) (strKind_is _ _ _ _) ?_)
    refine wpAny_setAddHashed_of (knd := strKind prog w) (s := { s' with toks := s'.toks + 1 }) (strKind_is _ _ _ _) rfl hS' (by omega) fun h' hsb hS2 => ?_
    have hSi : SetIn prog w h' S ys (i + 1) := ⟨_, (by split <;> omega), SetOf_congr hS2 (fun k' => (hasS_more hg k').symm) rfl⟩
    refine wpAny_pure ⟨plainId_quiet F.plain_set_update_loop _, ih (i + 1) _ (by omega) hlt (W.frame _ s' _ _ hst' (Nat.le_succ _) fun b hb o e => ?_) hSi fun s'' hm'' hS'' => ?_⟩
    · rw [hsb.2 b (fun h : b = S => hSf (by rw [← h]; exact hb))]; exact e
    · refine hR s'' (Moved.trans W.gtrans ((hm.mono hsub).then_heap (Nat.le_succ _) fun b o hb e => ?_) hm'') hS''
      rw [hsb.2 b (fun h : b = S => hb (by rw [h]; exact List.mem_cons_self))]; exact e
end
section
variable {prog : Program} {w : World} {A : Around} {E : Value → Shared → Prop} {s : Shared}
theorem callSet {a : Value} {Q Q₁ : Value → Shared → Prop}
    (hnew : codeAny (model prog w) A.in1 (.call (.builtin "set.__new__") ⟨.type "set" :: [a], []⟩) (wants Q₁ E) s)
    (hnext : ∀ obj s₁, Q₁ obj s₁ → s₁.TypeIs obj "set" ∧
      wpAny (model prog w) A.in1.in1 (Builtin.«set.__init__» ⟨obj :: [a], []⟩)
        (fun fin s' => match fin with | .done f => wants (fun r s₂ => r = .none ∧ Q obj s₂) E (.ok f) s' | .again c' => c'.quiet = true ∧ codeAny (model prog w) A.in1 c' (wants (fun r s₂ => r = .none ∧ Q obj s₂) E) s')
        (fun e s' => wants (fun r s₂ => r = .none ∧ Q obj s₂) E (.error e) s') s₁) :
    wpAny (model prog w) A (call (.type "set") [a]) Q E s := by
  obtain ⟨c, tl, hmro⟩ := F.called_set.mro
  have hmade := F.called_set.made
  have hsub := F.called_set.sub
  refine wpAny_call (codeAny_of_tree ?_)
  show wpAny _ _ (callAny (.type "set") _) _ _ _
  refine wpAny_pure ⟨Code.quiet_builtin _ (by decide +kernel), codeAny_builtin F.entry_type_call ?_⟩
  rw [Around.under_plain (weight_type_call_type "set" [a] []) rfl]
  have h1 := F.called_set.notType
  have h2 := F.called_set.canCreate
  have hct := F.typeCall_set_1 a
  repeat (any_goals (first | assumption | wp_step))
  refine codeAny_mono hnew fun r s₁ hr => ?_
  cases r with
  | error e => exact hr
  | ok fl =>
    cases fl with
    | ret obj =>
      obtain ⟨hT, hsi⟩ := hnext _ _ hr
      have hli := F.called_set.init.lookup
      have hbi := F.called_set.init.bind obj
      repeat (any_goals (first | assumption | wp_step))
      refine codeAny_mono (codeAny_call_builtin F.called_set.init.plain F.entry_set_init (check_set_init_1 hT hsi)) fun r₂ s₂ hr₂ => ?_
      cases r₂ with
      | error e => exact hr₂
      | ok fl₂ =>
        cases fl₂ with
        | ret r =>
          obtain ⟨rfl, hq⟩ := hr₂
          repeat (any_goals (first | assumption | wp_step))
        | _ => exact hr₂.elim
    | _ => exact hr.elim
theorem call_set_strs {l : Addr} {items : Array Value} {ys : List Str} {Q : Value → Shared → Prop}
    (hh : A.handled = none) (hl : s.heap.IsList l items) (hi : StrsAre items.toList ys) (hb : items.size + 1 < scanBound)
    (h : ∀ (h' : Heap) (tk : Nat), SetIn prog w h' s.heap.objs.size ys items.size →
      (∀ b o, b < s.heap.objs.size → s.heap.get? b = some o → h'.get? b = some o) → Q (.ref s.heap.objs.size) { s with heap := h', toks := tk }) :
    wpAny (model prog w) A (call (.type "set") [.ref l]) Q E s := by
  refine callSet (Q₁ := fun obj s₁ => ∃ led : Bool, obj = .ref s.heap.objs.size ∧ s₁ = { s with heap := s.heap.push { cls := .type "set", dict := none, data := .set #[] 0 (.fresh 0 0 led) } }) (code_set_new_1 _ fun led => ⟨led, rfl, rfl⟩) ?_
  rintro obj s₁ ⟨led, rfl, rfl⟩
  have hS : (s.heap.push { cls := .type "set", dict := none, data := .set #[] 0 (.fresh 0 0 led) }).get? s.heap.objs.size = some { cls := .type "set", dict := none, data := .set #[] 0 (.fresh 0 0 led) } := Heap.get?_push_size _ rfl
  refine ⟨⟨_, hS, rfl⟩, ?_⟩
  obtain ⟨ol, hol, hcl, nl, hdl⟩ := hl
  obtain ⟨ocls, odict, odata, oslots⟩ := ol
  dsimp only at hcl hdl
  subst hcl; subst hdl
  have hol' : (s.heap.push { cls := .type "set", dict := none, data := .set #[] 0 (.fresh 0 0 led) }).get? l = some { cls := .type "list", dict := odict, data := .seq items nl, slots := oslots } := Heap.get?_push_of_some _ hol
  have hl1 : (s.heap.push { cls := .type "set", dict := none, data := .set #[] 0 (.fresh 0 0 led) }).IsList l items := ⟨_, hol', rfl, nl, rfl⟩
  have hsls := F.sub_list_set
  have hslf := F.sub_list_frozenset
  have hne : (Value.type "list" == Value.type "dict") = false := by decide
  unfold Builtin.«set.__init__» noKeywords Builtin.Frozenset.updateFrom
  generalize hPI : pyIter = PI
  wp_walk
  subst hPI
  refine wpAny_pyIter_list hl1 ?_
  refine wpAny_bind (wpAny_runValue ?_)
  have hlS : l < s.heap.objs.size := Heap.lt_size hol
  have hneI : l ≠ (s.heap.push { cls := .type "set", dict := none, data := .set #[] 0 (.fresh 0 0 led) }).objs.size := by
    rw [Heap.size_push]; exact Nat.ne_of_lt (Nat.lt_succ_of_lt hlS)
  refine set_loop ((Walks.list (by simp [hh]) _ l hneI items).toS) s.heap.objs.size ?_ ys (fun i v hv => strs_at0 hi (by simpa using hv)) hb (items.size - 0) 0 _ (by omega) (Nat.zero_le _)
    ⟨⟨_, Heap.get?_push_size _ rfl, rfl, rfl⟩, (hl1.push _)⟩ ?_ ?_
  · rw [Heap.size_push]; simp only [List.mem_cons, List.not_mem_nil, or_false, not_or]
    exact ⟨Nat.ne_of_lt (Nat.lt_succ_self _), Nat.ne_of_gt hlS⟩
  · have hget : ((s.heap.push { cls := .type "set", dict := none, data := .set #[] 0 (.fresh 0 0 led) }).push { cls := .type "list_iterator", data := .fields #[.ref l, .int 0 0] }).get? s.heap.objs.size
              = some { cls := .type "set", dict := none, data := .set #[] 0 (.fresh 0 0 led) } := Heap.get?_push_of_some _ hS
    exact ⟨0, Nat.le_refl _, SetOf_congr ((setObjOf_fresh (knd := strKind prog w) led).setOf hget (by unfold scanBound; omega)) (fun k => (hasS_zero ys k).symm) rfl⟩
  · intro s' hm hS'
    obtain ⟨h', g', d', tk', os'⟩ := s'
    have eg : g' = s.gens := hm.gens
    have ed : d' = s.drawn := hm.drawn
    have eo : os' = s.os := hm.os
    subst eg; subst ed; subst eo
    refine wpAny_pure ?_
    refine wpAny_pure ⟨rfl, h h' tk' hS' fun b o hb e => ?_⟩
    have hb1 : b ≠ s.heap.objs.size := Nat.ne_of_lt hb
    have hb2 : b ≠ (s.heap.push { cls := .type "set", dict := none, data := .set #[] 0 (.fresh 0 0 led) }).objs.size := by
      rw [Heap.size_push]; exact Nat.ne_of_lt (Nat.lt_succ_of_lt hb)
    exact hm.heap b o (by simp only [List.mem_cons, List.not_mem_nil, or_false, not_or]; exact ⟨hb1, hb2⟩) (Heap.get?_push_of_some _ (Heap.get?_push_of_some _ e))
end
end Mine
end

section
open PySem PySem.W PyProof.Rows
namespace Mine
theorem sec_FA {M : Model} {A : Around} {E : Value → Shared → Prop} {s : Shared} {env : Env} {p : Pos} {Q : Flow → Shared → Prop} (h : Q .next s) : wpAny M A (exec (.Pass p) env) Q E s := by
  w_top off
  k_with_none
  walk1
  exact h
end Mine
end
section
open PySem PySem.W PyProof.Rows PySem.Calls PySem.Spec
set_option maxRecDepth 100000
set_option maxHeartbeats 3200000
namespace Mine
noncomputable abbrev cbound (S : Addr) : Obj := { cls := .type "builtin_function_or_method", data := .fields #[.builtin "set.__contains__", .ref S] }
theorem sub_set_module : isSubtype (.type "set") (.type "module") = pure false := by rw [isSubtype_type]; kernel_rfl
theorem sub_set_type : isSubtype (.type "set") (.type "type") = pure false := by rw [isSubtype_type]; kernel_rfl
theorem plain_sc : plainId "set.__contains__" = true := by decide +kernel
section
variable {prog : Program} {w : World} {A : Around} {E : Value → Shared → Prop} {s : Shared}
theorem bound_call {b S : Addr} {k : Str} {t : Tok} {P : Str → Bool} {n : Nat} {Q : Value → Shared → Prop} (hb : s.heap.get? b = some (cbound S)) (hS : s.heap.SetOf (strKind prog w) S P n)
    (h : Q (.bool (P k)) { s with toks := s.toks + 1 }) : wpAny (model prog w) A (call (.ref b) [.str k t]) Q E s := by
  have hS0 := hS
  obtain ⟨o, es, ep, tb, ho, ⟨h1, h2, h3⟩, hd, hrest⟩ := hS
  obtain ⟨oc, od, odat, osl⟩ := o
  dsimp only at h1 h2 h3 hd
  subst h1; subst h2; subst hd
  obtain ⟨hp, g, d, tk, os⟩ := s
  refine wpAny_call (codeAny_of_tree ?_)
  show wpAny _ A.in1 (callAny (.ref b) _) _ _ _
  unfold callAny
  refine wpAny_bind (wpAny_load hb ?_)
  dsimp only
  have hsm := sub_set_module
  have hst := sub_set_type
  unfold checkBoundCall
  repeat (any_goals (first | assumption | wp_step))
  refine ⟨plainId_quiet plain_sc _, codeAny_builtin entry_set_contains ?_⟩
  rw [Around.under_plainId plain_sc _]
  unfold Builtin.«frozenset.__contains__» Builtin.Frozenset.oneOther
  simp only [List.isEmpty_nil, bind_assoc]
  unfold Builtin.Frozenset.addrOf Builtin.Frozenset.withSetAsKey setContains
  refine wpAny_bind (wpAny_pure ?_)
  try dsimp only
  refine wpAny_bind (wpAny_pure ?_)
  try dsimp only
  refine wpAny_bind (wpAny_tryCatch ?_)
  refine wpAny_holding ?_
  refine wpAny_bind ((strKind prog w).pyHash (strKind_is _ _ _ _) ?_)
  refine wpAny_bind (wpAny_setFind_of (s := ⟨hp, g, d, tk + 1, os⟩) (strKind_is _ _ _ _) rfl hS0 fun r hr => ?_)
  refine wpAny_pure ?_
  show wpAny _ _ (ret (Value.bool r.isSome)) _ _ _
  rw [hr]
  exact wpAny_pure h
end
end Mine
end

section
open PySem PySem.W PyProof.Rows
namespace Mine
theorem sec_FB {M : Model} {A : Around} {E : Value → Shared → Prop} {s : Shared} {env : Env} {p : Pos} {Q : Flow → Shared → Prop} (h : Q .next s) : wpAny M A (exec (.Pass p) env) Q E s := by
  w_top off
  k_with_none
  walk1
  exact h
end Mine
end
section
open PySem PySem.W PyProof.Rows PySem.Calls PySem.Spec
set_option maxRecDepth 100000
set_option maxHeartbeats 3200000
namespace Mine
theorem owner_filter : Manifest.owners.lookup (String.ofList ['r', 'e', 't', 'l', 'i', 'f'].reverse) = some Manifest.sig_filter := by kernel_rfl
theorem slot_filter_init : Slot "filter" "__init__" "object.__init__" :=
  .of (owner := "object") (n := "__init__") (by rw [typeLookup_type, builtinLookup_eq_fast]; kernel_rfl) (by decide +kernel) (by decide +kernel) (by decide +kernel)
    (by first | exact .inl (by decide +kernel) | exact .inr (by decide +kernel)) (by rw [isSubtype_type]; kernel_rfl)
theorem slot_filter_iter : Slot "filter" "__iter__" "filter.__iter__" :=
  .of (owner := "filter") (n := "__iter__") (by rw [typeLookup_type, builtinLookup_eq_fast]; kernel_rfl) (by decide +kernel) (by decide +kernel) (by decide +kernel)
    (by first | exact .inl (by decide +kernel) | exact .inr (by decide +kernel)) (by rw [isSubtype_type]; kernel_rfl)
theorem slot_filter_next : Slot "filter" "__next__" "filter.__next__" :=
  .of (owner := "filter") (n := "__next__") (by rw [typeLookup_type, builtinLookup_eq_fast]; kernel_rfl) (by decide +kernel) (by decide +kernel) (by decide +kernel)
    (by first | exact .inl (by decide +kernel) | exact .inr (by decide +kernel)) (by rw [isSubtype_type]; kernel_rfl)
theorem entry_filter_next : entryFor table "filter.__next__" = some Builtin.«filter.__next__» := entryFor_of_tree (by kernel_rfl)
theorem entry_filter_new : entryFor table "filter.__new__" = some Builtin.«filter.__new__» := entryFor_of_tree (by kernel_rfl)
theorem entry_filter_iter : entryFor table "filter.__iter__" = some Builtin.«dict_keyiterator.__iter__» :=
  entryFor_alias (id' := "dict_keyiterator.__iter__") (by kernel_rfl) (by first | rfl | decide +kernel) (by decide +kernel) (by kernel_rfl)
theorem args_filter_next_1 (a : Value) : argsOk "filter.__next__" ⟨[a], []⟩ := by
  unfold argsOk; rw [signature?_of (id := "filter.__next__") (n := ['_', '_', 't', 'x', 'e', 'n', '_', '_']) (o := ['r', 'e', 't', 'l', 'i', 'f']) (by kernel_rfl) owner_filter]; kernel_rfl
theorem args_filter_iter_1 (a : Value) : argsOk "filter.__iter__" ⟨[a], []⟩ := by
  unfold argsOk; rw [signature?_of (id := "filter.__iter__") (n := ['_', '_', 'r', 'e', 't', 'i', '_', '_']) (o := ['r', 'e', 't', 'l', 'i', 'f']) (by kernel_rfl) owner_filter]; kernel_rfl
theorem mro_filter : mroOf (.type "filter") = pure [.type "filter", .type "object"] := by rw [mroOf_type]; kernel_rfl
theorem lookup_filter_new : typeLookup (.type "filter") "__new__" = pure (some (.builtin "filter.__new__")) := by rw [typeLookup_type, builtinLookup_eq_fast]; kernel_rfl
theorem called_filter : TypeCalled "filter" "filter.__new__" "object.__init__" :=
  ⟨by decide +kernel, by decide +kernel, ⟨_, _, mro_filter⟩, madeBy_type mro_filter lookup_filter_new (by decide +kernel), by decide +kernel, by rw [isSubtype_type]; kernel_rfl, slot_filter_init⟩
theorem typeCall_filter_2 (a b : Value) : checkTypeCall "filter" ⟨[a, b], []⟩ = pure () := by kernel_rfl
theorem newCall_filter_2 (a b : Value) : checkBuiltinCall "filter.__new__" ⟨[.type "filter", a, b], []⟩ = pure () := by kernel_rfl
theorem plain_filter_next : plainId "filter.__next__" = true := by decide +kernel
theorem sub_filter : isSubtype (.type "filter") (.type "filter") = pure true := by rw [isSubtype_type]; kernel_rfl
theorem filter_no_len : typeLookup (.type "filter") "__len__" = pure none := by rw [typeLookup_type, builtinLookup_eq_fast]; kernel_rfl
theorem filter_no_hint : typeLookup (.type "filter") "__length_hint__" = pure none := by rw [typeLookup_type, builtinLookup_eq_fast]; kernel_rfl
noncomputable abbrev filObj (b it : Addr) : Obj := { cls := .type "filter", data := .fields #[.ref b, .ref it] }
theorem meets_filter_new (b l : Addr) (xs : Array Value) :
    Meets (Builtin.«filter.__new__» ⟨[.type "filter", .ref b, .ref l], []⟩) (fun _ R s => s.heap.IsList l xs ∧
      R (.ok (.ret (.ref (s.heap.objs.size + 1)))) { s with heap := (s.heap.push { cls := .type "list_iterator", data := .fields #[.ref l, .int 0 0] }).push (filObj b s.heap.objs.size) }) :=
  .of_wp fun prog w A R s h => by
    obtain ⟨hp, g, d, tk, os⟩ := s; obtain ⟨hl, h⟩ := h
    have hsub := sub_filter
    have hL1 : Heap.IsList (Shared.heap ⟨hp, g, d, tk, os⟩) l xs := hl
    wp_walk using wpAny_pyIter_list hL1
    refine ⟨_, rfl, ?_⟩
    have hz : (hp.push { cls := .type "list_iterator", data := .fields #[.ref l, .int 0 0] }).objs.size = hp.objs.size + 1 := Heap.size_push ..
    rw [hz]
    exact h
section
variable {prog : Program} {w : World} {A : Around} {E : Value → Shared → Prop} {s : Shared}
theorem call_filter {b l : Addr} {xs : Array Value} {Q : Value → Shared → Prop} (hl : s.heap.IsList l xs)
    (h : Q (.ref (s.heap.objs.size + 1)) { s with heap := (s.heap.push { cls := .type "list_iterator", data := .fields #[.ref l, .int 0 0] }).push (filObj b s.heap.objs.size) }) :
    wpAny (model prog w) A (call (.type "filter") [.ref b, .ref l]) Q E s := by
  refine callType_new called_filter (by decide) (typeCall_filter_2 _ _) (newCall_filter_2 _ _) (fun obj => F.args_object_init_3 obj _ _) entry_filter_new
    (meets_filter_new b l xs) ⟨hl, ?_⟩
  have hz : (s.heap.push { cls := .type "list_iterator", data := .fields #[.ref l, .int 0 0] }).objs.size = s.heap.objs.size + 1 := Heap.size_push ..
  have e : ((s.heap.push { cls := .type "list_iterator", data := .fields #[.ref l, .int 0 0] }).push (filObj b s.heap.objs.size)).get? (s.heap.objs.size + 1) = some (filObj b s.heap.objs.size) := by
    rw [← hz]; exact Heap.get?_push_size _ rfl
  exact ⟨⟨_, e, rfl⟩, h⟩
theorem next_item {it l : Addr} {i : Nat} {items : Array Value} {x : Value} {Q : Option Value → Shared → Prop} (hit : s.heap.IsListIter it l i)
    (hl : s.heap.IsList l items) (hx : items[i]? = some x)
    (hQ : ∀ h', h'.IsListIter it l (i + 1) → Heap.SameBut it s.heap h' → Q (some x) { s with heap := h' }) :
    wpAny (model prog w) A (callSpecial? (.ref it) "__next__") Q E s := by
  obtain ⟨o, ho, hc, hd⟩ := id hit
  obtain ⟨ol, hol, _, nl, hdl⟩ := hl
  refine wpAny_callSpecial?_slot (name := Str.ofString "__next__") hit.typeIs slot_listiter_next
    (wpAny_call_entry slot_listiter_next hit.typeIs entry_listiter_next ?_ (args_listiter_next _))
  show wpAny _ _ (field (.ref it) 0 >>= _) _ _ s
  refine wpAny_bind (wpAny_field ho hd (x := .ref l) rfl ?_)
  show wpAny _ _ (if (Value.ref l == Value.none) = true then _ else _) _ _ s
  rw [if_neg (show ¬ ((Value.ref l == Value.none) = true) from Bool.false_ne_true)]
  show wpAny _ _ (field (.ref it) 1 >>= _) _ _ s
  refine wpAny_bind (wpAny_field ho hd (x := .int i 0) rfl ?_)
  show wpAny _ _ (seqItems? (.ref l) >>= _) _ _ s
  refine wpAny_bind (wpAny_seqItems hol hdl ?_)
  simp only [Int.toNat_natCast, hx]
  refine wpAny_bind (wpAny_setField ho hd (by simp) (wpAny_pure ⟨x, rfl, hQ _ ?_ (Heap.SameBut.update ..)⟩))
  exact ⟨_, Heap.get?_update_self _ ho (Obj.isFreed_of_fields (Obj.data_mapFields hd _)), (Obj.cls_mapFields ..).trans hc, by
    rw [Obj.data_mapFields hd]; simp [rawInt]⟩
theorem next_end {it l : Addr} {i : Nat} {items : Array Value} {Q : Option Value → Shared → Prop} (hh : A.handled = none)
    (hit : s.heap.IsListIter it l i) (hl : s.heap.IsList l items) (hx : items[i]? = none)
    (hE : ∀ h' e, Heap.ExtBut it s.heap h' → (∃ o, h'.get? e = some o ∧ o.cls = .type "StopIteration") → E (.ref e) { s with heap := h' }) :
    wpAny (model prog w) A (callSpecial? (.ref it) "__next__") Q E s := by
  obtain ⟨o, ho, hc, hd⟩ := id hit
  obtain ⟨ol, hol, _, nl, hdl⟩ := hl
  refine wpAny_callSpecial?_slot (name := Str.ofString "__next__") hit.typeIs slot_listiter_next
    (wpAny_call_entry slot_listiter_next hit.typeIs entry_listiter_next ?_ (args_listiter_next _))
  show wpAny _ _ (field (.ref it) 0 >>= _) _ _ s
  refine wpAny_bind (wpAny_field ho hd (x := .ref l) rfl ?_)
  show wpAny _ _ (if (Value.ref l == Value.none) = true then _ else _) _ _ s
  rw [if_neg (show ¬ ((Value.ref l == Value.none) = true) from Bool.false_ne_true)]
  show wpAny _ _ (field (.ref it) 1 >>= _) _ _ s
  refine wpAny_bind (wpAny_field ho hd (x := .int i 0) rfl ?_)
  show wpAny _ _ (seqItems? (.ref l) >>= _) _ _ s
  refine wpAny_bind (wpAny_seqItems hol hdl ?_)
  simp only [Int.toNat_natCast, hx]
  refine wpAny_bind (wpAny_rule (wpAny_bind (wpAny_setField ho hd (by simp) ?_)))
  show wpAny _ _ (newExc (.type "StopIteration") [] >>= _) _ _ _
  refine wpAny_bind ?_
  simp only [newExc, newTuple]
  refine wpAny_bind (wpAny_newObj_type ?_ (by size_fits))
  refine wpAny_bind (m := firstArgMember _ _) (wpAny_of_eq (a := Value.none) (by first | rfl | (simp only [firstArgMember]; rfl)) ?_)
  refine wpAny_newObj_type ?_ (by size_fits)
  simp only [raiseNew]
  refine wpAny_bind (wpAny_handled ?_)
  first | rw [show A.in1.handled = none from hh] | rw [hh]
  refine wpAny_bind (wpAny_pure (wpAny_throw ?_))
  exact hE _ _ (((Heap.SameBut.update ..).extBut.push _).push _) ⟨_, Heap.get?_push_size _ rfl, rfl⟩
theorem filter_step {z b it l S : Addr} {i n : Nat} {items : Array Value} {g : Str} {t : Tok} {P : Str → Bool} {QF : Fin → Shared → Prop}
    (hz : s.heap.get? z = some (filObj b it)) (hit : s.heap.IsListIter it l i) (hl : s.heap.IsList l items) (hx : items[i]? = some (.str g t)) (hb : s.heap.get? b = some (cbound S)) (hS : s.heap.SetOf (strKind prog w) S P n)
    (hbi : b ≠ it) (hSi : S ≠ it)
    (hQ : ∀ h' tk, h'.IsListIter it l (i + 1) → Heap.SameBut it s.heap h' → QF (if P g = true then .done (.ret (.str g t)) else .again (.builtin "filter.__next__" ⟨[.ref z], []⟩)) { s with heap := h', toks := tk }) :
    wpAny (model prog w) A (Builtin.«filter.__next__» ⟨[.ref z], []⟩) QF E s := by
  show wpAny _ _ (field (.ref z) 0 >>= _) _ _ _
  refine wpAny_bind (wpAny_field hz rfl (x := .ref b) rfl ?_)
  show wpAny _ _ (field (.ref z) 1 >>= _) _ _ _
  refine wpAny_bind (wpAny_field hz rfl (x := .ref it) rfl ?_)
  show wpAny _ _ (callSpecial? (.ref it) "__next__" >>= _) _ _ _
  refine wpAny_bind (next_item hit hl hx fun h₁ hit₁ hs₁ => ?_)
  dsimp only
  have hb₁ : h₁.get? b = some (cbound S) := hs₁.extBut _ _ hbi hb
  have hS₁ : h₁.SetOf (strKind prog w) S P n := by
    obtain ⟨o, es, ep, tb, ho, rest⟩ := hS
    exact ⟨o, es, ep, tb, hs₁.extBut _ _ hSi ho, rest⟩
  refine wpAny_bind (wpAny_holding ?_)
  have e1 : (Value.ref b == Value.none || Value.ref b == Value.type "bool") = false := by rfl
  rw [if_neg (by rw [e1]; exact Bool.false_ne_true)]
  refine wpAny_bind (bound_call hb₁ hS₁ ?_)
  refine wpAny_holding (wpAny_truthy_bool ?_)
  have hq := hQ h₁ (s.toks + 1) hit₁ hs₁
  cases hP : P g with
  | true => rw [hP] at hq; exact wpAny_pure hq
  | false => rw [hP] at hq; exact wpAny_pure hq
end
end Mine
end

section
open PySem PySem.W PyProof.Rows
namespace Mine
theorem sec_FC {M : Model} {A : Around} {E : Value → Shared → Prop} {s : Shared} {env : Env} {p : Pos} {Q : Flow → Shared → Prop} (h : Q .next s) : wpAny M A (exec (.Pass p) env) Q E s := by
  w_top off
  k_with_none
  walk1
  exact h
end Mine
end
section
open PySem PySem.W PyProof.Rows PySem.Calls PySem.Spec
set_option maxRecDepth 100000
set_option maxHeartbeats 3200000
namespace Mine
theorem firstPass (P : Str → Bool) : ∀ (l : List Str), l.filter P ≠ [] → ∃ (j : Nat) (g : Str), l[j]? = some g ∧ P g = true ∧ ∀ (i : Nat), i < j → ∀ (x : Str), l[i]? = some x → P x = false
  | [], h => absurd rfl h
  | y :: r, h => by
    cases hy : P y with
    | true => exact ⟨0, y, rfl, hy, fun i hi => absurd hi (Nat.not_lt_zero i)⟩
    | false =>
      rw [List.filter_cons, hy] at h
      obtain ⟨j, g, h1, h2, h3⟩ := firstPass P r h
      refine ⟨j + 1, g, h1, h2, fun i hi x hx => ?_⟩
      cases i with
      | zero => simp at hx; rw [← hx]; exact hy
      | succ i => exact h3 i (Nat.lt_of_succ_lt_succ hi) x hx
theorem take_pass {P : Str → Bool} {l : List Str} {g : Str} : ∀ (j : Nat), l[j]? = some g → P g = true → (∀ i, i < j → ∀ x, l[i]? = some x → P x = false) → (l.take (j + 1)).filter P = [g] := by
  intro j hj hp hn
  rw [List.take_add_one, hj, List.filter_append]
  have : (l.take j).filter P = [] := by
    rw [List.filter_eq_nil_iff]
    intro x hx
    obtain ⟨i, hi, e⟩ := List.getElem_of_mem hx
    have hi' : i < j := by simp at hi; omega
    have : l[i]? = some x := by rw [← e]; simp at hi ⊢
    rw [hn i hi' x this]; exact Bool.false_ne_true
  rw [this]; simp [hp]
section
variable {prog : Program} {w : World} {A : Around} {E : Value → Shared → Prop}
noncomputable abbrev FilBody (prog : Program) (w : World) (A : Around) (z : Addr) (R : Result → Shared → Prop) (s : Shared) : Prop :=
  wpAny (model prog w) A.in1 (Builtin.«filter.__next__» ⟨[.ref z], []⟩)
    (fun fin s' => match fin with | .done f => R (.ok f) s' | .again c' => c'.quiet = true ∧ codeAny (model prog w) A c' R s') (fun e s' => R (.error e) s') s
theorem filBody_code {z : Addr} {R : Result → Shared → Prop} {s : Shared} (h : FilBody prog w A z R s) : codeAny (model prog w) A (.builtin "filter.__next__" ⟨[.ref z], []⟩) R s := by
  refine codeAny_builtin entry_filter_next ?_
  rw [Around.under_plainId plain_filter_next _]
  exact h
structure FilAt (prog : Program) (w : World) (h : Heap) (z b it l S : Addr) (i : Nat) (items : Array Value) (P : Str → Bool) : Prop where
  z : h.get? z = some (filObj b it)
  it : h.IsListIter it l i
  l : h.IsList l items
  b : h.get? b = some (cbound S)
  S : ∃ n, h.SetOf (strKind prog w) S P n
theorem FilAt.at {h h' : Heap} {z b it l S : Addr} {i : Nat} {items : Array Value} {P : Str → Bool} (x : FilAt prog w h z b it l S i items P) (e : ∀ c ∈ [z, b, it, l, S], ∀ o, h.get? c = some o → h'.get? c = some o) : FilAt prog w h' z b it l S i items P :=
  ⟨e _ (by simp) _ x.z, x.it.at fun o q => e _ (by simp) o q, x.l.at fun o q => e _ (by simp) o q, e _ (by simp) _ x.b, let ⟨n, o, es, ep, tb, ho, rest⟩ := x.S; ⟨n, o, es, ep, tb, e _ (by simp) _ ho, rest⟩⟩
theorem FilAt.next {h h' : Heap} {z b it l S : Addr} {i j : Nat} {items : Array Value} {P : Str → Bool} (x : FilAt prog w h z b it l S i items P) (hs : ∀ c o, c ≠ it → h.get? c = some o → h'.get? c = some o) (hi : h'.IsListIter it l j)
    (hz : z ≠ it) (hb : b ≠ it) (hl : l ≠ it) (hS : S ≠ it) : FilAt prog w h' z b it l S j items P :=
  ⟨hs _ _ hz x.z, hi, x.l.at fun o q => hs _ o hl q, hs _ _ hb x.b, let ⟨n, o, es, ep, tb, ho, rest⟩ := x.S; ⟨n, o, es, ep, tb, hs _ _ hS ho, rest⟩⟩
theorem filter_item {z b it l S : Addr} {items : Array Value} {P : Str → Bool} {R : Result → Shared → Prop} (hz : z ≠ it) (hb : b ≠ it) (hl : l ≠ it) (hS : S ≠ it) {g : Str} {t : Tok} {j : Nat} (hj : items[j]? = some (.str g t)) (hp : P g = true) :
    ∀ (k i : Nat) (s : Shared), j - i = k → i ≤ j → (∀ i', i ≤ i' → i' < j → ∃ g t, items[i']? = some (.str g t) ∧ P g = false) → FilAt prog w s.heap z b it l S i items P →
      (∀ h' tk, h'.IsListIter it l (j + 1) → (∀ c o, c ≠ it → s.heap.get? c = some o → h'.get? c = some o) → R (.ok (.ret (.str g t))) { s with heap := h', toks := tk }) →
      FilBody prog w A z R s := by
  intro k
  induction k with
  | zero =>
    intro i s hk hi hn X hR
    have e : i = j := by omega
    subst e
    obtain ⟨n, hSet⟩ := X.S
    refine filter_step X.z X.it X.l hj X.b hSet hb hS fun h' tk hit hs => ?_
    rw [if_pos hp]
    exact hR h' tk hit fun c o hc e => hs.extBut _ _ hc e
  | succ k ih =>
    intro i s hk hi hn X hR
    obtain ⟨g', t', hg', hp'⟩ := hn i (Nat.le_refl _) (by omega)
    obtain ⟨n, hSet⟩ := X.S
    refine filter_step X.z X.it X.l hg' X.b hSet hb hS fun h' tk hit hs => ?_
    rw [if_neg (by rw [hp']; exact Bool.false_ne_true)]
    have hs' : ∀ c o, c ≠ it → s.heap.get? c = some o → h'.get? c = some o := fun c o hc e => hs.extBut _ _ hc e
    refine ⟨plainId_quiet plain_filter_next _, filBody_code (ih (i + 1) _ (by omega) (by omega) (fun i' h1 h2 => hn i' (by omega) h2) (X.next hs' hit hz hb hl hS) fun h2 tk2 hit2 hs2 => ?_)⟩
    exact hR h2 tk2 hit2 fun c o hc e => hs2 c o hc (hs' c o hc e)
theorem filter_end {z b it l S : Addr} {items : Array Value} {P : Str → Bool} {R : Result → Shared → Prop} (hh : A.handled = none) (hz : z ≠ it) (hb : b ≠ it) (hl : l ≠ it) (hS : S ≠ it) :
    ∀ (k i : Nat) (s : Shared), items.size - i = k → i ≤ items.size → (∀ i', i ≤ i' → i' < items.size → ∃ g t, items[i']? = some (.str g t) ∧ P g = false) → FilAt prog w s.heap z b it l S i items P →
      (∀ h' tk e, (∀ c o, c ≠ it → s.heap.get? c = some o → h'.get? c = some o) → (∃ o, h'.get? e = some o ∧ o.cls = .type "StopIteration") → R (.error (.ref e)) { s with heap := h', toks := tk }) →
      FilBody prog w A z R s := by
  intro k
  induction k with
  | zero =>
    intro i s hk hi hn X hR
    have e : i = items.size := by omega
    subst e
    show wpAny _ _ (field (.ref z) 0 >>= _) _ _ _
    refine wpAny_bind (wpAny_field X.z rfl (x := .ref b) rfl ?_)
    show wpAny _ _ (field (.ref z) 1 >>= _) _ _ _
    refine wpAny_bind (wpAny_field X.z rfl (x := .ref it) rfl ?_)
    show wpAny _ _ (callSpecial? (.ref it) "__next__" >>= _) _ _ _
    refine wpAny_bind (next_end (by simpa using hh) X.it X.l (Array.getElem?_eq_none (Nat.le_refl _)) fun h₁ e hs₁ he => ?_)
    exact hR h₁ _ e (fun c o hc q => hs₁ _ _ hc q) he
  | succ k ih =>
    intro i s hk hi hn X hR
    obtain ⟨g', t', hg', hp'⟩ := hn i (Nat.le_refl _) (by omega)
    obtain ⟨n, hSet⟩ := X.S
    refine filter_step X.z X.it X.l hg' X.b hSet hb hS fun h' tk hit hs => ?_
    rw [if_neg (by rw [hp']; exact Bool.false_ne_true)]
    have hs' : ∀ c o, c ≠ it → s.heap.get? c = some o → h'.get? c = some o := fun c o hc e => hs.extBut _ _ hc e
    refine ⟨plainId_quiet plain_filter_next _, filBody_code (ih (i + 1) _ (by omega) (by omega) (fun i' h1 h2 => hn i' (by omega) h2) (X.next hs' hit hz hb hl hS) fun h2 tk2 e hs2 he => ?_)⟩
    exact hR h2 tk2 e (fun c o hc q => hs2 c o hc (hs' c o hc q)) he
theorem codeFil {z : Addr} {R : Result → Shared → Prop} {s : Shared} (hT : s.TypeIs (.ref z) "filter") (h : FilBody prog w A z R s) : codeAny (model prog w) A (.call (.builtin "filter.__next__") ⟨[.ref z], []⟩) R s :=
  codeAny_call_builtin slot_filter_next.plain entry_filter_next (slot_filter_next.check _ _ _ _ _ _ _ _ hT (args_filter_next_1 _) h)
/-- where the walk stands: i texts have passed -/
noncomputable def FilSt (prog : Program) (w : World) (z b it l S : Addr) (items : Array Value) (ys : List Str) (P : Str → Bool) (i : Nat) (h : Heap) : Prop :=
  ∃ p, p ≤ items.size ∧ ((ys.take p).filter P).length = i ∧ FilAt prog w h z b it l S p items P
theorem Walks.filter (hh : A.handled = none) {z b it l S : Addr} {items : Array Value} {ys : List Str} {P : Str → Bool} (hys : StrsAre items.toList ys) (hz : z ≠ it) (hb : b ≠ it) (hl : l ≠ it) (hS : S ≠ it) :
    Walks prog w A z [z, b, it, l, S] [it] (ys.filter P).length (fun i v => ∃ g t, (ys.filter P)[i]? = some g ∧ v = .str g t) (FilSt prog w z b it l S items ys P) where
  sub := fun c hc => by rw [List.mem_singleton.mp hc]; simp
  frame := fun i h h' hst hk => by
    obtain ⟨p, h1, h2, X⟩ := hst
    exact ⟨p, h1, h2, X.at hk⟩
  item := fun i s Q E hi hst hQ => by
    obtain ⟨p, h1, h2, X⟩ := hst
    have hspl : ys.filter P = (ys.take p).filter P ++ (ys.drop p).filter P := by rw [← List.filter_append, List.take_append_drop]
    have hne : (ys.drop p).filter P ≠ [] := by
      intro e
      rw [hspl, e, List.append_nil] at hi
      omega
    obtain ⟨j, g, hj, hp, hn⟩ := firstPass P _ hne
    have hlen : items.size = ys.length := by have := hys.length; simpa using this
    have hat : ∀ i x, (ys.drop p)[i]? = some x → ∃ t, items[p + i]? = some (.str x t) := by
      intro i x hx
      rw [List.getElem?_drop] at hx
      have hlt : p + i < items.size := by rw [hlen]; exact (List.getElem?_eq_some_iff.mp hx).1
      obtain ⟨g', t', e1, e2⟩ := strs_at0 hys (i := p + i) (v := items[p + i]) (by simp [hlt])
      rw [hx] at e2; cases e2
      exact ⟨t', by rw [Array.getElem?_eq_getElem hlt, e1]⟩
    obtain ⟨t, ht⟩ := hat j g hj
    have hjl : p + j < items.size := (Array.getElem?_eq_some_iff.mp ht).1
    have hT : s.TypeIs (.ref z) "filter" := ⟨_, X.z, rfl⟩
    unfold pyNext
    refine wpAny_bind (wpAny_attempt (wpAny_callSpecial?_slot (name := Str.ofString "__next__") hT slot_filter_next (wpAny_call (codeFil hT
      (filter_item hz hb hl hS ht hp (p + j - p) p s (by omega) (by omega) (fun i' h3 h4 => ?_) X fun h' tk hit hs => ?_)))))
    · have hlt : i' - p < j := by omega
      have hx : ∃ x, (ys.drop p)[i' - p]? = some x := by
        have : i' - p < (ys.drop p).length := Nat.lt_trans hlt (List.getElem?_eq_some_iff.mp hj).1
        exact ⟨_, List.getElem?_eq_getElem this⟩
      obtain ⟨x, hx⟩ := hx
      obtain ⟨t', ht'⟩ := hat _ _ hx
      rw [show p + (i' - p) = i' from by omega] at ht'
      exact ⟨x, t', ht', hn _ hlt x hx⟩
    · have htk : ys.take (p + (j + 1)) = ys.take p ++ (ys.drop p).take (j + 1) := by rw [List.take_add]
      have hft : (ys.take (p + (j + 1))).filter P = (ys.take p).filter P ++ [g] := by rw [htk, List.filter_append, take_pass j hj hp hn]
      refine wpAny_pure (hQ _ h' tk ⟨g, t, ?_, rfl⟩ ⟨p + (j + 1), by omega, by rw [hft]; simp [h2], X.next hs hit hz hb hl hS⟩ fun c o hc e => hs c o (fun q => hc (by simp [q])) e)
      have : ys.filter P = (ys.take p).filter P ++ [g] ++ (ys.drop (p + (j + 1))).filter P := by rw [← hft, ← List.filter_append, List.take_append_drop]
      rw [this, List.append_assoc, List.getElem?_append_right (by omega), h2]; simp
  done := fun s Q E hst hQ => by
    obtain ⟨p, h1, h2, X⟩ := hst
    have hspl : ys.filter P = (ys.take p).filter P ++ (ys.drop p).filter P := by rw [← List.filter_append, List.take_append_drop]
    have hnil : (ys.drop p).filter P = [] := by
      have := congrArg List.length hspl
      rw [List.length_append, h2] at this
      exact List.eq_nil_of_length_eq_zero (by omega)
    have hlen : items.size = ys.length := by have := hys.length; simpa using this
    have hT : s.TypeIs (.ref z) "filter" := ⟨_, X.z, rfl⟩
    unfold pyNext
    refine wpAny_bind (wpAny_attempt (wpAny_callSpecial?_slot (name := Str.ofString "__next__") hT slot_filter_next (wpAny_call (codeFil hT
      (filter_end hh hz hb hl hS (items.size - p) p s rfl h1 (fun i' h3 h4 => ?_) X fun h' tk e hs he => ?_)))))
    · obtain ⟨g', t', e1, e2⟩ := strs_at0 hys (i := i') (v := items[i']) (by simp [h4])
      refine ⟨g', t', by rw [Array.getElem?_eq_getElem h4, e1], ?_⟩
      rw [List.filter_eq_nil_iff] at hnil
      have : g' ∈ ys.drop p := List.mem_of_getElem? (i := i' - p) (by rw [List.getElem?_drop, show p + (i' - p) = i' from by omega]; exact e2)
      simpa using hnil g' this
    · obtain ⟨o, ho, hc⟩ := he
      refine wpAny_bind (wpAny_isInstance (T := "StopIteration") (b := true) ⟨o, ho, hc⟩ isSubtype_stop ?_)
      exact wpAny_pure (hQ _ _ fun c o hc q => hs c o (fun x => hc (by simp [x])) q)
  self := fun i s Q E hst hQ => by
    obtain ⟨p, h1, h2, X⟩ := hst
    have hT : s.TypeIs (.ref z) "filter" := ⟨_, X.z, rfl⟩
    refine wpAny_pyIter_slot hT slot_filter_iter (wpAny_call_entry slot_filter_iter hT entry_filter_iter ?_ (args_filter_iter_1 _))
    show wpAny _ _ (ret (.ref z)) _ _ s
    exact wpAny_pure ⟨_, rfl, "filter", _, hT, slot_filter_next.lookup, hQ⟩
end
end Mine
end

section
open PySem PySem.W PyProof.Rows
namespace Mine
theorem sec_FD {M : Model} {A : Around} {E : Value → Shared → Prop} {s : Shared} {env : Env} {p : Pos} {Q : Flow → Shared → Prop} (h : Q .next s) : wpAny M A (exec (.Pass p) env) Q E s := by
  w_top off
  k_with_none
  walk1
  exact h
end Mine
end
section
open PySem PySem.W PyProof.Rows PySem.Calls PySem.Spec
set_option maxRecDepth 100000
set_option maxHeartbeats 3200000
namespace Mine
section
variable {prog : Program} {w : World} {A : Around} {s : Shared} {R : Result → Shared → Prop}
variable {I : Addr} {fp wr : List Addr} {G : Array GenState → Array GenState → Prop} {n : Nat} {P : Nat → Value → Prop} {St : Nat → Shared → Prop}
theorem extend_filter (W : WalksS prog w A.in1 I fp wr G n P St) (hT : ∀ i s, St i s → s.TypeIs (.ref I) "filter") (S : Addr) (res : Value) (c₀ : Nat) (hst : St 0 s) (hSf : S ∉ fp) (hI : I ∈ fp)
    (hS : s.heap.get? S = some { cls := .type "list", data := .seq #[] c₀ })
    (hR : ∀ s' acc' c', Moved (S :: wr) G s s' → s'.heap.get? S = some { cls := .type "list", dict := none, data := .seq acc' c', slots := #[] } → ItemsOf P acc' n → R (.ok (.ret res)) s') (hn : n ≤ sizeLine) :
    wpAny (model prog w) A.in1 (Builtin.List.listExtendWith (.ref S) (.ref I) res)
      (fun fin s' => match fin with | .done f => R (.ok f) s' | .again c' => c'.quiet = true ∧ codeAny (model prog w) A c' R s') (fun e s' => R (.error e) s') s := by
  have hSI : S ≠ I := fun e => hSf (e ▸ hI)
  unfold Builtin.List.listExtendWith
  refine wpAny_bind (wpAny_typeOf (hT 0 _ hst) ?_)
  have h1 : Builtin.List.listSameRef (.ref S) (.ref I) = false := by simp [Builtin.List.listSameRef, hSI]
  have h2 : (Value.type "filter" == Value.type "list") = false := by decide
  have h3 : (Value.type "filter" == Value.type "tuple") = false := by decide
  simp only [h1, h2, h3, Bool.or_false, Bool.false_eq_true, if_false]
  refine wpAny_bind (W.self 0 _ _ _ hst ?_)
  refine wpAny_bind (wpAny_holding ?_)
  unfold Builtin.List.listLengthHint
  refine wpAny_bind (wpAny_specialOf (hT 0 _ hst) filter_no_len ?_)
  show wpAny _ A.in1 (specialOf (Value.ref I) (Str.ofString "__length_hint__") >>= _) _ _ _
  refine wpAny_bind (wpAny_specialOf (hT 0 _ hst) filter_no_hint ?_)
  refine wpAny_pure ?_
  show wpAny _ A.in1 (rule "list.extend.makes-room" >>= fun _ => Builtin.List.listTouch (.ref S) >>= fun _ =>
    again (.builtin "list.extend.loop" ⟨[.ref S, .ref I, res], []⟩)) _ _ _
  refine wpAny_bind (wpAny_rule ?_)
  refine wpAny_bind ?_
  show wpAny _ A.in1 (updateSeq S (·.push .none) >>= fun _ => updateSeq S (·.pop)) _ _ _
  refine wpAny_bind (wpAny_updateSeq hS rfl ?_)
  have hS₂ := Heap.get?_update_self (Obj.mapSeq (·.push Value.none)) hS rfl
  refine wpAny_updateSeq (hz := by seq_fits) hS₂ rfl ?_
  have hS₃ := Heap.get?_update_self (Obj.mapSeq (·.pop)) hS₂ rfl
  have oth : ∀ b o, b ≠ S → s.heap.get? b = some o → ((s.heap.update S (Obj.mapSeq (·.push Value.none))).update S (Obj.mapSeq (·.pop))).get? b = some o :=
    fun b o hb e => (Heap.get?_update_other _ _ (Ne.symm hb)).trans ((Heap.get?_update_other _ _ (Ne.symm hb)).trans e)
  refine wpAny_pure ⟨plainId_quiet F.plain_extend_loop _, codeAny_extend_loopS W hn _ hSf _ n 0 _ _ _ rfl (Nat.zero_le _)
    (W.frame 0 s _ s.toks hst (Nat.le_refl _) fun b hb o e => oth b o (fun h => hSf (h ▸ hb)) e) hS₃ (ItemsOf.nil P) fun s' acc' c' hm hS' hacc => ?_⟩
  exact hR s' acc' c' (Moved.trans W.gtrans ((Moved.refl W.grefl).then_heap (Nat.le_refl _) fun b o hb e => oth b o (fun h => hb (h ▸ List.mem_cons_self)) e) hm) hS' hacc
theorem init_filter (W : WalksS prog w A.in1 I fp wr G n P St) (hT : ∀ i s, St i s → s.TypeIs (.ref I) "filter") (S : Addr) (hst : St 0 s) (hSf : S ∉ fp) (hI : I ∈ fp)
    (hS : s.heap.get? S = some { cls := .type "list", data := .seq #[] })
    (hR : ∀ s' acc' c', Moved (S :: wr) G s s' → s'.heap.get? S = some { cls := .type "list", dict := none, data := .seq acc' c', slots := #[] } → ItemsOf P acc' n → R (.ok (.ret .none)) s') (hn : n ≤ sizeLine) :
    wpAny (model prog w) A.in1 (Builtin.«list.__init__» ⟨[.ref S, .ref I], []⟩)
      (fun fin s' => match fin with | .done f => R (.ok f) s' | .again c' => c'.quiet = true ∧ codeAny (model prog w) A c' R s') (fun e s' => R (.error e) s') s := by
  show wpAny _ A.in1 (do let old ← Builtin.List.listItems (.ref S); Builtin.List.listUpdate (.ref S) (fun _ => #[]); letGo old.toList.reverse; Builtin.List.listExtendWith (.ref S) (.ref I) .none) _ _ s
  refine wpAny_bind ?_
  unfold Builtin.List.listItems
  refine wpAny_bind (wpAny_seqItems hS rfl (wpAny_pure ?_))
  show wpAny _ A.in1 (updateSeq S (fun _ => #[]) >>= fun _ => letGo (#[] : Array Value).toList.reverse >>= fun _ => Builtin.List.listExtendWith (.ref S) (.ref I) .none) _ _ s
  refine wpAny_bind (wpAny_updateSeq hS rfl ?_)
  have hS₂ := Heap.get?_update_self (Obj.mapSeq (fun _ => (#[] : Array Value))) hS rfl
  have oth : ∀ b o, b ≠ S → s.heap.get? b = some o → (s.heap.update S (Obj.mapSeq (fun _ => (#[] : Array Value)))).get? b = some o :=
    fun b o hb e => (Heap.get?_update_other _ _ (Ne.symm hb)).trans e
  refine wpAny_bind (wpAny_letGo ?_)
  refine extend_filter (hn := hn) W hT S .none _ (W.frame 0 s _ s.toks hst (Nat.le_refl _) fun b hb o e => oth b o (fun h => hSf (h ▸ hb)) e) hSf hI hS₂ fun s' acc' c' hm hS' hacc => ?_
  exact hR s' acc' c' (Moved.trans W.gtrans ((Moved.refl W.grefl).then_heap (Nat.le_refl _) fun b o hb e => oth b o (fun h => hb (h ▸ List.mem_cons_self)) e) hm) hS' hacc
end
theorem hasS_take (ys : List Str) (n : Nat) (h : ys.length ≤ n) (k : Str) : hasS (ys.take n) k = hasS ys k := by rw [List.take_of_length_le h]
theorem strs_of_items {ys : List Str} {acc : Array Value} (h : ItemsOf (fun i v => ∃ g t, ys[i]? = some g ∧ v = Value.str g t) acc ys.length) : StrsAre acc.toList ys := by
  obtain ⟨hl, ha⟩ := h
  have key : ∀ (vs : List Value) (ys : List Str), vs.length = ys.length → (∀ (j : Nat) (v : Value), vs[j]? = some v → ∃ (g : Str) (t : Tok), ys[j]? = some g ∧ v = Value.str g t) → StrsAre vs ys := by
    intro vs
    induction vs with
    | nil => intro ys h1 _; cases ys with
      | nil => exact .nil
      | cons _ _ => simp at h1
    | cons v r ih =>
      intro ys h1 h2
      cases ys with
      | nil => simp at h1
      | cons y q =>
        obtain ⟨g, t, e1, rfl⟩ := h2 0 v rfl
        simp at e1
        rw [e1]
        exact .cons _ _ (ih q (by simpa using h1) fun j v hv => h2 (j + 1) v hv)
  exact key _ _ (by simpa using hl) fun j v hv => ha j v (by simpa using hv)
section
variable {prog : Program} {w : World} {A : Around} {E : Value → Shared → Prop} {s : Shared} {h₀ : Heap} {L : Addr} {m : Str → Option Value} {news : Led}
theorem news_new (F : Fr h₀ L s.heap m) {h' : Heap} {a : Addr} {o : Obj} (ha : s.heap.objs.size ≤ a) (ho : h'.get? a = some o) : h'.get? a = some o ∧ a ≠ L ∧ h₀.get? a = none := by
  refine ⟨ho, fun e => ?_, ?_⟩
  · exact absurd F.ns.lt (by rw [← e]; exact Nat.not_lt.mpr ha)
  · cases q : h₀.get? a with
    | none => rfl
    | some o' => exact absurd (Nat.lt_of_lt_of_le (Heap.lt_size (F.keep _ _ q)) ha) (Nat.lt_irrefl _)
theorem setN {l : Addr} {vs : List Value} {k : Nat} {ys : List Str} {Q : Value → Shared → Prop} (hh : A.handled = none) (F : Fr h₀ L s.heap m) (N : News h₀ L s.heap news) (hm : (l, W.listOf vs.toArray k) ∈ news) (hs : StrsAre vs ys) (hb : ys.length ≤ 1000)
    (h : ∀ S so h' tk c, Fr h₀ L h' m → News h₀ L h' ((S, so) :: news) → so.SetObjOf (strKind prog w) (hasS ys) c → c ≤ 1000 → (∀ p ∈ news, p.1 < S) → Q (.ref S) { s with heap := h', toks := tk }) :
    wpAny (model prog w) A (call (.type "set") [.ref l]) Q E s := by
  have hlen := hs.length
  refine call_set_strs hh (N.isList hm) (by simpa using hs) (by simp only [List.size_toArray]; unfold scanBound; omega) fun h' tk hS hk => ?_
  obtain ⟨c, hc, hS⟩ := hS
  obtain ⟨so, hso, hO⟩ := (SetOf_congr hS (hasS_take ys _ (by simp [hlen])) rfl).objOf
  have hk' : ∀ b o, s.heap.get? b = some o → h'.get? b = some o := fun b o e => hk b o (Heap.lt_size e) e
  refine h _ so h' tk c (F.keeps hk') ?_ hO (by simp [hlen] at hc; omega) fun p hp => Heap.lt_size (N p hp).1
  intro p hp
  rcases List.mem_cons.mp hp with rfl | hp
  · exact news_new F (Nat.le_refl _) hso
  · exact ⟨hk' _ _ (N p hp).1, (N p hp).2⟩
theorem containsN {S : Addr} {so : Obj} {P : Str → Bool} {c : Nat} {e : Bool} {Q : Value → Shared → Prop} (F : Fr h₀ L s.heap m) (N : News h₀ L s.heap news) (hm : (S, so) ∈ news) (hS : so.SetObjOf (strKind prog w) P c) (hc : c ≤ 1000)
    (h : ∀ b h' tk, Fr h₀ L h' m → News h₀ L h' ((b, cbound S) :: news) → (∀ p ∈ news, p.1 < b) → Q (.ref b) { s with heap := h', toks := tk }) :
    wpAny (model prog w) A (getAttr (.ref S) "__contains__" e) Q E s :=
  get_contains (hS.setOf (N _ hm).1 (by unfold scanBound; omega)) fun tk => h _ _ tk (F.push _) (N.push F _) fun p hp => Heap.lt_size (N p hp).1
theorem filterN {b l : Addr} {vs : List Value} {k : Nat} {Q : Value → Shared → Prop} (F : Fr h₀ L s.heap m) (N : News h₀ L s.heap news) (hm : (l, W.listOf vs.toArray k) ∈ news)
    (h : ∀ z it h', Fr h₀ L h' m → News h₀ L h' ((z, filObj b it) :: (it, { cls := .type "list_iterator", data := .fields #[.ref l, .int 0 0] }) :: news) → (∀ p ∈ news, p.1 < it) → it < z → Q (.ref z) { s with heap := h' }) :
    wpAny (model prog w) A (call (.type "filter") [.ref b, .ref l]) Q E s := by
  refine call_filter (N.isList hm) ?_
  have F1 := F.push { cls := .type "list_iterator", data := .fields #[.ref l, .int 0 0] }
  have N1 := N.push F { cls := .type "list_iterator", data := .fields #[.ref l, .int 0 0] }
  have hz : (s.heap.push { cls := .type "list_iterator", data := .fields #[.ref l, .int 0 0] }).objs.size = s.heap.objs.size + 1 := Heap.size_push ..
  have N2 := News.push F1 N1 (filObj b s.heap.objs.size)
  rw [← hz]
  exact h _ _ _ (F1.push _) N2 (fun p hp => Heap.lt_size (N p hp).1) (by rw [hz]; exact Nat.lt_succ_self _)
theorem listFilN {z it b S l : Addr} {so : Obj} {vs : List Value} {ys : List Str} {P : Str → Bool} {k c : Nat} {rest : Led} {Q : Value → Shared → Prop} (hh : A.handled = none) (F : Fr h₀ L s.heap m)
    (N : News h₀ L s.heap ((z, filObj b it) :: (it, { cls := .type "list_iterator", data := .fields #[.ref l, .int 0 0] }) :: (b, cbound S) :: (S, so) :: rest)) (hm : (l, W.listOf vs.toArray k) ∈ rest) (hs : StrsAre vs ys) (hS : so.SetObjOf (strKind prog w) P c) (hc : c ≤ 1000) (hy : ys.length ≤ 1000)
    (hz : it < z) (hb : b < it) (hSi : S < it) (hr : ∀ p ∈ rest, p.1 < it)
    (h : ∀ D us k' h' tk, Fr h₀ L h' m → News h₀ L h' ((D, W.listOf us.toArray k') :: rest) → StrsAre us (ys.filter P) → (∀ p ∈ rest, p.1 < D) → Q (.ref D) { s with heap := h', toks := tk }) :
    wpAny (model prog w) A (call (.type "list") [.ref z]) Q E s := by
  have gz := N _ (.head _)
  have gi := N _ (.tail _ (.head _))
  have gb := N _ (.tail _ (.tail _ (.head _)))
  have gS := N _ (.tail _ (.tail _ (.tail _ (.head _))))
  have gl := N _ (.tail _ (.tail _ (.tail _ (.tail _ hm))))
  dsimp only at gz gi gb gS gl
  have hli : l < it := hr _ hm
  have X : FilAt prog w s.heap z b it l S 0 vs.toArray P := ⟨gz.1, ⟨_, gi.1, rfl, rfl⟩, N.isList (.tail _ (.tail _ (.tail _ (.tail _ hm)))), gb.1, _, hS.setOf gS.1 (by unfold scanBound; omega)⟩
  have hlt : ∀ {a o}, s.heap.get? a = some o → a < s.heap.objs.size := fun e => Heap.lt_size e
  have hSf : s.heap.objs.size ∉ [z, b, it, l, S] := by
    intro hm
    simp only [List.mem_cons, List.not_mem_nil, or_false] at hm
    rcases hm with e | e | e | e | e
    · exact absurd (hlt gz.1) (by rw [← e]; exact Nat.lt_irrefl _)
    · exact absurd (hlt gb.1) (by rw [← e]; exact Nat.lt_irrefl _)
    · exact absurd (hlt gi.1) (by rw [← e]; exact Nat.lt_irrefl _)
    · exact absurd (hlt gl.1) (by rw [← e]; exact Nat.lt_irrefl _)
    · exact absurd (hlt gS.1) (by rw [← e]; exact Nat.lt_irrefl _)
  have hnl : (ys.filter P).length ≤ sizeLine := Nat.le_trans (List.length_filter_le _ _) (by rw [sizeLine_eq]; omega)
  refine callType_codes (Q₁ := fun obj s₁ => obj = .ref s.heap.objs.size ∧ s₁ = { s with heap := s.heap.push { cls := .type "list", data := .seq #[] } }) PySem.F.called_list (PySem.F.typeCall_list_1 _) PySem.F.entry_list_init
    (code_list_new _ ⟨rfl, rfl⟩) fun obj s₁ h₁ => ?_
  obtain ⟨rfl, rfl⟩ := h₁
  have hD : (s.heap.push { cls := .type "list", data := .seq #[] }).get? s.heap.objs.size = some { cls := .type "list", data := .seq #[] } := Heap.get?_push_size _ rfl
  have W := (Walks.filter (prog := prog) (w := w) (A := A.in1.in1) (by simp [hh]) (z := z) (b := b) (it := it) (l := l) (S := S) (items := vs.toArray) (ys := ys) (P := P) (by simpa using hs) (Nat.ne_of_gt hz) (Nat.ne_of_lt hb) (Nat.ne_of_lt hli) (Nat.ne_of_lt hSi)).toS
  refine ⟨⟨_, hD, rfl⟩, PySem.F.args_list_init_2 _ _, init_filter (hn := hnl) W (fun i s st => let ⟨_, _, _, x⟩ := st; ⟨_, x.z, rfl⟩) _ ⟨0, Nat.zero_le _, by simp, X.at fun c _ o e => Heap.get?_push_of_some _ e⟩ hSf (by simp) hD fun s' acc' c' hm' hS' hacc => ⟨rfl, ?_⟩⟩
  obtain ⟨h', g', d', tk', os'⟩ := s'
  have eg : g' = s.gens := hm'.gens
  have ed : d' = s.drawn := hm'.drawn
  have eo : os' = s.os := hm'.os
  subst eg; subst ed; subst eo
  have keep : ∀ c o, c ≠ it → s.heap.get? c = some o → h'.get? c = some o := fun c o hc e => hm'.heap c o (by
    simp only [List.mem_cons, List.not_mem_nil, or_false, not_or]
    exact ⟨Nat.ne_of_lt (Heap.lt_size e), hc⟩) (Heap.get?_push_of_some _ e)
  have Fi : ∀ b o, h₀.get? b = some o → b ≠ it := fun b o e q => by rw [q, gi.2.2] at e; cases e
  refine h _ acc'.toList c' h' tk' ⟨F.ns.at' fun o e => keep _ o (fun q => gi.2.1 q.symm) e, fun b o e => keep b o (Fi b o e) (F.keep b o e), F.above⟩ ?_ (strs_of_items hacc) fun p hp => Heap.lt_size (N p (.tail _ (.tail _ (.tail _ (.tail _ hp))))).1
  intro p hp
  rcases List.mem_cons.mp hp with rfl | hp
  · exact news_new F (Nat.le_refl _) (by simpa using hS')
  · have := N p (.tail _ (.tail _ (.tail _ (.tail _ hp))))
    exact ⟨keep _ _ (Nat.ne_of_lt (hr p hp)) this.1, this.2⟩
end
end Mine
end

end
end
section
local macro_rules | `(tactic| k_mem) => `(tactic| ((fail_if_success (refine' List.Mem.tail _ ?_)); assumption))
section
open PySem PySem.W PyProof.Rows
namespace Mine
theorem sec_E2 {M : Model} {A : Around} {E : Value → Shared → Prop} {s : Shared} {env : Env} {p : Pos} {Q : Flow → Shared → Prop} (h : Q .next s) : wpAny M A (exec (.Pass p) env) Q E s := by
  w_top off
  k_with_none
  walk1
  exact h
end Mine
end
section
open PySem PySem.W PyProof.Rows
set_option maxRecDepth 100000
set_option maxHeartbeats 1000000
namespace Mine
theorem addN {prog : Program} {w : World} {A : Around} {E : Value → Shared → Prop} {s : Shared} {h₀ : Heap} {L a b : Addr} {m : Str → Option Value} {news : Led} {vs ws : List Value} {k j : Nat} {Q : Value → Shared → Prop} (F : Fr h₀ L s.heap m) (N : News h₀ L s.heap news) (ha : (a, W.listOf vs.toArray k) ∈ news) (hb : (b, W.listOf ws.toArray j) ∈ news) (hz : vs.length + ws.length ≤ 100000)
    (h : ∀ D h', Fr h₀ L h' m → News h₀ L h' ((D, W.listOf (vs ++ ws).toArray 0) :: news) → (∀ p ∈ news, p.1 < D) → Q (.ref D) { s with heap := h' }) : wpAny (model prog w) A (binaryOp .Add (.ref a) (.ref b)) Q E s :=
  kmk_add_lit F N (N.isList ha) (N.isList hb) (by simp) h (by simp [sizeLine_eq]; omega)
theorem mer_ok (w : World) (x y : Addr) (ags1 ags2 : List Str) (rv1 rv2 : List Value) (news : Led) (hW1 : EntAt news x ags1 rv1) (hW2 : EntAt news y ags2 rv2) (hl1 : ags1.length ≤ 1000) (hl2 : ags2.length ≤ 1000) (hr1 : rv1.length ≤ 1000) (hr2 : rv2.length ≤ 1000) :
   Spec 5 w 143 [.ref x, .ref y] news (fun r news' => ExtT news news' fun tl => ∃ z, r = .ref z ∧ EntAt tl z (ags1.filter (hasS ags2)) (rv1 ++ rv2)) := by
  refine hW1.el fun d la lr us a1 a2 a3 a4 b1 b2 b3 b4 k1 k2 k3 h1 h2 h3 h4 h5 => ?_
  refine hW2.el fun d' la' lr' us' a1' a2' a3' a4' b1' b2' b3' b4' k1' k2' k3' h1' h2' h3' h4' h5' => ?_
  unfold Spec
  k_fill
  intro loose mean mg mb dp un gd cn cs a₁ ccd cl outer A₀ base h₀ L m s Q E B F X N T hk hd hu hret
  refine wpAny_call ?_
  k_dflt (walk_at "mine enter")
  (repeat' (first | (k_unfold; (try dsimp only)) | (k_end; wrow_close) | (first | (k_here; (with_reducible show wpAny _ _ (binaryOp _ (Value.ref _) (Value.ref _)) _ _ _); k_dflt (refine' addN ?k1 ?k2 ?k3 ?k4 ?k5 ?_; (case k1 => k_asm); (case k2 => k_asm); (case k3 => k_mem); (case k4 => k_mem); (case k5 => omega); k_whole); intro D' h' F' N' l1; (try k_lt l1); (try k_sweep)) | ((with_reducible show wpAny _ _ (call (Value.type "list") _) _ _ _); (with_reducible refine holdIt ?_)) | (k_here; (with_reducible show wpAny _ _ (call (Value.type _) [Value.ref _, Value.ref _]) _ _ _); k_dflt (refine' filterN ?k1 ?k2 ?k3 ?_; (case k1 => k_asm); (case k2 => k_asm); (case k3 => k_mem); k_whole); intro z' it' h' F' N' l1 l2; (try k_sweep)) | (k_here; (with_reducible show wpAny _ _ (getAttr (Value.ref _) (Str.ofString "__contains__") _) _ _ _); k_dflt (refine' containsN ?k1 ?k2 ?k3 ?k4 ?k5 ?_; (case k1 => k_asm); (case k2 => k_asm); (case k3 => k_mem); (case k4 => assumption); (case k5 => assumption); k_whole); intro b' h' tk' F' N' l1; (try k_lt l1); (try k_sweep)) | (k_here; (with_reducible show wpAny _ _ (call (Value.type _) [Value.ref _]) _ _ _); k_dflt (refine' setN ?k1 ?k2 ?k3 ?k4 ?k5 ?k6 ?_; (case k1 => exact rfl); (case k2 => k_asm); (case k3 => k_asm); (case k4 => k_mem); (case k5 => assumption); (case k6 => omega); k_whole); intro S' so' h' tk' c' F' N' hSO hSc l1; (try k_lt l1); (try k_sweep)) | ((with_reducible show wpAny _ _ (call (Value.ref _) _) _ _ _); (k_here; k_dflt (refine' Spec.use (mk _ _ _ _ ?kL) ?k1 ?k2 ?k3 ?k4 ?k5 ?kK ?kd ?ku ?_; (((case k4 => k_asm); (case k1 => k_asm); (case k2 => k_asm); (case k3 => k_asm); (case k5 => k_asm); (case kK => first | exact rfl | assumption); (case kd => ktr_room); (case ku => ktr_units))); (case kL => (show PySem.Str.length _ ≤ 1000; omega))); intro r9 n9 h9 tk9 F9 N9 P9; obtain ⟨e9, x9, e8, w9⟩ := P9; subst e8; (try dsimp only); (try k_fold))) | ((with_reducible show wpAny _ _ (call (Value.ref _) _) _ _ _); (k_here; k_dflt (refine' Spec.use (ind_ok _ _ _ _ _ _ ?kW ?kA ?kB) ?k1 ?k2 ?k3 ?k4 ?k5 ?kK ?kd ?ku ?_; (((case k4 => k_asm); (case k1 => k_asm); (case k2 => k_asm); (case k3 => k_asm); (case k5 => k_asm); (case kK => first | exact rfl | assumption); (case kd => ktr_room); (case ku => ktr_units))); (case kW => assumption); (case kA => omega); (case kB => omega)); intro r9 n9 h9 tk9 F9 N9 P9; obtain ⟨e9, t9, e8⟩ := P9; rw [e9] at N9; clear e9; subst e8; (try dsimp only); (try k_fold))) | ((with_reducible show wpAny _ _ (call (Value.ref _) _) _ _ _); (k_here; k_dflt (refine' Spec.use (lrs_ok _ _ _ _ ?kW) ?k1 ?k2 ?k3 ?k4 ?k5 ?kK ?kd ?ku ?_; (((case k4 => k_asm); (case k1 => k_asm); (case k2 => k_asm); (case k3 => k_asm); (case k5 => k_asm); (case kK => first | exact rfl | assumption); (case kd => ktr_room); (case ku => ktr_units))); (case kW => assumption)); intro r9 n9 h9 tk9 F9 N9 P9; obtain ⟨e9, t9, e8⟩ := P9; rw [e9] at N9; clear e9; subst e8; (try dsimp only); (try k_fold))) | ((with_reducible show wpAny _ _ (call (Value.ref _) _) _ _ _); (k_here; k_dflt (first | (refine' call_cls0 ?k1 ?k2 ?k3 ?k4 ?k5 ?_; (case k1 => k_asm); (case k2 => k_asm); (case k3 => k_asm); (case k4 => k_is); (case k5 => k_is); k_whole; intro x' d' h' F' N' l1 l2; (try k_lt l1); (try k_lt2 l2); (try k_sweep)) | (refine' call_cls ?k1 ?k2 ?k3 ?k4 ?k5 ?k6 ?_; (case k1 => k_asm); (case k2 => k_asm); (case k3 => k_asm); (case k4 => k_is); (case k5 => k_is); (case k6 => k_is); k_whole; intro x' d' h' F' N' l1 l2; (try k_lt l1); (try k_lt2 l2); (try k_sweep); walk_at "mine enter") | (refine' call_meth ?k1 ?k2 ?_; (case k1 => k_asm); (case k2 => k_mem); k_whole; walk_at "mine enter") | (refine wpAny_call ?_; walk_at "mine enter")))) | walk1) | (dsimp only; (first | (k_here; (with_reducible show wpAny _ _ (binaryOp _ (Value.ref _) (Value.ref _)) _ _ _); k_dflt (refine' addN ?k1 ?k2 ?k3 ?k4 ?k5 ?_; (case k1 => k_asm); (case k2 => k_asm); (case k3 => k_mem); (case k4 => k_mem); (case k5 => omega); k_whole); intro D' h' F' N' l1; (try k_lt l1); (try k_sweep)) | ((with_reducible show wpAny _ _ (call (Value.type "list") _) _ _ _); (with_reducible refine holdIt ?_)) | (k_here; (with_reducible show wpAny _ _ (call (Value.type _) [Value.ref _, Value.ref _]) _ _ _); k_dflt (refine' filterN ?k1 ?k2 ?k3 ?_; (case k1 => k_asm); (case k2 => k_asm); (case k3 => k_mem); k_whole); intro z' it' h' F' N' l1 l2; (try k_sweep)) | (k_here; (with_reducible show wpAny _ _ (getAttr (Value.ref _) (Str.ofString "__contains__") _) _ _ _); k_dflt (refine' containsN ?k1 ?k2 ?k3 ?k4 ?k5 ?_; (case k1 => k_asm); (case k2 => k_asm); (case k3 => k_mem); (case k4 => assumption); (case k5 => assumption); k_whole); intro b' h' tk' F' N' l1; (try k_lt l1); (try k_sweep)) | (k_here; (with_reducible show wpAny _ _ (call (Value.type _) [Value.ref _]) _ _ _); k_dflt (refine' setN ?k1 ?k2 ?k3 ?k4 ?k5 ?k6 ?_; (case k1 => exact rfl); (case k2 => k_asm); (case k3 => k_asm); (case k4 => k_mem); (case k5 => assumption); (case k6 => omega); k_whole); intro S' so' h' tk' c' F' N' hSO hSc l1; (try k_lt l1); (try k_sweep)) | ((with_reducible show wpAny _ _ (call (Value.ref _) _) _ _ _); (k_here; k_dflt (refine' Spec.use (mk _ _ _ _ ?kL) ?k1 ?k2 ?k3 ?k4 ?k5 ?kK ?kd ?ku ?_; (((case k4 => k_asm); (case k1 => k_asm); (case k2 => k_asm); (case k3 => k_asm); (case k5 => k_asm); (case kK => first | exact rfl | assumption); (case kd => ktr_room); (case ku => ktr_units))); (case kL => (show PySem.Str.length _ ≤ 1000; omega))); intro r9 n9 h9 tk9 F9 N9 P9; obtain ⟨e9, x9, e8, w9⟩ := P9; subst e8; (try dsimp only); (try k_fold))) | ((with_reducible show wpAny _ _ (call (Value.ref _) _) _ _ _); (k_here; k_dflt (refine' Spec.use (ind_ok _ _ _ _ _ _ ?kW ?kA ?kB) ?k1 ?k2 ?k3 ?k4 ?k5 ?kK ?kd ?ku ?_; (((case k4 => k_asm); (case k1 => k_asm); (case k2 => k_asm); (case k3 => k_asm); (case k5 => k_asm); (case kK => first | exact rfl | assumption); (case kd => ktr_room); (case ku => ktr_units))); (case kW => assumption); (case kA => omega); (case kB => omega)); intro r9 n9 h9 tk9 F9 N9 P9; obtain ⟨e9, t9, e8⟩ := P9; rw [e9] at N9; clear e9; subst e8; (try dsimp only); (try k_fold))) | ((with_reducible show wpAny _ _ (call (Value.ref _) _) _ _ _); (k_here; k_dflt (refine' Spec.use (lrs_ok _ _ _ _ ?kW) ?k1 ?k2 ?k3 ?k4 ?k5 ?kK ?kd ?ku ?_; (((case k4 => k_asm); (case k1 => k_asm); (case k2 => k_asm); (case k3 => k_asm); (case k5 => k_asm); (case kK => first | exact rfl | assumption); (case kd => ktr_room); (case ku => ktr_units))); (case kW => assumption)); intro r9 n9 h9 tk9 F9 N9 P9; obtain ⟨e9, t9, e8⟩ := P9; rw [e9] at N9; clear e9; subst e8; (try dsimp only); (try k_fold))) | ((with_reducible show wpAny _ _ (call (Value.ref _) _) _ _ _); (k_here; k_dflt (first | (refine' call_cls0 ?k1 ?k2 ?k3 ?k4 ?k5 ?_; (case k1 => k_asm); (case k2 => k_asm); (case k3 => k_asm); (case k4 => k_is); (case k5 => k_is); k_whole; intro x' d' h' F' N' l1 l2; (try k_lt l1); (try k_lt2 l2); (try k_sweep)) | (refine' call_cls ?k1 ?k2 ?k3 ?k4 ?k5 ?k6 ?_; (case k1 => k_asm); (case k2 => k_asm); (case k3 => k_asm); (case k4 => k_is); (case k5 => k_is); (case k6 => k_is); k_whole; intro x' d' h' F' N' l1 l2; (try k_lt l1); (try k_lt2 l2); (try k_sweep); walk_at "mine enter") | (refine' call_meth ?k1 ?k2 ?_; (case k1 => k_asm); (case k2 => k_mem); k_whole; walk_at "mine enter") | (refine wpAny_call ?_; walk_at "mine enter")))) | walk1)) | (leave1; walk_say "STEP leave1"; try dsimp only) | fail "no step"))
  unfold Hold
  rename_i l1 l2
  rename Obj.SetObjOf _ _ _ _ => hSO
  rename (_ : Nat) ≤ 1000 => hSc
  refine listFilN rfl (by k_asm) (by k_asm) (.tail _ (.tail _ (.tail _ (.tail _ h3)))) h5 hSO (by assumption) hl1 l2 (l1 _ (.head _)) (l1 _ (.tail _ (.head _))) (fun p hp => l1 p (.tail _ (.tail _ hp))) ?_
  clear l1 l2
  intro D' us2 k2 h' tk' F' N' hus l1
  k_lt l1
  (repeat' (first | (k_unfold; (try dsimp only)) | (k_end; wrow_close) | (first | (k_here; (with_reducible show wpAny _ _ (binaryOp _ (Value.ref _) (Value.ref _)) _ _ _); k_dflt (refine' addN ?k1 ?k2 ?k3 ?k4 ?k5 ?_; (case k1 => k_asm); (case k2 => k_asm); (case k3 => k_mem); (case k4 => k_mem); (case k5 => omega); k_whole); intro D' h' F' N' l1; (try k_lt l1); (try k_sweep)) | ((with_reducible show wpAny _ _ (call (Value.type "list") _) _ _ _); (with_reducible refine holdIt ?_)) | (k_here; (with_reducible show wpAny _ _ (call (Value.type _) [Value.ref _, Value.ref _]) _ _ _); k_dflt (refine' filterN ?k1 ?k2 ?k3 ?_; (case k1 => k_asm); (case k2 => k_asm); (case k3 => k_mem); k_whole); intro z' it' h' F' N' l1 l2; (try k_sweep)) | (k_here; (with_reducible show wpAny _ _ (getAttr (Value.ref _) (Str.ofString "__contains__") _) _ _ _); k_dflt (refine' containsN ?k1 ?k2 ?k3 ?k4 ?k5 ?_; (case k1 => k_asm); (case k2 => k_asm); (case k3 => k_mem); (case k4 => assumption); (case k5 => assumption); k_whole); intro b' h' tk' F' N' l1; (try k_lt l1); (try k_sweep)) | (k_here; (with_reducible show wpAny _ _ (call (Value.type _) [Value.ref _]) _ _ _); k_dflt (refine' setN ?k1 ?k2 ?k3 ?k4 ?k5 ?k6 ?_; (case k1 => exact rfl); (case k2 => k_asm); (case k3 => k_asm); (case k4 => k_mem); (case k5 => assumption); (case k6 => omega); k_whole); intro S' so' h' tk' c' F' N' hSO hSc l1; (try k_lt l1); (try k_sweep)) | ((with_reducible show wpAny _ _ (call (Value.ref _) _) _ _ _); (k_here; k_dflt (refine' Spec.use (mk _ _ _ _ ?kL) ?k1 ?k2 ?k3 ?k4 ?k5 ?kK ?kd ?ku ?_; (((case k4 => k_asm); (case k1 => k_asm); (case k2 => k_asm); (case k3 => k_asm); (case k5 => k_asm); (case kK => first | exact rfl | assumption); (case kd => ktr_room); (case ku => ktr_units))); (case kL => (show PySem.Str.length _ ≤ 1000; omega))); intro r9 n9 h9 tk9 F9 N9 P9; obtain ⟨e9, x9, e8, w9⟩ := P9; subst e8; (try dsimp only); (try k_fold))) | ((with_reducible show wpAny _ _ (call (Value.ref _) _) _ _ _); (k_here; k_dflt (refine' Spec.use (ind_ok _ _ _ _ _ _ ?kW ?kA ?kB) ?k1 ?k2 ?k3 ?k4 ?k5 ?kK ?kd ?ku ?_; (((case k4 => k_asm); (case k1 => k_asm); (case k2 => k_asm); (case k3 => k_asm); (case k5 => k_asm); (case kK => first | exact rfl | assumption); (case kd => ktr_room); (case ku => ktr_units))); (case kW => assumption); (case kA => omega); (case kB => omega)); intro r9 n9 h9 tk9 F9 N9 P9; obtain ⟨e9, t9, e8⟩ := P9; rw [e9] at N9; clear e9; subst e8; (try dsimp only); (try k_fold))) | ((with_reducible show wpAny _ _ (call (Value.ref _) _) _ _ _); (k_here; k_dflt (refine' Spec.use (lrs_ok _ _ _ _ ?kW) ?k1 ?k2 ?k3 ?k4 ?k5 ?kK ?kd ?ku ?_; (((case k4 => k_asm); (case k1 => k_asm); (case k2 => k_asm); (case k3 => k_asm); (case k5 => k_asm); (case kK => first | exact rfl | assumption); (case kd => ktr_room); (case ku => ktr_units))); (case kW => assumption)); intro r9 n9 h9 tk9 F9 N9 P9; obtain ⟨e9, t9, e8⟩ := P9; rw [e9] at N9; clear e9; subst e8; (try dsimp only); (try k_fold))) | ((with_reducible show wpAny _ _ (call (Value.ref _) _) _ _ _); (k_here; k_dflt (first | (refine' call_cls0 ?k1 ?k2 ?k3 ?k4 ?k5 ?_; (case k1 => k_asm); (case k2 => k_asm); (case k3 => k_asm); (case k4 => k_is); (case k5 => k_is); k_whole; intro x' d' h' F' N' l1 l2; (try k_lt l1); (try k_lt2 l2); (try k_sweep)) | (refine' call_cls ?k1 ?k2 ?k3 ?k4 ?k5 ?k6 ?_; (case k1 => k_asm); (case k2 => k_asm); (case k3 => k_asm); (case k4 => k_is); (case k5 => k_is); (case k6 => k_is); k_whole; intro x' d' h' F' N' l1 l2; (try k_lt l1); (try k_lt2 l2); (try k_sweep); walk_at "mine enter") | (refine' call_meth ?k1 ?k2 ?_; (case k1 => k_asm); (case k2 => k_mem); k_whole; walk_at "mine enter") | (refine wpAny_call ?_; walk_at "mine enter")))) | walk1) | (dsimp only; (first | (k_here; (with_reducible show wpAny _ _ (binaryOp _ (Value.ref _) (Value.ref _)) _ _ _); k_dflt (refine' addN ?k1 ?k2 ?k3 ?k4 ?k5 ?_; (case k1 => k_asm); (case k2 => k_asm); (case k3 => k_mem); (case k4 => k_mem); (case k5 => omega); k_whole); intro D' h' F' N' l1; (try k_lt l1); (try k_sweep)) | ((with_reducible show wpAny _ _ (call (Value.type "list") _) _ _ _); (with_reducible refine holdIt ?_)) | (k_here; (with_reducible show wpAny _ _ (call (Value.type _) [Value.ref _, Value.ref _]) _ _ _); k_dflt (refine' filterN ?k1 ?k2 ?k3 ?_; (case k1 => k_asm); (case k2 => k_asm); (case k3 => k_mem); k_whole); intro z' it' h' F' N' l1 l2; (try k_sweep)) | (k_here; (with_reducible show wpAny _ _ (getAttr (Value.ref _) (Str.ofString "__contains__") _) _ _ _); k_dflt (refine' containsN ?k1 ?k2 ?k3 ?k4 ?k5 ?_; (case k1 => k_asm); (case k2 => k_asm); (case k3 => k_mem); (case k4 => assumption); (case k5 => assumption); k_whole); intro b' h' tk' F' N' l1; (try k_lt l1); (try k_sweep)) | (k_here; (with_reducible show wpAny _ _ (call (Value.type _) [Value.ref _]) _ _ _); k_dflt (refine' setN ?k1 ?k2 ?k3 ?k4 ?k5 ?k6 ?_; (case k1 => exact rfl); (case k2 => k_asm); (case k3 => k_asm); (case k4 => k_mem); (case k5 => assumption); (case k6 => omega); k_whole); intro S' so' h' tk' c' F' N' hSO hSc l1; (try k_lt l1); (try k_sweep)) | ((with_reducible show wpAny _ _ (call (Value.ref _) _) _ _ _); (k_here; k_dflt (refine' Spec.use (mk _ _ _ _ ?kL) ?k1 ?k2 ?k3 ?k4 ?k5 ?kK ?kd ?ku ?_; (((case k4 => k_asm); (case k1 => k_asm); (case k2 => k_asm); (case k3 => k_asm); (case k5 => k_asm); (case kK => first | exact rfl | assumption); (case kd => ktr_room); (case ku => ktr_units))); (case kL => (show PySem.Str.length _ ≤ 1000; omega))); intro r9 n9 h9 tk9 F9 N9 P9; obtain ⟨e9, x9, e8, w9⟩ := P9; subst e8; (try dsimp only); (try k_fold))) | ((with_reducible show wpAny _ _ (call (Value.ref _) _) _ _ _); (k_here; k_dflt (refine' Spec.use (ind_ok _ _ _ _ _ _ ?kW ?kA ?kB) ?k1 ?k2 ?k3 ?k4 ?k5 ?kK ?kd ?ku ?_; (((case k4 => k_asm); (case k1 => k_asm); (case k2 => k_asm); (case k3 => k_asm); (case k5 => k_asm); (case kK => first | exact rfl | assumption); (case kd => ktr_room); (case ku => ktr_units))); (case kW => assumption); (case kA => omega); (case kB => omega)); intro r9 n9 h9 tk9 F9 N9 P9; obtain ⟨e9, t9, e8⟩ := P9; rw [e9] at N9; clear e9; subst e8; (try dsimp only); (try k_fold))) | ((with_reducible show wpAny _ _ (call (Value.ref _) _) _ _ _); (k_here; k_dflt (refine' Spec.use (lrs_ok _ _ _ _ ?kW) ?k1 ?k2 ?k3 ?k4 ?k5 ?kK ?kd ?ku ?_; (((case k4 => k_asm); (case k1 => k_asm); (case k2 => k_asm); (case k3 => k_asm); (case k5 => k_asm); (case kK => first | exact rfl | assumption); (case kd => ktr_room); (case ku => ktr_units))); (case kW => assumption)); intro r9 n9 h9 tk9 F9 N9 P9; obtain ⟨e9, t9, e8⟩ := P9; rw [e9] at N9; clear e9; subst e8; (try dsimp only); (try k_fold))) | ((with_reducible show wpAny _ _ (call (Value.ref _) _) _ _ _); (k_here; k_dflt (first | (refine' call_cls0 ?k1 ?k2 ?k3 ?k4 ?k5 ?_; (case k1 => k_asm); (case k2 => k_asm); (case k3 => k_asm); (case k4 => k_is); (case k5 => k_is); k_whole; intro x' d' h' F' N' l1 l2; (try k_lt l1); (try k_lt2 l2); (try k_sweep)) | (refine' call_cls ?k1 ?k2 ?k3 ?k4 ?k5 ?k6 ?_; (case k1 => k_asm); (case k2 => k_asm); (case k3 => k_asm); (case k4 => k_is); (case k5 => k_is); (case k6 => k_is); k_whole; intro x' d' h' F' N' l1 l2; (try k_lt l1); (try k_lt2 l2); (try k_sweep); walk_at "mine enter") | (refine' call_meth ?k1 ?k2 ?_; (case k1 => k_asm); (case k2 => k_mem); k_whole; walk_at "mine enter") | (refine wpAny_call ?_; walk_at "mine enter")))) | walk1)) | (leave1; walk_say "STEP leave1"; try dsimp only) | fail "no step"))
  rename News h₀ L _ _ => N9
  refine hret _ _ _ _ (by k_asm) N9 (ExtT.of [_, _, _, _, _, _] (by assumption) ?_ ⟨_, rfl, EntAt.intro (.tail _ (.tail _ (.tail _ (.tail _ (.head _))))) (.tail _ (.tail _ (.tail _ (.tail _ (.tail _ (.head _)))))) (.tail _ (.head _)) (.head _) hus⟩)
  simp only [List.forall_mem_cons, List.not_mem_nil, false_implies, implies_true, and_true]
  refine ⟨?_, ?_, ?_, ?_, ?_, ?_⟩ <;> (refine leN ?_; omega)
end Mine
end

section
open PySem PySem.W PyProof.Rows
namespace Mine
theorem sec_TA {M : Model} {A : Around} {E : Value → Shared → Prop} {s : Shared} {env : Env} {p : Pos} {Q : Flow → Shared → Prop} (h : Q .next s) : wpAny M A (exec (.Pass p) env) Q E s := by
  w_top off
  k_with_none
  walk1
  exact h
end Mine
end
section
open PySem PySem.W PyProof.Rows PySem.Calls PySem.Spec
set_option maxRecDepth 100000
namespace Mine
theorem tupIs {h₀ h : Heap} {L a : Addr} {news : Led} {items : Array Value} {n : Nat} (N : News h₀ L h news) (hm : (a, tupObj items n) ∈ news) : h.IsTuple a items := ⟨_, (N _ hm).1, rfl, n, rfl⟩
section loops
variable {prog : Program} {w : World} {A : Around} {E : Value → Shared → Prop} {s : Shared} {env : Env} {h₀ : Heap} {x : Str} {body : List Stmt} {Q : Flow → Shared → Prop}
/-- a loop over a tuple of the ledger's -/
theorem loopTup {σ : Type} {ax : Addr} {vs : List Value} {k : Nat} {m₀ : Str → Option Value} (Ld : σ → Led) (ps : σ → List (Str × Value)) (stored : List Str) (P : Addr → Nat → σ → Prop) (Fin : σ → Prop) (c₀ : σ)
    (hh : A.handled = none) (hin : ∀ c, (ax, tupObj vs.toArray k) ∈ Ld c) (F : Fr h₀ env.locals s.heap m₀) (N : News h₀ env.locals s.heap (Ld c₀)) (hk : ∀ p ∈ ps c₀, m₀ p.1 = some p.2)
    (hp : ∀ I, (∀ p ∈ Ld c₀, p.1 < I) → P I 0 c₀)
    (turn : ∀ I, (∀ p ∈ Ld c₀, p.1 < I) → ∀ (c : σ) i v (u : Str → Option Value) h tk o, vs[i]? = some v → P I i c → (∀ p ∈ Ld c, p.1 ≠ I) →
      Fr h₀ env.locals h (fun y => if y = x then some v else kstB (fun z => if stored.contains z then u z else m₀ z) (ps c) y) → News h₀ env.locals h ((I, o) :: Ld c) →
      ∀ s₁ : Shared, s₁ = { s with heap := h, toks := tk } → wpAny (model prog w) A (execs body env) (Turn h₀ env.locals x m₀ stored Ld ps I o s₁ (P I (i + 1)) Fin Q) E s₁)
    (done : ∀ I c, P I vs.length c → Fin c)
    (fin : ∀ (c : σ) (u : Str → Option Value) h tk, Fin c → Fr h₀ env.locals h (fun y => if y = x then u y else kstB (fun z => if stored.contains z then u z else m₀ z) (ps c) y) → News h₀ env.locals h (Ld c) → Q .next { s with heap := h, toks := tk }) :
    wpAny (model prog w) A (pyIter (.ref ax)) (fun it s₂ => LoopAtV prog w A h₀ env x body Q E it s₂) E s := by
  have hlt : ∀ p ∈ Ld c₀, p.1 < s.heap.objs.size := fun p hp => Heap.lt_size (N p hp).1
  have hax := N _ (hin c₀)
  have hne : ax ≠ s.heap.objs.size := Nat.ne_of_lt (Heap.lt_size hax.1)
  refine wpAny_pyIter_tuple (tupIs N (hin c₀)) ?_
  have Wk := Walks.tuple (prog := prog) (w := w) hh s.heap.objs.size ax hne vs.toArray
  have hIL : env.locals ≠ s.heap.objs.size := fun e => absurd F.ns.lt (e ▸ Nat.lt_irrefl _)
  have hI0 : h₀.get? s.heap.objs.size = none := next_is_new F
  generalize hI : s.heap.objs.size = I at *
  let J : Nat → (Str → Option Value) → Led → Prop := fun i m nx => ∃ c : σ, nx = Ld c ∧ (∀ p ∈ ps c, m p.1 = some p.2) ∧ (∀ z, z ≠ x → (∀ p ∈ ps c, z ≠ p.1) → stored.contains z = false → m z = m₀ z) ∧ P I i c
  have hN' : News h₀ env.locals (s.heap.push { cls := .type "tuple_iterator", data := .fields #[.ref ax, .int 0 0] }) (Ld c₀) := fun p hp => ⟨Heap.get?_push_of_some _ (N p hp).1, (N p hp).2⟩
  have hget : (s.heap.push { cls := .type "tuple_iterator", data := .fields #[.ref ax, .int 0 0] }).get? I = some { cls := .type "tuple_iterator", data := .fields #[.ref ax, .int 0 0] } := hI ▸ Heap.get?_push_size _ rfl
  refine ⟨I, [I, ax], [I], vs.toArray.size, _, _, m₀, Ld c₀, J, rfl, Wk, ?_, ?_, ?_, ⟨⟨_, hget, rfl, rfl⟩, tupIs hN' (hin c₀)⟩, F.push _, hN', ⟨c₀, rfl, hk, fun _ _ _ _ => rfl, hp I hlt⟩, ?_, ?_⟩
  · intro hm
    rcases List.mem_cons.mp hm with e | hm
    · exact hIL e
    · exact hax.2.1 (List.mem_singleton.mp hm).symm
  · intro b hb; rw [List.mem_singleton.mp hb]; exact hI0
  · intro p hp hm; exact absurd (hlt p hp) (by rw [List.mem_singleton.mp hm]; exact Nat.lt_irrefl _)
  · rintro i v m₁ news₁ s₁ own ⟨hh1, tk, rfl⟩ hi hP ⟨c, rfl, h1, h2, hPc⟩ hoff hown hget1 hall hst' F₁ N₁
    have hne1 : ∀ p ∈ Ld c, p.1 ≠ I := fun p hp e => hoff p hp (by rw [e]; exact .head _)
    obtain ⟨o, ho, _⟩ := hst'.1
    have hmem : (I, o) ∈ own := hall I (.head _) hI0 o ho
    have hown' : ∀ p ∈ own, p = (I, o) ∨ p = (ax, tupObj vs.toArray k) := fun p hp => by
      have e2 := hget1 p hp
      rcases List.mem_cons.mp (hown p hp) with e1 | e1
      · rw [e1] at e2
        exact .inl (Prod.ext e1 (Option.some.inj (ho.symm.trans e2)).symm)
      · have e1 := List.mem_singleton.mp e1
        rw [e1] at e2
        have e3 := (N₁ _ (List.mem_append.mpr (.inr (hin c)))).1
        exact .inr (Prod.ext e1 (Option.some.inj (e3.symm.trans e2)).symm)
    have N₂ : News h₀ env.locals hh1 ((I, o) :: Ld c) := fun p hp => by
      rcases List.mem_cons.mp hp with rfl | hp
      · exact N₁ _ (List.mem_append.mpr (.inl hmem))
      · exact N₁ _ (List.mem_append.mpr (.inr hp))
    refine wpAny_mono (turn I hlt c i v m₁ hh1 tk o (by simpa using hP) hPc hne1 (kst_fr h1 h2 F₁) N₂ _ rfl) (fun f s₂ p => ?_) fun _ _ e => e
    have go : Left h₀ env.locals x m₀ stored Ld ps I o { s with heap := hh1, toks := tk } (P I (i + 1)) s₂ → LoopStepU h₀ env.locals [I] own (J (i + 1)) { s with heap := hh1, toks := tk } .next s₂ := by
      rintro ⟨c', h', tk', m', nw, rfl, F', N', hmI, hsub, hne', hps, hrest, hP'⟩
      refine ⟨rfl, h', tk', m', Ld c', rfl, F', fun p hp => ?_, fun p hp hm => hne' p hp (List.mem_singleton.mp hm), ⟨c', rfl, hps, hrest, hP'⟩⟩
      rcases List.mem_append.mp hp with hp | hp
      · rcases hown' p hp with e | e
        · rw [e]; exact N' _ hmI
        · rw [e]; exact N' _ (hsub _ (hin c'))
      · exact N' _ (hsub p hp)
    cases f with
    | ret v => exact .ret p
    | brk =>
      obtain ⟨c', h', tk', m', nw, rfl, F', N', hmI, hsub, hne', hps, hrest, hP'⟩ := p
      exact .brk (fin c' m' h' tk' hP' (kst_frOut hps hrest F') (fun p hp => N' _ (hsub p hp)))
    | next => exact .next (go p)
    | cont => exact .cont (go p)
  · rintro h' tk m' news' F' N' _ ⟨c, rfl, hps, hrest, hP'⟩
    exact fin c m' h' tk (done I c (by simpa using hP')) (kst_frOut hps hrest F') N'
end loops
end Mine
end

section
local macro_rules | `(tactic| walk_at "exec For Name Tuple cons nil") => `(tactic| (k_here; (rename Fr _ _ _ _ => lF'); (with_unfolding_all refine' For_invVF lF' ?k1 ?k2 ?_; (case k1 => exact rfl); (case k2 => exact rfl); k_whole)))
section
open PySem PySem.W PyProof.Rows
namespace Mine
theorem sec_T1 {M : Model} {A : Around} {E : Value → Shared → Prop} {s : Shared} {env : Env} {p : Pos} {Q : Flow → Shared → Prop} (h : Q .next s) : wpAny M A (exec (.Pass p) env) Q E s := by
  w_top off
  k_with_none
  walk1
  exact h
end Mine
end
section
open PySem PySem.W PyProof.Rows
set_option maxRecDepth 100000
set_option maxHeartbeats 1000000
namespace Mine
noncomputable def toldStep (rules : List (Int × Int)) (prod : Int) (q : Int) : Int := match alOf rules q with | none => prod | some v => prod * (if 1 < v then v else 0)
noncomputable def toldOf (rules : List (Int × Int)) : Int := [2, 3, 5, 7].foldl (toldStep rules) 1
theorem told_snoc (rules : List (Int × Int)) (qs : List Int) (i : Nat) (q : Int) (h : qs[i]? = some q) : (qs.take (i + 1)).foldl (toldStep rules) 1 = toldStep rules ((qs.take i).foldl (toldStep rules) 1) q := by
  rw [List.take_add_one, h]; simp
theorem ts0 {rules : List (Int × Int)} {p q : Int} (h : alOf rules q = none) : toldStep rules p q = p := by unfold toldStep; rw [h]
theorem ts1 {rules : List (Int × Int)} {p q v : Int} (h : alOf rules q = some v) (hv : 1 < v) : toldStep rules p q = p * v := by unfold toldStep; rw [h]; simp [hv]
theorem ts2 {rules : List (Int × Int)} {p q v : Int} (h : alOf rules q = some v) (hv : ¬ 1 < v) : toldStep rules p q = p * 0 := by unfold toldStep; rw [h]; simp [hv]
theorem alOf_mem {rules : List (Int × Int)} {q v : Int} (h : alOf rules q = some v) : ∃ r ∈ rules, r.2 = v := by
  have key : ∀ (l : List (Int × Int)) (st : Int × Option Int), (l.foldl (alStep q) st).2 = some v → st.2 = some v ∨ ∃ r ∈ l, r.2 = v := by
    intro l
    induction l with
    | nil => intro st h; exact .inl h
    | cons r l ih =>
      intro st h
      rcases ih _ h with h | ⟨r', h1, h2⟩
      · unfold alStep at h
        dsimp only at h
        generalize (if Int.fmod r.1 q = 0 then r.1 + 1 else 0) = mm at h
        split at h
        · exact .inl h
        · split at h
          · exact .inr ⟨r, .head _, Option.some.inj h⟩
          · split at h
            · exact .inr ⟨r, .head _, Option.some.inj h⟩
            · exact .inl h
      · exact .inr ⟨r', .tail _ h1, h2⟩
  rcases key rules _ h with h | h
  · cases h
  · exact h
theorem told_ok (w : World) (x : Addr) (ags : List Str) (rv : List Value) (rules : List (Int × Int)) (news : Led) (hW : EntAt news x ags rv) (hR : RulesAt w news rv rules) (hb : ∀ r ∈ rules, 1 ≤ r.1 ∧ r.1 ≤ 1000 ∧ 0 ≤ r.2 ∧ r.2 ≤ 1000) :
   Spec 4 w 174 [.ref x] news (fun r news' => news' = news ∧ ∃ t, r = .int (toldOf rules) t) := by
  refine hW.el fun d la lr us a1 a2 a3 a4 b1 b2 b3 b4 k1 k2 k3 h1 h2 h3 h4 h5 => ?_
  unfold Spec
  k_fill
  intro loose mean mg mb dp un gd cn cs a₁ ccd cl outer A₀ base h₀ L m s Q E B F X N T hk hdp hu hret
  refine wpAny_call ?_
  k_dflt (walk_at "mine enter")
  (repeat' (first | (k_unfold; (try dsimp only)) | (k_end; wrow_close) | (first | ((with_reducible show wpAny _ _ (call (Value.ref _) _) _ _ _); (with_reducible refine holdIt ?_)) | ((with_reducible show wpAny _ _ (pyIter (Value.ref _)) _ _ _); (with_reducible refine holdIt ?_)) | walk1) | (dsimp only; (first | ((with_reducible show wpAny _ _ (call (Value.ref _) _) _ _ _); (with_reducible refine holdIt ?_)) | ((with_reducible show wpAny _ _ (pyIter (Value.ref _)) _ _ _); (with_reducible refine holdIt ?_)) | walk1)) | (leave1; walk_say "STEP leave1"; try dsimp only) | fail "no step"))
  unfold Hold
  rename_i D' _ F0 N0 l1
  have ⟨t2, t3, t4, t7, N1⟩ : ∃ t2 t3 t4 t7 : Tok, News _ _ _ ((D', tupObj #[.int 2 t2, .int 3 t3, .int 5 t4, .int 7 t7] 0) :: news) := ⟨_, _, _, _, N0⟩
  clear N0
  refine' loopTup (σ := Int × Tok) (vs := [.int 2 t2, .int 3 t3, .int 5 t4, .int 7 t7]) (fun _ => (D', tupObj #[.int 2 t2, .int 3 t3, .int 5 t4, .int 7 t7] 0) :: news) (fun c => [(Str.ofString "product", .int c.1 c.2)]) [Str.ofString "verdict"] (fun I i c => c.1 = (([2, 3, 5, 7] : List Int).take i).foldl (toldStep rules) 1) (fun c => c.1 = toldOf rules) (1, _) rfl (fun _ => .head _) (by k_asm) N1 ?hk ?hp ?turn ?done ?fin
  case hk => kst_all
  case hp => intro I hI; rfl
  case done => intro I c h; exact h
  case turn =>
    rintro I hI ⟨p, tp⟩ i v u h tk o hv hP hne F' N' s₁ rfl
    dsimp only [kstB] at F'
    have hq : ∃ q t, v = .int q t ∧ ([2, 3, 5, 7] : List Int)[i]? = some q ∧ 1 ≤ q ∧ q ≤ 1000 ∧ i ≤ 3 := by
      rcases i with _ | _ | _ | _ | i
      all_goals simp at hv
      all_goals exact ⟨_, _, hv.symm, rfl, by decide, by decide, by decide⟩
    obtain ⟨q, tq, rfl, hq, hq1, hq2, hi3⟩ := hq
    have hqq := And.intro hq1 hq2
    have hsub : ∀ p ∈ news, p ∈ (I, o) :: (D', tupObj #[.int 2 t2, .int 3 t3, .int 5 t4, .int 7 t7] 0) :: news := fun p hp => .tail _ (.tail _ hp)
    (repeat' (first | (k_unfold; (try dsimp only)) | (k_end; wrow_close) | (first | ((with_reducible show wpAny _ _ (call (Value.ref _) _) _ _ _); (with_reducible refine holdIt ?_)) | ((with_reducible show wpAny _ _ (pyIter (Value.ref _)) _ _ _); (with_reducible refine holdIt ?_)) | walk1) | (dsimp only; (first | ((with_reducible show wpAny _ _ (call (Value.ref _) _) _ _ _); (with_reducible refine holdIt ?_)) | ((with_reducible show wpAny _ _ (pyIter (Value.ref _)) _ _ _); (with_reducible refine holdIt ?_)) | walk1)) | (leave1; walk_say "STEP leave1"; try dsimp only) | fail "no step"))
    unfold Hold
    refine Spec.use (all_ok w x ags rv rules q tq _ (hW.mono hsub) (hR.mono hsub) hqq hb) (by k_asm) (by k_asm) (by k_asm) N' (by k_asm) rfl (by ktr_room) (by ktr_units) ?_
    rintro r9 n9 h9 tk9 F9 N9 ⟨rfl, t9, rfl⟩
    clear N'
    dsimp only at hP
    clear hret
    cases hal : alOf rules q with
    | none =>
      dsimp only [alVal]
      (repeat' (first | (k_unfold; (try dsimp only)) | (k_end; wrow_close) | (first | ((with_reducible show wpAny _ _ (call (Value.ref _) _) _ _ _); (with_reducible refine holdIt ?_)) | ((with_reducible show wpAny _ _ (pyIter (Value.ref _)) _ _ _); (with_reducible refine holdIt ?_)) | walk1) | (dsimp only; (first | ((with_reducible show wpAny _ _ (call (Value.ref _) _) _ _ _); (with_reducible refine holdIt ?_)) | ((with_reducible show wpAny _ _ (pyIter (Value.ref _)) _ _ _); (with_reducible refine holdIt ?_)) | walk1)) | (leave1; walk_say "STEP leave1"; try dsimp only) | fail "no step"))
      refine' ⟨(p, tp), _, _, _, _, rfl, ?a1, ?a2, ?a3, ?a4, ?a5, ?a6, ?a7, by dsimp only; rw [told_snoc rules _ i q hq, ← hP, ts0 hal]⟩
      (((case a1 => k_asm); (case a2 => k_asm); (case a3 => k_mem); (case a4 => exact fun p hp => .tail _ hp); (case a6 => kst_all); (case a7 => kst_same)))
      (case a5 => exact hne)
    | some a =>
      have hab : 0 ≤ a ∧ a ≤ 1000 := by
        obtain ⟨r, hr1, hr2⟩ := alOf_mem hal
        have := hb r hr1
        omega
      dsimp only [alVal]
      (repeat' (first | (k_unfold; (try dsimp only)) | (k_end; wrow_close) | (first | ((with_reducible show wpAny _ _ (call (Value.ref _) _) _ _ _); (with_reducible refine holdIt ?_)) | ((with_reducible show wpAny _ _ (pyIter (Value.ref _)) _ _ _); (with_reducible refine holdIt ?_)) | walk1) | (dsimp only; (first | ((with_reducible show wpAny _ _ (call (Value.ref _) _) _ _ _); (with_reducible refine holdIt ?_)) | ((with_reducible show wpAny _ _ (pyIter (Value.ref _)) _ _ _); (with_reducible refine holdIt ?_)) | walk1)) | (leave1; walk_say "STEP leave1"; try dsimp only) | fail "no step"))
      · refine' ⟨(p * a, _), _, _, _, _, rfl, ?a1, ?a2, ?a3, ?a4, ?a5, ?a6, ?a7, by dsimp only; rw [told_snoc rules _ i q hq, ← hP, ts1 hal (by assumption)]⟩
        (((case a1 => k_asm); (case a2 => k_asm); (case a3 => k_mem); (case a4 => exact fun p hp => .tail _ hp); (case a6 => kst_all); (case a7 => kst_same)))
        (case a5 => exact hne)
      · refine' ⟨(p * 0, _), _, _, _, _, rfl, ?b1, ?b2, ?b3, ?b4, ?b5, ?b6, ?b7, by dsimp only; rw [told_snoc rules _ i q hq, ← hP, ts2 hal (by assumption)]⟩
        (((case b1 => k_asm); (case b2 => k_asm); (case b3 => k_mem); (case b4 => exact fun p hp => .tail _ hp); (case b6 => kst_all); (case b7 => kst_same)))
        (case b5 => exact hne)
  case fin =>
    rintro ⟨p, tp⟩ u h tk hF F' N'
    dsimp only [kstB] at F'
    dsimp only
    (repeat' (first | (k_unfold; (try dsimp only)) | (k_end; wrow_close) | (first | ((with_reducible show wpAny _ _ (call (Value.ref _) _) _ _ _); (with_reducible refine holdIt ?_)) | ((with_reducible show wpAny _ _ (pyIter (Value.ref _)) _ _ _); (with_reducible refine holdIt ?_)) | walk1) | (dsimp only; (first | ((with_reducible show wpAny _ _ (call (Value.ref _) _) _ _ _); (with_reducible refine holdIt ?_)) | ((with_reducible show wpAny _ _ (pyIter (Value.ref _)) _ _ _); (with_reducible refine holdIt ?_)) | walk1)) | (leave1; walk_say "STEP leave1"; try dsimp only) | fail "no step"))
    exact hret _ _ _ _ (by k_asm) (fun p hp => (by k_asm : News h₀ L _ (_ :: news)) p (.tail _ hp)) ⟨rfl, tp, by rw [← hF]⟩
end Mine
end

section
open PySem PySem.W PyProof.Rows
namespace Mine
theorem sec_LG {M : Model} {A : Around} {E : Value → Shared → Prop} {s : Shared} {env : Env} {p : Pos} {Q : Flow → Shared → Prop} (h : Q .next s) : wpAny M A (exec (.Pass p) env) Q E s := by
  w_top off
  k_with_none
  walk1
  exact h
end Mine
end
section
open PySem PySem.W PyProof.Rows PySem.Calls PySem.Spec
set_option maxRecDepth 100000
namespace Mine
section
variable {prog : Program} {w : World} {A : Around} {E : Value → Shared → Prop} {s : Shared} {env : Env} {h₀ : Heap} {target : Expr} {body : List Stmt} {Q : Flow → Shared → Prop}
theorem loop1K {σ : Type} {fp : List Addr} {n : Nat} {P Md : Nat → Value → Heap → Prop} {St : Nat → Heap → Prop} {m₀ : Str → Option Value} {oI : Obj} (Ld : σ → Led) (ps : σ → List (Str × Value)) (stored : List Str) (PP : Addr → Nat → σ → Prop) (Fin : σ → Prop) (Rel : Shared → Prop) (c₀ : σ)
    (W : KTurns prog w A target s.heap.objs.size fp [s.heap.objs.size] n P Md St) (hst : St 0 (s.heap.push oI)) (hex : ∀ i h, St i h → ∃ o, h.get? s.heap.objs.size = some o) (hIf : s.heap.objs.size ∈ fp)
    (hfp : ∀ b ∈ fp, b = s.heap.objs.size ∨ ((∃ o, ∀ c, (b, o) ∈ Ld c) ∧ ∀ i h, St i h → ∃ o, h.get? b = some o))
    (hR0 : Rel s) (hRm : ∀ s' h tk, Rel s' → Rel { s' with heap := h, toks := tk })
    (F : Fr h₀ env.locals s.heap m₀) (N : News h₀ env.locals s.heap (Ld c₀)) (hk : ∀ p ∈ ps c₀, m₀ p.1 = some p.2) (hp : ∀ I, (∀ p ∈ Ld c₀, p.1 < I) → PP I 0 c₀)
    (turn : ∀ I, (∀ p ∈ Ld c₀, p.1 < I) → ∀ (c : σ) i v (u : Str → Option Value) s₁ o, i < n → P i v s₁.heap → PP I i c → (∀ p ∈ Ld c, p.1 ≠ I) → Rel s₁ →
      Fr h₀ env.locals s₁.heap (kstB (fun z => if stored.contains z then u z else m₀ z) (ps c)) → News h₀ env.locals s₁.heap ((I, o) :: Ld c) →
      wpAny (model prog w) A (assign target env v) (fun _ s₂ => wpAny (model prog w) A (execs body env) (TurnK h₀ env.locals m₀ stored Ld ps [I] [(I, o)] Rel (PP I (i + 1)) Fin Q) E s₂) E s₁)
    (done : ∀ I c, PP I n c → Fin c)
    (fin : ∀ (c : σ) (u : Str → Option Value) s₁, Fin c → Rel s₁ → Fr h₀ env.locals s₁.heap (kstB (fun z => if stored.contains z then u z else m₀ z) (ps c)) → News h₀ env.locals s₁.heap (Ld c) → Q .next s₁) :
    LoopS prog w A env target body Q E (.ref s.heap.objs.size) { s with heap := s.heap.push oI } := by
  have hlt : ∀ p ∈ Ld c₀, p.1 < s.heap.objs.size := fun p hp => Heap.lt_size (N p hp).1
  have hIL : env.locals ≠ s.heap.objs.size := fun e => absurd F.ns.lt (e ▸ Nat.lt_irrefl _)
  have hI0 : h₀.get? s.heap.objs.size = none := next_is_new F
  refine loopK (σ := σ) Ld ps stored (PP s.heap.objs.size) Fin Rel c₀ W hst ?_ ?_ (fun b hb => by rw [List.mem_singleton.mp hb]; exact hI0) (hRm s _ s.toks hR0) hRm (F.push _)
    (fun p hp => ⟨Heap.get?_push_of_some _ (N p hp).1, (N p hp).2⟩) (fun p hp hm => absurd (hlt p hp) (by rw [List.mem_singleton.mp hm]; exact Nat.lt_irrefl _)) hk (hp _ hlt) ?_ (done _) fin
  · intro i h st b hb
    rcases hfp b hb with rfl | hb
    · exact hex i h st
    · exact hb.2 i h st
  · intro hm
    rcases hfp _ hm with e | ⟨⟨o, hb⟩, _⟩
    · exact hIL e
    · exact (N _ (hb c₀)).2.1 rfl
  · intro c i v u s₁ own hi hP hPc hoff hown hall hR F₁ N₁
    obtain ⟨o, ho⟩ := hall _ hIf hI0
    have hget : s₁.heap.get? s.heap.objs.size = some o := (N₁ _ (List.mem_append.mpr (.inr ho))).1
    have hne : ∀ p ∈ Ld c, p.1 ≠ s.heap.objs.size := fun p hp e => hoff p hp (by rw [e]; exact .head _)
    have N₂ : News h₀ env.locals s₁.heap ((s.heap.objs.size, o) :: Ld c) := fun p hp => by
      rcases List.mem_cons.mp hp with rfl | hp
      · exact N₁ _ (List.mem_append.mpr (.inr ho))
      · exact N₁ _ (List.mem_append.mpr (.inl hp))
    have own_is : ∀ p ∈ own, p = (s.heap.objs.size, o) ∨ ∀ c, p ∈ Ld c := by
      intro p hp
      have g := (N₁ p (List.mem_append.mpr (.inr hp))).1
      rcases hfp _ (hown p hp) with e | ⟨⟨o', hb⟩, _⟩
      · refine .inl (Prod.ext e ?_)
        rw [e] at g
        exact Option.some.inj (g.symm.trans hget)
      · refine .inr fun c' => ?_
        have g2 := (N₁ _ (List.mem_append.mpr (.inl (hb c)))).1
        have : p = (p.1, o') := Prod.ext rfl (Option.some.inj (g.symm.trans g2))
        rw [this]; exact hb c'
    have up : ∀ {T : σ → Prop} {s₂ : Shared}, LeftK h₀ env.locals m₀ stored Ld ps [s.heap.objs.size] [(s.heap.objs.size, o)] Rel T s₂ → LeftK h₀ env.locals m₀ stored Ld ps [s.heap.objs.size] own Rel T s₂ := by
      rintro T s₂ ⟨c', m', nw, hR', F', N', hown', hsub, ho', h1, h2, hP'⟩
      refine ⟨c', m', nw, hR', F', N', fun p hp => ?_, hsub, ho', h1, h2, hP'⟩
      rcases own_is p hp with rfl | hb
      · exact hown' _ (.head _)
      · exact hsub _ (hb c')
    refine wpAny_mono (turn _ hlt c i v u s₁ o hi hP hPc hne hR F₁ N₂) (fun _ s₂ h₂ => wpAny_mono h₂ (fun f s₃ h₃ => ?_) fun _ _ e => e) fun _ _ e => e
    cases f with
    | ret v => exact h₃
    | brk => exact up h₃
    | next => exact up h₃
    | cont => exact up h₃
theorem letGo_name {x : Str} {p : Pos} {I v : Value} {Q : Unit → Shared → Prop} (h : Q () s) : wpAny (model prog w) A (letOwnedTupleGo (.Name x p) I v) Q E s := wpAny_pure h
/-- a range -/
theorem rangeK {σ : Type} {x : Str} {px : Pos} {r : Addr} {a₀ b₀ : Int} {t₀ u₀ v₀ : Tok} {n : Nat} {m₀ : Str → Option Value} (Ld : σ → Led) (ps : σ → List (Str × Value)) (stored : List Str) (PP : Addr → Nat → σ → Prop) (Fin : σ → Prop) (Rel : Shared → Prop) (c₀ : σ)
    (hh : A.handled = none) (hr : IsRange s.heap r a₀ b₀ 1 t₀ u₀ v₀) (hsmall : Builtin.Range.small a₀ b₀ 1 = true) (hn : Builtin.Range.rangeSize a₀ b₀ 1 = (n : Int))
    (hR0 : Rel s) (hRm : ∀ s' h tk, Rel s' → Rel { s' with heap := h, toks := tk })
    (F : Fr h₀ env.locals s.heap m₀) (N : News h₀ env.locals s.heap (Ld c₀)) (hk : ∀ p ∈ ps c₀, m₀ p.1 = some p.2) (hp : ∀ I, (∀ p ∈ Ld c₀, p.1 < I) → PP I 0 c₀)
    (turn : ∀ I, (∀ p ∈ Ld c₀, p.1 < I) → ∀ (c : σ) i t (u : Str → Option Value) s₁ o, i < n → PP I i c → (∀ p ∈ Ld c, p.1 ≠ I) → Rel s₁ →
      Fr h₀ env.locals s₁.heap (kstB (fun z => if stored.contains z then u z else m₀ z) (ps c)) → News h₀ env.locals s₁.heap ((I, o) :: Ld c) →
      wpAny (model prog w) A (assign (.Name x px) env (.int (a₀ + (i : Int)) t)) (fun _ s₂ => wpAny (model prog w) A (execs body env) (TurnK h₀ env.locals m₀ stored Ld ps [I] [(I, o)] Rel (PP I (i + 1)) Fin Q) E s₂) E s₁)
    (done : ∀ I c, PP I n c → Fin c)
    (fin : ∀ (c : σ) (u : Str → Option Value) s₁, Fin c → Rel s₁ → Fr h₀ env.locals s₁.heap (kstB (fun z => if stored.contains z then u z else m₀ z) (ps c)) → News h₀ env.locals s₁.heap (Ld c) → Q .next s₁) :
    wpAny (model prog w) A (pyIter (.ref r)) (fun it s₂ => LoopS prog w A env (.Name x px) body Q E it s₂) E s := by
  refine wpAny_pyIter_range hr hsmall ?_
  have W := (Walks.range (prog := prog) (w := w) hh s.heap.objs.size a₀ 1 n)
  refine loop1K Ld ps stored PP Fin Rel c₀ (KTurns.ofWalks W fun i v s Q E st q => letGo_name q) (by show IsRangeIter _ _ _ _ _; rw [hn]; simpa using Heap.get?_push_size _ rfl) (fun _ _ st => ⟨_, st⟩) (.head _) (fun b hb => .inl (List.mem_singleton.mp hb)) hR0 hRm F N hk hp ?_ done fin
  rintro I hI c i v u s₁ o hi ⟨t, rfl⟩ hP hne hR F₁ N₁
  have e1 : a₀ + (i : Int) * 1 = a₀ + (i : Int) := by omega
  rw [e1]
  exact turn I hI c i t u s₁ o hi hP hne hR F₁ N₁
/-- a tuple of the ledger's -/
theorem tupK {σ : Type} {ax : Addr} {vs : List Value} {k : Nat} {m₀ : Str → Option Value} (Ld : σ → Led) (ps : σ → List (Str × Value)) (stored : List Str) (PP : Addr → Nat → σ → Prop) (Fin : σ → Prop) (Rel : Shared → Prop) (c₀ : σ)
    (hh : A.handled = none) (hin : ∀ c, (ax, tupObj vs.toArray k) ∈ Ld c)
    (hR0 : Rel s) (hRm : ∀ s' h tk, Rel s' → Rel { s' with heap := h, toks := tk })
    (F : Fr h₀ env.locals s.heap m₀) (N : News h₀ env.locals s.heap (Ld c₀)) (hk : ∀ p ∈ ps c₀, m₀ p.1 = some p.2) (hp : ∀ I, (∀ p ∈ Ld c₀, p.1 < I) → PP I 0 c₀)
    (turn : ∀ I, (∀ p ∈ Ld c₀, p.1 < I) → ∀ (c : σ) i v (u : Str → Option Value) s₁ o, vs[i]? = some v → PP I i c → (∀ p ∈ Ld c, p.1 ≠ I) → Rel s₁ →
      Fr h₀ env.locals s₁.heap (kstB (fun z => if stored.contains z then u z else m₀ z) (ps c)) → News h₀ env.locals s₁.heap ((I, o) :: Ld c) →
      wpAny (model prog w) A (assign target env v) (fun _ s₂ => wpAny (model prog w) A (execs body env) (TurnK h₀ env.locals m₀ stored Ld ps [I] [(I, o)] Rel (PP I (i + 1)) Fin Q) E s₂) E s₁)
    (done : ∀ I c, PP I vs.length c → Fin c)
    (fin : ∀ (c : σ) (u : Str → Option Value) s₁, Fin c → Rel s₁ → Fr h₀ env.locals s₁.heap (kstB (fun z => if stored.contains z then u z else m₀ z) (ps c)) → News h₀ env.locals s₁.heap (Ld c) → Q .next s₁) :
    wpAny (model prog w) A (pyIter (.ref ax)) (fun it s₂ => LoopS prog w A env target body Q E it s₂) E s := by
  have hax := N _ (hin c₀)
  have hne : ax ≠ s.heap.objs.size := Nat.ne_of_lt (Heap.lt_size hax.1)
  refine wpAny_pyIter_tuple (tupIs N (hin c₀)) ?_
  have W := (Walks.tuple (prog := prog) (w := w) hh s.heap.objs.size ax hne vs.toArray)
  refine loop1K Ld ps stored PP Fin Rel c₀ (KTurns.ofWalks W fun i v s Q E st q => letGo_tupleiter st.1 q) ⟨⟨_, Heap.get?_push_size _ rfl, rfl, rfl⟩, (tupIs N (hin c₀)).at fun o e => Heap.get?_push_of_some _ e⟩ (fun _ _ st => let ⟨o, ho, _⟩ := st.1; ⟨o, ho⟩) (.head _) (fun b hb => ?_) hR0 hRm F N hk hp ?_ (fun I c h => done I c (by simpa using h)) fin
  · rcases List.mem_cons.mp hb with rfl | hb
    · exact .inl rfl
    · rw [List.mem_singleton.mp hb]; exact .inr ⟨⟨_, hin⟩, fun i h st => let ⟨o, ho, _⟩ := st.2; ⟨o, ho⟩⟩
  · intro I hI c i v u s₁ o hi hv hP hne hR F₁ N₁
    exact turn I hI c i v u s₁ o (by simpa using hv) hP hne hR F₁ N₁
end
end Mine
end

end
section
local macro_rules | `(tactic| walk_at "exec For Name Call cons nil") => `(tactic| (k_here; (with_unfolding_all refine' For_S ?_)))
section
local macro_rules | `(tactic| walk_at "exec For Tuple Tuple cons nil") => `(tactic| (k_here; (with_unfolding_all refine' For_S ?_)))
section
local macro_rules | `(tactic| walk_at "exec For Tuple Call cons nil") => `(tactic| (k_here; (with_unfolding_all refine' For_S ?_)))
section
open PySem PySem.W PyProof.Rows
namespace Mine
theorem sec_U1 {M : Model} {A : Around} {E : Value → Shared → Prop} {s : Shared} {env : Env} {p : Pos} {Q : Flow → Shared → Prop} (h : Q .next s) : wpAny M A (exec (.Pass p) env) Q E s := by
  w_top off
  k_with_none
  walk1
  exact h
end Mine
end
section
open PySem PySem.W PyProof.Rows
set_option maxRecDepth 100000
set_option maxHeartbeats 1000000
namespace Mine
structure UnC where
  vs : List Value
  k : Nat
  co : Obj
  tl : Led
noncomputable def stopOf (n ts : Int) : Int := n - Int.fmod n ts + ts
noncomputable def unStep (n1 n2 n3 bl : Int) (rs : List (Int × Int × Int)) (ts : Int) : List (Int × Int × Int) := if stopOf n1 ts + stopOf n2 ts = stopOf n3 ts then rs else rs ++ [(ts, stopOf n1 ts + stopOf n2 ts + bl, stopOf n3 ts + bl)]
noncomputable def unRows (n1 n2 n3 bl : Int) (n : Nat) : List (Int × Int × Int) := (rangeKs 1 n).foldl (unStep n1 n2 n3 bl) []
theorem unRows_succ (n1 n2 n3 bl : Int) (i : Nat) : unRows n1 n2 n3 bl (i + 1) = unStep n1 n2 n3 bl (unRows n1 n2 n3 bl i) (1 + (i : Int)) := by
  unfold unRows
  have : rangeKs 1 (i + 1) = rangeKs 1 i ++ [1 + (i : Int)] := by simp [rangeKs, List.range_succ]
  rw [this, List.foldl_append]; rfl
noncomputable def unTop (n1 n2 n3 bl : Int) : Int := max (max (max n1 n2) n3) bl + 1
theorem unl_ok (w : World) (ln : Addr) (n1 n2 n3 bl : Int) (t1 t2 t3 t4 : Tok) (k : Nat) (news : Led) (hm : (ln, W.listOf #[.int n1 t1, .int n2 t2, .int n3 t3] k) ∈ news) (hn1 : 0 ≤ n1 ∧ n1 ≤ 100) (hn2 : 0 ≤ n2 ∧ n2 ≤ 100) (hn3 : 0 ≤ n3 ∧ n3 ≤ 100) (hbl : 0 ≤ bl ∧ bl ≤ 100) :
   Spec 3 w 179 [.ref ln, .int bl t4] news (fun r news' => Ext news news' ∧ ∃ a vs k, r = .ref a ∧ (a, W.listOf vs.toArray k) ∈ news' ∧ RowsAt news' vs (unRows n1 n2 n3 bl (unTop n1 n2 n3 bl).toNat)) := by
  unfold Spec
  k_fill
  intro loose mean mg mb dp un gd cn cs a₁ ccd cl outer A₀ base h₀ L m s Q E B F X N T hk hdp hu hret
  refine wpAny_call ?_
  k_dflt (walk_at "mine enter")
  (repeat' (first | (k_unfold; (try dsimp only)) | (k_end; wrow_close) | (first | ((with_reducible show wpAny _ _ (pyIter (Value.ref _)) _ _ _); (with_reducible refine holdIt ?_)) | walk1) | (dsimp only; (first | ((with_reducible show wpAny _ _ (pyIter (Value.ref _)) _ _ _); (with_reducible refine holdIt ?_)) | walk1)) | (leave1; walk_say "STEP leave1"; try dsimp only) | fail "no step"))
  rename_i LL _ _ _ _ _ _ hA0 oc hoc _ _ _ lu _ hLu _ _ _ _ lb _ _ D _ hD _ M _ _ _ _ hMo hMb _ _ _ _ _ rg F' N' keep
  have hM : unTop n1 n2 n3 bl = M + 1 := by unfold unTop; omega
  have hlu : ∀ p ∈ news, p.1 < lu := kst_ltOf hLu.2
  unfold Hold
  refine' rangeK (σ := UnC) (n := (M + 2 - 1).toNat) (fun c => (lu, W.listOf c.vs.toArray c.k) :: (LL + 1, c.co) :: (c.tl ++ news)) (fun _ => [(Str.ofString "unlike", .ref lu)]) [Str.ofString "stops"]
    (fun I i c => (∃ cv, c.co.data = .cell cv) ∧ (∀ p ∈ c.tl, @LT.lt Nat _ lu p.1) ∧ RowsAt (c.tl ++ news) c.vs (unRows n1 n2 n3 bl i) ∧ c.vs.length ≤ i) (fun c => (∀ p ∈ c.tl, @LT.lt Nat _ lu p.1) ∧ RowsAt (c.tl ++ news) c.vs (unRows n1 n2 n3 bl (unTop n1 n2 n3 bl).toNat)) (HT _) ⟨[], 0, oc, []⟩ rfl rg (small_one (by omega) (by omega) (by omega) (by omega)) (rangeSize_nat _ _) HT.rfl HT.move F' (fun p hp => N' p (.tail _ (.tail _ hp))) ?hk ?hp ?turn ?done ?fin
  case hk => kst_all
  case hp => intro I hI; exact ⟨⟨_, hoc⟩, fun _ h => (nomatch h), .nil, Nat.le_refl _⟩
  case done =>
    rintro I c ⟨_, h1, h2, h3⟩
    refine ⟨h1, ?_⟩
    have e : (M + 2 - 1).toNat = (unTop n1 n2 n3 bl).toNat := by rw [hM]; omega
    rw [← e]; exact h2
  case turn =>
    rintro I hI c i t u s₁ o hn ⟨⟨cv, hcv⟩, g1, g2, g3⟩ hne ⟨h, tk, rfl⟩ F' N'
    dsimp only [kstB] at F'
    have hcI : @Ne Nat lu I := hne _ (.head _)
    have hLI : @Ne Nat (LL + 1) I := hne _ (.tail _ (.head _))
    have hIr : ∀ p ∈ c.tl ++ news, p.1 ≠ I := fun p hp => hne p (.tail _ (.tail _ hp))
    have hNe : ∀ p ∈ c.tl ++ news, p.1 ≠ lu := fun p hp => (List.mem_append.mp hp).elim (fun h => Nat.ne_of_gt (g1 p h)) (fun h => Nat.ne_of_lt (hlu p h))
    have hNe1 : ∀ p ∈ c.tl ++ news, p.1 ≠ LL + 1 := fun p hp => (List.mem_append.mp hp).elim (fun h => Nat.ne_of_gt (Nat.lt_trans hLu.1 (g1 p h))) (fun h => Nat.ne_of_lt (Nat.lt_trans (hA0 p h) (Nat.lt_succ_self _)))
    have hmc := List.mem_append.mpr (Or.inr hm : _ ∈ c.tl ∨ _ ∈ news)
    clear hret
    have e0 : (List.map (fun k' => k' - Int.fmod k' (1 + (i : Int)) + (1 + (i : Int))) [n1, n2, n3]).getD (Int.toNat 0) 0 = stopOf n1 (1 + (i : Int)) := rfl
    have e1 : (List.map (fun k' => k' - Int.fmod k' (1 + (i : Int)) + (1 + (i : Int))) [n1, n2, n3]).getD (Int.toNat 1) 0 = stopOf n2 (1 + (i : Int)) := rfl
    have e2 : (List.map (fun k' => k' - Int.fmod k' (1 + (i : Int)) + (1 + (i : Int))) [n1, n2, n3]).getD (Int.toNat 2) 0 = stopOf n3 (1 + (i : Int)) := rfl
    (repeat' (first | (k_unfold; (try dsimp only)) | (k_end; wrow_close) | (first | ((with_reducible show wpAny _ _ (pyIter (Value.ref _)) _ _ _); (with_reducible refine holdIt ?_)) | walk1) | (dsimp only; (first | ((with_reducible show wpAny _ _ (pyIter (Value.ref _)) _ _ _); (with_reducible refine holdIt ?_)) | walk1)) | (leave1; walk_say "STEP leave1"; try dsimp only) | fail "no step"))
    · rename News _ _ _ _ => N8
      rename Fr _ _ _ _ => F8
      rename ¬ _ = _ => hd9
      rw [e0, e1, e2] at hd9
      rw [e0, e1, e2] at N8
      simp only [List.push_toArray] at N8
      rename_i o9 hd8 _ _ _ _ _ _ D9 _ _ _ _ _ _ _ _ _ _ _ _ _ _ _ D' _ l9 _
      have ⟨q1, q2, q3, N7⟩ : ∃ q1 q2 q3 : Tok, News _ _ _ ((D', tupObj #[.int (1 + (i : Int)) q1, .int (stopOf n1 (1 + (i : Int)) + stopOf n2 (1 + (i : Int)) + bl) q2, .int (stopOf n3 (1 + (i : Int)) + bl) q3] 0) :: _) := ⟨_, _, _, N8⟩
      clear N8
      refine' ⟨⟨c.vs ++ [.ref D'], c.k + 1, o9, (D', tupObj #[.int (1 + (i : Int)) q1, .int (stopOf n1 (1 + (i : Int)) + stopOf n2 (1 + (i : Int)) + bl) q2, .int (stopOf n3 (1 + (i : Int)) + bl) q3] 0) :: c.tl⟩, _, _, HT.mk, F8, N7, ?a3, ?a4, ?a5, ?a6, ?a7, ?a8⟩
      case a3 => exact fun p hp => by rw [List.mem_singleton.mp hp]; k_mem
      case a4 => exact List.forall_mem_cons.mpr ⟨by k_mem, List.forall_mem_cons.mpr ⟨by k_mem, List.forall_mem_cons.mpr ⟨.head _, fun p hp => .tail _ (.tail _ (.tail _ (.tail _ (.tail _ hp))))⟩⟩⟩
      case a5 => exact List.forall_mem_cons.mpr ⟨fun h => hcI (List.mem_singleton.mp h), List.forall_mem_cons.mpr ⟨fun h => hLI (List.mem_singleton.mp h), List.forall_mem_cons.mpr ⟨fun h => absurd (List.mem_singleton.mp h) (by k_ne), fun p hp h => hIr p hp (List.mem_singleton.mp h)⟩⟩⟩
      case a6 => kst_all
      case a7 => dsimp +zetaDelta only; intro z h2 h3; simp only [List.forall_mem_cons, List.not_mem_nil, false_implies, implies_true, and_true, ne_eq] at h2; simp only [List.contains_cons, List.contains_nil, Bool.or_false, beq_eq_false_iff_ne, ne_eq] at h3; simp [h2, h3]
      case a8 =>
        refine ⟨⟨_, hd8⟩, List.forall_mem_cons.mpr ⟨by dsimp only; omega, g1⟩, ?_, by simp; omega⟩
        rw [unRows_succ, unStep, if_neg hd9]
        exact (g2.mono fun p hp => .tail _ hp).snoc (.head _)
    · rename News _ _ _ _ => N8
      rename Fr _ _ _ _ => F8
      rename (_ : Int) + _ = _ => hd9
      rw [e0, e1, e2] at hd9
      rename_i o9 _ hd8 _ _ _ _ _ _ _ D9 _ _ _ _ _ _ _ _ _
      refine' ⟨⟨c.vs, c.k, o9, c.tl⟩, _, _, HT.mk, F8, N8, ?b3, ?b4, ?b5, ?b6, ?b7, ?b8⟩
      case b3 => exact fun p hp => by rw [List.mem_singleton.mp hp]; k_mem
      case b4 => exact List.forall_mem_cons.mpr ⟨by k_mem, List.forall_mem_cons.mpr ⟨by k_mem, fun p hp => .tail _ (.tail _ (.tail _ (.tail _ hp)))⟩⟩
      case b5 => exact List.forall_mem_cons.mpr ⟨fun h => hcI (List.mem_singleton.mp h), List.forall_mem_cons.mpr ⟨fun h => hLI (List.mem_singleton.mp h), fun p hp h => hIr p hp (List.mem_singleton.mp h)⟩⟩
      case b6 => kst_all
      case b7 => dsimp +zetaDelta only; intro z h2 h3; simp only [List.forall_mem_cons, List.not_mem_nil, false_implies, implies_true, and_true, ne_eq] at h2; simp only [List.contains_cons, List.contains_nil, Bool.or_false, beq_eq_false_iff_ne, ne_eq] at h3; simp [h2, h3]
      case b8 =>
        refine ⟨⟨_, hd8⟩, g1, ?_, Nat.le_succ_of_le g3⟩
        rw [unRows_succ, unStep, if_pos hd9]
        exact g2
  case fin =>
    rintro c u s₁ ⟨g1, g2⟩ ⟨h, tk, rfl⟩ F' N'
    dsimp only [kstB] at F'
    dsimp only
    (repeat' (first | (k_unfold; (try dsimp only)) | (k_end; wrow_close) | (first | ((with_reducible show wpAny _ _ (pyIter (Value.ref _)) _ _ _); (with_reducible refine holdIt ?_)) | walk1) | (dsimp only; (first | ((with_reducible show wpAny _ _ (pyIter (Value.ref _)) _ _ _); (with_reducible refine holdIt ?_)) | walk1)) | (leave1; walk_say "STEP leave1"; try dsimp only) | fail "no step"))
    rename News h₀ L _ _ => N9
    refine hret _ ((lu, W.listOf c.vs.toArray c.k) :: (c.tl ++ news)) _ _ (by k_asm) (fun p hp => N9 p ?_) ⟨Ext.of ((lu, _) :: c.tl) hlu (List.forall_mem_cons.mpr ⟨Nat.le_refl _, fun p hp => Nat.le_of_lt (g1 p hp)⟩), _, _, _, rfl, .head _, g2.mono fun p hp => .tail _ hp⟩
    rcases List.mem_cons.mp hp with rfl | hp
    · exact .head _
    · exact .tail _ (.tail _ hp)
end Mine
end

section
open PySem PySem.W PyProof.Rows
namespace Mine
theorem sec_CB {M : Model} {A : Around} {E : Value → Shared → Prop} {s : Shared} {env : Env} {p : Pos} {Q : Flow → Shared → Prop} (h : Q .next s) : wpAny M A (exec (.Pass p) env) Q E s := by
  w_top off
  k_with_none
  walk1
  exact h
end Mine
end
section
open PySem PySem.W PyProof.Rows
set_option maxRecDepth 100000
namespace Mine
theorem SpecX.use {R : Shared → Shared → Prop} {lv : Nat} {w : World} {f : Addr} {vs : List Value} {news : Led} {Post : Value → Led → Led → Prop} (S : SpecX R lv w f vs news Post)
    {loose : List Str} {mean : ExcName → Option Value} {mg mb : Str → Option Value} {dp un : Nat} {gd : Option (List Code)} {cn : Str} {cs : Scope} {a : Addr} {ccd : Value} {cl : List (Str × Addr)} {outer : List Env} {A₀ : Around} {base h₀ : Heap} {L : Addr} {m : Str → Option Value} {s : Shared} {Q E : Value → Shared → Prop} {t1 t2 : Array Value} {cd : Led}
    (B : Below A₀ base outer h₀) (F : Fr h₀ L s.heap m) (X : (hd.heap_39 w.params).In h₀) (N : News h₀ L s.heap (tb1 t1 :: tb2 t2 :: (cd ++ news))) (h1 : TriplesOk t1.toList) (h2 : TabC lamQ t2 cd) (hT : ∀ p ∈ cd ++ news, @LT.lt Nat _ 157 p.1) (T : Top topProg loose mean mg mb h₀) (hk : cs.kind = .function)
    (hd : dp + lv < recursionLimit) (hu : un + 20 * lv < cLine)
    (ret : ∀ r tl t1' t2' cd' s', Fr h₀ L s'.heap m → News h₀ L s'.heap (tb1 t1' :: tb2 t2' :: (cd' ++ (tl ++ news))) → TriplesOk t1'.toList → TabC lamQ t2' cd' → (∀ p ∈ cd' ++ (tl ++ news), @LT.lt Nat _ 157 p.1) →
      (∀ p ∈ cd, p ∈ cd') → (∀ p ∈ cd', p ∈ cd ∨ ∀ q ∈ cd ++ news, q.1 < p.1) → (∀ p ∈ tl, ∀ q ∈ cd ++ news, q.1 < p.1) → Post r tl cd' → R s s' → Q r s') :
    wpAny (model PySem.Challenge.rw_rs0140_02.prog w) (ktrTop dp un gd cn cs L a ccd cl outer) (call (.ref f) vs) Q E s := S _ _ _ _ _ _ _ _ _ _ _ _ _ _ _ _ _ _ _ _ _ _ _ _ B F X N h1 h2 hT T hk hd hu ret
theorem newsSub {h₀ h : Heap} {L : Addr} {a b : Led} (N : News h₀ L h a) (hs : ∀ p ∈ b, p ∈ a) : News h₀ L h b := fun p hp => N p (hs p hp)
theorem itemL {prog : Program} {w : World} {A : Around} {E : Value → Shared → Prop} {s : Shared} {h₀ : Heap} {L l : Addr} {news : Led} {value slice : PySem.Expr} {vs : List Value} {k : Nat} {i : Int} {u : Tok} {v : Value} {Q : Value → Shared → Prop}
    (N : News h₀ L s.heap news) (hm : (l, W.listOf vs.toArray k) ∈ news) (h0 : 0 ≤ i) (hhi : i < 2 ^ 63) (hx : vs[i.toNat]? = some v) (h : Q v s)
    (hs : subscripted slice false (.ref l) (.int i u) = operate [.ref l, .int i u] (getItem (.ref l) (.int i u)) := by with_unfolding_all rfl) :
    wpAny (model prog w) A (subscriptTail value slice (.ref l) (.int i u)) Q E s :=
  tail_any (N.isList hm).typeIs PySem.F.slot_list_getitem.lookup (wpAny_getItem_list (N.isList hm) h0 hhi (by simpa using hx) h) hs
theorem upd_of {d : Addr} {o o' : Obj} {post : Led} (h2 : ∀ p ∈ post, p.1 ≠ d) : ∀ {pre : Led}, (∀ p ∈ pre, p.1 ≠ d) → Upd d o o' (pre ++ (d, o) :: post) (pre ++ (d, o') :: post)
  | [], _ => .head h2
  | p :: r, h => .tail (h p (.head _)) (upd_of h2 fun q hq => h q (.tail _ hq))
/-- an empty list filled at one go -/
theorem extN {prog : Program} {w : World} {A : Around} {E : Value → Shared → Prop} {s : Shared} {h₀ : Heap} {L D b : Addr} {m : Str → Option Value} {news : Led} {g : Obj → Led} {us : List Value} {n n2 : Nat} {Q : Value → Shared → Prop} (F : Fr h₀ L s.heap m) (N : News h₀ L s.heap news) (hb : (b, W.listOf us.toArray n2) ∈ news) (U : UpdF D (W.listOf #[] n) news g) (hz : us.length ≤ 100000)
    (h : ∀ h' n', Fr h₀ L h' m → News h₀ L h' (g (W.listOf us.toArray n')) → Q .none { s with heap := h' }) : wpAny (model prog w) A (call (.builtin "list.extend") [.ref D, .ref b]) Q E s := by
  obtain ⟨pre, post, rfl, hg, h1, h2⟩ := U.split
  cases us with
  | nil =>
    refine kxn_extend F N hb rfl (upd_of h2 h1) (by simp) (by simp [sizeLine_eq]) (by simp [sizeLine_eq]) fun h' F' N' => h h' n F' ?_
    rw [hg]; exact N'
  | cons v r =>
    refine kl_extend F N hb (l := v :: r) (by simp) (by simp) (upd_of h2 h1) (by simp) (by simp [sizeLine_eq]) (by simp only [List.size_toArray]; rw [sizeLine_eq]; simp at hz ⊢; omega) fun h' F' N' => h h' (n + 1) F' ?_
    rw [hg]; exact N'
theorem memL {α : Type} {x : α} {a b : List α} (h : x ∈ a) : x ∈ a ++ b := List.mem_append.mpr (.inl h)
theorem memR {α : Type} {x : α} {a b : List α} (h : x ∈ b) : x ∈ a ++ b := List.mem_append.mpr (.inr h)
theorem allApp {P : Addr × Obj → Prop} {a b : Led} (ha : ∀ p ∈ a, P p) (hb : ∀ p ∈ b, P p) : ∀ p ∈ a ++ b, P p := fun p hp => (List.mem_append.mp hp).elim (ha p) (hb p)
theorem allCons {P : Addr × Obj → Prop} {x : Addr × Obj} {b : Led} (ha : P x) (hb : ∀ p ∈ b, P p) : ∀ p ∈ x :: b, P p := List.forall_mem_cons.mpr ⟨ha, hb⟩
theorem allNil {P : Addr × Obj → Prop} : ∀ p ∈ ([] : Led), P p := fun _ h => nomatch h
theorem inS {prog : Program} {w : World} {A : Around} {E : Value → Shared → Prop} {s : Shared} {h₀ : Heap} {L l : Addr} {news : Led} {vs : List Value} {ys : List Str} {n : Nat} {k : Str} {t : Tok} {Q : Value → Shared → Prop} (N : News h₀ L s.heap news) (hm : (l, W.listOf vs.toArray n) ∈ news) (hs : StrsAre vs ys) (h : Q (.bool (hasS ys k)) s) :
    wpAny (model prog w) A (compareOp .In (.str k t) (.ref l)) Q E s := by
  refine in_list_strs (N.isList hm) hs ?_
  have e : ys.any (· == k) = hasS ys k := by
    unfold hasS
    congr 1
    funext y
    by_cases hy : k = y
    · simp [hy]
    · have : ¬ y = k := fun e => hy e.symm
      rw [decide_eq_false hy, beq_eq_false_iff_ne.mpr this]
  rw [e]; exact h
/-- a list's items are refs to pairs of ints, in the ledger -/
inductive PairsAt (led : Led) : List Value → List (Int × Int) → Prop where
  | nil : PairsAt led [] []
  | cons {a : Addr} {i j : Int} {t1 t2 : Tok} {n : Nat} {vs : List Value} {rs : List (Int × Int)} : (a, tupObj #[.int i t1, .int j t2] n) ∈ led → PairsAt led vs rs → PairsAt led (.ref a :: vs) ((i, j) :: rs)
theorem PairsAt.mono {led led' : Led} {vs : List Value} {rs : List (Int × Int)} (h : PairsAt led vs rs) (hs : ∀ p ∈ led, p ∈ led') : PairsAt led' vs rs := by
  induction h with
  | nil => exact .nil
  | cons hm _ ih => exact .cons (hs _ hm) ih
theorem PairsAt.length {led : Led} {vs : List Value} {rs : List (Int × Int)} (h : PairsAt led vs rs) : vs.length = rs.length := by
  induction h with
  | nil => rfl
  | cons _ _ ih => simp [ih]
theorem PairsAt.at {led : Led} {vs : List Value} {rs : List (Int × Int)} (h : PairsAt led vs rs) : ∀ {i : Nat} {v : Value}, vs[i]? = some v → ∃ a t1 t2 n r, v = .ref a ∧ rs[i]? = some r ∧ (a, tupObj #[.int r.1 t1, .int r.2 t2] n) ∈ led := by
  induction h with
  | nil => intro i v e; simp at e
  | cons hm _ ih =>
    intro i v e
    cases i with
    | zero => simp at e; exact ⟨_, _, _, _, _, e.symm, rfl, hm⟩
    | succ i => exact ih (by simpa using e)
theorem split_rec {h₀ h : Heap} {L : Addr} {a0 a1 a2 a3 a4 a5 a6 a7 a8 a9 d lv lu x dd c1 c2 b1 b2 : Addr × Obj} {cd news : Led} (N : News h₀ L h (a0 :: a1 :: a2 :: a3 :: a4 :: a5 :: a6 :: a7 :: a8 :: a9 :: d :: lv :: lu :: x :: dd :: c1 :: c2 :: b1 :: b2 :: (cd ++ news))) :
    ∃ KK, News h₀ L h (lv :: b1 :: b2 :: (cd ++ KK)) ∧ (∀ p ∈ [a0, a1, a2, a3, a4, a5, a6, a7, a8, a9, lu, x, dd, c1, c2], p ∈ KK) ∧ (∀ p ∈ news, p ∈ KK) ∧ ∀ P : Addr × Obj → Prop, (∀ p ∈ [a0, a1, a2, a3, a4, a5, a6, a7, a8, a9, lu, x, dd, c1, c2], P p) → (∀ p ∈ news, P p) → ∀ p ∈ KK, P p := by
  refine ⟨[a0, a1, a2, a3, a4, a5, a6, a7, a8, a9, lu, x, dd, c1, c2] ++ news, newsSub N ?_, fun p hp => memL hp, fun p hp => memR hp, fun P h1 h2 => allApp h1 h2⟩
  intro p hp
  simp only [List.mem_cons, List.mem_append, List.not_mem_nil, or_false] at hp ⊢
  grind
end Mine
end

section
local macro_rules | `(tactic| walk_at "call ref") => `(tactic| (k_here; k_dflt (first
  | (refine' call_cls0 ?k1 ?k2 ?k3 ?k4 ?k5 ?_; (case k1 => k_asm); (case k2 => k_asm); (case k3 => k_asm); (case k4 => k_is); (case k5 => k_is); k_whole; intro x' d' h' F' N' l1 l2; (try k_lt l1); (try k_lt2 l2); (try k_sweep))
  | (refine' call_cls ?k1 ?k2 ?k3 ?k4 ?k5 ?k6 ?_; (case k1 => k_asm); (case k2 => k_asm); (case k3 => k_asm); (case k4 => k_is); (case k5 => k_is); (case k6 => k_is); k_whole; intro x' d' h' F' N' l1 l2; (try k_lt l1); (try k_lt2 l2); (try k_sweep); walk_at "mine enter")
  | (refine' call_meth ?k1 ?k2 ?_; (case k1 => k_asm); (case k2 => k_mem); k_whole; walk_at "mine enter")
  | (refine wpAny_call ?_; walk_at "mine enter"))))
section
local macro_rules | `(tactic| walk_at "subscriptTail") => `(tactic| (k_here; (with_reducible show wpAny _ _ (subscriptTail _ _ (Value.ref _) (Value.int _ _)) _ _ _); k_dflt (refine' itemL ?N ?m ?h0 ?hh ?hx ?_ ?hs; (case N => k_asm); (case m => k_mem); (case h0 => omega); (case hh => omega); (case hx => assumption); (case hs => with_unfolding_all rfl); k_whole)))
section
local macro_rules | `(tactic| walk_at "call builtin:list.extend") => `(tactic| (k_here; (with_reducible show wpAny _ _ (call (Value.builtin _) [Value.ref _, Value.ref _]) _ _ _); k_dflt (refine' extN ?F ?N ?b ?U ?z ?_; (case F => k_asm); (case N => k_asm); (case b => k_mem); (case U => k_updF); (case z => omega)); intro h' n' F' N'; (try dsimp only at N'); (try k_sweep)))
section
open PySem PySem.W PyProof.Rows
namespace Mine
theorem sec_R1 {M : Model} {A : Around} {E : Value → Shared → Prop} {s : Shared} {env : Env} {p : Pos} {Q : Flow → Shared → Prop} (h : Q .next s) : wpAny M A (exec (.Pass p) env) Q E s := by
  w_top off
  k_with_none
  walk1
  exact h
end Mine
end
section
open PySem PySem.W PyProof.Rows
set_option maxRecDepth 100000
set_option maxHeartbeats 1500000
namespace Mine
/-- the readers: the i-th looks for the size i + 1 -/
noncomputable def ReadersAt (news : Led) (rvs : List Value) : Prop := rvs.length = 10 ∧ ∀ (i : Nat) v, rvs[i]? = some v → ∃ x, v = .ref x ∧ EntAt news x [agentText ((i : Int) + 1)] []
theorem ReadersAt.mono {news news' : Led} {rvs : List Value} (h : ReadersAt news rvs) (hs : ∀ p ∈ news, p ∈ news') : ReadersAt news' rvs :=
  ⟨h.1, fun i v e => let ⟨x, a, b⟩ := h.2 i v e; ⟨x, a, b.mono hs⟩⟩
noncomputable def wordsOf (rows : List (Int × Int × Int)) : Str := fmtText rows ++ Str.ofString ",/ 1, 2, 3, 4, 5, 6, 7, 8, 9, 10,"
noncomputable def agentsOf (rows : List (Int × Int × Int)) (szs : List Int) : List Str := (szs.filter fun z => applies [agentText z] (wordsOf rows)).map fun z => Str.ofString (toString z)
noncomputable def powers : List (Int × Int) := [(4, 4), (8, 8), (2, 2), (2, 0), (9, 9), (3, 0), (3, 3), (5, 5), (7, 7)]
noncomputable def rulesOf (ags : List Str) : List (Int × Int) := powers.filter fun p => hasS ags (Str.ofString (toString p.1))
theorem fmt_len {rows : List (Int × Int × Int)} (hb : ∀ r ∈ rows, 0 ≤ r.1 ∧ r.1 ≤ 100000) (hn : rows.length ≤ 1000) : (fmtText rows).length ≤ 9100 := by
  have h := firsts_len hb hn
  have e1 : (Str.ofString "at tab sizes").length = 12 := by decide +kernel
  have e2 : (Str.ofString "at tab size").length = 11 := by decide +kernel
  have e3 : (Str.ofString " ").length = 1 := by decide +kernel
  unfold fmtText
  rw [Str.length_append, Str.length_append]
  split <;> omega
theorem words_len {rows : List (Int × Int × Int)} (hb : ∀ r ∈ rows, 0 ≤ r.1 ∧ r.1 ≤ 100000) (hn : rows.length ≤ 1000) : (wordsOf rows).length ≤ 100000 := by
  have h := fmt_len hb hn
  have e : (Str.ofString ",/ 1, 2, 3, 4, 5, 6, 7, 8, 9, 10,").length = 33 := by decide +kernel
  unfold wordsOf
  rw [Str.length_append]; omega
theorem ag_len {z : Int} (h : 1 ≤ z ∧ z ≤ 10) : (agentText z).length ≤ 1000 := by
  have h1 := text_short (n := z) (by omega) (by omega)
  have e1 : (Str.ofString " ").length = 1 := by decide +kernel
  have e2 : (Str.ofString ",").length = 1 := by decide +kernel
  unfold agentText
  rw [Str.length_append, Str.length_append]; omega
theorem filter_yes {α : Type} {P : α → Bool} {l : List α} {z : α} (h : P z = true) : (l ++ [z]).filter P = l.filter P ++ [z] := by simp [List.filter_append, h]
theorem filter_no {α : Type} {P : α → Bool} {l : List α} {z : α} (h : P z = false) : (l ++ [z]).filter P = l.filter P := by simp [List.filter_append, h]
structure RcC where
  rv : List Value
  k : Nat
  t1 : Array Value
  t2 : Array Value
  cd : Led
  tl : Led
inductive RcInv (w : World) (cd news : Led) (lV : Addr) (ags : List Str) (i : Nat) (c : RcC) : Prop
  | intro (h0 : TriplesOk c.t1.toList) (h1 : c.rv.length ≤ i) (h2 : RulesAt w (c.tl ++ c.cd) c.rv ((powers.take i).filter fun p => hasS ags (Str.ofString (toString p.1)))) (h3 : TabC lamQ c.t2 c.cd) (h4 : ∀ p ∈ c.cd ++ c.tl, @LT.lt Nat _ 157 p.1) (h5 : ∀ p ∈ c.cd ++ c.tl, p.1 ≠ lV)
    (h6 : ∀ p ∈ cd, p ∈ c.cd) (h7 : ∀ p ∈ c.cd, p ∈ cd ∨ ∀ q ∈ cd ++ news, q.1 < p.1) (h8 : ∀ p ∈ c.tl, ∀ q ∈ cd ++ news, q.1 < p.1) : RcInv w cd news lV ags i c
theorem RcInv.off {w : World} {cd news : Led} {lV : Addr} {ags : List Str} {i : Nat} {c : RcC} (g : RcInv w cd news lV ags i c) : ∀ p ∈ c.cd ++ c.tl, p.1 ≠ lV := by
  obtain ⟨_, _, _, _, _, h, _, _, _⟩ := g
  exact h
theorem RulesAt.snoc {w : World} {led : Led} {rv : List Value} {rules : List (Int × Int)} {x : Addr} {p q : Int} (h : RulesAt w led rv rules) (hr : RuleAt w led x p q) : RulesAt w led (rv ++ [.ref x]) (rules ++ [(p, q)]) := by
  refine ⟨by simp [h.1], fun i v e => ?_⟩
  by_cases hi : i < rv.length
  · rw [List.getElem?_append_left hi] at e
    obtain ⟨y, p', q', e1, e2, e3⟩ := h.2 i v e
    exact ⟨y, p', q', e1, by rw [List.getElem?_append_left (by rw [← h.1]; exact hi)]; exact e2, e3⟩
  · rw [List.getElem?_append_right (by omega)] at e
    have hz : i - rv.length = 0 := by
      rcases Nat.eq_zero_or_pos (i - rv.length) with h0 | h0
      · exact h0
      · rw [List.getElem?_eq_none (by simp; omega)] at e; cases e
    rw [hz] at e
    simp at e
    exact ⟨x, p, q, e.symm, by rw [List.getElem?_append_right (by rw [← h.1]; omega), ← h.1, hz]; rfl, hr⟩
theorem RcInv.skip {w : World} {cd news : Led} {lV : Addr} {ags : List Str} {i : Nat} {c : RcC} {p q : Int} (g : RcInv w cd news lV ags i c) (hpq : powers[i]? = some (p, q)) (hh : hasS ags (Str.ofString (toString p)) = false) : RcInv w cd news lV ags (i + 1) c := by
  obtain ⟨g0, g1, g2, g3, g4, g5, g6, g7, g8⟩ := g
  refine ⟨g0, Nat.le_succ_of_le g1, ?_, g3, g4, g5, g6, g7, g8⟩
  have e : ((powers.take (i + 1)).filter fun p : Int × Int => hasS ags (Str.ofString (toString p.1))) = (powers.take i).filter fun p : Int × Int => hasS ags (Str.ofString (toString p.1)) := by rw [take_succ_of hpq]; exact filter_no (P := fun p : Int × Int => hasS ags (Str.ofString (toString p.1))) hh
  rw [e]; exact g2
theorem RcInv.step {w : World} {cd news KK tl cd' : Led} {lV I : Addr} {o oV : Obj} {ags : List Str} {i k : Nat} {c : RcC} {p q : Int} {x : Addr} {t1 t2 : Array Value} (g : RcInv w cd news lV ags i c) (hpq : powers[i]? = some (p, q)) (hh : hasS ags (Str.ofString (toString p)) = true)
    (h1 : TriplesOk t1.toList) (h2 : TabC lamQ t2 cd') (hT9 : ∀ p ∈ cd' ++ (tl ++ ((I, o) :: (lV, oV) :: (c.tl ++ KK))), @LT.lt Nat _ 157 p.1) (hc1 : ∀ p ∈ c.cd, p ∈ cd') (hc2 : ∀ p ∈ cd', p ∈ c.cd ∨ ∀ q ∈ c.cd ++ ((I, o) :: (lV, oV) :: (c.tl ++ KK)), q.1 < p.1) (hc3 : ∀ p ∈ tl, ∀ q ∈ c.cd ++ ((I, o) :: (lV, oV) :: (c.tl ++ KK)), q.1 < p.1)
    (hR : RuleAt w (tl ++ cd') x p q) (hnw : ∀ p ∈ news, p ∈ KK) : RcInv w cd news lV ags (i + 1) ⟨c.rv ++ [.ref x], k, t1, t2, cd', tl ++ c.tl⟩ := by
  obtain ⟨g0, g1, g2, g3, g4, g5, g6, g7, g8⟩ := g
  have hin : ∀ q ∈ cd ++ news, q ∈ c.cd ++ ((I, o) :: (lV, oV) :: (c.tl ++ KK)) := fun q hq => (List.mem_append.mp hq).elim (fun h => memL (g6 q h)) fun h => memR (.tail _ (.tail _ (memR (hnw q h))))
  have hlV : (lV, oV) ∈ c.cd ++ ((I, o) :: (lV, oV) :: (c.tl ++ KK)) := memR (.tail _ (.head _))
  refine ⟨h1, by simp; omega, ?_, h2, ?_, ?_, fun p hp => hc1 p (g6 p hp), fun p hp => ?_, fun p hp => ?_⟩
  · have e : ((powers.take (i + 1)).filter fun p : Int × Int => hasS ags (Str.ofString (toString p.1))) = ((powers.take i).filter fun p : Int × Int => hasS ags (Str.ofString (toString p.1))) ++ [(p, q)] := by rw [take_succ_of hpq]; exact filter_yes (P := fun p : Int × Int => hasS ags (Str.ofString (toString p.1))) hh
    rw [e]
    refine (g2.mono fun p hp => ?_).snoc (hR.mono fun p hp => ?_)
    · rcases List.mem_append.mp hp with h | h
      · exact memL (memR h)
      · exact memR (hc1 p h)
    · rcases List.mem_append.mp hp with h | h
      · exact memL (memL h)
      · exact memR h
  · refine allApp (fun p hp => hT9 p (memL hp)) (allApp (fun p hp => hT9 p (memR (memL hp))) fun p hp => hT9 p (memR (memR (.tail _ (.tail _ (memL hp))))))
  · refine allApp (fun p hp => ?_) (allApp (fun p hp => Nat.ne_of_gt (hc3 p hp _ hlV)) fun p hp => g5 p (memR hp))
    rcases hc2 p hp with h | h
    · exact g5 p (memL h)
    · exact Nat.ne_of_gt (h _ hlV)
  · rcases hc2 p hp with h | h
    · exact g7 p h
    · exact .inr fun q hq => h q (hin q hq)
  · rcases List.mem_append.mp hp with h | h
    · exact fun q hq => hc3 p h q (hin q hq)
    · exact g8 p h
theorem fin_rec {h₀ h : Heap} {L : Addr} {v b1 b2 u x d : Addr × Obj} {cd tl KK news : Led} (N : News h₀ L h (v :: b1 :: b2 :: (cd ++ (tl ++ KK)))) (hu : u ∈ KK) (hx : x ∈ KK) (hd : d ∈ KK) (hn : ∀ p ∈ news, p ∈ KK) : News h₀ L h (b1 :: b2 :: (cd ++ ((v :: u :: x :: d :: tl) ++ news))) := by
  refine newsSub N fun p hp => ?_
  have hnp := hn p
  simp only [List.mem_cons, List.mem_append] at hp ⊢
  grind
theorem powers_at {i : Nat} {p q : Int} (h : powers[i]? = some (p, q)) : 1 ≤ p ∧ p ≤ 9 ∧ 0 ≤ q ∧ q ≤ 9 := by
  exact (by decide : ∀ r ∈ powers, 1 ≤ r.1 ∧ r.1 ≤ 9 ∧ 0 ≤ r.2 ∧ r.2 ≤ 9) _ (List.mem_of_getElem? h)
theorem rec_ok (w : World) (lr la ls : Addr) (rvs vs us : List Value) (rows : List (Int × Int × Int)) (szs : List Int) (k1 k2 k3 : Nat) (news : Led) (hr : (lr, W.listOf rvs.toArray k1) ∈ news) (hR : ReadersAt news rvs) (hl : (la, W.listOf vs.toArray k2) ∈ news) (hrw : RowsAt news vs rows) (hn : rows.length ≤ 1000) (hb : ∀ r ∈ rows, 0 ≤ r.1 ∧ r.1 ≤ 100000)
    (hs : (ls, W.listOf us.toArray k3) ∈ news) (hi : IntsAre us szs) (hz : ∀ z ∈ szs, 1 ≤ z ∧ z ≤ 10) (hzn : szs.length ≤ 10) :
   SpecG 6 w 167 [.ref lr, .ref la, .ref ls] news (fun r tl cd => ∃ x rv, r = .ref x ∧ EntAt tl x (agentsOf rows szs) rv ∧ RulesAt w (tl ++ cd) rv (rulesOf (agentsOf rows szs))) := by
  unfold SpecG SpecX
  k_fill
  intro loose mean mg mb dp un gd cn cs a₁ ccd cl outer A₀ base h₀ L m s Q E t1 t2 cd B F X N ht1 ht2 hT T hk hdp hu hret
  refine wpAny_call ?_
  k_dflt (walk_at "mine enter")
  (repeat' (first | (k_unfold; (try dsimp only)) | (k_end; wrow_close) | (first | (k_here; (with_reducible show wpAny _ _ (compareOp CmpOp.In (Value.str _ _) (Value.ref _)) _ _ _); k_dflt (refine' inS ?N ?m ?s ?_; (case N => k_asm); (case m => k_mem); (case s => assumption); k_whole)) | (k_here; (with_reducible show wpAny _ _ (call (Value.ref 122) _) _ _ _); with_reducible refine holdIt ?_) | (k_here; (with_reducible show wpAny _ _ (call (Value.ref 162) _) _ _ _); with_reducible refine holdIt ?_) | (k_here; (with_reducible show wpAny _ _ (call (Value.ref 94) _) _ _ _); with_reducible refine holdIt ?_) | ((with_reducible show wpAny _ _ (eval (Expr.ListComp _ _ _ _) _) _ _ _); (with_reducible refine holdIt ?_)) | ((with_reducible show wpAny _ _ (pyIter (Value.ref _)) _ _ _); (with_reducible refine holdIt ?_)) | walk1) | (dsimp only; (first | (k_here; (with_reducible show wpAny _ _ (compareOp CmpOp.In (Value.str _ _) (Value.ref _)) _ _ _); k_dflt (refine' inS ?N ?m ?s ?_; (case N => k_asm); (case m => k_mem); (case s => assumption); k_whole)) | (k_here; (with_reducible show wpAny _ _ (call (Value.ref 122) _) _ _ _); with_reducible refine holdIt ?_) | (k_here; (with_reducible show wpAny _ _ (call (Value.ref 162) _) _ _ _); with_reducible refine holdIt ?_) | (k_here; (with_reducible show wpAny _ _ (call (Value.ref 94) _) _ _ _); with_reducible refine holdIt ?_) | ((with_reducible show wpAny _ _ (eval (Expr.ListComp _ _ _ _) _) _ _ _); (with_reducible refine holdIt ?_)) | ((with_reducible show wpAny _ _ (pyIter (Value.ref _)) _ _ _); (with_reducible refine holdIt ?_)) | walk1)) | (leave1; walk_say "STEP leave1"; try dsimp only) | fail "no step"))
  unfold Hold
  rename_i LL _ _ _ _ _ _ hA0 o1 o2 hd1 hd2 N' _ _ _ _
  have hnn : ∀ p ∈ cd ++ news, @LT.lt Nat _ p.1 LL := kst_ltOf hA0.2.2
  refine SpecX.use (fmt_ok w la vs k2 rows ((LL + 1 + 1, o1) :: (LL + 1, o2) :: news) (.tail _ (.tail _ hl)) (hrw.mono fun p hp => .tail _ (.tail _ hp)) hn hb) (by k_asm) (by k_asm) (by k_asm) (newsSub N' ?_) ht1 ht2 ?_ (by k_asm) rfl (by ktr_room) (by ktr_units) ?_
  · intro p hp; simp only [List.mem_cons, List.mem_append] at hp ⊢; grind
  · refine allApp (fun p hp => hT p (memL hp)) (allCons ?_ (allCons ?_ fun p hp => hT p (memR hp))) <;> (refine ltN ?_; omega)
  rintro r tl t1' t2' cd' s' F2 N2 ht1' ht2' hT2 hc1 hc2 hc3 ⟨rfl, tw, rfl⟩ hS
  dsimp only [List.nil_append] at N2 hT2
  clear N' hc3
  have N3 : News _ _ s'.heap ((LL + 1 + 1, o1) :: (LL + 1, o2) :: tb1 t1' :: tb2 t2' :: (cd' ++ news)) := newsSub N2 (by intro p hp; simp only [List.mem_cons, List.mem_append] at hp ⊢; grind)
  clear N2
  have hJ := fmt_len hb hn
  have hne1 : ∀ p ∈ cd' ++ news, p.1 ≠ LL + 1 + 1 := allApp (fun p hp => (hc2 p hp).elim (fun h => Nat.ne_of_lt (Nat.lt_trans (hnn p (memL h)) (by omega))) fun h => Nat.ne_of_gt (h (LL + 1 + 1, o1) (memR (.head _)))) fun p hp => Nat.ne_of_lt (Nat.lt_trans (hnn p (memR hp)) (by omega))
  have hro : (lr, W.listOf rvs.toArray k1) ∈ cd' ++ news := memR hr
  have hso : (ls, W.listOf us.toArray k3) ∈ cd' ++ news := memR hs
  (repeat' (first | (k_unfold; (try dsimp only)) | (k_end; wrow_close) | (first | (k_here; (with_reducible show wpAny _ _ (compareOp CmpOp.In (Value.str _ _) (Value.ref _)) _ _ _); k_dflt (refine' inS ?N ?m ?s ?_; (case N => k_asm); (case m => k_mem); (case s => assumption); k_whole)) | (k_here; (with_reducible show wpAny _ _ (call (Value.ref 122) _) _ _ _); with_reducible refine holdIt ?_) | (k_here; (with_reducible show wpAny _ _ (call (Value.ref 162) _) _ _ _); with_reducible refine holdIt ?_) | (k_here; (with_reducible show wpAny _ _ (call (Value.ref 94) _) _ _ _); with_reducible refine holdIt ?_) | ((with_reducible show wpAny _ _ (eval (Expr.ListComp _ _ _ _) _) _ _ _); (with_reducible refine holdIt ?_)) | ((with_reducible show wpAny _ _ (pyIter (Value.ref _)) _ _ _); (with_reducible refine holdIt ?_)) | walk1) | (dsimp only; (first | (k_here; (with_reducible show wpAny _ _ (compareOp CmpOp.In (Value.str _ _) (Value.ref _)) _ _ _); k_dflt (refine' inS ?N ?m ?s ?_; (case N => k_asm); (case m => k_mem); (case s => assumption); k_whole)) | (k_here; (with_reducible show wpAny _ _ (call (Value.ref 122) _) _ _ _); with_reducible refine holdIt ?_) | (k_here; (with_reducible show wpAny _ _ (call (Value.ref 162) _) _ _ _); with_reducible refine holdIt ?_) | (k_here; (with_reducible show wpAny _ _ (call (Value.ref 94) _) _ _ _); with_reducible refine holdIt ?_) | ((with_reducible show wpAny _ _ (eval (Expr.ListComp _ _ _ _) _) _ _ _); (with_reducible refine holdIt ?_)) | ((with_reducible show wpAny _ _ (pyIter (Value.ref _)) _ _ _); (with_reducible refine holdIt ?_)) | walk1)) | (leave1; walk_say "STEP leave1"; try dsimp only) | fail "no step"))
  unfold Hold
  rename News _ _ _ _ => N5
  rename Fr _ _ _ _ => F5
  rename_i oW hoW _ _ _ xD dD _ hL0 hxD _ _ _ _ _ _ _ _ _ lU _ hL1 _ _ _ _ lV _ hL2 _ _ _ _ _ _ _ _ _ _ _ _ _ _ _ _ _
  have ⟨NL, hNL, N6⟩ : ∃ NL, NL = _ ∧ News _ _ _ NL := ⟨_, rfl, N5⟩
  have hm1 : (LL + 1 + 1, oW) ∈ NL := by rw [hNL]; k_mem
  have hm2 : (LL + 1, o2) ∈ NL := by rw [hNL]; k_mem
  have hm3 : (lr, W.listOf rvs.toArray k1) ∈ NL := by rw [hNL]; k_mem
  have hm4 : (ls, W.listOf us.toArray k3) ∈ NL := by rw [hNL]; k_mem
  have hm5 : ReadersAt NL rvs := hR.mono fun p hp => by rw [hNL]; exact .tail _ (.tail _ (.tail _ (.tail _ (.tail _ (.tail _ (.tail _ (.tail _ (memR hp))))))))
  have hil := hi.length
  have hwl := words_len hb hn
  refine LCt.ListComp_T F5 rfl (by decide) rfl (by decide) rfl ?_
  walk1
  refine LCt.CompSrcT.ledger rfl (by k_asm) N6 hm4 (by simp [sizeLine_eq]; omega) ?_
  intro g5
  refine compTBy (fun i ys nw => nw = NL ∧ StrsAre ys (((szs.take i).filter fun z => applies [agentText z] (wordsOf rows)).map fun z => Str.ofString (toString z))) ⟨rfl, .nil⟩ ?_ ?_
  · rintro i v I oI C oC D m₂ ys nw h tk E' hlt hv ⟨rfl, hys⟩ hC hx F5 N5 off ne
    obtain ⟨z, t, rfl, hri⟩ := IntsAre.at hi i v (by simpa using hv)
    have hzz := hz z (List.mem_of_getElem? hri)
    have hzl : (z - 1).toNat < rvs.length := by rw [hm5.1]; omega
    obtain ⟨xr, hxr, hEnt⟩ := hm5.2 _ _ (List.getElem?_eq_getElem hzl)
    have hat : rvs[(z - 1).toNat]? = some (.ref xr) := by rw [← hxr]; exact List.getElem?_eq_getElem hzl
    rw [show ((((z - 1).toNat : Nat) : Int) + 1) = z from by omega] at hEnt
    refine hEnt.el fun d9 _ _ _ _ _ _ _ _ _ _ _ _ _ _ e1 e2 _ _ _ => ?_
    clear hret N6
    (repeat' (first | (k_unfold; (try dsimp only)) | (k_end; wrow_close) | (first | (k_here; (with_reducible show wpAny _ _ (compareOp CmpOp.In (Value.str _ _) (Value.ref _)) _ _ _); k_dflt (refine' inS ?N ?m ?s ?_; (case N => k_asm); (case m => k_mem); (case s => assumption); k_whole)) | (k_here; (with_reducible show wpAny _ _ (call (Value.ref 122) _) _ _ _); with_reducible refine holdIt ?_) | (k_here; (with_reducible show wpAny _ _ (call (Value.ref 162) _) _ _ _); with_reducible refine holdIt ?_) | (k_here; (with_reducible show wpAny _ _ (call (Value.ref 94) _) _ _ _); with_reducible refine holdIt ?_) | ((with_reducible show wpAny _ _ (eval (Expr.ListComp _ _ _ _) _) _ _ _); (with_reducible refine holdIt ?_)) | ((with_reducible show wpAny _ _ (pyIter (Value.ref _)) _ _ _); (with_reducible refine holdIt ?_)) | walk1) | (dsimp only; (first | (k_here; (with_reducible show wpAny _ _ (compareOp CmpOp.In (Value.str _ _) (Value.ref _)) _ _ _); k_dflt (refine' inS ?N ?m ?s ?_; (case N => k_asm); (case m => k_mem); (case s => assumption); k_whole)) | (k_here; (with_reducible show wpAny _ _ (call (Value.ref 122) _) _ _ _); with_reducible refine holdIt ?_) | (k_here; (with_reducible show wpAny _ _ (call (Value.ref 162) _) _ _ _); with_reducible refine holdIt ?_) | (k_here; (with_reducible show wpAny _ _ (call (Value.ref 94) _) _ _ _); with_reducible refine holdIt ?_) | ((with_reducible show wpAny _ _ (eval (Expr.ListComp _ _ _ _) _) _ _ _); (with_reducible refine holdIt ?_)) | ((with_reducible show wpAny _ _ (pyIter (Value.ref _)) _ _ _); (with_reducible refine holdIt ?_)) | walk1)) | (leave1; walk_say "STEP leave1"; try dsimp only) | fail "no step"))
    unfold Hold
    refine Spec.use (app_ok w xr [agentText z] [] (wordsOf rows) _ _ (hEnt.mono fun p hp => .tail _ (.tail _ (.tail _ hp))) hwl (by intro g hg; rw [List.mem_singleton.mp hg]; exact ag_len hzz)) (by k_asm) (by k_asm) (by k_asm) N5 (by k_asm) rfl (by ktr_room) (by ktr_units) ?_
    rintro r9 n9 h9 tk9 F9 N9 ⟨rfl, rfl⟩
    (repeat' (first | (k_unfold; (try dsimp only)) | (k_end; wrow_close) | (first | (k_here; (with_reducible show wpAny _ _ (compareOp CmpOp.In (Value.str _ _) (Value.ref _)) _ _ _); k_dflt (refine' inS ?N ?m ?s ?_; (case N => k_asm); (case m => k_mem); (case s => assumption); k_whole)) | (k_here; (with_reducible show wpAny _ _ (call (Value.ref 122) _) _ _ _); with_reducible refine holdIt ?_) | (k_here; (with_reducible show wpAny _ _ (call (Value.ref 162) _) _ _ _); with_reducible refine holdIt ?_) | (k_here; (with_reducible show wpAny _ _ (call (Value.ref 94) _) _ _ _); with_reducible refine holdIt ?_) | ((with_reducible show wpAny _ _ (eval (Expr.ListComp _ _ _ _) _) _ _ _); (with_reducible refine holdIt ?_)) | ((with_reducible show wpAny _ _ (pyIter (Value.ref _)) _ _ _); (with_reducible refine holdIt ?_)) | walk1) | (dsimp only; (first | (k_here; (with_reducible show wpAny _ _ (compareOp CmpOp.In (Value.str _ _) (Value.ref _)) _ _ _); k_dflt (refine' inS ?N ?m ?s ?_; (case N => k_asm); (case m => k_mem); (case s => assumption); k_whole)) | (k_here; (with_reducible show wpAny _ _ (call (Value.ref 122) _) _ _ _); with_reducible refine holdIt ?_) | (k_here; (with_reducible show wpAny _ _ (call (Value.ref 162) _) _ _ _); with_reducible refine holdIt ?_) | (k_here; (with_reducible show wpAny _ _ (call (Value.ref 94) _) _ _ _); with_reducible refine holdIt ?_) | ((with_reducible show wpAny _ _ (eval (Expr.ListComp _ _ _ _) _) _ _ _); (with_reducible refine holdIt ?_)) | ((with_reducible show wpAny _ _ (pyIter (Value.ref _)) _ _ _); (with_reducible refine holdIt ?_)) | walk1)) | (leave1; walk_say "STEP leave1"; try dsimp only) | fail "no step"))
    · refine LCg.CompEnd.intro (by k_asm) N9 _ (fun p hp => hp) off (.inr ⟨_, hm4, rfl, _, rfl⟩) ⟨rfl, ?_⟩
      rw [take_succ_of hri, filter_yes (by assumption), List.map_append]
      exact strs_snoc hys
    · refine LCg.CompEnd.intro (by k_asm) N9 _ (fun p hp => hp) off (.inr ⟨_, hm4, rfl, _, rfl⟩) ⟨rfl, ?_⟩
      rw [take_succ_of hri, filter_no (by assumption)]
      exact hys
  · rintro ys nw ⟨rfl, hys⟩
    have e : szs.take us.toArray.size = szs := by rw [List.size_toArray, hil]; exact List.take_length
    rw [e] at hys
    clear N6 hm1 hm2 hm3 hm4 hm5
    subst hNL
    intro D h tk F5 N5 off
    dsimp only [LCg.Off1] at off
    have hyl := hys.length
    have hag : ((szs.filter fun z => applies [agentText z] (wordsOf rows)).map fun z => Str.ofString (toString z)).length ≤ 10 := by
      rw [List.length_map]; exact Nat.le_trans (List.length_filter_le _ _) hzn
    (repeat' (first | (k_unfold; (try dsimp only)) | (k_end; wrow_close) | (first | (k_here; (with_reducible show wpAny _ _ (compareOp CmpOp.In (Value.str _ _) (Value.ref _)) _ _ _); k_dflt (refine' inS ?N ?m ?s ?_; (case N => k_asm); (case m => k_mem); (case s => assumption); k_whole)) | (k_here; (with_reducible show wpAny _ _ (call (Value.ref 122) _) _ _ _); with_reducible refine holdIt ?_) | (k_here; (with_reducible show wpAny _ _ (call (Value.ref 162) _) _ _ _); with_reducible refine holdIt ?_) | (k_here; (with_reducible show wpAny _ _ (call (Value.ref 94) _) _ _ _); with_reducible refine holdIt ?_) | ((with_reducible show wpAny _ _ (eval (Expr.ListComp _ _ _ _) _) _ _ _); (with_reducible refine holdIt ?_)) | ((with_reducible show wpAny _ _ (pyIter (Value.ref _)) _ _ _); (with_reducible refine holdIt ?_)) | walk1) | (dsimp only; (first | (k_here; (with_reducible show wpAny _ _ (compareOp CmpOp.In (Value.str _ _) (Value.ref _)) _ _ _); k_dflt (refine' inS ?N ?m ?s ?_; (case N => k_asm); (case m => k_mem); (case s => assumption); k_whole)) | (k_here; (with_reducible show wpAny _ _ (call (Value.ref 122) _) _ _ _); with_reducible refine holdIt ?_) | (k_here; (with_reducible show wpAny _ _ (call (Value.ref 162) _) _ _ _); with_reducible refine holdIt ?_) | (k_here; (with_reducible show wpAny _ _ (call (Value.ref 94) _) _ _ _); with_reducible refine holdIt ?_) | ((with_reducible show wpAny _ _ (eval (Expr.ListComp _ _ _ _) _) _ _ _); (with_reducible refine holdIt ?_)) | ((with_reducible show wpAny _ _ (pyIter (Value.ref _)) _ _ _); (with_reducible refine holdIt ?_)) | walk1)) | (leave1; walk_say "STEP leave1"; try dsimp only) | fail "no step"))
    unfold Hold
    rename News _ _ _ _ => N6
    rename Fr _ _ _ _ => F6
    rename_i DT _ hDT
    have hxDV : @LT.lt Nat _ lU lV := hL2.1
    have ⟨KK, N7, hin, hnw, hall⟩ := split_rec N6
    clear N6
    have hK157 : ∀ p ∈ KK, @LT.lt Nat _ 157 p.1 := hall _ (by
      repeat (refine allCons (by refine ltN ?_; (try dsimp only); omega) ?_)
      exact allNil) fun p hp => hT p (memR hp)
    have hKne : ∀ p ∈ KK, p.1 ≠ lV := hall _ (by
      repeat (refine allCons (by refine neN ?_; (try dsimp only); omega) ?_)
      exact allNil) fun p hp => Nat.ne_of_lt (kst_ltOf hL2.2.2.2.2.2.2.2 p (memR hp))
    have ⟨vsP, hPA, hTm⟩ : ∃ vsP, PairsAt KK vsP powers ∧ (DT, tupObj vsP.toArray 0) ∈ KK := ⟨[_, _, _, _, _, _, _, _, _], .cons (hin _ (.tail _ (.tail _ (.tail _ (.tail _ (.tail _ (.tail _ (.tail _ (.tail _ (.tail _ (.head _))))))))))) (.cons (hin _ (.tail _ (.tail _ (.tail _ (.tail _ (.tail _ (.tail _ (.tail _ (.tail _ (.head _)))))))))) (.cons (hin _ (.tail _ (.tail _ (.tail _ (.tail _ (.tail _ (.tail _ (.tail _ (.head _))))))))) (.cons (hin _ (.tail _ (.tail _ (.tail _ (.tail _ (.tail _ (.tail _ (.head _)))))))) (.cons (hin _ (.tail _ (.tail _ (.tail _ (.tail _ (.tail _ (.head _))))))) (.cons (hin _ (.tail _ (.tail _ (.tail _ (.tail _ (.head _)))))) (.cons (hin _ (.tail _ (.tail _ (.tail _ (.head _))))) (.cons (hin _ (.tail _ (.tail _ (.head _)))) (.cons (hin _ (.tail _ (.head _))) .nil)))))))), hin _ (.head _)⟩
    have hmU := hin _ (.tail _ (.tail _ (.tail _ (.tail _ (.tail _ (.tail _ (.tail _ (.tail _ (.tail _ (.tail _ (.head _)))))))))))
    have hmX := hin _ (.tail _ (.tail _ (.tail _ (.tail _ (.tail _ (.tail _ (.tail _ (.tail _ (.tail _ (.tail _ (.tail _ (.head _))))))))))))
    have hmD := hin _ (.tail _ (.tail _ (.tail _ (.tail _ (.tail _ (.tail _ (.tail _ (.tail _ (.tail _ (.tail _ (.tail _ (.tail _ (.head _)))))))))))))
    clear hin
    have hKV := hxDV
    refine' tupK (σ := RcC) (vs := vsP) (k := 0) (fun c => (lV, W.listOf c.rv.toArray c.k) :: tb1 c.t1 :: tb2 c.t2 :: (c.cd ++ (c.tl ++ KK))) (fun _ => []) [Str.ofString "power", Str.ofString "verdict"]
      (fun I i c => RcInv w cd news lV (agentsOf rows szs) i c) (fun c => RcInv w cd news lV (agentsOf rows szs) 9 c) (HT _) ⟨[], 0, t1', t2', cd', []⟩ rfl (fun c => .tail _ (.tail _ (.tail _ (memR (memR hTm))))) HT.rfl HT.move F6 N7 ?hk ?hp ?turn ?done ?fin
    case hk => kst_all
    case hp =>
      intro I hI
      refine ⟨ht1', Nat.le_refl _, ⟨rfl, fun i v e => by simp at e⟩, ht2', allApp (fun p hp => hT2 p (memL hp)) allNil, allApp (fun p hp => Nat.ne_of_lt (kst_ltOf hL2.2.2.2.2.2.2.2 p (memL hp))) allNil, hc1, fun p hp => ?_, allNil⟩
      rcases hc2 p hp with h | h
      · exact .inl h
      · exact .inr fun q hq => h q ((List.mem_append.mp hq).elim memL fun h => memR (.tail _ (.tail _ h)))
    case done => intro I c h; rw [hPA.length] at h; exact h
    case turn =>
      rintro I hI c i v u s₁ o hv hP hne ⟨h, tk, rfl⟩ F' N'
      obtain ⟨T, q1, q2, nT, ⟨p, q⟩, rfl, hpq, hmT⟩ := hPA.at hv
      dsimp only [kstB] at F'
      have hpb := powers_at hpq
      have hi9 : i < 9 := (List.getElem?_eq_some_iff.mp hpq).1
      have hcI : @Ne Nat lV I := hne _ (.head _)
      have m1 : (T, tupObj #[.int p q1, .int q q2] nT) ∈ c.cd ++ (c.tl ++ KK) := memR (memR hmT)
      have m2 := (memR (memR hmU) : _ ∈ c.cd ++ (c.tl ++ KK))
      have m3 := (memR (memR hmX) : _ ∈ c.cd ++ (c.tl ++ KK))
      have m4 := (memR (memR hmD) : _ ∈ c.cd ++ (c.tl ++ KK))
      have ⟨g0, g1, g2, g3, g4, g5, g6, g7, g8⟩ := hP
      have hNeV : ∀ p ∈ c.cd ++ (c.tl ++ KK), p.1 ≠ lV := allApp (fun p hp => g5 p (memL hp)) (allApp (fun p hp => g5 p (memR hp)) hKne)
      have hI157 : @LT.lt Nat _ 157 I := hI (tb2 t2') (.tail _ (.tail _ (.head _)))
      clear hret
      (repeat' (first | (k_unfold; (try dsimp only)) | (k_end; wrow_close) | (first | (k_here; (with_reducible show wpAny _ _ (compareOp CmpOp.In (Value.str _ _) (Value.ref _)) _ _ _); k_dflt (refine' inS ?N ?m ?s ?_; (case N => k_asm); (case m => k_mem); (case s => assumption); k_whole)) | (k_here; (with_reducible show wpAny _ _ (call (Value.ref 122) _) _ _ _); with_reducible refine holdIt ?_) | (k_here; (with_reducible show wpAny _ _ (call (Value.ref 162) _) _ _ _); with_reducible refine holdIt ?_) | (k_here; (with_reducible show wpAny _ _ (call (Value.ref 94) _) _ _ _); with_reducible refine holdIt ?_) | ((with_reducible show wpAny _ _ (eval (Expr.ListComp _ _ _ _) _) _ _ _); (with_reducible refine holdIt ?_)) | ((with_reducible show wpAny _ _ (pyIter (Value.ref _)) _ _ _); (with_reducible refine holdIt ?_)) | walk1) | (dsimp only; (first | (k_here; (with_reducible show wpAny _ _ (compareOp CmpOp.In (Value.str _ _) (Value.ref _)) _ _ _); k_dflt (refine' inS ?N ?m ?s ?_; (case N => k_asm); (case m => k_mem); (case s => assumption); k_whole)) | (k_here; (with_reducible show wpAny _ _ (call (Value.ref 122) _) _ _ _); with_reducible refine holdIt ?_) | (k_here; (with_reducible show wpAny _ _ (call (Value.ref 162) _) _ _ _); with_reducible refine holdIt ?_) | (k_here; (with_reducible show wpAny _ _ (call (Value.ref 94) _) _ _ _); with_reducible refine holdIt ?_) | ((with_reducible show wpAny _ _ (eval (Expr.ListComp _ _ _ _) _) _ _ _); (with_reducible refine holdIt ?_)) | ((with_reducible show wpAny _ _ (pyIter (Value.ref _)) _ _ _); (with_reducible refine holdIt ?_)) | walk1)) | (leave1; walk_say "STEP leave1"; try dsimp only) | fail "no step"))
      · unfold Hold
        rename News _ _ _ _ => N9
        rename hasS _ _ = true => hh
        refine SpecX.use (R := HT) (t1 := c.t1) (t2 := c.t2) (cd := c.cd) (rule_ok w p q q1 q2 ((I, o) :: (lV, W.listOf c.rv.toArray c.k) :: (c.tl ++ KK))) (by k_asm) (by k_asm) (by k_asm) (newsSub N9 ?_) g0 g3 ?_ (by k_asm) rfl (by ktr_room) (by ktr_units) ?_
        · intro p hp; simp only [List.mem_cons, List.mem_append] at hp ⊢; grind
        · exact allApp (fun p hp => g4 p (memL hp)) (allCons hI157 (allCons (by refine ltN ?_; omega) (allApp (fun p hp => g4 p (memR hp)) hK157)))
        rintro r tl t1'' t2'' cd'' s' F8 N8 ht1'' ht2'' hT9 hc1' hc2' hc3' ⟨x, rfl, hRule⟩ ⟨h9, tk9, rfl⟩
        have hI' := RcInv.step (k := c.k + 1) hP hpq hh ht1'' ht2'' hT9 hc1' hc2' hc3' hRule hnw
        have N10 : News _ _ _ ((I, o) :: (lV, W.listOf c.rv.toArray c.k) :: tb1 t1'' :: tb2 t2'' :: (cd'' ++ ((tl ++ c.tl) ++ KK))) := newsSub N8 (by intro p hp; simp only [List.mem_cons, List.mem_append] at hp ⊢; grind)
        clear N8 N9
        have hNeV2 : ∀ p ∈ cd'' ++ ((tl ++ c.tl) ++ KK), p.1 ≠ lV := allApp (fun p hp => hI'.off p (memL hp)) (allApp (fun p hp => hI'.off p (memR hp)) hKne)
        have hNeI : ∀ p ∈ cd'' ++ ((tl ++ c.tl) ++ KK), p.1 ≠ I := by
          have hII : (I, o) ∈ c.cd ++ ((I, o) :: (lV, W.listOf c.rv.toArray c.k) :: (c.tl ++ KK)) := memR (.head _)
          refine allApp (fun p hp => ?_) (allApp (allApp (fun p hp => Nat.ne_of_gt (hc3' p hp _ hII)) fun p hp => hne p (.tail _ (.tail _ (.tail _ (memR (memL hp)))))) fun p hp => hne p (.tail _ (.tail _ (.tail _ (memR (memR hp))))))
          rcases hc2' p hp with h | h
          · exact hne p (.tail _ (.tail _ (.tail _ (memL h))))
          · exact Nat.ne_of_gt (h _ hII)
        dsimp only at F8 N10
        (repeat' (first | (k_unfold; (try dsimp only)) | (k_end; wrow_close) | (first | (k_here; (with_reducible show wpAny _ _ (compareOp CmpOp.In (Value.str _ _) (Value.ref _)) _ _ _); k_dflt (refine' inS ?N ?m ?s ?_; (case N => k_asm); (case m => k_mem); (case s => assumption); k_whole)) | (k_here; (with_reducible show wpAny _ _ (call (Value.ref 122) _) _ _ _); with_reducible refine holdIt ?_) | (k_here; (with_reducible show wpAny _ _ (call (Value.ref 162) _) _ _ _); with_reducible refine holdIt ?_) | (k_here; (with_reducible show wpAny _ _ (call (Value.ref 94) _) _ _ _); with_reducible refine holdIt ?_) | ((with_reducible show wpAny _ _ (eval (Expr.ListComp _ _ _ _) _) _ _ _); (with_reducible refine holdIt ?_)) | ((with_reducible show wpAny _ _ (pyIter (Value.ref _)) _ _ _); (with_reducible refine holdIt ?_)) | walk1) | (dsimp only; (first | (k_here; (with_reducible show wpAny _ _ (compareOp CmpOp.In (Value.str _ _) (Value.ref _)) _ _ _); k_dflt (refine' inS ?N ?m ?s ?_; (case N => k_asm); (case m => k_mem); (case s => assumption); k_whole)) | (k_here; (with_reducible show wpAny _ _ (call (Value.ref 122) _) _ _ _); with_reducible refine holdIt ?_) | (k_here; (with_reducible show wpAny _ _ (call (Value.ref 162) _) _ _ _); with_reducible refine holdIt ?_) | (k_here; (with_reducible show wpAny _ _ (call (Value.ref 94) _) _ _ _); with_reducible refine holdIt ?_) | ((with_reducible show wpAny _ _ (eval (Expr.ListComp _ _ _ _) _) _ _ _); (with_reducible refine holdIt ?_)) | ((with_reducible show wpAny _ _ (pyIter (Value.ref _)) _ _ _); (with_reducible refine holdIt ?_)) | walk1)) | (leave1; walk_say "STEP leave1"; try dsimp only) | fail "no step"))
        rename News _ _ _ _ => N8
        simp only [List.push_toArray] at N8
        refine' ⟨⟨c.rv ++ [.ref x], c.k + 1, t1'', t2'', cd'', tl ++ c.tl⟩, _, _, HT.mk, by k_asm, N8, ?a3, ?a4, ?a5, ?a6, ?a7, hI'⟩
        case a3 => exact fun p hp => by rw [List.mem_singleton.mp hp]; k_mem
        case a4 => exact fun p hp => .tail _ hp
        case a5 =>
          refine allCons (fun h => hcI (List.mem_singleton.mp h)) (allCons (fun h => ?_) (allCons (fun h => ?_) fun p hp h => hNeI p hp (List.mem_singleton.mp h)))
          · exact hne (tb1 c.t1) (.tail _ (.head _)) (List.mem_singleton.mp h)
          · exact hne (tb2 c.t2) (.tail _ (.tail _ (.head _))) (List.mem_singleton.mp h)
        case a6 => kst_all
        case a7 => dsimp +zetaDelta only; intro z h2 h3; simp only [List.contains_cons, List.contains_nil, Bool.or_false, Bool.or_eq_false_iff, beq_eq_false_iff_ne, ne_eq] at h3; simp [h3]
      · rename hasS _ _ = false => hh
        refine' ⟨c, _, _, HT.mk, by k_asm, by k_asm, ?b3, ?b4, ?b5, ?b6, ?b7, RcInv.skip hP hpq hh⟩
        case b3 => exact fun p hp => by rw [List.mem_singleton.mp hp]; k_mem
        case b4 => exact fun p hp => .tail _ hp
        case b5 => exact fun p hp h => hne p hp (List.mem_singleton.mp h)
        case b6 => kst_all
        case b7 => dsimp +zetaDelta only; intro z h2 h3; simp only [List.contains_cons, List.contains_nil, Bool.or_false, Bool.or_eq_false_iff, beq_eq_false_iff_ne, ne_eq] at h3; simp [h3]
    case fin =>
      rintro c u s₁ ⟨g0, g1, g2, g3, g4, g5, g6, g7, g8⟩ ⟨h, tk, rfl⟩ F' N'
      dsimp only [kstB] at F'
      dsimp only
      have m3 := (memR (memR hmX) : _ ∈ c.cd ++ (c.tl ++ KK))
      (repeat' (first | (k_unfold; (try dsimp only)) | (k_end; wrow_close) | (first | (k_here; (with_reducible show wpAny _ _ (compareOp CmpOp.In (Value.str _ _) (Value.ref _)) _ _ _); k_dflt (refine' inS ?N ?m ?s ?_; (case N => k_asm); (case m => k_mem); (case s => assumption); k_whole)) | (k_here; (with_reducible show wpAny _ _ (call (Value.ref 122) _) _ _ _); with_reducible refine holdIt ?_) | (k_here; (with_reducible show wpAny _ _ (call (Value.ref 162) _) _ _ _); with_reducible refine holdIt ?_) | (k_here; (with_reducible show wpAny _ _ (call (Value.ref 94) _) _ _ _); with_reducible refine holdIt ?_) | ((with_reducible show wpAny _ _ (eval (Expr.ListComp _ _ _ _) _) _ _ _); (with_reducible refine holdIt ?_)) | ((with_reducible show wpAny _ _ (pyIter (Value.ref _)) _ _ _); (with_reducible refine holdIt ?_)) | walk1) | (dsimp only; (first | (k_here; (with_reducible show wpAny _ _ (compareOp CmpOp.In (Value.str _ _) (Value.ref _)) _ _ _); k_dflt (refine' inS ?N ?m ?s ?_; (case N => k_asm); (case m => k_mem); (case s => assumption); k_whole)) | (k_here; (with_reducible show wpAny _ _ (call (Value.ref 122) _) _ _ _); with_reducible refine holdIt ?_) | (k_here; (with_reducible show wpAny _ _ (call (Value.ref 162) _) _ _ _); with_reducible refine holdIt ?_) | (k_here; (with_reducible show wpAny _ _ (call (Value.ref 94) _) _ _ _); with_reducible refine holdIt ?_) | ((with_reducible show wpAny _ _ (eval (Expr.ListComp _ _ _ _) _) _ _ _); (with_reducible refine holdIt ?_)) | ((with_reducible show wpAny _ _ (pyIter (Value.ref _)) _ _ _); (with_reducible refine holdIt ?_)) | walk1)) | (leave1; walk_say "STEP leave1"; try dsimp only) | fail "no step"))
      rename News h₀ _ _ _ => N9
      have N10 := fin_rec N9 hmU hmX hmD hnw
      have hqd : ∀ q ∈ cd ++ news, @LT.lt Nat _ q.1 dD := fun q hq => kst_ltOf hL0.2.2.2.2 q ((List.mem_append.mp hq).elim (fun h => memL (hc1 q h)) memR)
      refine hret _ (_ :: _ :: _ :: _ :: c.tl) c.t1 c.t2 c.cd _ (by k_asm) N10 g0 g3 ?_ g6 g7 ?_ ⟨xD, c.rv, rfl, EntAt.intro (d := dD) (la := lU) (lr := lV) (us := ys) (.tail _ (.tail _ (.head _))) (.tail _ (.tail _ (.tail _ (.head _)))) (.tail _ (.head _)) (.head _) hys, ?_⟩ ⟨hS.1, hS.2.1, hS.2.2⟩
      · refine allApp (fun p hp => g4 p (memL hp)) (allCons ?_ (allCons ?_ (allCons ?_ (allCons ?_ (allApp (fun p hp => g4 p (memR hp)) fun p hp => hT p (memR hp)))))) <;> (refine ltN ?_; (try dsimp only); omega)
      · refine allCons ?_ (allCons ?_ (allCons ?_ (allCons ?_ g8))) <;> (intro q hq; (have hq0 := hqd q hq); refine ltN ?_; (try dsimp only); omega)
      · have e : (powers.take 9) = powers := rfl
        rw [e] at g2
        exact g2.mono fun p hp => (List.mem_append.mp hp).elim (fun h => memL (.tail _ (.tail _ (.tail _ (.tail _ h))))) memR
end Mine
end

end
end
end
end
end
end
end
section
open PySem PySem.W PyProof.Rows
namespace Mine
theorem sec_LW {M : Model} {A : Around} {E : Value → Shared → Prop} {s : Shared} {env : Env} {p : Pos} {Q : Flow → Shared → Prop} (h : Q .next s) : wpAny M A (exec (.Pass p) env) Q E s := by
  w_top off
  k_with_none
  walk1
  exact h
end Mine
end
section
open PySem PySem.W PyProof.Rows
set_option maxRecDepth 100000
set_option maxHeartbeats 1000000
namespace Mine
noncomputable def lawDef : Option DefRec := (recsOf hd.view_39).find? (fun e => e.name == Str.ofString "law")
noncomputable def lawBody : List Stmt := match lawDef with | some d => d.body | none => []
noncomputable def lawStmt (k : Nat) : Stmt := (lawBody[k]?).getD (.Pass ⟨0, 0, 0, 0⟩)
noncomputable def lawSc : Scope := match lawDef with | some d => d.scope | none => default
theorem exec_of {M : Model} {A : Around} {E : Value → Shared → Prop} {s : Shared} {env : Env} {k : Nat} {S : Stmt} {Q : Flow → Shared → Prop} (e : lawStmt k = S) (h : wpAny M A (exec S env) Q E s) : wpAny M A (exec (lawStmt k) env) Q E s := by rw [e]; exact h
noncomputable abbrev lawCl (L : Addr) : List (Str × Addr) := cellsFrom (L + 1) lawSc.names []
noncomputable abbrev lawEnv (L fa : Addr) (cd : Value) : Env := envX (Str.ofString "law") lawSc L fa cd (lawCl L)
theorem lawCl_is (L : Addr) : lawCl L = [(Str.ofString "counts", L + 1 + 1 + 1 + 1), (Str.ofString "most", L + 1 + 1 + 1), (Str.ofString "records", L + 1 + 1), (Str.ofString "script", L + 1)] := by rfl
theorem lawKind : lawSc.kind = .function := by rfl
noncomputable abbrev lawCells (L : Addr) : List (Str × Addr) := [(Str.ofString "counts", L + 1 + 1 + 1 + 1), (Str.ofString "most", L + 1 + 1 + 1), (Str.ofString "records", L + 1 + 1), (Str.ofString "script", L + 1)]
/-! a statement of law's, its text and its scope laid open -/
theorem exec_lawA {M : Model} {E : Value → Shared → Prop} {s : Shared} {dp un k : Nat} {gd : Option (List Code)} {fa L : Addr} {cd : Value} {outer : List Env} {a : List Expr} {b : Expr} {p : Pos} {sk : ScopeKind} {nms : List (Str × NameKind)} {ig ic : Bool} {mr : List (Str × Const)} {Q : Flow → Shared → Prop} (e : lawStmt k = .Assign a b p) (e2 : lawSc = ⟨sk, nms, ig, ic, mr⟩)
    (h : wpAny M (ktrTop dp un gd (Str.ofString "law") ⟨sk, nms, ig, ic, mr⟩ L fa cd (lawCells L) outer) (exec (.Assign a b p) (envX (Str.ofString "law") ⟨sk, nms, ig, ic, mr⟩ L fa cd (lawCells L))) Q E s) :
    wpAny M (ktrTop dp un gd (Str.ofString "law") lawSc L fa cd (lawCl L) outer) (exec (lawStmt k) (lawEnv L fa cd)) Q E s := by
  rw [lawCl_is, e]
  unfold lawEnv
  rw [lawCl_is, e2]
  exact h
theorem exec_lawF {M : Model} {E : Value → Shared → Prop} {s : Shared} {dp un k : Nat} {gd : Option (List Code)} {fa L : Addr} {cd : Value} {outer : List Env} {a b : Expr} {c d : List Stmt} {p : Pos} {sk : ScopeKind} {nms : List (Str × NameKind)} {ig ic : Bool} {mr : List (Str × Const)} {Q : Flow → Shared → Prop} (e : lawStmt k = .For a b c d p) (e2 : lawSc = ⟨sk, nms, ig, ic, mr⟩)
    (h : wpAny M (ktrTop dp un gd (Str.ofString "law") ⟨sk, nms, ig, ic, mr⟩ L fa cd (lawCells L) outer) (exec (.For a b c d p) (envX (Str.ofString "law") ⟨sk, nms, ig, ic, mr⟩ L fa cd (lawCells L))) Q E s) :
    wpAny M (ktrTop dp un gd (Str.ofString "law") lawSc L fa cd (lawCl L) outer) (exec (lawStmt k) (lawEnv L fa cd)) Q E s := by
  rw [lawCl_is, e]
  unfold lawEnv
  rw [lawCl_is, e2]
  exact h
theorem exec_lawI {M : Model} {E : Value → Shared → Prop} {s : Shared} {dp un k : Nat} {gd : Option (List Code)} {fa L : Addr} {cd : Value} {outer : List Env} {a : Expr} {c d : List Stmt} {p : Pos} {sk : ScopeKind} {nms : List (Str × NameKind)} {ig ic : Bool} {mr : List (Str × Const)} {Q : Flow → Shared → Prop} (e : lawStmt k = .If a c d p) (e2 : lawSc = ⟨sk, nms, ig, ic, mr⟩)
    (h : wpAny M (ktrTop dp un gd (Str.ofString "law") ⟨sk, nms, ig, ic, mr⟩ L fa cd (lawCells L) outer) (exec (.If a c d p) (envX (Str.ofString "law") ⟨sk, nms, ig, ic, mr⟩ L fa cd (lawCells L))) Q E s) :
    wpAny M (ktrTop dp un gd (Str.ofString "law") lawSc L fa cd (lawCl L) outer) (exec (lawStmt k) (lawEnv L fa cd)) Q E s := by
  rw [lawCl_is, e]
  unfold lawEnv
  rw [lawCl_is, e2]
  exact h
theorem exec_lawR {M : Model} {E : Value → Shared → Prop} {s : Shared} {dp un k : Nat} {gd : Option (List Code)} {fa L : Addr} {cd : Value} {outer : List Env} {a : Option Expr} {p : Pos} {sk : ScopeKind} {nms : List (Str × NameKind)} {ig ic : Bool} {mr : List (Str × Const)} {Q : Flow → Shared → Prop} (e : lawStmt k = .Return a p) (e2 : lawSc = ⟨sk, nms, ig, ic, mr⟩)
    (h : wpAny M (ktrTop dp un gd (Str.ofString "law") ⟨sk, nms, ig, ic, mr⟩ L fa cd (lawCells L) outer) (exec (.Return a p) (envX (Str.ofString "law") ⟨sk, nms, ig, ic, mr⟩ L fa cd (lawCells L))) Q E s) :
    wpAny M (ktrTop dp un gd (Str.ofString "law") lawSc L fa cd (lawCl L) outer) (exec (lawStmt k) (lawEnv L fa cd)) Q E s := by
  rw [lawCl_is, e]
  unfold lawEnv
  rw [lawCl_is, e2]
  exact h
end Mine
end

section
open PySem PySem.W PyProof.Rows
namespace Mine
theorem sec_EN {M : Model} {A : Around} {E : Value → Shared → Prop} {s : Shared} {env : Env} {p : Pos} {Q : Flow → Shared → Prop} (h : Q .next s) : wpAny M A (exec (.Pass p) env) Q E s := by
  w_top off
  k_with_none
  walk1
  exact h
end Mine
end
section
open PySem PySem.W PyProof.Rows PySem.Calls PySem.Spec
set_option maxRecDepth 100000
set_option maxHeartbeats 1000000
namespace Mine
/-- an iterator that another one draws from -/
structure SubIt (prog : Program) (w : World) (it src : Addr) (items : Array Value) (At : Nat → Heap → Prop) : Prop where
  ne : src ≠ it
  frame : ∀ i h h', At i h → (∀ c o, (c = it ∨ c = src) → h.get? c = some o → h'.get? c = some o) → At i h'
  item : ∀ (A : Around) (s : Shared) (E Q : Value → Shared → Prop) i x, At i s.heap → items[i]? = some x → (∀ h', At (i + 1) h' → Heap.SameBut it s.heap h' → Q x { s with heap := h' }) → wpAny (model prog w) A (Builtin.SmallTypes.nextOf (.ref it)) Q E s
  fin : ∀ (A : Around) (s : Shared) (E Q : Value → Shared → Prop) i, A.handled = none → At i s.heap → items[i]? = none → (∀ h' e, Heap.ExtBut it s.heap h' → (∃ o, h'.get? e = some o ∧ o.cls = .type "StopIteration") → E (.ref e) { s with heap := h' }) → wpAny (model prog w) A (Builtin.SmallTypes.nextOf (.ref it)) Q E s
  get : ∀ i h, At i h → ∃ o, h.get? it = some o
  getS : ∀ i h, At i h → ∃ o, h.get? src = some o
section
variable {prog : Program} {w : World} {A : Around} {E : Value → Shared → Prop} {s : Shared}
theorem SubIt.list {it l : Addr} {items : Array Value} (hne : l ≠ it) : SubIt prog w it l items (fun i h => h.IsListIter it l i ∧ h.IsList l items) where
  ne := hne
  frame := fun i h h' x k => ⟨x.1.at fun o e => k _ o (.inl rfl) e, x.2.at fun o e => k _ o (.inr rfl) e⟩
  item := fun A s E Q i x st hx hQ => wpAny_nextOf_list_item st.1 st.2 hx fun h' hit hs => hQ h' ⟨hit, st.2.at fun o e => hs.extBut _ _ hne e⟩ hs
  fin := fun A s E Q i hh st hx hE => wpAny_nextOf_list_end hh st.1 st.2 hx hE
  get := fun i h st => let ⟨o, ho, _⟩ := st.1; ⟨o, ho⟩
  getS := fun i h st => let ⟨o, ho, _⟩ := st.2; ⟨o, ho⟩
theorem next_tup_item {it t : Addr} {i : Nat} {items : Array Value} {x : Value} {Q : Value → Shared → Prop} (hit : s.heap.IsTupleIter it t i) (ht : s.heap.IsTuple t items) (hx : items[i]? = some x)
    (hQ : ∀ h', h'.IsTupleIter it t (i + 1) → Heap.SameBut it s.heap h' → Q x { s with heap := h' }) : wpAny (model prog w) A (Builtin.SmallTypes.nextOf (.ref it)) Q E s := by
  obtain ⟨o, ho, hc, hd⟩ := id hit
  obtain ⟨ot, hot, _, nt, hdt⟩ := ht
  unfold Builtin.SmallTypes.nextOf
  refine wpAny_bind (wpAny_callSpecial?_slot (name := Str.ofString "__next__") hit.typeIs F.slot_tuple_iterator_next
    (wpAny_call_entry F.slot_tuple_iterator_next hit.typeIs F.entry_tuple_iterator_next ?_ (F.args_tuple_iterator_next_1 _)))
  show wpAny _ _ (field (.ref it) 0 >>= _) _ _ s
  refine wpAny_bind (wpAny_field ho hd (x := .ref t) rfl ?_)
  show wpAny _ _ (if (Value.ref t == Value.none) = true then _ else _) _ _ s
  rw [if_neg (show ¬ ((Value.ref t == Value.none) = true) from Bool.false_ne_true)]
  show wpAny _ _ (field (.ref it) 1 >>= _) _ _ s
  refine wpAny_bind (wpAny_field ho hd (x := .int i 0) rfl ?_)
  show wpAny _ _ (seqItems? (.ref t) >>= _) _ _ s
  refine wpAny_bind (wpAny_seqItems hot hdt ?_)
  simp only [Int.toNat_natCast, hx]
  refine wpAny_bind (wpAny_setField ho hd (by simp) (wpAny_pure ⟨x, rfl, wpAny_pure (hQ _ ?_ (Heap.SameBut.update ..))⟩))
  exact ⟨_, Heap.get?_update_self _ ho (Obj.isFreed_of_fields (Obj.data_mapFields hd _)), (Obj.cls_mapFields ..).trans hc, by
    rw [Obj.data_mapFields hd]; simp [rawInt]⟩
theorem next_tup_end {it t : Addr} {i : Nat} {items : Array Value} {Q : Value → Shared → Prop} (hh : A.handled = none) (hit : s.heap.IsTupleIter it t i) (ht : s.heap.IsTuple t items) (hx : items[i]? = none)
    (hE : ∀ h' e, Heap.ExtBut it s.heap h' → (∃ o, h'.get? e = some o ∧ o.cls = .type "StopIteration") → E (.ref e) { s with heap := h' }) : wpAny (model prog w) A (Builtin.SmallTypes.nextOf (.ref it)) Q E s := by
  obtain ⟨o, ho, hc, hd⟩ := id hit
  obtain ⟨ot, hot, _, nt, hdt⟩ := ht
  unfold Builtin.SmallTypes.nextOf
  refine wpAny_bind (wpAny_callSpecial?_slot (name := Str.ofString "__next__") hit.typeIs F.slot_tuple_iterator_next
    (wpAny_call_entry F.slot_tuple_iterator_next hit.typeIs F.entry_tuple_iterator_next ?_ (F.args_tuple_iterator_next_1 _)))
  show wpAny _ _ (field (.ref it) 0 >>= _) _ _ s
  refine wpAny_bind (wpAny_field ho hd (x := .ref t) rfl ?_)
  show wpAny _ _ (if (Value.ref t == Value.none) = true then _ else _) _ _ s
  rw [if_neg (show ¬ ((Value.ref t == Value.none) = true) from Bool.false_ne_true)]
  show wpAny _ _ (field (.ref it) 1 >>= _) _ _ s
  refine wpAny_bind (wpAny_field ho hd (x := .int i 0) rfl ?_)
  show wpAny _ _ (seqItems? (.ref t) >>= _) _ _ s
  refine wpAny_bind (wpAny_seqItems hot hdt ?_)
  simp only [Int.toNat_natCast, hx]
  refine wpAny_bind (wpAny_rule (wpAny_bind (wpAny_setField ho hd (by simp) ?_)))
  show wpAny _ _ (newExc (.type "StopIteration") [] >>= _) _ _ _
  refine wpAny_bind ?_
  simp only [newExc, newTuple]
  refine wpAny_bind (wpAny_newObj_type ?_ (by size_fits))
  refine wpAny_bind (m := firstArgMember _ _) (wpAny_of_eq (a := Value.none) (by first | rfl | (simp only [firstArgMember]; rfl)) ?_)
  refine wpAny_newObj_type ?_ (by size_fits)
  simp only [raiseNew]
  refine wpAny_bind (wpAny_handled ?_)
  first | rw [show A.in1.handled = none from hh] | rw [hh]
  refine wpAny_bind (wpAny_pure (wpAny_throw ?_))
  exact hE _ _ (((Heap.SameBut.update ..).extBut.push _).push _) ⟨_, Heap.get?_push_size _ rfl, rfl⟩
theorem SubIt.tup {it t : Addr} {items : Array Value} (hne : t ≠ it) : SubIt prog w it t items (fun i h => h.IsTupleIter it t i ∧ h.IsTuple t items) where
  ne := hne
  frame := fun i h h' x k => ⟨x.1.at fun o e => k _ o (.inl rfl) e, x.2.at fun o e => k _ o (.inr rfl) e⟩
  item := fun A s E Q i x st hx hQ => next_tup_item st.1 st.2 hx fun h' hit hs => hQ h' ⟨hit, st.2.at fun o e => hs.extBut _ _ hne e⟩ hs
  fin := fun A s E Q i hh st hx hE => next_tup_end hh st.1 st.2 hx hE
  get := fun i h st => let ⟨o, ho, _⟩ := st.1; ⟨o, ho⟩
  getS := fun i h st => let ⟨o, ho, _⟩ := st.2; ⟨o, ho⟩
end
end Mine
end

section
open PySem PySem.W PyProof.Rows
namespace Mine
theorem sec_EO {M : Model} {A : Around} {E : Value → Shared → Prop} {s : Shared} {env : Env} {p : Pos} {Q : Flow → Shared → Prop} (h : Q .next s) : wpAny M A (exec (.Pass p) env) Q E s := by
  w_top off
  k_with_none
  walk1
  exact h
end Mine
end
section
open PySem PySem.W PyProof.Rows PySem.Calls PySem.Spec
set_option maxRecDepth 100000
set_option maxHeartbeats 1000000
namespace Mine
open PySem.AutoSeq1 (wpAny_loadPart')
theorem meets_enum_tup (l : Addr) (items : Array Value) (n : Nat) (dct : Option Addr) (sl : Array (Option Value)) :
    Meets (Builtin.«enumerate.__new__» ⟨[.type "enumerate", .ref l], []⟩) (fun _ R s => s.heap.get? l = some { cls := .type "tuple", dict := dct, data := .seq items n, slots := sl } ∧
      R (.ok (.ret (.ref (s.heap.push { cls := .type "tuple_iterator", data := .fields #[.ref l, .int 0 0] }).objs.size)))
        { s with heap := (s.heap.push { cls := .type "tuple_iterator", data := .fields #[.ref l, .int 0 0] }).push { cls := .type "enumerate", data := .fields #[.none, .bool false, .ref s.heap.objs.size, rawInt 0, .none, .none] } }) :=
  .of_wp fun prog w A R s h => by
    obtain ⟨hp, g, d, tk, os⟩ := s; obtain ⟨hl, h⟩ := h
    have hsub := sub_enumerate
    have hL : Heap.IsTuple (Shared.heap ⟨hp, g, d, tk, os⟩) l items := ⟨_, hl, rfl, n, rfl⟩
    wp_walk using wpAny_loadPart' hl
    refine wpAny_stack_any fun st => wpAny_pure ?_
    split
    · rename_i c _ _ _ _ _
      cases (c == Value.type "enumerate")
      · wp_walk using wpAny_loadPart' hl, wpAny_pyIter_tuple hL
        exact ⟨_, rfl, h⟩
      · wp_walk using wpAny_loadPart' hl, wpAny_pyIter_tuple hL
        exact ⟨_, rfl, h⟩
    · wp_walk using wpAny_loadPart' hl, wpAny_pyIter_tuple hL
      exact ⟨_, rfl, h⟩
section
variable {prog : Program} {w : World} {A : Around} {E : Value → Shared → Prop} {s : Shared}
theorem call_enum_tup {l : Addr} {items : Array Value} {Q : Value → Shared → Prop} (hL : s.heap.IsTuple l items)
    (h : ∀ h', IsEnum h' (s.heap.objs.size + 1) s.heap.objs.size 0 .none → h'.IsTupleIter s.heap.objs.size l 0 → h'.objs.size = s.heap.objs.size + 2 →
      (∀ b o, s.heap.get? b = some o → h'.get? b = some o) → Q (.ref (s.heap.objs.size + 1)) { s with heap := h' }) :
    wpAny (model prog w) A (call (.type "enumerate") [.ref l]) Q E s := by
  obtain ⟨⟨c, dct, dt, sl⟩, hl, hc, n, hd⟩ := hL
  replace hc : c = .type "tuple" := hc
  replace hd : dt = .seq items n := hd
  subst hc hd
  refine callType_new F.called_enumerate (by decide) (F.typeCall_enumerate_1 _) (F.newCall_enumerate_1 _) (fun obj => F.args_object_init_2 obj _) F.entry_enumerate_new
    (meets_enum_tup l items n dct sl) ⟨hl, ?_⟩
  have hz : (s.heap.push { cls := .type "tuple_iterator", data := .fields #[.ref l, .int 0 0] }).objs.size = s.heap.objs.size + 1 := Heap.size_push ..
  show _ ∧ _
  rw [hz]
  have he : IsEnum ((s.heap.push { cls := .type "tuple_iterator", data := .fields #[.ref l, .int 0 0] }).push
      { cls := .type "enumerate", data := .fields #[.none, .bool false, .ref s.heap.objs.size, rawInt 0, .none, .none] }) (s.heap.objs.size + 1) s.heap.objs.size 0 .none := by
    have := Heap.get?_push_size (s.heap.push { cls := .type "tuple_iterator", data := .fields #[.ref l, .int 0 0] })
      (o := { cls := .type "enumerate", data := .fields #[.none, .bool false, .ref s.heap.objs.size, rawInt 0, .none, .none] }) rfl
    rw [hz] at this; exact this
  refine ⟨⟨_, he, rfl⟩, h _ he ⟨_, Heap.get?_push_of_some _ (Heap.get?_push_size _ rfl), rfl, rfl⟩ (by rw [Heap.size_push, hz]) fun b o y => Heap.get?_push_of_some _ (Heap.get?_push_of_some _ y)⟩
theorem SubIt.but {it src : Addr} {items : Array Value} {At : Nat → Heap → Prop} (S : SubIt prog w it src items At) {i : Nat} {b : Addr} {h h' : Heap} (x : At i h) (hs : Heap.ExtBut b h h') (h1 : it ≠ b) (h2 : src ≠ b) : At i h' :=
  S.frame i h h' x fun c o hc e => by
    rcases hc with rfl | rfl
    · exact hs _ _ h1 e
    · exact hs _ _ h2 e
theorem enum_next {e it src : Addr} {i : Nat} {items : Array Value} {At : Nat → Heap → Prop} (S : SubIt prog w it src items At) {x old : Value} {Q : Value → Shared → Prop}
    (he : IsEnum s.heap e it i old) (hit : At i s.heap) (hx : items[i]? = some x) (hne : e ≠ it) (hse : src ≠ e)
    (hQ : ∀ h', IsEnumOut h' e it ((i : Int) + 1) x s.heap.objs.size → At (i + 1) h' →
      h'.get? s.heap.objs.size = some { cls := .type "tuple", data := .seq #[.int i s.toks, x] } → h'.objs.size = s.heap.objs.size + 1 →
      (∀ b o, b ≠ e → b ≠ it → s.heap.get? b = some o → h'.get? b = some o) → Q (.ref s.heap.objs.size) { s with heap := h', toks := s.toks + 1 }) :
    wpAny (model prog w) A (Builtin.«enumerate.__next__» ⟨[.ref e], []⟩) (fun fin s' => ∃ v, fin = .done (.ret v) ∧ Q v s') E s := by
  obtain ⟨hp, g, d, tk, os⟩ := s
  show wpAny _ _ (field (.ref e) 2 >>= _) _ _ _
  refine wpAny_bind (wpAny_field he rfl (x := .ref it) rfl ?_)
  refine wpAny_bind (S.item _ _ _ _ _ _ hit hx fun h₁ hit₁ hs₁ => ?_)
  replace hs₁ : Heap.SameBut it hp h₁ := hs₁
  have he₁ : IsEnum h₁ e it i old := (hs₁.2 e hne).trans he
  show wpAny _ _ (field (.ref e) 3 >>= _) _ _ ⟨h₁, g, d, tk, os⟩
  refine wpAny_bind (wpAny_field he₁ rfl (x := rawInt i) rfl ?_)
  show wpAny _ _ (field (.ref e) 4 >>= _) _ _ ⟨h₁, g, d, tk, os⟩
  refine wpAny_bind (wpAny_field he₁ rfl (x := .none) rfl ?_)
  show wpAny _ _ (mkInt i >>= _) _ _ ⟨h₁, g, d, tk, os⟩
  refine wpAny_bind (wpAny_mkInt ?_)
  show wpAny _ _ (setField (.ref e) 3 (rawInt ((i : Int) + 1)) >>= _) _ _ ⟨h₁, g, d, tk + 1, os⟩
  refine wpAny_bind (wpAny_setField_rec he₁ (by simp) fun h₂ he₂ hs₂ => ?_)
  replace hs₂ : Heap.SameBut e h₁ h₂ := hs₂
  replace he₂ : IsEnum h₂ e it ((i : Int) + 1) old := he₂
  show wpAny _ _ (setField (.ref e) 4 .none >>= _) _ _ ⟨h₂, g, d, tk + 1, os⟩
  refine wpAny_bind (wpAny_setField_rec he₂ (by simp) fun h₃ he₃ hs₃ => ?_)
  replace hs₃ : Heap.SameBut e h₂ h₃ := hs₃
  replace he₃ : IsEnum h₃ e it ((i : Int) + 1) old := he₃
  show wpAny _ _ (newTuple [.int i tk, x] >>= _) _ _ ⟨h₃, g, d, tk + 1, os⟩
  refine wpAny_bind (wpAny_newTuple ?_)
  have he₄ : IsEnum (h₃.push { cls := .type "tuple", data := .seq #[.int i tk, x] }) e it ((i : Int) + 1) old := Heap.get?_push_of_some _ he₃
  have hit₃ : At (i + 1) h₃ := S.but (S.but hit₁ hs₂.extBut (Ne.symm hne) hse) hs₃.extBut (Ne.symm hne) hse
  have hit₄ : At (i + 1) (h₃.push { cls := .type "tuple", data := .seq #[.int i tk, x] }) := S.frame _ _ _ hit₃ fun c o _ e => Heap.get?_push_of_some _ e
  have hsz : h₃.objs.size = hp.objs.size := by rw [hs₃.1, hs₂.1, hs₁.1]
  have hk₃ : ∀ b o, b ≠ e → b ≠ it → hp.get? b = some o → (h₃.push { cls := .type "tuple", data := .seq #[.int i tk, x] }).get? b = some o := fun b o hbe hbi hb =>
    Heap.get?_push_of_some _ (hs₃.extBut b o hbe (hs₂.extBut b o hbe (hs₁.extBut b o hbi hb)))
  generalize hh₄ : h₃.push { cls := .type "tuple", data := .seq #[.int i tk, x] } = h₄ at he₄ hit₄ hk₃
  have hel : e < hp.objs.size := Heap.lt_size he
  have ht₄ : h₄.get? hp.objs.size = some { cls := .type "tuple", data := .seq #[.int i tk, x] } := by rw [← hh₄, ← hsz]; exact Heap.get?_push_size _ rfl
  have hz₄ : h₄.objs.size = hp.objs.size + 1 := by rw [← hh₄, Heap.size_push, hsz]
  show wpAny _ _ (Builtin.SmallTypes.ownedTupleIsFree (.ref e) >>= _) _ _ ⟨h₄, g, d, tk + 1, os⟩
  rw [hsz]
  clear hh₄ he₃ hs₃ he₂ hs₂ he₁ hs₁ hit₁ hit₃ hsz h₃ h₂ h₁
  refine wpAny_bind ?_
  · unfold Builtin.SmallTypes.ownedTupleIsFree
    refine wpAny_bind (wpAny_field he₄ rfl (x := .none) rfl (wpAny_pure ?_))
    simp only [if_true]
    refine wpAny_bind (wpAny_rule ?_)
    refine wpAny_bind (wpAny_field he₄ rfl (x := old) rfl ?_)
    refine wpAny_bind (wpAny_setField_rec he₄ (by simp) fun h₅ he₅ hs₅ => ?_)
    replace hs₅ : Heap.SameBut e h₄ h₅ := hs₅
    replace he₅ : IsEnum h₅ e it ((i : Int) + 1) x := he₅
    show wpAny _ _ (Builtin.SmallTypes.ownedTupleHandOut (.ref e) (.ref hp.objs.size) >>= _) _ _ ⟨h₅, g, d, tk + 1, os⟩
    refine wpAny_bind ?_
    · unfold Builtin.SmallTypes.ownedTupleHandOut
      refine wpAny_bind (wpAny_setField_rec he₅ (by simp) fun h₆ he₆ hs₆ => ?_)
      replace hs₆ : Heap.SameBut e h₅ h₆ := hs₆
      replace he₆ : IsEnumOut h₆ e it ((i : Int) + 1) x hp.objs.size := he₆
      refine wpAny_setField_rec he₆ (by simp) fun h₇ he₇ hs₇ => ?_
      replace hs₇ : Heap.SameBut e h₆ h₇ := hs₇
      replace he₇ : IsEnumOut h₇ e it ((i : Int) + 1) x hp.objs.size := he₇
      refine wpAny_bind (wpAny_letGo (wpAny_pure ⟨_, rfl, hQ h₇ he₇ ?_ ?_ ?_ ?_⟩))
      · exact S.but (S.but (S.but hit₄ hs₅.extBut (Ne.symm hne) hse) hs₆.extBut (Ne.symm hne) hse) hs₇.extBut (Ne.symm hne) hse
      · exact hs₇.extBut _ _ (Nat.ne_of_gt hel) (hs₆.extBut _ _ (Nat.ne_of_gt hel) (hs₅.extBut _ _ (Nat.ne_of_gt hel) ht₄))
      · rw [hs₇.1, hs₆.1, hs₅.1, hz₄]
      · exact fun b o hbe hbi hb => hs₇.extBut b o hbe (hs₆.extBut b o hbe (hs₅.extBut b o hbe (hk₃ b o hbe hbi hb)))
/-- the turns of enumerate -/
theorem KTurns.enum (hh : A.handled = none) {e it src : Addr} {items : Array Value} {At : Nat → Heap → Prop} (S : SubIt prog w it src items At) (hne : e ≠ it) (hse : src ≠ e) {elts : List Expr} {k : Nat} {pos : Pos} :
    KTurns prog w A (.Tuple elts k pos) e [e, it, src] [e, it] items.size (fun i v h => ∃ T t x, v = .ref T ∧ items[i]? = some x ∧ h.IsTuple T #[.int (i : Int) t, x])
      (fun i v h => ∃ T t x, v = .ref T ∧ items[i]? = some x ∧ h.IsTuple T #[.int (i : Int) t, x] ∧ IsEnumOut h e it ((i : Int) + 1) x T ∧ At (i + 1) h ∧ T ≠ e ∧ T ≠ it)
      (fun i h => (∃ old, IsEnum h e it i old) ∧ At i h) where
  sub := fun b hb => by simp at hb ⊢; rcases hb with h | h <;> simp [h]
  frame := fun i h h' st hk => by
    obtain ⟨⟨old, he⟩, hit⟩ := st
    exact ⟨⟨old, hk e (by simp) _ he⟩, S.frame _ _ _ hit fun c o hc q => hk c (by rcases hc with rfl | rfl <;> simp) o q⟩
  item := fun i s Q E hi st hQ => by
    obtain ⟨⟨old, he⟩, hit⟩ := st
    have hx : items[i]? = some items[i] := Array.getElem?_eq_getElem hi
    have hT : s.TypeIs (.ref e) "enumerate" := ⟨_, he, rfl⟩
    have helt : e < s.heap.objs.size := Heap.lt_size he
    have hilt : it < s.heap.objs.size := by obtain ⟨_, x⟩ := S.get _ _ hit; exact Heap.lt_size x
    unfold pyNext
    refine wpAny_bind (wpAny_attempt (wpAny_callSpecial?_slot (name := Str.ofString "__next__") hT F.slot_enumerate_next
      (wpAny_call_entry F.slot_enumerate_next hT F.entry_enumerate_next
        (enum_next S he hit hx hne hse fun h' ho hit' hT hsz hk => wpAny_pure (hQ (.ref s.heap.objs.size) h' (s.toks + 1) ⟨_, _, _, rfl, hx, ⟨_, hT, rfl, _, rfl⟩, ho, hit', Nat.ne_of_gt helt, Nat.ne_of_gt hilt⟩
          fun b o hb x => hk b o (fun e' => hb (by simp [e'])) (fun e' => hb (by simp [e'])) x)) (F.args_enumerate_next_1 _))))
  go := fun i v s Q E hm hQ => by
    obtain ⟨T, t, x, rfl, hx, hT, ho, hit, hTe, hTi⟩ := hm
    refine wpAny_letOwnedTupleGo_enum ho fun h' he' hs' => hQ h' ⟨T, t, x, rfl, hx, hT.at fun o q => hs'.extBut _ _ hTe q⟩ ⟨⟨x, by simpa using he'⟩, S.but hit hs'.extBut (Ne.symm hne) hse⟩ fun b o hb y => hs'.extBut _ _ (fun e' => hb (by simp [e'])) y
  done := fun s Q E st hQ => by
    obtain ⟨⟨old, he⟩, hit⟩ := st
    have hT : s.TypeIs (.ref e) "enumerate" := ⟨_, he, rfl⟩
    unfold pyNext
    refine wpAny_bind (wpAny_attempt (wpAny_callSpecial?_slot (name := Str.ofString "__next__") hT F.slot_enumerate_next
      (wpAny_call_entry F.slot_enumerate_next hT F.entry_enumerate_next ?_ (F.args_enumerate_next_1 _))))
    show wpAny _ _ (field (.ref e) 2 >>= _) _ _ _
    refine wpAny_bind (wpAny_field he rfl (x := .ref it) rfl ?_)
    refine wpAny_bind (S.fin _ _ _ _ _ (by simpa using hh) hit (Array.getElem?_eq_none (Nat.le_refl _)) fun h' x he' hx' => ?_)
    obtain ⟨o, ho, hc⟩ := hx'
    refine wpAny_bind (wpAny_isInstance (T := "StopIteration") (b := true) ⟨o, ho, hc⟩ isSubtype_stop ?_)
    exact wpAny_pure (hQ _ _ fun b o hb y => he' b o (fun e' => hb (by simp [e'])) y)
end
end Mine
end

section
open PySem PySem.W PyProof.Rows
namespace Mine
theorem sec_CK {M : Model} {A : Around} {E : Value → Shared → Prop} {s : Shared} {env : Env} {p : Pos} {Q : Flow → Shared → Prop} (h : Q .next s) : wpAny M A (exec (.Pass p) env) Q E s := by
  w_top off
  k_with_none
  walk1
  exact h
end Mine
end
section
open PySem PySem.W PyProof.Rows PySem.Calls PySem.Spec
set_option maxRecDepth 100000
set_option maxHeartbeats 1000000
namespace Mine
open LCg LCp
section
variable {prog : Program} {w : World} {A : Around} {E : Value → Shared → Prop} {s : Shared} {h₀ : Heap} {L : Addr} {m : Str → Option Value} {env : Env}
/-- a comprehension over pairs that an iterator makes; its element changes nothing of the ledger -/
inductive CompK (prog : Program) (w : World) (A : Around) (h₀ : Heap) (L : Addr) (m : Str → Option Value) (env : Env) (elt : Expr) (x x₂ : Str) (px px₂ tp : Pos) (tk : Nat) (scope : Scope) (cl : List (Str × Addr)) (K : List Value → Led → Shared → Prop) (it : Value) (s₂ : Shared) : Prop
  | intro (I : Addr) (fp wr : List Addr) (n : Nat) (P Md : Nat → Value → Heap → Prop) (St : Nat → Heap → Prop) (led : Led) (PV : Nat → Value → Value → Prop) (R : Nat → List Value → Prop) (h0 : it = .ref I) (h1 : KTurns prog w A (.Tuple [.Name x px, .Name x₂ px₂] tk tp) I fp wr n P Md St) (h2 : n ≤ sizeLine) (h3 : St 0 s₂.heap) (h4 : (∀ i h, St i h → ∀ b ∈ fp, ∃ o, h.get? b = some o)) (h5 : (∀ b ∈ fp, b < s₂.heap.objs.size)) (h6 : L ∉ fp) (h7 : (∀ b ∈ wr, h₀.get? b = none)) (h8 : (∀ i v h, P i v h → ∃ T v₁ v₂, v = .ref T ∧ h.IsTuple T #[v₁, v₂] ∧ PV i v₁ v₂)) (h9 : A.handled = none) (h10 : Fr h₀ L s₂.heap m) (h11 : News h₀ L s₂.heap led) (h12 : (∀ p ∈ led, p.1 ∉ wr)) (h13 : (∀ (s' : Shared) (Q' : Value → Shared → Prop) E', St 0 s'.heap → Q' (.ref I) s' → wpAny (model prog w) A (pyIter (.ref I)) Q' E' s')) (h14 : R 0 []) (h15 : (∀ i v₁ v₂ ys C oC D m₂ own h tk (E' : Value → Shared → Prop), i < n → PV i v₁ v₂ → R i ys → NsObj oC m₂ → m₂ x = some v₁ → m₂ x₂ = some v₂ → Fr h₀ L h m → News h₀ L h ((C, oC) :: (D, lst ys) :: (led ++ own)) → wpAny (model prog w) A (eval elt (compEnvC scope cl C env)) (fun y s₄ => ∃ h' tk', s₄ = { s₂ with heap := h', toks := tk' } ∧ Fr h₀ L h' m ∧ News h₀ L h' ((C, oC) :: (D, lst ys) :: (led ++ own)) ∧ R (i + 1) (ys ++ [y])) E' { s₂ with heap := h, toks := tk })) (h16 : ∀ ys, R n ys → K ys led s₂) : CompK prog w A h₀ L m env elt x x₂ px px₂ tp tk scope cl K it s₂
theorem block_K {elt iter : Expr} {x x₂ : Str} {px px₂ tp : Pos} {tk} {scope : Scope} {cl : List (Str × Addr)} {pos : Pos} {K : List Value → Led → Shared → Prop} {RR : Value → Addr → Result → Shared → Prop} {it : Value} {s₂ : Shared}
    (hcell : ∀ y ∈ scope.names, y.2 ≠ .cell) (hkind : scope.kind = .function)
    (hx : scope.names.lookup x = some .local) (hx₂ : scope.names.lookup x₂ = some .local) (hxx : x ≠ x₂)
    (h₂ : CompK prog w A h₀ L m env elt x x₂ px px₂ tp tk scope cl K it s₂)
    (hRR : ∀ D C h tk m' ys led, Fr h₀ L h m → News h₀ L h ((D, lst ys) :: led) → (∀ p ∈ led, p.1 < D) → h.Ns C m' → h₀.get? C = none → C ≠ L → C ≠ D → (∀ p ∈ led, p.1 ≠ C) → K ys led s₂ → RR (.ref D) C (.ok .next) { s₂ with heap := h, toks := tk }) :
    wpAny (model prog w) A (newList []) (fun acc s₃ => wpAny (model prog w) A (newFunctionEnv scope env.globals cl [] env.qual none .none (some env)) (fun cenv s₄ =>
      codeAny (model prog w) A (.compStart (.ListComp elt [⟨.Tuple [.Name x px, .Name x₂ px₂] tk tp, iter, [], 0⟩] scope pos) 0 it acc { cenv with scope := relabel scope env }) (RR acc cenv.locals) s₄) E s₃) E s₂ := by
  obtain ⟨I, fp, wr, n, P, Md, St, led, PV, R, rfl, W, hsz, hst, hex, hfp, hLf, hwr, hPV, hh, F, N, hoff, hself, h0, turn, fin⟩ := h₂
  refine wpAny_newObj_type (wpAny_newFunctionEnv hcell (by intro y hy; simp at hy) (fun h₁ hns₁ hsb₁ => ?_) hkind)
  dsimp only at hns₁ hsb₁ ⊢
  generalize hH2 : s₂.heap.push { cls := .type "list", dict := none, data := .seq ([] : List Value).toArray } = H2 at hns₁ hsb₁ ⊢
  have hC : H2.objs.size = s₂.heap.objs.size + 1 := by rw [← hH2, Heap.size_push]
  have hDC : s₂.heap.objs.size ≠ H2.objs.size := by rw [hC]; exact Nat.ne_of_lt (Nat.lt_succ_self _)
  have below : ∀ b, b < s₂.heap.objs.size → b ≠ H2.objs.size ∧ b ≠ s₂.heap.objs.size := fun b hb => ⟨by rw [hC]; exact Nat.ne_of_lt (Nat.lt_succ_of_lt hb), Nat.ne_of_lt hb⟩
  have hDf : s₂.heap.objs.size ∉ fp := fun hm => Nat.lt_irrefl _ (hfp _ hm)
  have hCf : H2.objs.size ∉ fp := fun hm => by have := hfp _ hm; rw [hC] at this; exact Nat.lt_irrefl _ (Nat.lt_of_succ_lt this)
  have old : ∀ b o, s₂.heap.get? b = some o → h₁.get? b = some o := fun b o e => hsb₁.extBut b o (below b (Heap.lt_size e)).1 (Heap.get?_push_of_some _ (hH2 ▸ Heap.get?_push_of_some _ e))
  have hacc : h₁.get? s₂.heap.objs.size = some (lst []) := hsb₁.extBut _ _ hDC (Heap.get?_push_of_some _ (hH2 ▸ Heap.get?_push_size _ rfl))
  have hst₁ : St 0 h₁ := W.frame _ _ _ hst fun b hb o e => old b o e
  have fresh₀ : ∀ a, s₂.heap.objs.size ≤ a → h₀.get? a = none := fun a ha => by
    cases e : h₀.get? a with
    | none => rfl
    | some o' => exact absurd (Heap.lt_size (F.keep a o' e)) (Nat.not_lt.mpr ha)
  have hD₀ : h₀.get? s₂.heap.objs.size = none := fresh₀ _ (Nat.le_refl _)
  have hC₀ : h₀.get? H2.objs.size = none := fresh₀ _ (by rw [hC]; exact Nat.le_succ _)
  have hLlt : L < s₂.heap.objs.size := F.ns.lt
  have hDL : s₂.heap.objs.size ≠ L := Ne.symm (below L hLlt).2
  have hCL : H2.objs.size ≠ L := Ne.symm (below L hLlt).1
  have hLw : L ∉ wr := fun h => hLf (W.sub _ h)
  have oldw : ∀ b o, h₀.get? b = some o → b ∉ wr := fun b o e hb => by rw [hwr b hb] at e; cases e
  have hDw : s₂.heap.objs.size ∉ wr := fun h => hDf (W.sub _ h)
  have hCw : H2.objs.size ∉ wr := fun h => hCf (W.sub _ h)
  have ledlt : ∀ p ∈ led, p.1 < s₂.heap.objs.size := fun p hp => Heap.lt_size (N p hp).1
  have loop : ∀ s₃ : Shared, s₃ = { s₂ with heap := h₁, toks := s₂.toks + ([] : List (Str × Value)).length } →
      codeAny (model prog w) A (.compLoop (.ListComp elt [⟨.Tuple [.Name x px, .Name x₂ px₂] tk tp, iter, [], 0⟩] scope pos) 0 (.ref I) (.ref s₂.heap.objs.size) (compEnvC scope cl H2.objs.size env))
        (RR (.ref s₂.heap.objs.size) H2.objs.size) s₃ := by
    rintro s₃ rfl
    refine codeAny_compLoop_pair
      (fun k s' => ∃ h' tk i ys m', s' = { s₂ with heap := h', toks := tk } ∧ i ≤ n ∧ k = n + 1 - i ∧ ys.length = i ∧ St i h' ∧ Fr h₀ L h' m ∧ h'.Ns H2.objs.size m' ∧ News h₀ L h' ((s₂.heap.objs.size, lst ys) :: led) ∧ R i ys) ?_ (n + 1)
      ⟨h₁, _, 0, [], _, rfl, Nat.zero_le _, rfl, rfl, hst₁, F.keeps old, hns₁, fun p hp => ?_, h0⟩
    · rintro k s' ⟨h', tk', i, ys, m', rfl, hi, rfl, hyl, hst', F', hn', N', hR⟩
      have move : ∀ h₂ : Heap, (∀ b o, b ∉ wr → h'.get? b = some o → h₂.get? b = some o) → Fr h₀ L h₂ m ∧ h₂.Ns H2.objs.size m' ∧ News h₀ L h₂ ((s₂.heap.objs.size, lst ys) :: led) := fun h₂ hk =>
        ⟨⟨F'.ns.at' fun o e => hk _ o hLw e, fun b o e => hk b o (oldw b o e) (F'.keep b o e), F'.above⟩, hn'.at' fun o e => hk _ o hCw e, fun p hp => by
          refine ⟨hk _ _ ?_ (N' p hp).1, (N' p hp).2⟩
          rcases List.mem_cons.mp hp with rfl | hp
          · exact hDw
          · exact hoff p hp⟩
      by_cases hlt : i < n
      · refine W.item i _ _ _ hlt hst' fun v h₂ tk₂ hMd hk₂ => ?_
        refine W.go i v _ _ _ hMd fun h₃ hPv hst₃ hk₃ => ?_
        obtain ⟨F₃, hn₃, N₃⟩ := move h₃ fun b o hb e => hk₃ b o hb (hk₂ b o hb e)
        obtain ⟨T, v₁, v₂, rfl, hT, hpv⟩ := hPV _ _ _ hPv
        refine kcp_assign (m := m') hh hT (lookup_relabel_local hx) (lookup_relabel_local hx₂) (by simp [compEnvC, relabel, hkind]) hn₃ fun h₄ tk₄ hn₄ hk₄ => ?_
        replace hk₄ : ∀ c o, c ≠ H2.objs.size → h₃.get? c = some o → h₄.get? c = some o := hk₄
        replace hn₄ : h₄.Ns H2.objs.size _ := hn₄
        have hst₄ : St (i + 1) h₄ := W.frame _ _ _ hst₃ fun b hb o e => hk₄ b o (fun q => hCf (by rw [← q]; exact hb)) e
        obtain ⟨oC, heC, hoC⟩ := ns_obj hn₄
        have F₄ : Fr h₀ L h₄ m := ⟨F₃.ns.at' fun o e => hk₄ _ o (Ne.symm hCL) e, fun b o e => hk₄ b o (fun q => by rw [q, hC₀] at e; cases e) (F₃.keep b o e), F₃.above⟩
        have N₄ : News h₀ L h₄ ((s₂.heap.objs.size, lst ys) :: led) := fun p hp => by
          refine ⟨hk₄ _ _ ?_ (N₃ p hp).1, (N₃ p hp).2⟩
          rcases List.mem_cons.mp hp with rfl | hp
          · exact hDC
          · exact (below _ (ledlt p hp)).1
        have Nown : News h₀ L h₄ (PyProof.Rows.ownOf h₀ fp h₄) := news_ownOf hLf
        have N₅ : News h₀ L h₄ ((H2.objs.size, oC) :: (s₂.heap.objs.size, lst ys) :: (led ++ PyProof.Rows.ownOf h₀ fp h₄)) := fun p hp => by
          rcases List.mem_cons.mp hp with rfl | hp
          · exact ⟨heC, hCL, hC₀⟩
          · rcases List.mem_cons.mp hp with rfl | hp
            · exact N₄ _ (.head _)
            · rcases List.mem_append.mp hp with hp | hp
              · exact N₄ _ (.tail _ hp)
              · exact Nown _ hp
        refine wpAny_mono (turn i v₁ v₂ ys H2.objs.size oC s₂.heap.objs.size _ (PyProof.Rows.ownOf h₀ fp h₄) h₄ tk₄ _ hlt hpv hR hoC (by simp [hxx]) (by simp) F₄ N₅) (fun y s₄ h₄' => ?_) fun _ _ e => e
        obtain ⟨h₅, tk₅, rfl, F₅, N₆, hR'⟩ := h₄'
        have zC := (N₆ (H2.objs.size, oC) (.head _)).1
        have zD := (N₆ (s₂.heap.objs.size, lst ys) (.tail _ (.head _))).1
        have hst₅ : St (i + 1) h₅ := W.frame _ _ _ hst₄ fun b hb o e => by
          cases hn : h₀.get? b with
          | some o₀ =>
            have : o₀ = o := by have q := F₄.keep b o₀ hn; rw [e] at q; exact (Option.some.inj q).symm
            exact this ▸ F₅.keep b o₀ hn
          | none => exact (N₆ _ (.tail _ (.tail _ (List.mem_append_right _ (mem_ownOf hb hn e))))).1
        refine append_at (hsz := by show ys.toArray.size ≤ sizeLine; rw [List.size_toArray, hyl]; exact Nat.le_trans hi hsz) zD fun h₆ hs₆ hD₆ => ?_
        refine ⟨n + 1 - (i + 1), by omega, h₆, tk₅, i + 1, ys ++ [y], _, rfl, hlt, rfl, by rw [List.length_append, List.length_singleton, hyl], W.frame _ _ _ hst₅ fun b hb o e => hs₆.extBut b o (fun q => hDf (q ▸ hb)) e, F₅.change hs₆ hDL hD₀,
          (hoC.ns zC).sameBut hs₆ (Ne.symm hDC), fun p hp => ?_, hR'⟩
        rcases List.mem_cons.mp hp with rfl | hp
        · exact ⟨hD₆.trans (congrArg some (lst_snoc ys y)), hDL, hD₀⟩
        · have z := N₆ p (.tail _ (.tail _ (List.mem_append_left _ hp)))
          exact ⟨hs₆.extBut _ _ (below _ (ledlt p hp)).2 z.1, z.2⟩
      · obtain rfl : i = n := Nat.le_antisymm hi (Nat.not_lt.mp hlt)
        refine W.done _ _ _ hst' fun h₂ tk₂ hk₂ => ?_
        obtain ⟨F₃, hn₃, N₃⟩ := move h₂ hk₂
        exact hRR _ _ h₂ tk₂ _ ys led F₃ N₃ ledlt hn₃ hC₀ hCL (Ne.symm hDC) (fun p hp => (below _ (ledlt p hp)).1) (fin ys hR)
    · rcases List.mem_cons.mp hp with rfl | hp
      · exact ⟨hacc, hDL, hD₀⟩
      · exact ⟨old _ _ (N p hp).1, (N p hp).2⟩
  exact codeAny_compStart_list (loop _ rfl) (hself _ _ _ hst₁ (loop _ rfl))
noncomputable def FinKE (h₀ : Heap) (L : Addr) (m : Str → Option Value) (Q : Value → Shared → Prop) (ys : List Value) (led : Led) (s₂ : Shared) : Prop :=
  ∀ D h tk, Fr h₀ L h m → News h₀ L h ((D, lst ys) :: led) → (∀ p ∈ led, p.1 < D) → Q (.ref D) { s₂ with heap := h, toks := tk }
noncomputable def FinKA (h₀ : Heap) (L : Addr) (m : Str → Option Value) (y : Str) (Q : Flow → Shared → Prop) (ys : List Value) (led : Led) (s₂ : Shared) : Prop :=
  ∀ D h tk, Fr h₀ L h (fun z => if z = y then some (.ref D) else m z) → News h₀ L h ((D, lst ys) :: led) → (∀ p ∈ led, p.1 < D) → Q .next { s₂ with heap := h, toks := tk }
theorem ListComp_K {elt iter : Expr} {x x₂ : Str} {px px₂ tp : Pos} {tk} {scope : Scope} {cl : List (Str × Addr)} {pos : Pos} {Q : Value → Shared → Prop}
    (hclos : closureFor scope env = pure cl) (hcell : ∀ y ∈ scope.names, y.2 ≠ .cell) (hkind : scope.kind = .function)
    (hnames : ∀ y ∈ scope.names, y.2 = .local → scope.names.lookup y.1 = some .local) (hx : scope.names.lookup x = some .local) (hx₂ : scope.names.lookup x₂ = some .local) (hxx : x ≠ x₂)
    (h : wpAny (model prog w) A (eval iter env) (fun xv s₁ => wpAny (model prog w) A (pyIter xv) (fun it s₂ => CompK prog w A h₀ L m env elt x x₂ px px₂ tp tk scope cl (FinKE h₀ L m Q) it s₂) E s₁) E s)
    (hs : ∀ x, foldedSetIterable iter env x = pure x := by intro _; rfl) :
    wpAny (model prog w) A (eval (.ListComp elt [⟨.Tuple [.Name x px, .Name x₂ px₂] tk tp, iter, [], 0⟩] scope pos) env) Q E s := by
  rw [eval_ListComp]
  refine wpAny_comprehension_free (use := none) rfl hs hclos hkind hnames (wpAny_mono h (fun xv s₁ h₁ => wpAny_mono h₁ (fun it s₂ h₂ => ?_) fun _ _ e => e) fun _ _ e => e)
  refine block_K hcell hkind hx hx₂ hxx h₂ ?_
  intro D C h tk m' ys led F' N' hlt hn hC₀ hCL hCD offC fin
  refine ⟨m', hn, fun h'' hs'' => fin D h'' tk (F'.change hs'' hCL hC₀) (fun p hp => ?_) hlt⟩
  refine ⟨hs''.extBut _ _ ?_ (N' p hp).1, (N' p hp).2⟩
  rcases List.mem_cons.mp hp with rfl | hp
  · exact Ne.symm hCD
  · exact offC p hp
theorem Assign_ListComp_K {elt iter : Expr} {x x₂ y : Str} {px px₂ tp py : Pos} {tk} {scope : Scope} {cl : List (Str × Addr)} {pos spos : Pos} {Q : Flow → Shared → Prop} (hLe : env.locals = L)
    (hsw : swapsWith (.ListComp elt [⟨.Tuple [.Name x px, .Name x₂ px₂] tk tp, iter, [], 0⟩] scope pos) (some (.Name y py)) spos.line env = pure true)
    (hclos : closureFor scope env = pure cl) (hcell : ∀ z ∈ scope.names, z.2 ≠ .cell) (hkind : scope.kind = .function)
    (hnames : ∀ z ∈ scope.names, z.2 = .local → scope.names.lookup z.1 = some .local) (hx : scope.names.lookup x = some .local) (hx₂ : scope.names.lookup x₂ = some .local) (hxx : x ≠ x₂)
    (hy : env.kindOf y = some .local) (hp : (env.scope.kind == .class || (env.scope.kind == .module && env.locals != env.globals)) = false)
    (h : wpAny (model prog w) A (eval iter env) (fun xv s₁ => wpAny (model prog w) A (pyIter xv) (fun it s₂ => CompK prog w A h₀ L m env elt x x₂ px px₂ tp tk scope cl (FinKA h₀ L m y Q) it s₂) E s₁) E s)
    (hs : ∀ x, foldedSetIterable iter env x = pure x := by intro _; rfl) :
    wpAny (model prog w) A (exec (.Assign [.Name y py] (.ListComp elt [⟨.Tuple [.Name x px, .Name x₂ px₂] tk tp, iter, [], 0⟩] scope pos) spos) env) Q E s := by
  subst hLe
  rw [exec_Assign_Name_used _ _ _ _ hsw]
  refine wpAny_bind (wpAny_standAt (wpAny_bind ?_))
  show wpAny _ A (do let _ ← comprehension (.ListComp elt [⟨.Tuple [.Name x px, .Name x₂ px₂] tk tp, iter, [], 0⟩] scope pos) scope env _ (newList []) false (eval iter env) (some (assign (.Name y py) env))) _ _ s
  refine wpAny_bind (wpAny_mono (wpAny_comprehension_free (use := some (assign (.Name y py) env)) (Q := fun _ s' => Q .next s') rfl hs hclos hkind hnames
    (wpAny_mono h (fun xv s₁ h₁ => wpAny_mono h₁ (fun it s₂ h₂ => ?_) fun _ _ e => e) fun _ _ e => e)) (fun _ s' hq => wpAny_pure (wpAny_pure hq)) fun _ _ e => e)
  refine block_K hcell hkind hx hx₂ hxx h₂ ?_
  intro D C h' tk m' ys led F' N' hlt hn hC₀ hCL hCD offC fin
  show wpAny _ A (assign (.Name y py) env (.ref D)) _ _ _
  refine wpAny_assign_Name (wpAny_storeName_local hy F'.ns (fun h₂ hn₂ hs₂ => ?_) hp)
  have hL₀ : h₀.get? env.locals = none := Heap.get?_none_of_le F'.above
  have F₂ : Fr h₀ env.locals h₂ (fun z => if z = y then some (.ref D) else m z) := ⟨hn₂, fun b o e => hs₂.extBut b o (fun q => by rw [q, hL₀] at e; cases e) (F'.keep b o e), F'.above⟩
  refine ⟨m', hn.sameBut hs₂ hCL, fun h'' hs'' => fin D h'' _ (F₂.change hs'' hCL hC₀) (fun p hp => ?_) hlt⟩
  have z : h₂.get? p.1 = some p.2 := hs₂.extBut _ _ (N' p hp).2.1 (N' p hp).1
  refine ⟨hs''.extBut _ _ ?_ z, (N' p hp).2⟩
  rcases List.mem_cons.mp hp with rfl | hp
  · exact Ne.symm hCD
  · exact offC p hp
end
end Mine
end

section
open PySem PySem.W PyProof.Rows
namespace Mine
theorem sec_CM {M : Model} {A : Around} {E : Value → Shared → Prop} {s : Shared} {env : Env} {p : Pos} {Q : Flow → Shared → Prop} (h : Q .next s) : wpAny M A (exec (.Pass p) env) Q E s := by
  w_top off
  k_with_none
  walk1
  exact h
end Mine
end
section
open PySem PySem.W PyProof.Rows PySem.Calls PySem.Spec
set_option maxRecDepth 100000
set_option maxHeartbeats 1000000
namespace Mine
open LCg LCp
section
variable {prog : Program} {w : World} {A : Around} {E : Value → Shared → Prop} {s₂ : Shared} {h₀ : Heap} {L : Addr} {m : Str → Option Value} {env : Env}
theorem CompK.enumT {elt : Expr} {x x₂ : Str} {px px₂ tp : Pos} {tk : Nat} {scope : Scope} {cl : List (Str × Addr)} {K : List Value → Led → Shared → Prop} {e it T : Addr} {items : Array Value} {k : Nat} {led : Led} (R : Nat → List Value → Prop)
    (hE : IsEnum s₂.heap e it 0 .none) (hI : s₂.heap.IsTupleIter it T 0) (hT : (T, tupObj items k) ∈ led) (hh : A.handled = none) (F : Fr h₀ L s₂.heap m) (N : News h₀ L s₂.heap led) (hlt : ∀ p ∈ led, p.1 < it) (hie : it < e) (hL : L < it) (hsz : items.size ≤ 1000)
    (h0 : R 0 [])
    (turn : ∀ i v₁ v₂ t ys C oC D m₂ own h tk (E' : Value → Shared → Prop), v₁ = .int (i : Int) t → items[i]? = some v₂ → R i ys → NsObj oC m₂ → m₂ x = some v₁ → m₂ x₂ = some v₂ → Fr h₀ L h m → News h₀ L h ((C, oC) :: (D, lst ys) :: (led ++ own)) →
      wpAny (model prog w) A (eval elt (compEnvC scope cl C env)) (fun y s₄ => ∃ h' tk', s₄ = { s₂ with heap := h', toks := tk' } ∧ Fr h₀ L h' m ∧ News h₀ L h' ((C, oC) :: (D, lst ys) :: (led ++ own)) ∧ R (i + 1) (ys ++ [y])) E' { s₂ with heap := h, toks := tk })
    (fin : ∀ ys, R items.size ys → K ys led s₂) : CompK prog w A h₀ L m env elt x x₂ px px₂ tp tk scope cl K (.ref e) s₂ := by
  have hTi : T < it := hlt _ hT
  have g0 : ∀ a, L < a → h₀.get? a = none := fun a ha => by
    cases q : h₀.get? a with
    | none => rfl
    | some o' => exact absurd (Nat.lt_of_lt_of_le (Heap.lt_size q) F.above) (Nat.not_lt.mpr (Nat.le_of_lt ha))
  obtain ⟨oi, hoi, _⟩ := id hI
  refine ⟨e, [e, it, T], [e, it], items.size, _, _, _, led, fun i v₁ v₂ => (∃ t, v₁ = .int (i : Int) t) ∧ items[i]? = some v₂, R, rfl, KTurns.enum hh (SubIt.tup (Nat.ne_of_lt hTi)) (Nat.ne_of_gt hie) (Nat.ne_of_lt (Nat.lt_trans hTi hie)), Nat.le_trans hsz (by rw [sizeLine_eq]; decide),
    ⟨⟨_, hE⟩, hI, tupIs N hT⟩, ?_, ?_, ?_, ?_, ?_, hh, F, N, ?_, ?_, h0, ?_, fin⟩
  · rintro i h ⟨⟨old, he⟩, h1, h2⟩ b hb
    simp only [List.mem_cons, List.not_mem_nil, or_false] at hb
    rcases hb with rfl | rfl | rfl
    · exact ⟨_, he⟩
    · obtain ⟨o, ho, _⟩ := h1; exact ⟨o, ho⟩
    · obtain ⟨o, ho, _⟩ := h2; exact ⟨o, ho⟩
  · intro b hb
    simp only [List.mem_cons, List.not_mem_nil, or_false] at hb
    rcases hb with rfl | rfl | rfl
    · exact Heap.lt_size hE
    · exact Heap.lt_size hoi
    · exact Heap.lt_size (N _ hT).1
  · intro hm
    simp only [List.mem_cons, List.not_mem_nil, or_false] at hm
    rcases hm with q | q | q
    · exact absurd (Nat.lt_trans hL hie) (by rw [q]; exact Nat.lt_irrefl _)
    · exact absurd hL (by rw [q]; exact Nat.lt_irrefl _)
    · exact (N _ hT).2.1 q.symm
  · intro b hb
    simp only [List.mem_cons, List.not_mem_nil, or_false] at hb
    rcases hb with rfl | rfl
    · exact g0 _ (Nat.lt_trans hL hie)
    · exact g0 _ hL
  · rintro i v h ⟨T', t, x', rfl, hx, hT'⟩
    exact ⟨T', _, _, rfl, hT', ⟨t, rfl⟩, hx⟩
  · intro p hp hm
    simp only [List.mem_cons, List.not_mem_nil, or_false] at hm
    rcases hm with q | q
    · exact absurd (Nat.lt_trans (hlt p hp) hie) (by rw [q]; exact Nat.lt_irrefl _)
    · exact absurd (hlt p hp) (by rw [q]; exact Nat.lt_irrefl _)
  · rintro s' Q' E' ⟨⟨old, he⟩, _⟩ hq
    exact wpAny_pyIter_enum he hq
  · rintro i v₁ v₂ ys C oC D m₂ own h tk E' hi ⟨⟨t, rfl⟩, hx⟩ hR hC h1 h2 F' N'
    exact turn i _ v₂ t ys C oC D m₂ own h tk E' rfl hx hR hC h1 h2 F' N'
end
end Mine
end

section
local macro_rules | `(tactic| k_mem) => `(tactic| ((fail_if_success (refine' List.Mem.tail _ ?_)); assumption))
section
open PySem PySem.W PyProof.Rows
namespace Mine
theorem sec_S0 {M : Model} {A : Around} {E : Value → Shared → Prop} {s : Shared} {env : Env} {p : Pos} {Q : Flow → Shared → Prop} (h : Q .next s) : wpAny M A (exec (.Pass p) env) Q E s := by
  w_top off
  k_with_none
  walk1
  exact h
end Mine
end
section
open PySem PySem.W PyProof.Rows
set_option maxRecDepth 100000
set_option maxHeartbeats 2000000
namespace Mine
theorem fmod_10 (a : Int) : 0 ≤ Int.fmod a 10 ∧ Int.fmod a 10 < 10 := ⟨Int.fmod_nonneg_of_pos _ (by decide), Int.fmod_lt_of_pos _ (by decide)⟩
theorem three_ints {ys : List Value} (hl : ys.length = 3) (h : ∀ y ∈ ys, ∃ n t, y = Value.int n t ∧ 1 ≤ n ∧ n ≤ 10) :
    ∃ n1 n2 n3 t1 t2 t3, ys = [.int n1 t1, .int n2 t2, .int n3 t3] ∧ (1 ≤ n1 ∧ n1 ≤ 10) ∧ (1 ≤ n2 ∧ n2 ≤ 10) ∧ 1 ≤ n3 ∧ n3 ≤ 10 := by
  rcases ys with _ | ⟨a, _ | ⟨b, _ | ⟨c, _ | ⟨d, r⟩⟩⟩⟩
  all_goals simp at hl
  obtain ⟨n1, t1, rfl, h1⟩ := h _ (.head _)
  obtain ⟨n2, t2, rfl, h2⟩ := h _ (.tail _ (.head _))
  obtain ⟨n3, t3, rfl, h3⟩ := h _ (.tail _ (.tail _ (.head _)))
  exact ⟨n1, n2, n3, t1, t2, t3, rfl, h1, h2, h3⟩
theorem seg0 (w : World) {dp un : Nat} {gd : Option (List Code)} {fa : Addr} {cd0 : Value} {outer : List Env} {A₀ : Around} {base h₀ : Heap} {L : Addr} {loose : List Str} {mean : ExcName → Option Value} {mg mb : Str → Option Value} {m : Str → Option Value} {s : Shared} {Q : Flow → Shared → Prop} {E : Value → Shared → Prop}
    (B : Below A₀ base outer h₀) (X : (hd.heap_39 w.params).In h₀) (T : Top topProg loose mean mg mb h₀) (hdp : dp + 8 < recursionLimit) (hu : un + 20 * 8 < cLine)
    {c1 : Obj} {ls : Addr} {vs : List Value} {ns : List Int} {led : Led} (hc1 : c1.data = .cell (some (.ref ls))) (hL : h₀.IsList ls vs.toArray) (hI : IntsAre vs ns) (hn : ns.length ≤ 63)
    (F : Fr h₀ L s.heap m) (N : News h₀ L s.heap ((L + 1, c1) :: led))
    (hq : ∀ a n1 n2 n3 t1 t2 t3 k h' tk', 1 ≤ n1 ∧ n1 ≤ 10 → 1 ≤ n2 ∧ n2 ≤ 10 → 1 ≤ n3 ∧ n3 ≤ 10 → Fr h₀ L h' (fun y => if y = Str.ofString "numbers" then some (.ref a) else m y) → News h₀ L h' ((a, W.listOf #[.int n1 t1, .int n2 t2, .int n3 t3] k) :: (L + 1, c1) :: led) → (∀ p ∈ (L + 1, c1) :: led, p.1 < a) → Q .next { s with heap := h', toks := tk' }) :
    wpAny (model PySem.Challenge.rw_rs0140_02.prog w) (ktrTop dp un gd (Str.ofString "law") lawSc L fa cd0 (lawCl L) outer) (exec (lawStmt 0) (lawEnv L fa cd0)) Q E s := by
  refine exec_lawA (by conv => lhs; whnf) (by conv => lhs; whnf) ?_
  revert X
  k_fill
  intro X
  refine Assign_ListComp_K (L := L) (h₀ := h₀) (m := m) rfl ?sw rfl (by decide) rfl (by decide) rfl rfl (by decide) rfl rfl ?_
  case sw => with_unfolding_all rfl
  (repeat' (first | (k_unfold; (try dsimp only)) | (k_end; wrow_close) | (first | ((with_reducible show wpAny _ _ (call (Value.builtin "sum") _) _ _ _); (with_reducible refine holdIt ?_)) | ((with_reducible show Exists _); (with_reducible refine holdIt ?_)) | ((with_reducible show wpAny _ _ (call (Value.type "enumerate") _) _ _ _); (with_reducible refine holdIt ?_)) | walk1) | (dsimp only; (first | ((with_reducible show wpAny _ _ (call (Value.builtin "sum") _) _ _ _); (with_reducible refine holdIt ?_)) | ((with_reducible show Exists _); (with_reducible refine holdIt ?_)) | ((with_reducible show wpAny _ _ (call (Value.type "enumerate") _) _ _ _); (with_reducible refine holdIt ?_)) | walk1)) | (leave1; walk_say "STEP leave1"; try dsimp only) | fail "no step"))
  unfold Hold
  rename News _ _ _ _ => N1
  rename Fr _ _ _ _ => F1
  rename_i T _ hT1
  refine call_enum_tup (tupIs N1 (.head _)) ?_
  intro h2 hE hI2 hsz hk2
  refine wpAny_pyIter_enum hE ?_
  have F2 := F1.keeps hk2
  have N2 := newsKeep N1 hk2
  refine CompK.enumT (fun i ys => ys.length = i ∧ ∀ y ∈ ys, ∃ n t, y = .int n t ∧ 1 ≤ n ∧ n ≤ 10) hE hI2 (.head _) rfl F2 N2 (fun p hp => Heap.lt_size (N1 p hp).1) (Nat.lt_succ_self _) F1.ns.lt (Nat.le_of_ble_eq_true rfl) ⟨rfl, fun _ h => nomatch h⟩ ?_ ?_
  · rintro i v₁ v₂ t ys C oC D m₂ own h tk E' rfl hv ⟨hl, hys⟩ hoC hx hx2 F3 N3
    have hi : i < 3 := (Array.getElem?_eq_some_iff.mp hv).1
    have ⟨o9, t9, hv2, ho⟩ : ∃ o9 t9, v₂ = .int o9 t9 ∧ 5 ≤ o9 ∧ o9 ≤ 9 := by
      rcases i with _ | _ | _ | i
      · simp at hv; exact ⟨_, _, hv.symm, by decide, by decide⟩
      · simp at hv; exact ⟨_, _, hv.symm, by decide, by decide⟩
      · simp at hv; exact ⟨_, _, hv.symm, by decide, by decide⟩
      · omega
    subst hv2
    clear hv hE hI2 F2 N2 N1 F1
    (repeat' (first | (k_unfold; (try dsimp only)) | (k_end; wrow_close) | (first | ((with_reducible show wpAny _ _ (call (Value.builtin "sum") _) _ _ _); (with_reducible refine holdIt ?_)) | ((with_reducible show Exists _); (with_reducible refine holdIt ?_)) | ((with_reducible show wpAny _ _ (call (Value.type "enumerate") _) _ _ _); (with_reducible refine holdIt ?_)) | walk1) | (dsimp only; (first | ((with_reducible show wpAny _ _ (call (Value.builtin "sum") _) _ _ _); (with_reducible refine holdIt ?_)) | ((with_reducible show Exists _); (with_reducible refine holdIt ?_)) | ((with_reducible show wpAny _ _ (call (Value.type "enumerate") _) _ _ _); (with_reducible refine holdIt ?_)) | walk1)) | (leave1; walk_say "STEP leave1"; try dsimp only) | fail "no step"))
    unfold Hold
    rename News _ _ _ _ => N5
    rename Fr _ _ _ _ => F5
    refine sumK rfl F5 N5 (N5.isList (.head _)) (hI.pick _ _ _) ?_
    clear N5 F5
    intro h5 tk5 t5 F6 N6
    generalize (pickNums ns (some (i : Int)) none (some 3)).sum = S
    (repeat' (first | (k_unfold; (try dsimp only)) | (k_end; wrow_close) | (first | ((with_reducible show wpAny _ _ (call (Value.builtin "sum") _) _ _ _); (with_reducible refine holdIt ?_)) | ((with_reducible show Exists _); (with_reducible refine holdIt ?_)) | ((with_reducible show wpAny _ _ (call (Value.type "enumerate") _) _ _ _); (with_reducible refine holdIt ?_)) | walk1) | (dsimp only; (first | ((with_reducible show wpAny _ _ (call (Value.builtin "sum") _) _ _ _); (with_reducible refine holdIt ?_)) | ((with_reducible show Exists _); (with_reducible refine holdIt ?_)) | ((with_reducible show wpAny _ _ (call (Value.type "enumerate") _) _ _ _); (with_reducible refine holdIt ?_)) | walk1)) | (leave1; walk_say "STEP leave1"; try dsimp only) | fail "no step"))
    unfold Hold
    refine ⟨_, _, rfl, by k_asm, newsSub (by k_asm) (fun p hp => .tail _ hp), by simp [hl], fun y hy => ?_⟩
    rcases List.mem_append.mp hy with hy | hy
    · exact hys y hy
    · rw [List.mem_singleton.mp hy]
      refine ⟨_, _, rfl, ?_⟩
      have := fmod_10 (o9 + S)
      omega
  · rintro ys ⟨hl, hys⟩ D h tk F3 N3 hlt
    have ⟨n1, n2, n3, q1, q2, q3, e, b1, b2, b3⟩ := three_ints hl hys
    subst e
    exact hq D n1 n2 n3 q1 q2 q3 _ h tk b1 b2 b3 F3 (newsSub N3 fun p hp => by
      rcases List.mem_cons.mp hp with rfl | hp
      · exact .head _
      · exact .tail _ (.tail _ hp)) (fun p hp => hlt p (.tail _ hp))
end Mine
end

section
open PySem PySem.W PyProof.Rows
namespace Mine
theorem sec_S1 {M : Model} {A : Around} {E : Value → Shared → Prop} {s : Shared} {env : Env} {p : Pos} {Q : Flow → Shared → Prop} (h : Q .next s) : wpAny M A (exec (.Pass p) env) Q E s := by
  w_top off
  k_with_none
  walk1
  exact h
end Mine
end
section
open PySem PySem.W PyProof.Rows
set_option maxRecDepth 100000
set_option maxHeartbeats 2000000
namespace Mine
theorem frWith {h₀ h : Heap} {L : Addr} {m : Str → Option Value} (ps : List (Str × Value)) (hp : ∀ p ∈ ps, m p.1 = some p.2) (F : Fr h₀ L h m) : Fr h₀ L h (kstB m ps) := by
  have e : kstB m ps = m := by
    funext y
    exact kstB_eq hp fun _ => rfl
  rw [e]; exact F
/-- a name stored -/
structure StM (m m' : Str → Option Value) (a : Str) (v : Value) : Prop where
  at_ : m' a = some v
  off : ∀ y, y ≠ a → m' y = m y
noncomputable def behindOf (b : Int) : Str := Txt.mul (Str.ofString " ") b ++ Str.ofString "x \t"
theorem ints_items {a c : Int} : ∀ {vs : List Value} {ks : List Int}, vs.length = ks.length → (∀ (j : Nat) (v : Value) (k : Int), vs[j]? = some v → ks[j]? = some k → ∃ t, v = .int k t) → IntsAre vs ks := by
  intro vs
  induction vs with
  | nil => intro ks hl h; cases ks with
    | nil => exact .nil
    | cons _ _ => simp at hl
  | cons v r ih =>
    intro ks hl h
    cases ks with
    | nil => simp at hl
    | cons k ks =>
      obtain ⟨t, rfl⟩ := h 0 v k rfl rfl
      exact .cons _ _ (ih (by simpa using hl) fun j v k' hv hk => h (j + 1) v k' (by simpa using hv) (by simpa using hk))
theorem listRangeN {prog : Program} {w : World} {A : Around} {E : Value → Shared → Prop} {s : Shared} {h₀ : Heap} {L r : Addr} {m : Str → Option Value} {news : Led} {a b c : Int} {t₀ u₀ v₀ : Tok} {n : Nat} {Q : Value → Shared → Prop}
    (hh : A.handled = none) (F : Fr h₀ L s.heap m) (N : News h₀ L s.heap news) (hr : IsRange s.heap r a b c t₀ u₀ v₀) (hsmall : Builtin.Range.small a b c = true) (hn : Builtin.Range.rangeSize a b c = (n : Int)) (hz : n ≤ 2 ^ 24)
    (h : ∀ D us k h' tk, Fr h₀ L h' m → News h₀ L h' ((D, W.listOf (List.toArray us) k) :: news) → (∀ p ∈ news, p.1 < D) → IntsAre us (rangeInts a c n) → Q (.ref D) { s with heap := h', toks := tk }) :
    wpAny (model prog w) A (call (.type "list") [.ref r]) Q E s := by
  refine call_list_range hh hr hsmall hn hz fun h' tk acc k hk hD hI => ?_
  have hD' : h'.get? s.heap.objs.size = some (W.listOf (List.toArray acc.toList) k) := by
    rw [Array.toArray_toList]
    exact hD
  refine h _ acc.toList k h' tk (F.keeps hk) (news_pushed F N hk hD' rfl) (fun p hp => Heap.lt_size (N p hp).1) (ints_items (a := 0) (c := 0) (by rw [Array.length_toList, hI.1, rangeInts_length]) fun j v x hj hx => ?_)
  have hv' : acc[j]? = some v := by simpa using hj
  obtain ⟨tk, rfl⟩ := hI.2 j v hv'
  have hj : j < n := by
    have := (Array.getElem?_eq_some_iff.mp hv').1
    rw [hI.1] at this; exact this
  rw [rangeInts_get hj] at hx
  exact ⟨tk, by rw [← Option.some.inj hx]⟩
theorem seg1 (w : World) {dp un : Nat} {gd : Option (List Code)} {fa : Addr} {cd0 : Value} {outer : List Env} {A₀ : Around} {base h₀ : Heap} {L : Addr} {loose : List Str} {mean : ExcName → Option Value} {mg mb : Str → Option Value} {m : Str → Option Value} {s : Shared} {Q : Flow → Shared → Prop} {E : Value → Shared → Prop}
    (B : Below A₀ base outer h₀) (X : (hd.heap_39 w.params).In h₀) (T : Top topProg loose mean mg mb h₀) (hdp : dp + 8 < recursionLimit) (hu : un + 20 * 8 < cLine)
    {c1 : Obj} {ls : Addr} {vs : List Value} {ns : List Int} {led : Led} (hc1 : c1.data = .cell (some (.ref ls))) (hL : h₀.IsList ls vs.toArray) (hI : IntsAre vs ns) (hn : ns.length ≤ 63) (hm : (L + 1, c1) ∈ led)
    (F : Fr h₀ L s.heap m) (N : News h₀ L s.heap led)
    (hq : ∀ b t h' tk' m', 0 ≤ b ∧ b ≤ 2 → Fr h₀ L h' m' → StM m m' (Str.ofString "blanks") (.int b t) → News h₀ L h' led → Q .next { s with heap := h', toks := tk' }) :
    wpAny (model PySem.Challenge.rw_rs0140_02.prog w) (ktrTop dp un gd (Str.ofString "law") lawSc L fa cd0 (lawCl L) outer) (exec (lawStmt 1) (lawEnv L fa cd0)) Q E s := by
  refine exec_lawA (by conv => lhs; whnf) (by conv => lhs; whnf) ?_
  revert X
  k_fill
  intro X
  k_steps
  exact hq (Int.fmod (ns.length : Int) 3) _ _ _ _ (by have h1 := Int.fmod_nonneg_of_pos (ns.length : Int) (show (0 : Int) < 3 by decide); have h2 := Int.fmod_lt_of_pos (ns.length : Int) (show (0 : Int) < 3 by decide); omega) (by k_asm) ⟨if_pos rfl, by (intro y hy; (try dsimp only); (repeat' split) <;> first | exact absurd (by assumption) hy | rfl | (subst_vars; exact Eq.symm (by assumption)))⟩ (by k_asm)
theorem seg2 (w : World) {dp un : Nat} {gd : Option (List Code)} {fa : Addr} {cd0 : Value} {outer : List Env} {A₀ : Around} {base h₀ : Heap} {L : Addr} {loose : List Str} {mean : ExcName → Option Value} {mg mb : Str → Option Value} {m : Str → Option Value} {s : Shared} {Q : Flow → Shared → Prop} {E : Value → Shared → Prop}
    (B : Below A₀ base outer h₀) (X : (hd.heap_39 w.params).In h₀) (T : Top topProg loose mean mg mb h₀) (hdp : dp + 8 < recursionLimit) (hu : un + 20 * 8 < cLine)
    {b : Int} {t : Tok} {led : Led} (hb : 0 ≤ b ∧ b ≤ 2) (hm : m (Str.ofString "blanks") = some (.int b t))
    (F : Fr h₀ L s.heap m) (N : News h₀ L s.heap led)
    (hq : ∀ t h' tk' m', Fr h₀ L h' m' → StM m m' (Str.ofString "behind") (.str (behindOf b) t) → News h₀ L h' led → Q .next { s with heap := h', toks := tk' }) :
    wpAny (model PySem.Challenge.rw_rs0140_02.prog w) (ktrTop dp un gd (Str.ofString "law") lawSc L fa cd0 (lawCl L) outer) (exec (lawStmt 2) (lawEnv L fa cd0)) Q E s := by
  refine exec_lawA (by conv => lhs; whnf) (by conv => lhs; whnf) ?_
  revert X
  k_fill
  intro X
  replace F := frWith [(Str.ofString "blanks", .int b t)] (List.forall_mem_cons.mpr ⟨hm, fun _ h => nomatch h⟩) F
  dsimp only [kstB] at F
  k_steps
  exact hq _ _ _ _ (by k_asm) ⟨if_pos rfl, by (intro y hy; (try dsimp only); (repeat' split) <;> first | exact absurd (by assumption) hy | rfl | (subst_vars; exact Eq.symm (by assumption)))⟩ (by k_asm)
local macro_rules | `(tactic| walk_at "call type:list") => `(tactic| (k_here; (with_reducible show wpAny _ _ (call (Value.type _) [Value.ref _]) _ _ _); (rename IsRange _ _ _ _ _ _ _ _ => rgX); k_dflt (refine' listRangeN (n := 10) ?k0 ?k1 ?k2 rgX ?k4 ?k5 ?k6 ?_; (case k0 => rfl); (case k1 => k_asm); (case k2 => k_asm); (case k4 => decide); (case k5 => rfl); (case k6 => decide); k_whole); intro D' vs' c' h' tk' F' N' l1 hI'; (try k_lt l1)))
theorem seg4 (w : World) {dp un : Nat} {gd : Option (List Code)} {fa : Addr} {cd0 : Value} {outer : List Env} {A₀ : Around} {base h₀ : Heap} {L : Addr} {loose : List Str} {mean : ExcName → Option Value} {mg mb : Str → Option Value} {m : Str → Option Value} {s : Shared} {Q : Flow → Shared → Prop} {E : Value → Shared → Prop}
    (B : Below A₀ base outer h₀) (X : (hd.heap_39 w.params).In h₀) (T : Top topProg loose mean mg mb h₀) (hdp : dp + 8 < recursionLimit) (hu : un + 20 * 8 < cLine)
    {led : Led}
    (F : Fr h₀ L s.heap m) (N : News h₀ L s.heap led)
    (hq : ∀ d1 d2 d3 us1 us2 us3 k1 k2 k3 D k h' tk' m', IntsAre us1 [10, 9, 8, 7, 6, 5, 4, 3, 2, 1] → IntsAre us2 [1, 2, 3, 4, 5, 6, 7, 8, 9, 10] → IntsAre us3 [1, 2, 3, 4, 5, 6, 7, 8, 9, 10] → Fr h₀ L h' m' → StM m m' (Str.ofString "orders") (.ref D) →
      News h₀ L h' ((D, W.listOf #[.ref d1, .ref d2, .ref d3] k) :: (d3, W.listOf us3.toArray k3) :: (d2, W.listOf us2.toArray k2) :: (d1, W.listOf us1.toArray k1) :: led) → (∀ p ∈ led, p.1 < d1) → d1 < d2 → d2 < d3 → d3 < D → Q .next { s with heap := h', toks := tk' }) :
    wpAny (model PySem.Challenge.rw_rs0140_02.prog w) (ktrTop dp un gd (Str.ofString "law") lawSc L fa cd0 (lawCl L) outer) (exec (lawStmt 4) (lawEnv L fa cd0)) Q E s := by
  refine exec_lawA (by conv => lhs; whnf) (by conv => lhs; whnf) ?_
  revert X
  k_fill
  intro X
  k_steps
  rename_i l1 i1 _ _ _ _ _ _ _ _ _ _ _ _ i2 l2 _ _ _ _ _ _ _ _ _ _ _ _ i3 l3 _ _ l4 _ _ _
  exact hq _ _ _ _ _ _ _ _ _ _ _ _ _ _ i1 i2 i3 (by k_asm) ⟨if_pos rfl, by (intro y hy; (try dsimp only); (repeat' split) <;> first | exact absurd (by assumption) hy | rfl | (subst_vars; exact Eq.symm (by assumption)))⟩ (by k_asm) l1 l2.1 l3.1 l4.1
end Mine
end

section
open PySem PySem.W PyProof.Rows
namespace Mine
theorem sec_CN {M : Model} {A : Around} {E : Value → Shared → Prop} {s : Shared} {env : Env} {p : Pos} {Q : Flow → Shared → Prop} (h : Q .next s) : wpAny M A (exec (.Pass p) env) Q E s := by
  w_top off
  k_with_none
  walk1
  exact h
end Mine
end
section
open PySem PySem.W PyProof.Rows PySem.Calls PySem.Spec
set_option maxRecDepth 100000
set_option maxHeartbeats 1000000
namespace Mine
open LCg LCp
section
variable {prog : Program} {w : World} {A : Around} {E : Value → Shared → Prop} {s : Shared} {h₀ : Heap} {L : Addr} {m : Str → Option Value} {env : Env}
/-- a comprehension whose element makes objects; what it makes is younger than the list -/
inductive CompN (prog : Program) (w : World) (A : Around) (h₀ : Heap) (L : Addr) (m : Str → Option Value) (env : Env) (elt : Expr) (x : Str) (scope : Scope) (cl : List (Str × Addr)) (K : List Value → Led → Led → Shared → Prop) (it : Value) (s₂ : Shared) : Prop
  | intro (I : Addr) (fp : List Addr) (n : Nat) (P : Nat → Value → Prop) (St : Nat → Heap → Prop) (led : Led) (R : Nat → List Value → Led → Prop) (h0 : it = .ref I) (h1 : Walks prog w A I fp [I] n P St) (h2 : n ≤ sizeLine) (h3 : St 0 s₂.heap) (h4 : (∀ i h, St i h → ∀ b ∈ fp, ∃ o, h.get? b = some o)) (h5 : (∀ b ∈ fp, b < s₂.heap.objs.size)) (h6 : L ∉ fp) (h7 : h₀.get? I = none) (h8 : Fr h₀ L s₂.heap m) (h9 : News h₀ L s₂.heap led) (h10 : (∀ p ∈ led, p.1 ≠ I)) (h11 : R 0 [] []) (h12 : (∀ i v ys tl C oC D m₂ own h tk (E' : Value → Shared → Prop), i < n → P i v → R i ys tl → NsObj oC m₂ → m₂ x = some v → (∀ p ∈ led, p.1 < D) → @LT.lt Nat _ D C → (∀ p ∈ tl, @LT.lt Nat _ C p.1) → Fr h₀ L h m → News h₀ L h ((C, oC) :: (D, lst ys) :: (own ++ (tl ++ led))) → wpAny (model prog w) A (eval elt (compEnvC scope cl C env)) (fun y s₄ => ∃ h' tk' tl', s₄ = { s₂ with heap := h', toks := tk' } ∧ Fr h₀ L h' m ∧ News h₀ L h' ((C, oC) :: (D, lst ys) :: (own ++ (tl' ++ led))) ∧ (∀ p ∈ tl', @LT.lt Nat _ C p.1) ∧ R (i + 1) (ys ++ [y]) tl') E' { s₂ with heap := h, toks := tk })) (h13 : ∀ ys tl, R n ys tl → K ys tl led s₂) : CompN prog w A h₀ L m env elt x scope cl K it s₂
theorem block_N {elt iter : Expr} {x : Str} {px : Pos} {scope : Scope} {cl : List (Str × Addr)} {pos : Pos} {K : List Value → Led → Led → Shared → Prop} {RR : Value → Addr → Result → Shared → Prop} {it : Value} {s₂ : Shared}
    (hcell : ∀ y ∈ scope.names, y.2 ≠ .cell) (hkind : scope.kind = .function) (hx : scope.names.lookup x = some .local)
    (h₂ : CompN prog w A h₀ L m env elt x scope cl K it s₂)
    (hRR : ∀ D C h tk m' ys tl led, Fr h₀ L h m → News h₀ L h ((D, lst ys) :: (tl ++ led)) → (∀ p ∈ led, p.1 < D) → (∀ p ∈ tl, @LT.lt Nat _ D p.1) → h.Ns C m' → h₀.get? C = none → C ≠ L → C ≠ D → (∀ p ∈ tl ++ led, p.1 ≠ C) → K ys tl led s₂ → RR (.ref D) C (.ok .next) { s₂ with heap := h, toks := tk }) :
    wpAny (model prog w) A (newList []) (fun acc s₃ => wpAny (model prog w) A (newFunctionEnv scope env.globals cl [] env.qual none .none (some env)) (fun cenv s₄ =>
      codeAny (model prog w) A (.compStart (.ListComp elt [⟨.Name x px, iter, [], 0⟩] scope pos) 0 it acc { cenv with scope := relabel scope env }) (RR acc cenv.locals) s₄) E s₃) E s₂ := by
  obtain ⟨I, fp, n, P, St, led, R, rfl, W, hsz, hst, hex, hfp, hLf, hI₀, F, N, hoff, h0, turn, fin⟩ := h₂
  refine wpAny_newObj_type (wpAny_newFunctionEnv hcell (by intro y hy; simp at hy) (fun h₁ hns₁ hsb₁ => ?_) hkind)
  dsimp only at hns₁ hsb₁ ⊢
  generalize hH2 : s₂.heap.push { cls := .type "list", dict := none, data := .seq ([] : List Value).toArray } = H2 at hns₁ hsb₁ ⊢
  have hC : H2.objs.size = s₂.heap.objs.size + 1 := by rw [← hH2, Heap.size_push]
  have hDC : s₂.heap.objs.size ≠ H2.objs.size := by rw [hC]; exact Nat.ne_of_lt (Nat.lt_succ_self _)
  have hDC' : @LT.lt Nat _ s₂.heap.objs.size H2.objs.size := by rw [hC]; exact Nat.lt_succ_self _
  have below : ∀ b, b < s₂.heap.objs.size → b ≠ H2.objs.size ∧ b ≠ s₂.heap.objs.size := fun b hb => ⟨by rw [hC]; exact Nat.ne_of_lt (Nat.lt_succ_of_lt hb), Nat.ne_of_lt hb⟩
  have hDf : s₂.heap.objs.size ∉ fp := fun hm => Nat.lt_irrefl _ (hfp _ hm)
  have hCf : H2.objs.size ∉ fp := fun hm => by have := hfp _ hm; rw [hC] at this; exact Nat.lt_irrefl _ (Nat.lt_of_succ_lt this)
  have hIf : I ∈ fp := W.sub I (List.mem_singleton.mpr rfl)
  have hIlt : I < s₂.heap.objs.size := hfp I hIf
  have hIL : L ≠ I := fun e => hLf (e ▸ hIf)
  have old : ∀ b o, s₂.heap.get? b = some o → h₁.get? b = some o := fun b o e => hsb₁.extBut b o (below b (Heap.lt_size e)).1 (Heap.get?_push_of_some _ (hH2 ▸ Heap.get?_push_of_some _ e))
  have hacc : h₁.get? s₂.heap.objs.size = some (lst []) := hsb₁.extBut _ _ hDC (Heap.get?_push_of_some _ (hH2 ▸ Heap.get?_push_size _ rfl))
  have hst₁ : St 0 h₁ := W.frame _ _ _ hst fun b hb o e => old b o e
  have fresh₀ : ∀ a, s₂.heap.objs.size ≤ a → h₀.get? a = none := fun a ha => by
    cases e : h₀.get? a with
    | none => rfl
    | some o' => exact absurd (Heap.lt_size (F.keep a o' e)) (Nat.not_lt.mpr ha)
  have hD₀ : h₀.get? s₂.heap.objs.size = none := fresh₀ _ (Nat.le_refl _)
  have hC₀ : h₀.get? H2.objs.size = none := fresh₀ _ (by rw [hC]; exact Nat.le_succ _)
  have hLlt : L < s₂.heap.objs.size := F.ns.lt
  have hDL : s₂.heap.objs.size ≠ L := Ne.symm (below L hLlt).2
  have hCL : H2.objs.size ≠ L := Ne.symm (below L hLlt).1
  have hCI : I ≠ H2.objs.size := (below I hIlt).1
  have hDI : I ≠ s₂.heap.objs.size := (below I hIlt).2
  have ledlt : ∀ p ∈ led, p.1 < s₂.heap.objs.size := fun p hp => Heap.lt_size (N p hp).1
  have loop : ∀ s₃ : Shared, s₃ = { s₂ with heap := h₁, toks := s₂.toks + ([] : List (Str × Value)).length } →
      codeAny (model prog w) A (.compLoop (.ListComp elt [⟨.Name x px, iter, [], 0⟩] scope pos) 0 (.ref I) (.ref s₂.heap.objs.size) (compEnvC scope cl H2.objs.size env))
        (RR (.ref s₂.heap.objs.size) H2.objs.size) s₃ := by
    rintro s₃ rfl
    refine codeAny_compLoop_tests
      (fun k s' => ∃ h' tk i ys m' tl, s' = { s₂ with heap := h', toks := tk } ∧ i ≤ n ∧ k = n + 1 - i ∧ ys.length = i ∧ St i h' ∧ Fr h₀ L h' m ∧ h'.Ns H2.objs.size m' ∧ News h₀ L h' ((s₂.heap.objs.size, lst ys) :: (tl ++ led)) ∧ (∀ p ∈ tl, @LT.lt Nat _ H2.objs.size p.1) ∧ R i ys tl) ?_ (n + 1)
      ⟨h₁, _, 0, [], _, [], rfl, Nat.zero_le _, rfl, rfl, hst₁, F.keeps old, hns₁, fun p hp => ?_, (fun _ h => nomatch h), h0⟩
    · rintro k s' ⟨h', tk', i, ys, m', tl, rfl, hi, rfl, hyl, hst', F', hn', N', htl, hR⟩
      have allI : ∀ p ∈ (s₂.heap.objs.size, lst ys) :: (tl ++ led), p.1 ≠ I := fun p hp => by
        rcases List.mem_cons.mp hp with rfl | hp
        · exact Ne.symm hDI
        · rcases List.mem_append.mp hp with hp | hp
          · exact Nat.ne_of_gt (Nat.lt_trans (Nat.lt_trans hIlt hDC') (htl p hp))
          · exact hoff p hp
      have move : ∀ h₂ : Heap, (∀ b o, b ∉ [I] → h'.get? b = some o → h₂.get? b = some o) → Fr h₀ L h₂ m ∧ h₂.Ns H2.objs.size m' ∧ News h₀ L h₂ ((s₂.heap.objs.size, lst ys) :: (tl ++ led)) := fun h₂ hk =>
        ⟨⟨F'.ns.at' fun o e => hk _ o (fun q => hIL (List.mem_singleton.mp q)) e, fun b o e => hk b o (fun q => by rw [List.mem_singleton.mp q, hI₀] at e; cases e) (F'.keep b o e), F'.above⟩, hn'.at' fun o e => hk _ o (fun q => hCI (List.mem_singleton.mp q).symm) e, fun p hp =>
          ⟨hk _ _ (fun q => allI p hp (List.mem_singleton.mp q)) (N' p hp).1, (N' p hp).2⟩⟩
      have allC : ∀ p ∈ (s₂.heap.objs.size, lst ys) :: (tl ++ led), p.1 ≠ H2.objs.size := fun p hp => by
        rcases List.mem_cons.mp hp with rfl | hp
        · exact hDC
        · rcases List.mem_append.mp hp with hp | hp
          · exact Nat.ne_of_gt (htl p hp)
          · exact (below _ (ledlt p hp)).1
      by_cases hlt : i < n
      · refine W.item i _ _ _ hlt hst' fun v h₂ tk₂ hPv hst₂ hk₂ => ?_
        obtain ⟨F₂, hn₂, N₂⟩ := move h₂ hk₂
        refine wpAny_assign_Name (wpAny_storeName_local (lookup_relabel_local hx) hn₂ (fun h₃ hn₃ hs₃ => ?_) (by simp [compEnvC, relabel, hkind]))
        refine wpAny_tests_nil ?_
        simp only [if_true]
        replace hs₃ : Heap.SameBut H2.objs.size h₂ h₃ := hs₃
        have hst₃ : St (i + 1) h₃ := W.frame _ _ _ hst₂ fun b hb o e => hs₃.extBut b o (fun q => hCf (by rw [← q]; exact hb)) e
        obtain ⟨oC, heC, hoC⟩ := ns_obj hn₃
        have F₃ : Fr h₀ L h₃ m := F₂.change hs₃ hCL hC₀
        have N₃ : News h₀ L h₃ ((s₂.heap.objs.size, lst ys) :: (tl ++ led)) := fun p hp => ⟨hs₃.extBut _ _ (allC p hp) (N₂ p hp).1, (N₂ p hp).2⟩
        have Nown : News h₀ L h₃ (PyProof.Rows.ownOf h₀ fp h₃) := news_ownOf hLf
        have N₄ : News h₀ L h₃ ((H2.objs.size, oC) :: (s₂.heap.objs.size, lst ys) :: (PyProof.Rows.ownOf h₀ fp h₃ ++ (tl ++ led))) := fun p hp => by
          rcases List.mem_cons.mp hp with rfl | hp
          · exact ⟨heC, hCL, hC₀⟩
          · rcases List.mem_cons.mp hp with rfl | hp
            · exact N₃ _ (.head _)
            · rcases List.mem_append.mp hp with hp | hp
              · exact Nown _ hp
              · exact N₃ _ (.tail _ hp)
        refine wpAny_mono (turn i v ys tl H2.objs.size oC s₂.heap.objs.size _ (PyProof.Rows.ownOf h₀ fp h₃) h₃ _ _ hlt hPv hR hoC (by simp) ledlt hDC' htl F₃ N₄) (fun y s₄ h₄ => ?_) fun _ _ e => e
        obtain ⟨h₅, tk₅, tl', rfl, F₅, N₅, htl', hR'⟩ := h₄
        have zC := (N₅ (H2.objs.size, oC) (.head _)).1
        have zD := (N₅ (s₂.heap.objs.size, lst ys) (.tail _ (.head _))).1
        have hst₅ : St (i + 1) h₅ := W.frame _ _ _ hst₃ fun b hb o e => by
          cases hn : h₀.get? b with
          | some o₀ =>
            have : o₀ = o := by have q := F₃.keep b o₀ hn; rw [e] at q; exact (Option.some.inj q).symm
            exact this ▸ F₅.keep b o₀ hn
          | none => exact (N₅ _ (.tail _ (.tail _ (List.mem_append_left _ (mem_ownOf hb hn e))))).1
        refine append_at (hsz := by show ys.toArray.size ≤ sizeLine; rw [List.size_toArray, hyl]; exact Nat.le_trans hi hsz) zD fun h₆ hs₆ hD₆ => ?_
        refine ⟨n + 1 - (i + 1), by omega, h₆, tk₅, i + 1, ys ++ [y], _, tl', rfl, hlt, rfl, by rw [List.length_append, List.length_singleton, hyl], W.frame _ _ _ hst₅ fun b hb o e => hs₆.extBut b o (fun q => hDf (q ▸ hb)) e, F₅.change hs₆ hDL hD₀,
          (hoC.ns zC).sameBut hs₆ (Ne.symm hDC), fun p hp => ?_, htl', hR'⟩
        rcases List.mem_cons.mp hp with rfl | hp
        · exact ⟨hD₆.trans (congrArg some (lst_snoc ys y)), hDL, hD₀⟩
        · have z := N₅ p (.tail _ (.tail _ (List.mem_append_right _ hp)))
          refine ⟨hs₆.extBut _ _ ?_ z.1, z.2⟩
          rcases List.mem_append.mp hp with hp | hp
          · exact Nat.ne_of_gt (Nat.lt_trans hDC' (htl' p hp))
          · exact (below _ (ledlt p hp)).2
      · obtain rfl : i = n := Nat.le_antisymm hi (Nat.not_lt.mp hlt)
        refine W.done _ _ _ hst' fun h₂ tk₂ hk₂ => ?_
        obtain ⟨F₃, hn₃, N₃⟩ := move h₂ hk₂
        exact hRR _ _ h₂ tk₂ _ ys tl led F₃ N₃ ledlt (fun p hp => Nat.lt_trans hDC' (htl p hp)) hn₃ hC₀ hCL (Ne.symm hDC) (fun p hp => allC p (.tail _ hp)) (fin ys tl hR)
    · rcases List.mem_cons.mp hp with rfl | hp
      · exact ⟨hacc, hDL, hD₀⟩
      · exact ⟨old _ _ (N p hp).1, (N p hp).2⟩
  exact codeAny_compStart_list (loop _ rfl) (W.self 0 _ _ _ hst₁ (loop _ rfl))
noncomputable def FinNA (h₀ : Heap) (L : Addr) (m : Str → Option Value) (y : Str) (Q : Flow → Shared → Prop) (ys : List Value) (tl led : Led) (s₂ : Shared) : Prop :=
  ∀ D h tk, Fr h₀ L h (fun z => if z = y then some (.ref D) else m z) → News h₀ L h ((D, lst ys) :: (tl ++ led)) → (∀ p ∈ led, p.1 < D) → (∀ p ∈ tl, @LT.lt Nat _ D p.1) → Q .next { s₂ with heap := h, toks := tk }
theorem Assign_ListComp_N {elt iter : Expr} {x y : Str} {px py : Pos} {scope : Scope} {cl : List (Str × Addr)} {pos spos : Pos} {Q : Flow → Shared → Prop} (hLe : env.locals = L)
    (hsw : swapsWith (.ListComp elt [⟨.Name x px, iter, [], 0⟩] scope pos) (some (.Name y py)) spos.line env = pure true)
    (hclos : closureFor scope env = pure cl) (hcell : ∀ z ∈ scope.names, z.2 ≠ .cell) (hkind : scope.kind = .function)
    (hnames : ∀ z ∈ scope.names, z.2 = .local → scope.names.lookup z.1 = some .local) (hx : scope.names.lookup x = some .local)
    (hy : env.kindOf y = some .local) (hp : (env.scope.kind == .class || (env.scope.kind == .module && env.locals != env.globals)) = false)
    (h : wpAny (model prog w) A (eval iter env) (fun xv s₁ => wpAny (model prog w) A (pyIter xv) (fun it s₂ => CompN prog w A h₀ L m env elt x scope cl (FinNA h₀ L m y Q) it s₂) E s₁) E s)
    (hs : ∀ x, foldedSetIterable iter env x = pure x := by intro _; rfl) :
    wpAny (model prog w) A (exec (.Assign [.Name y py] (.ListComp elt [⟨.Name x px, iter, [], 0⟩] scope pos) spos) env) Q E s := by
  subst hLe
  rw [exec_Assign_Name_used _ _ _ _ hsw]
  refine wpAny_bind (wpAny_standAt (wpAny_bind ?_))
  show wpAny _ A (do let _ ← comprehension (.ListComp elt [⟨.Name x px, iter, [], 0⟩] scope pos) scope env _ (newList []) false (eval iter env) (some (assign (.Name y py) env))) _ _ s
  refine wpAny_bind (wpAny_mono (wpAny_comprehension_free (use := some (assign (.Name y py) env)) (Q := fun _ s' => Q .next s') rfl hs hclos hkind hnames
    (wpAny_mono h (fun xv s₁ h₁ => wpAny_mono h₁ (fun it s₂ h₂ => ?_) fun _ _ e => e) fun _ _ e => e)) (fun _ s' hq => wpAny_pure (wpAny_pure hq)) fun _ _ e => e)
  refine block_N hcell hkind hx h₂ ?_
  intro D C h' tk m' ys tl led F' N' hlt hgt hn hC₀ hCL hCD offC fin
  show wpAny _ A (assign (.Name y py) env (.ref D)) _ _ _
  refine wpAny_assign_Name (wpAny_storeName_local hy F'.ns (fun h₂ hn₂ hs₂ => ?_) hp)
  have hL₀ : h₀.get? env.locals = none := Heap.get?_none_of_le F'.above
  have F₂ : Fr h₀ env.locals h₂ (fun z => if z = y then some (.ref D) else m z) := ⟨hn₂, fun b o e => hs₂.extBut b o (fun q => by rw [q, hL₀] at e; cases e) (F'.keep b o e), F'.above⟩
  refine ⟨m', hn.sameBut hs₂ hCL, fun h'' hs'' => fin D h'' _ (F₂.change hs'' hCL hC₀) (fun p hp => ?_) hlt hgt⟩
  have z : h₂.get? p.1 = some p.2 := hs₂.extBut _ _ (N' p hp).2.1 (N' p hp).1
  refine ⟨hs''.extBut _ _ ?_ z, (N' p hp).2⟩
  rcases List.mem_cons.mp hp with rfl | hp
  · exact Ne.symm hCD
  · exact offC p hp
/-- over a range -/
theorem CompN.range {elt : Expr} {x : Str} {scope : Scope} {cl : List (Str × Addr)} {K : List Value → Led → Led → Shared → Prop} {r : Addr} {a b : Int} {t u v : Tok} {n : Nat} {led : Led} {s₁ : Shared} (R : Nat → List Value → Led → Prop)
    (hh : A.handled = none) (F : Fr h₀ L s₁.heap m) (N : News h₀ L s₁.heap led) (hr : IsRange s₁.heap r a b 1 t u v) (hsm : Builtin.Range.small a b 1 = true) (hn : Builtin.Range.rangeSize a b 1 = ((n : Nat) : Int)) (hsz : n ≤ 1000) (h0 : R 0 [] [])
    (turn : ∀ i t ys tl C oC D m₂ own h tk (E' : Value → Shared → Prop), i < n → R i ys tl → NsObj oC m₂ → m₂ x = some (.int (a + (i : Int)) t) → (∀ p ∈ led, p.1 < D) → @LT.lt Nat _ D C → (∀ p ∈ tl, @LT.lt Nat _ C p.1) → Fr h₀ L h m → News h₀ L h ((C, oC) :: (D, lst ys) :: (own ++ (tl ++ led))) →
      wpAny (model prog w) A (eval elt (compEnvC scope cl C env)) (fun y s₄ => ∃ h' tk' tl', s₄ = { s₁ with heap := h', toks := tk' } ∧ Fr h₀ L h' m ∧ News h₀ L h' ((C, oC) :: (D, lst ys) :: (own ++ (tl' ++ led))) ∧ (∀ p ∈ tl', @LT.lt Nat _ C p.1) ∧ R (i + 1) (ys ++ [y]) tl') E' { s₁ with heap := h, toks := tk })
    (fin : ∀ ys tl g, R n ys tl → K ys tl led { s₁ with heap := g }) :
    wpAny (model prog w) A (pyIter (.ref r)) (fun it s₂ => CompN prog w A h₀ L m env elt x scope cl K it s₂) E s₁ := by
  refine wpAny_pyIter_range hr hsm ?_
  have up : ∀ b o, s₁.heap.get? b = some o → (s₁.heap.push { cls := .type "range_iterator", data := .fields #[.int a 0, .int (Builtin.Range.rangeSize a b 1) 0, .int 1 0] }).get? b = some o := fun b o e => Heap.get?_push_of_some _ e
  refine ⟨s₁.heap.objs.size, [s₁.heap.objs.size], n, _, _, led, R, rfl, range_walks hh a n, Nat.le_trans hsz (by rw [sizeLine_eq]; decide), by show IsRangeIter _ _ _ _ _; rw [hn]; simpa using Heap.get?_push_size _ rfl, fun i h st b hb => by rw [List.mem_singleton.mp hb]; exact ⟨_, st⟩, fun b hb => ?_, fun hm => absurd F.ns.lt (by rw [List.mem_singleton.mp hm]; exact Nat.lt_irrefl _), next_is_new F,
    F.keeps fun _ _ e => Heap.get?_push_of_some _ e, N.grown fun _ _ e => Heap.get?_push_of_some _ e, fun p hp => Nat.ne_of_lt (Heap.lt_size (N p hp).1), h0, ?_, fun ys tl hR => fin ys tl _ hR⟩
  · rw [List.mem_singleton.mp hb]
    show s₁.heap.objs.size < (s₁.heap.push _).objs.size
    rw [Heap.size_push]; exact Nat.lt_succ_self _
  · rintro i v ys tl C oC D m₂ own h tk E' hi ⟨t, rfl⟩ hR hC hx h1 h2 h3 F' N'
    exact turn i t ys tl C oC D m₂ own h tk E' hi hR hC hx h1 h2 h3 F' N'
end
end Mine
end

section
open PySem PySem.W PyProof.Rows
namespace Mine
theorem sec_S2 {M : Model} {A : Around} {E : Value → Shared → Prop} {s : Shared} {env : Env} {p : Pos} {Q : Flow → Shared → Prop} (h : Q .next s) : wpAny M A (exec (.Pass p) env) Q E s := by
  w_top off
  k_with_none
  walk1
  exact h
end Mine
end
section
open PySem PySem.W PyProof.Rows
set_option maxRecDepth 100000
set_option maxHeartbeats 2000000
namespace Mine
theorem seg3 (w : World) {dp un : Nat} {gd : Option (List Code)} {fa : Addr} {cd0 : Value} {outer : List Env} {A₀ : Around} {base h₀ : Heap} {L : Addr} {loose : List Str} {mean : ExcName → Option Value} {mg mb : Str → Option Value} {m : Str → Option Value} {s : Shared} {Q : Flow → Shared → Prop} {E : Value → Shared → Prop}
    (B : Below A₀ base outer h₀) (X : (hd.heap_39 w.params).In h₀) (T : Top topProg loose mean mg mb h₀) (hdp : dp + 8 < recursionLimit) (hu : un + 20 * 8 < cLine)
    {led : Led} (F : Fr h₀ L s.heap m) (N : News h₀ L s.heap led)
    (hq : ∀ D rvs k tl h' tk' m', Fr h₀ L h' m' → StM m m' (Str.ofString "readers") (.ref D) → News h₀ L h' ((D, W.listOf rvs.toArray k) :: (tl ++ led)) → (∀ p ∈ led, p.1 < D) → (∀ p ∈ tl, @LT.lt Nat _ D p.1) → ReadersAt tl rvs → Q .next { s with heap := h', toks := tk' }) :
    wpAny (model PySem.Challenge.rw_rs0140_02.prog w) (ktrTop dp un gd (Str.ofString "law") lawSc L fa cd0 (lawCl L) outer) (exec (lawStmt 3) (lawEnv L fa cd0)) Q E s := by
  refine exec_lawA (by conv => lhs; whnf) (by conv => lhs; whnf) ?_
  revert X
  k_fill
  intro X
  refine Assign_ListComp_N (L := L) (h₀ := h₀) (m := m) rfl ?sw rfl (by decide) rfl (by decide) rfl rfl rfl ?_
  case sw => with_unfolding_all rfl
  (repeat' (first | (k_unfold; (try dsimp only)) | (k_end; wrow_close) | (first | ((with_reducible show wpAny _ _ (pyIter (Value.ref _)) _ _ _); (with_reducible refine holdIt ?_)) | ((with_reducible show wpAny _ _ (call (Value.ref _) _) _ _ _); (with_reducible refine holdIt ?_)) | ((with_reducible show Exists _); (with_reducible refine holdIt ?_)) | walk1) | (dsimp only; (first | ((with_reducible show wpAny _ _ (pyIter (Value.ref _)) _ _ _); (with_reducible refine holdIt ?_)) | ((with_reducible show wpAny _ _ (call (Value.ref _) _) _ _ _); (with_reducible refine holdIt ?_)) | ((with_reducible show Exists _); (with_reducible refine holdIt ?_)) | walk1)) | (leave1; walk_say "STEP leave1"; try dsimp only) | fail "no step"))
  unfold Hold
  rename_i rg F5 N5 _
  refine CompN.range (R := fun i ys tl => ys.length = i ∧ ∀ (j : Nat) v, ys[j]? = some v → ∃ x, v = .ref x ∧ EntAt tl x [agentText ((j : Int) + 1)] []) rfl F5 N5 rg (small_one (by omega) (by omega) (by omega) (by omega)) (n := 10) rfl (by decide) ⟨rfl, fun j v e => by simp at e⟩ ?_ ?_
  · rintro i t ys tl C oC D m₂ own h tk E' hi ⟨hl, hys⟩ hC hx hlt hDC htl F6 N6
    clear N5 F5
    (repeat' (first | (k_unfold; (try dsimp only)) | (k_end; wrow_close) | (first | ((with_reducible show wpAny _ _ (pyIter (Value.ref _)) _ _ _); (with_reducible refine holdIt ?_)) | ((with_reducible show wpAny _ _ (call (Value.ref _) _) _ _ _); (with_reducible refine holdIt ?_)) | ((with_reducible show Exists _); (with_reducible refine holdIt ?_)) | walk1) | (dsimp only; (first | ((with_reducible show wpAny _ _ (pyIter (Value.ref _)) _ _ _); (with_reducible refine holdIt ?_)) | ((with_reducible show wpAny _ _ (call (Value.ref _) _) _ _ _); (with_reducible refine holdIt ?_)) | ((with_reducible show Exists _); (with_reducible refine holdIt ?_)) | walk1)) | (leave1; walk_say "STEP leave1"; try dsimp only) | fail "no step"))
    unfold Hold
    refine Spec.use (reader_ok w (1 + (i : Int)) t _ (by omega)) (by k_asm) (by k_asm) (by k_asm) N6 (by k_asm) rfl (by ktr_room) (by ktr_units) ?_
    rintro r news' h' tk' F7 N7 ⟨tl', rfl, hnew, x, rfl, hE⟩
    have hCC : ∀ p ∈ tl', @LT.lt Nat _ C p.1 := fun p hp => hnew p hp _ (.head _)
    (repeat' (first | (k_unfold; (try dsimp only)) | (k_end; wrow_close) | (first | ((with_reducible show wpAny _ _ (pyIter (Value.ref _)) _ _ _); (with_reducible refine holdIt ?_)) | ((with_reducible show wpAny _ _ (call (Value.ref _) _) _ _ _); (with_reducible refine holdIt ?_)) | ((with_reducible show Exists _); (with_reducible refine holdIt ?_)) | walk1) | (dsimp only; (first | ((with_reducible show wpAny _ _ (pyIter (Value.ref _)) _ _ _); (with_reducible refine holdIt ?_)) | ((with_reducible show wpAny _ _ (call (Value.ref _) _) _ _ _); (with_reducible refine holdIt ?_)) | ((with_reducible show Exists _); (with_reducible refine holdIt ?_)) | walk1)) | (leave1; walk_say "STEP leave1"; try dsimp only) | fail "no step"))
    unfold Hold
    refine ⟨_, _, tl' ++ tl, rfl, by k_asm, newsSub (by k_asm) (by intro p hp; simp only [List.mem_cons, List.mem_append] at hp ⊢; grind), allApp hCC htl, by simp [hl], fun j v e => ?_⟩
    by_cases hj : j < ys.length
    · rw [List.getElem?_append_left hj] at e
      obtain ⟨y, rfl, hy⟩ := hys j v e
      exact ⟨y, rfl, hy.mono fun p hp => memR hp⟩
    · have hj' : j = i := by
        have := (List.getElem?_eq_some_iff.mp e).1
        simp at this
        omega
      subst hj'
      rw [List.getElem?_append_right (by omega)] at e
      simp [hl] at e
      refine ⟨x, e.symm, ?_⟩
      rw [show ((j : Int) + 1) = 1 + (j : Int) from by omega]
      exact hE.mono fun p hp => memL hp
  · rintro ys tl g ⟨hl, hys⟩ D h tk F7 N7 h1 h2
    exact hq D ys _ tl h tk _ F7 ⟨if_pos rfl, by (intro y hy; (try dsimp only); (repeat' split) <;> first | exact absurd (by assumption) hy | rfl | (subst_vars; exact Eq.symm (by assumption)))⟩ N7 h1 h2 ⟨hl, hys⟩
theorem seg5 (w : World) {dp un : Nat} {gd : Option (List Code)} {fa : Addr} {cd0 : Value} {outer : List Env} {A₀ : Around} {base h₀ : Heap} {L : Addr} {loose : List Str} {mean : ExcName → Option Value} {mg mb : Str → Option Value} {m : Str → Option Value} {s : Shared} {Q : Flow → Shared → Prop} {E : Value → Shared → Prop}
    (B : Below A₀ base outer h₀) (X : (hd.heap_39 w.params).In h₀) (T : Top topProg loose mean mg mb h₀) (hdp : dp + 8 < recursionLimit) (hu : un + 20 * 8 < cLine)
    {c2 : Obj} {led : Led} (hc2 : ∃ v, c2.data = .cell v) (F : Fr h₀ L s.heap m) (N : News h₀ L s.heap ((L + 1 + 1, c2) :: led)) (hne : ∀ p ∈ led, p.1 ≠ L + 1 + 1)
    (hq : ∀ D c2' h' tk', Fr h₀ L h' m → c2'.data = .cell (some (.ref D)) → News h₀ L h' ((D, W.listOf #[] 0) :: (L + 1 + 1, c2') :: led) → (∀ p ∈ led, p.1 < D) → @LT.lt Nat _ (L + 1 + 1) D → Q .next { s with heap := h', toks := tk' }) :
    wpAny (model PySem.Challenge.rw_rs0140_02.prog w) (ktrTop dp un gd (Str.ofString "law") lawSc L fa cd0 (lawCl L) outer) (exec (lawStmt 5) (lawEnv L fa cd0)) Q E s := by
  refine exec_lawA (by conv => lhs; whnf) (by conv => lhs; whnf) ?_
  revert X
  k_fill
  intro X
  obtain ⟨cv, hcv⟩ := hc2
  (repeat' (first | (k_unfold; (try dsimp only)) | (k_end; wrow_close) | (first | ((with_reducible show wpAny _ _ (pyIter (Value.ref _)) _ _ _); (with_reducible refine holdIt ?_)) | ((with_reducible show wpAny _ _ (call (Value.ref _) _) _ _ _); (with_reducible refine holdIt ?_)) | ((with_reducible show Exists _); (with_reducible refine holdIt ?_)) | walk1) | (dsimp only; (first | ((with_reducible show wpAny _ _ (pyIter (Value.ref _)) _ _ _); (with_reducible refine holdIt ?_)) | ((with_reducible show wpAny _ _ (call (Value.ref _) _) _ _ _); (with_reducible refine holdIt ?_)) | ((with_reducible show Exists _); (with_reducible refine holdIt ?_)) | walk1)) | (leave1; walk_say "STEP leave1"; try dsimp only) | fail "no step"))
  rename_i l1 _ _ _ _ d1
  exact hq _ _ _ _ (by k_asm) d1 (by k_asm) (kst_ltOf l1.2) l1.1
end Mine
end

section
open PySem PySem.W PyProof.Rows
namespace Mine
theorem sec_ZP {M : Model} {A : Around} {E : Value → Shared → Prop} {s : Shared} {env : Env} {p : Pos} {Q : Flow → Shared → Prop} (h : Q .next s) : wpAny M A (exec (.Pass p) env) Q E s := by
  w_top off
  k_with_none
  walk1
  exact h
end Mine
end
section
open PySem PySem.W PyProof.Rows PySem.Calls PySem.Spec
set_option maxRecDepth 100000
set_option maxHeartbeats 1000000
namespace Mine
section
variable {prog : Program} {w : World} {A : Around} {E : Value → Shared → Prop} {s : Shared}
/-- zip's next item, over any two iterators -/
theorem zipn_item {z TI TO i1 i2 l1 l2 : Addr} {k1 k2 : Nat} {xs ys : Array Value} {x y a b : Value} {At1 At2 : Nat → Heap → Prop} {Q : Value → Shared → Prop} (S1 : SubIt prog w i1 l1 xs At1) (S2 : SubIt prog w i2 l2 ys At2) (D : ZipApart z TI TO i1 i2 l1 l2)
    (hz : IsZip s.heap z TI TO .none) (hTI : IsPair s.heap TI (.ref i1) (.ref i2)) (hTO : IsPair s.heap TO a b)
    (h1 : At1 k1 s.heap) (h2 : At2 k2 s.heap) (hx : xs[k1]? = some x) (hy : ys[k2]? = some y)
    (hQ : ∀ h', IsZip h' z TI TO (rawInt s.heap.objs.size) → IsPair h' TO x y → At1 (k1 + 1) h' → At2 (k2 + 1) h' → IsPair h' s.heap.objs.size x y → h'.objs.size = s.heap.objs.size + 1 →
      (∀ c o, c ≠ z → c ≠ TO → c ≠ i1 → c ≠ i2 → s.heap.get? c = some o → h'.get? c = some o) → Q (.ref s.heap.objs.size) { s with heap := h' }) :
    wpAny (model prog w) A (Builtin.«zip.__next__» ⟨[.ref z], []⟩) (fun fin s' => ∃ v, fin = .done (.ret v) ∧ Q v s') E s := by
  show wpAny _ _ (field (.ref z) 2 >>= _) _ _ _
  refine wpAny_bind (wpAny_field hz rfl (x := .bool false) rfl ?_)
  show wpAny _ _ (field (.ref z) 3 >>= _) _ _ _
  refine wpAny_bind (wpAny_field hz rfl (x := .ref TI) rfl ?_)
  refine wpAny_bind (wpAny_seqItems hTI rfl ?_)
  show wpAny _ _ (Builtin.SmallTypes.ownedTupleIsFree (.ref z) >>= _) _ _ _
  refine wpAny_bind ?_
  unfold Builtin.SmallTypes.ownedTupleIsFree
  refine wpAny_bind (wpAny_field hz rfl (x := .none) rfl (wpAny_pure ?_))
  simp only [if_true]
  refine wpAny_bind (wpAny_rule ?_)
  refine wpAny_bind (wpAny_field hz rfl (x := .ref TO) rfl ?_)
  refine wpAny_bind (wpAny_setField_rec hz (by simp) fun h₁ hz₁ hs₁ => ?_)
  replace hz₁ : IsZip h₁ z TI TO .ellipsis := hz₁
  refine wpAny_bind ?_
  simp only [List.zipIdx_cons, List.zipIdx_nil, List.forIn_cons, List.forIn_nil]
  refine wpAny_bind (wpAny_bind (wpAny_onRaise ?_))
  show wpAny _ _ (Builtin.SmallTypes.nextOf (.ref i1) >>= _) _ _ _
  have a1 := S1.but h1 hs₁.extBut D.i1z D.l1z
  refine wpAny_bind (S1.item _ _ _ _ _ _ a1 hx fun h₂ h1₂ hs₂ => wpAny_pure ?_)
  have hTO₂ : IsPair h₂ TO a b := hs₂.extBut _ _ D.TOi1 (hs₁.extBut _ _ D.TOz hTO)
  refine wpAny_bind (wpAny_seqItems hTO₂ rfl ?_)
  refine wpAny_bind (wpAny_updateSeq_pair hTO₂ fun h₃ hTO₃ hs₃ => ?_)
  replace hTO₃ : IsPair h₃ TO x b := hTO₃
  refine wpAny_bind (wpAny_letGo (wpAny_pure ?_))
  refine wpAny_bind (wpAny_bind (wpAny_onRaise ?_))
  show wpAny _ _ (Builtin.SmallTypes.nextOf (.ref i2) >>= _) _ _ _
  have a2 := S2.but (S2.but (S2.but h2 hs₁.extBut D.i2z D.l2z) hs₂.extBut D.i12.symm D.l2i1) hs₃.extBut D.TOi2.symm D.l2TO
  refine wpAny_bind (S2.item _ _ _ _ _ _ a2 hy fun h₄ h2₄ hs₄ => wpAny_pure ?_)
  have hTO₄ : IsPair h₄ TO x b := hs₄.extBut _ _ D.TOi2 hTO₃
  refine wpAny_bind (wpAny_seqItems hTO₄ rfl ?_)
  refine wpAny_bind (wpAny_updateSeq_pair hTO₄ fun h₅ hTO₅ hs₅ => ?_)
  replace hTO₅ : IsPair h₅ TO x y := hTO₅
  refine wpAny_bind (wpAny_letGo (wpAny_pure (wpAny_pure ?_)))
  refine wpAny_bind (wpAny_seqItems hTO₅ rfl ?_)
  refine wpAny_bind (wpAny_newTuple ?_)
  have hsz : h₅.objs.size = s.heap.objs.size := by rw [hs₅.1, hs₄.1, hs₃.1, hs₂.1, hs₁.1]
  have hz₅ : IsZip h₅ z TI TO .ellipsis := hs₅.extBut _ _ D.TOz.symm (hs₄.extBut _ _ D.i2z.symm (hs₃.extBut _ _ D.TOz.symm (hs₂.extBut _ _ D.i1z.symm hz₁)))
  have hk₅ : ∀ c o, c ≠ z → c ≠ TO → c ≠ i1 → c ≠ i2 → s.heap.get? c = some o → h₅.get? c = some o := fun c o c1 c2 c3 c4 e =>
    hs₅.extBut _ _ c2 (hs₄.extBut _ _ c4 (hs₃.extBut _ _ c2 (hs₂.extBut _ _ c3 (hs₁.extBut _ _ c1 e))))
  have h1₅ : At1 (k1 + 1) h₅ := S1.but (S1.but (S1.but h1₂ hs₃.extBut D.TOi1.symm D.l1TO) hs₄.extBut D.i12 D.l1i2) hs₅.extBut D.TOi1.symm D.l1TO
  have h2₅ : At2 (k2 + 1) h₅ := S2.but h2₄ hs₅.extBut D.TOi2.symm D.l2TO
  have hzlt : z < h₅.objs.size := Heap.lt_size hz₅
  show wpAny _ _ (Builtin.SmallTypes.ownedTupleHandOut (.ref z) (.ref h₅.objs.size) >>= _) _ _ _
  refine wpAny_bind ?_
  unfold Builtin.SmallTypes.ownedTupleHandOut
  have hz₆ : IsZip (h₅.push { cls := .type "tuple", data := .seq #[x, y] }) z TI TO .ellipsis := Heap.get?_push_of_some _ hz₅
  refine wpAny_bind (wpAny_setField_rec hz₆ (by simp) fun h₇ hz₇ hs₇ => ?_)
  replace hz₇ : IsZip h₇ z TI TO (rawInt h₅.objs.size) := hz₇
  refine wpAny_setField_rec hz₇ (by simp) fun h₈ hz₈ hs₈ => ?_
  replace hz₈ : IsZip h₈ z TI TO (rawInt h₅.objs.size) := hz₈
  have up : ∀ c o, c ≠ z → h₅.get? c = some o → h₈.get? c = some o := fun c o c1 e => hs₈.extBut _ _ c1 (hs₇.extBut _ _ c1 (Heap.get?_push_of_some _ e))
  have hT₈ : IsPair h₈ h₅.objs.size x y := hs₈.extBut _ _ (Nat.ne_of_gt hzlt) (hs₇.extBut _ _ (Nat.ne_of_gt hzlt) (Heap.get?_push_size _ rfl))
  have hz8 : h₈.objs.size = h₅.objs.size + 1 := by rw [hs₈.1, hs₇.1, Heap.size_push]
  rw [hsz] at hz₈ hT₈ hz8
  refine wpAny_pure ⟨_, rfl, ?_⟩
  show Q (.ref h₅.objs.size) _
  rw [hsz]
  exact hQ h₈ hz₈ (up _ _ D.TOz hTO₅) (S1.frame _ _ _ h1₅ fun c o hc e => up _ o (by rcases hc with rfl | rfl; exact D.i1z; exact D.l1z) e) (S2.frame _ _ _ h2₅ fun c o hc e => up _ o (by rcases hc with rfl | rfl; exact D.i2z; exact D.l2z) e) hT₈ hz8 fun c o c1 c2 c3 c4 e => up c o c1 (hk₅ c o c1 c2 c3 c4 e)
theorem zipn_end {z TI TO i1 i2 l1 l2 : Addr} {k1 : Nat} {xs : Array Value} {a b : Value} {At1 : Nat → Heap → Prop} {Q : Fin → Shared → Prop} (hh : A.handled = none) (S1 : SubIt prog w i1 l1 xs At1) (D : ZipApart z TI TO i1 i2 l1 l2)
    (hz : IsZip s.heap z TI TO .none) (hTI : IsPair s.heap TI (.ref i1) (.ref i2)) (hTO : IsPair s.heap TO a b)
    (h1 : At1 k1 s.heap) (hx : xs[k1]? = none)
    (hE : ∀ h' e, (∀ c o, c ≠ z → c ≠ TO → c ≠ i1 → c ≠ i2 → s.heap.get? c = some o → h'.get? c = some o) → (∃ o, h'.get? e = some o ∧ o.cls = .type "StopIteration") → E (.ref e) { s with heap := h' }) :
    wpAny (model prog w) A (Builtin.«zip.__next__» ⟨[.ref z], []⟩) Q E s := by
  show wpAny _ _ (field (.ref z) 2 >>= _) _ _ _
  refine wpAny_bind (wpAny_field hz rfl (x := .bool false) rfl ?_)
  show wpAny _ _ (field (.ref z) 3 >>= _) _ _ _
  refine wpAny_bind (wpAny_field hz rfl (x := .ref TI) rfl ?_)
  refine wpAny_bind (wpAny_seqItems hTI rfl ?_)
  show wpAny _ _ (Builtin.SmallTypes.ownedTupleIsFree (.ref z) >>= _) _ _ _
  refine wpAny_bind ?_
  unfold Builtin.SmallTypes.ownedTupleIsFree
  refine wpAny_bind (wpAny_field hz rfl (x := .none) rfl (wpAny_pure ?_))
  simp only [if_true]
  refine wpAny_bind (wpAny_rule ?_)
  refine wpAny_bind (wpAny_field hz rfl (x := .ref TO) rfl ?_)
  refine wpAny_bind (wpAny_setField_rec hz (by simp) fun h₁ hz₁ hs₁ => ?_)
  replace hz₁ : IsZip h₁ z TI TO .ellipsis := hz₁
  refine wpAny_bind ?_
  simp only [List.zipIdx_cons, List.zipIdx_nil, List.forIn_cons, List.forIn_nil]
  refine wpAny_bind (wpAny_bind (wpAny_onRaise ?_))
  show wpAny _ _ (Builtin.SmallTypes.nextOf (.ref i1) >>= _) _ _ _
  refine wpAny_bind (S1.fin _ _ _ _ _ (by simpa using hh) (S1.but h1 hs₁.extBut D.i1z D.l1z) hx fun h₂ e hs₂ he => ?_)
  obtain ⟨oe, hoe, hce⟩ := he
  have hz₂ : IsZip h₂ z TI TO .ellipsis := hs₂ _ _ D.i1z.symm hz₁
  have hez : e ≠ z := fun x => by subst x; rw [hz₂] at hoe; cases hoe; simp at hce
  refine wpAny_setField_rec hz₂ (by simp) fun h₃ _ hs₃ => hE h₃ e (fun c o c1 _ c3 _ x => hs₃.extBut _ _ c1 (hs₂ _ _ c3 (hs₁.extBut _ _ c1 x))) ⟨oe, hs₃.extBut _ _ hez hoe, hce⟩
/-- the turns of zip over two iterators of one length -/
theorem KTurns.zip (hh : A.handled = none) {z TI TO i1 i2 l1 l2 : Addr} {xs ys : Array Value} {At1 At2 : Nat → Heap → Prop} (S1 : SubIt prog w i1 l1 xs At1) (S2 : SubIt prog w i2 l2 ys At2) (D : ZipApart z TI TO i1 i2 l1 l2) (hlen : xs.size = ys.size) {elts : List Expr} {k : Nat} {pos : Pos} :
    KTurns prog w A (.Tuple elts k pos) z [z, TI, TO, i1, i2, l1, l2] [z, TO, i1, i2] xs.size (fun i v h => ∃ T x y, v = .ref T ∧ xs[i]? = some x ∧ ys[i]? = some y ∧ h.get? T = some (tupObj #[x, y] 0) ∧ z < T)
      (fun i v h => ∃ T x y, v = .ref T ∧ xs[i]? = some x ∧ ys[i]? = some y ∧ (h.get? T = some (tupObj #[x, y] 0) ∧ z < T) ∧ IsZip h z TI TO (rawInt T) ∧ IsPair h TI (.ref i1) (.ref i2) ∧ (∃ a b, IsPair h TO a b) ∧ At1 (i + 1) h ∧ At2 (i + 1) h ∧ T ≠ z ∧ T ≠ TO ∧ T ≠ i1 ∧ T ≠ i2)
      (fun i h => IsZip h z TI TO .none ∧ IsPair h TI (.ref i1) (.ref i2) ∧ (∃ a b, IsPair h TO a b) ∧ At1 i h ∧ At2 i h) where
  sub := fun c hc => by simp at hc ⊢; rcases hc with rfl | rfl | rfl | rfl <;> simp
  frame := fun i h h' st hk => by
    obtain ⟨hz, hTI, ⟨a, b, hTO⟩, h1, h2⟩ := st
    exact ⟨hk z (by simp) _ hz, hk TI (by simp) _ hTI, ⟨a, b, hk TO (by simp) _ hTO⟩, S1.frame _ _ _ h1 fun c o hc e => hk c (by rcases hc with rfl | rfl <;> simp) o e, S2.frame _ _ _ h2 fun c o hc e => hk c (by rcases hc with rfl | rfl <;> simp) o e⟩
  item := fun i s Q E hi st hQ => by
    obtain ⟨hz, hTI, ⟨a, b, hTO⟩, h1, h2⟩ := st
    have hx : xs[i]? = some xs[i] := Array.getElem?_eq_getElem hi
    have hiy : i < ys.size := hlen ▸ hi
    have hy : ys[i]? = some ys[i] := Array.getElem?_eq_getElem hiy
    have hT : s.TypeIs (.ref z) "zip" := ⟨_, hz, rfl⟩
    have lt : ∀ {c o}, s.heap.get? c = some o → s.heap.objs.size ≠ c := fun e => Nat.ne_of_gt (Heap.lt_size e)
    unfold pyNext
    refine wpAny_bind (wpAny_attempt (wpAny_callSpecial?_slot (name := Str.ofString "__next__") hT F.slot_zip_next
      (wpAny_call_entry F.slot_zip_next hT F.entry_zip_next
        (zipn_item S1 S2 D hz hTI hTO h1 h2 hx hy fun h' a1 a2 a3 a4 a5 a6 hk => wpAny_pure (hQ (.ref s.heap.objs.size) h' s.toks
          ⟨_, _, _, rfl, hx, hy, ⟨a5, Heap.lt_size hz⟩, a1, hk _ _ D.TIz D.TITO D.TIi1 D.TIi2 hTI, ⟨_, _, a2⟩, a3, a4, lt hz, lt hTO, (by obtain ⟨_, e⟩ := S1.get _ _ h1; exact lt e), (by obtain ⟨_, e⟩ := S2.get _ _ h2; exact lt e)⟩
          fun c o hc e => hk c o (fun x => hc (by simp [x])) (fun x => hc (by simp [x])) (fun x => hc (by simp [x])) (fun x => hc (by simp [x])) e)) (F.args_zip_next_1 _))))
  go := fun i v s Q E hm hQ => by
    obtain ⟨T, x, y, rfl, hx, hy, hT, hz, hTI, ⟨a, b, hTO⟩, h1, h2, t1, t2, t3, t4⟩ := hm
    refine wpAny_letOwnedTupleGo_zip hz fun h' hz' hs' => hQ h' ⟨T, x, y, rfl, hx, hy, hs'.extBut _ _ t1 hT.1, hT.2⟩ ⟨hz', hs'.extBut _ _ D.TIz hTI, ⟨a, b, hs'.extBut _ _ D.TOz hTO⟩, S1.but h1 hs'.extBut D.i1z D.l1z, S2.but h2 hs'.extBut D.i2z D.l2z⟩ fun c o hc e => hs'.extBut _ _ (fun x => hc (by simp [x])) e
  done := fun s Q E st hQ => by
    obtain ⟨hz, hTI, ⟨a, b, hTO⟩, h1, h2⟩ := st
    have hT : s.TypeIs (.ref z) "zip" := ⟨_, hz, rfl⟩
    unfold pyNext
    refine wpAny_bind (wpAny_attempt (wpAny_callSpecial?_slot (name := Str.ofString "__next__") hT F.slot_zip_next
      (wpAny_call_entry F.slot_zip_next hT F.entry_zip_next (zipn_end hh S1 D hz hTI hTO h1 (Array.getElem?_eq_none (Nat.le_refl _)) fun h' e hk he => ?_) (F.args_zip_next_1 _))))
    obtain ⟨o, ho, hc⟩ := he
    refine wpAny_bind (wpAny_isInstance (T := "StopIteration") (b := true) ⟨o, ho, hc⟩ isSubtype_stop ?_)
    exact wpAny_pure (hQ _ _ fun c o hc e => hk c o (fun x => hc (by simp [x])) (fun x => hc (by simp [x])) (fun x => hc (by simp [x])) (fun x => hc (by simp [x])) e)
end
noncomputable abbrev zlH2 (h : Heap) (l1 l2 : Addr) : Heap := (zipH1 h l1).push { cls := .type "tuple_iterator", data := .fields #[.ref l2, .int 0 0] }
noncomputable abbrev zlH3 (h : Heap) (l1 l2 : Addr) : Heap := (zlH2 h l1 l2).push { cls := .type "tuple", data := .seq #[.ref h.objs.size, .ref (zipH1 h l1).objs.size] }
noncomputable abbrev zlH4 (h : Heap) (l1 l2 : Addr) : Heap := (zlH3 h l1 l2).push { cls := .type "tuple", data := .seq #[.none, .none] }
noncomputable abbrev zlH5 (h : Heap) (l1 l2 : Addr) : Heap := (zlH4 h l1 l2).push { cls := .type "zip", data := .fields #[.none, .bool false, .bool false, .ref (zlH2 h l1 l2).objs.size, .ref (zlH3 h l1 l2).objs.size] }
theorem meets_zip_lt (l1 l2 : Addr) (xs ys : Array Value) :
    Meets (Builtin.«zip.__new__» ⟨[.type "zip", .ref l1, .ref l2], []⟩) (fun _ R s => s.heap.IsList l1 xs ∧ s.heap.IsTuple l2 ys ∧
      R (.ok (.ret (.ref (zlH4 s.heap l1 l2).objs.size))) { s with heap := zlH5 s.heap l1 l2 }) :=
  .of_wp fun prog w A R s h => by
    obtain ⟨hp, g, d, tk, os⟩ := s; obtain ⟨hl1, hl2, h⟩ := h
    have hsub := sub_zip
    have hL1 : Heap.IsList (Shared.heap ⟨hp, g, d, tk, os⟩) l1 xs := hl1
    have hL2 : Heap.IsTuple (Shared.heap ⟨hp.push { cls := .type "list_iterator", data := .fields #[.ref l1, .int 0 0] }, g, d, tk, os⟩) l2 ys := Heap.IsTuple.at hl2 fun o e => Heap.get?_push_of_some _ e
    wp_walk using wpAny_pyIter_list hL1, wpAny_pyIter_tuple hL2
    exact ⟨_, rfl, h⟩
section
variable {prog : Program} {w : World} {A : Around} {E : Value → Shared → Prop} {s : Shared}
theorem call_zip_lt {l1 l2 : Addr} {xs ys : Array Value} {Q : Value → Shared → Prop} (hl1 : s.heap.IsList l1 xs) (hl2 : s.heap.IsTuple l2 ys)
    (h : ∀ h', IsZip h' (s.heap.objs.size + 4) (s.heap.objs.size + 2) (s.heap.objs.size + 3) .none → IsPair h' (s.heap.objs.size + 2) (.ref s.heap.objs.size) (.ref (s.heap.objs.size + 1)) →
      IsPair h' (s.heap.objs.size + 3) .none .none → h'.IsListIter s.heap.objs.size l1 0 → h'.IsTupleIter (s.heap.objs.size + 1) l2 0 → h'.objs.size = s.heap.objs.size + 5 →
      (∀ c o, s.heap.get? c = some o → h'.get? c = some o) → Q (.ref (s.heap.objs.size + 4)) { s with heap := h' }) :
    wpAny (model prog w) A (call (.type "zip") [.ref l1, .ref l2]) Q E s := by
  refine callType_new F.called_zip (by decide) (F.typeCall_zip_2 _ _) (F.newCall_zip_2 _ _) (fun obj => F.args_object_init_3 obj _ _) F.entry_zip_new
    (meets_zip_lt l1 l2 xs ys) ⟨hl1, hl2, ?_⟩
  have z1 : (zipH1 s.heap l1).objs.size = s.heap.objs.size + 1 := Heap.size_push ..
  have z2 : (zlH2 s.heap l1 l2).objs.size = s.heap.objs.size + 2 := by rw [Heap.size_push, z1]
  have z3 : (zlH3 s.heap l1 l2).objs.size = s.heap.objs.size + 3 := by rw [Heap.size_push, z2]
  have z4 : (zlH4 s.heap l1 l2).objs.size = s.heap.objs.size + 4 := by rw [Heap.size_push, z3]
  have z5 : (zlH5 s.heap l1 l2).objs.size = s.heap.objs.size + 5 := by rw [Heap.size_push, z4]
  have g5 : (zlH5 s.heap l1 l2).get? (zlH4 s.heap l1 l2).objs.size = some _ := Heap.get?_push_size _ rfl
  have g4 : (zlH5 s.heap l1 l2).get? (zlH3 s.heap l1 l2).objs.size = some _ := Heap.get?_push_of_some _ (Heap.get?_push_size _ rfl)
  have g3 : (zlH5 s.heap l1 l2).get? (zlH2 s.heap l1 l2).objs.size = some _ := Heap.get?_push_of_some _ (Heap.get?_push_of_some _ (Heap.get?_push_size _ rfl))
  have g2 : (zlH5 s.heap l1 l2).get? (zipH1 s.heap l1).objs.size = some _ := Heap.get?_push_of_some _ (Heap.get?_push_of_some _ (Heap.get?_push_of_some _ (Heap.get?_push_size _ rfl)))
  have g1 : (zlH5 s.heap l1 l2).get? s.heap.objs.size = some _ := Heap.get?_push_of_some _ (Heap.get?_push_of_some _ (Heap.get?_push_of_some _ (Heap.get?_push_of_some _ (Heap.get?_push_size _ rfl))))
  show _ ∧ _
  rw [z2, z3, z4] at g5
  rw [z1, z2] at g3
  rw [z3] at g4
  rw [z1] at g2
  rw [z4]
  exact ⟨⟨_, g5, rfl⟩, h _ g5 g3 g4 ⟨_, g1, rfl, rfl⟩ ⟨_, g2, rfl, rfl⟩ z5 fun c o x =>
    Heap.get?_push_of_some _ (Heap.get?_push_of_some _ (Heap.get?_push_of_some _ (Heap.get?_push_of_some _ (Heap.get?_push_of_some _ x))))⟩
theorem zip_apart {n l1 l2 : Addr} (h1 : l1 < n) (h2 : l2 < n) : ZipApart (n + 4) (n + 2) (n + 3) n (n + 1) l1 l2 := by
  have a1 : @LT.lt Nat _ l1 n := h1
  have a2 : @LT.lt Nat _ l2 n := h2
  constructor <;> (intro e; have e' : @Eq Nat _ _ := e; omega)
end
end Mine
end

section
open PySem PySem.W PyProof.Rows
namespace Mine
theorem sec_ZK {M : Model} {A : Around} {E : Value → Shared → Prop} {s : Shared} {env : Env} {p : Pos} {Q : Flow → Shared → Prop} (h : Q .next s) : wpAny M A (exec (.Pass p) env) Q E s := by
  w_top off
  k_with_none
  walk1
  exact h
end Mine
end
section
open PySem PySem.W PyProof.Rows PySem.Calls PySem.Spec
set_option maxRecDepth 100000
set_option maxHeartbeats 1000000
namespace Mine
noncomputable abbrev zown (Z : Addr) (o4 o3 o2 o1 o0 : Obj) : Led := [(Z + 4, o4), (Z + 3, o3), (Z + 2, o2), (Z + 1, o1), (Z, o0)]
noncomputable abbrev zwr (Z : Addr) : List Addr := [Z + 4, Z + 3, Z, Z + 1]
section
variable {prog : Program} {w : World} {A : Around} {E : Value → Shared → Prop} {s : Shared} {env : Env} {h₀ : Heap} {body : List Stmt} {Q : Flow → Shared → Prop}
theorem zipCore {σ : Type} {elts : List Expr} {ek : Nat} {pos : Pos} {Z l1 l2 : Addr} {lo1 lo2 : Obj} {xs ys : List Value} {At1 At2 : Nat → Heap → Prop} {m₀ : Str → Option Value} (Ld : σ → Led) (ps : σ → List (Str × Value)) (stored : List Str) (PP : Addr → Nat → σ → Prop) (Fin : σ → Prop) (Rel : Shared → Prop) (c₀ : σ)
    (hh : A.handled = none) (hlen : xs.length = ys.length) (S1 : SubIt prog w Z l1 xs.toArray At1) (S2 : SubIt prog w (Z + 1) l2 ys.toArray At2) (hm1 : ∀ c, (l1, lo1) ∈ Ld c) (hm2 : ∀ c, (l2, lo2) ∈ Ld c)
    (hz : IsZip s.heap (Z + 4) (Z + 2) (Z + 3) .none) (hTI : IsPair s.heap (Z + 2) (.ref Z) (.ref (Z + 1))) (hTO : IsPair s.heap (Z + 3) .none .none) (h1 : At1 0 s.heap) (h2 : At2 0 s.heap)
    (hLZ : env.locals < Z) (hlt : ∀ p ∈ Ld c₀, p.1 < Z)
    (hR0 : Rel s) (hRm : ∀ s' h tk, Rel s' → Rel { s' with heap := h, toks := tk })
    (F : Fr h₀ env.locals s.heap m₀) (N : News h₀ env.locals s.heap (Ld c₀)) (hk : ∀ p ∈ ps c₀, m₀ p.1 = some p.2) (hp : PP Z 0 c₀)
    (turn : ∀ (c : σ) i T x y (u : Str → Option Value) s₁ o4 o3 o2 o1 o0, xs[i]? = some x → ys[i]? = some y → PP Z i c → (∀ p ∈ Ld c, p.1 ∉ zwr Z) → @LT.lt Nat _ (Z + 4) T → Rel s₁ →
      Fr h₀ env.locals s₁.heap (kstB (fun z => if stored.contains z then u z else m₀ z) (ps c)) → News h₀ env.locals s₁.heap ((T, tupObj #[x, y] 0) :: (Z + 4, o4) :: (Z + 3, o3) :: (Z + 2, o2) :: (Z + 1, o1) :: (Z, o0) :: Ld c) →
      wpAny (model prog w) A (assign (.Tuple elts ek pos) env (.ref T)) (fun _ s₂ => wpAny (model prog w) A (execs body env) (TurnK h₀ env.locals m₀ stored Ld ps (zwr Z) (zown Z o4 o3 o2 o1 o0) Rel (PP Z (i + 1)) Fin Q) E s₂) E s₁)
    (done : ∀ c, PP Z xs.length c → Fin c)
    (fin : ∀ (c : σ) (u : Str → Option Value) s₁, Fin c → Rel s₁ → Fr h₀ env.locals s₁.heap (kstB (fun z => if stored.contains z then u z else m₀ z) (ps c)) → News h₀ env.locals s₁.heap (Ld c) → Q .next s₁) :
    LoopS prog w A env (.Tuple elts ek pos) body Q E (.ref (Z + 4)) s := by
  have hl1 : l1 < Z := hlt _ (hm1 c₀)
  have hl2 : l2 < Z := hlt _ (hm2 c₀)
  have D : ZipApart (Z + 4) (Z + 2) (Z + 3) Z (Z + 1) l1 l2 := zip_apart hl1 hl2
  have g0 : ∀ a, Z ≤ a → h₀.get? a = none := fun a ha => by
    cases q : h₀.get? a with
    | none => rfl
    | some o' => exact absurd (Nat.lt_of_lt_of_le (Heap.lt_size q) F.above) (Nat.not_lt.mpr (Nat.le_of_lt (Nat.lt_of_lt_of_le hLZ ha)))
  have eL : ∀ n, Z + n ≠ env.locals := fun n => Nat.ne_of_gt (Nat.lt_of_lt_of_le hLZ (Nat.le_add_right _ _))
  refine loopK (σ := σ) Ld ps stored (PP Z) Fin Rel c₀ (KTurns.zip (elts := elts) (k := ek) (pos := pos) hh S1 S2 D (by simpa using hlen)) ⟨hz, hTI, ⟨_, _, hTO⟩, h1, h2⟩ ?_ ?_ ?_ hR0 hRm F N ?_ hk hp ?_ (fun c h => done c (by simpa using h)) fin
  · rintro i h ⟨q1, q2, ⟨a, b, q3⟩, q4, q5⟩ x hx
    simp only [List.mem_cons, List.not_mem_nil, or_false] at hx
    rcases hx with rfl | rfl | rfl | rfl | rfl | rfl | rfl
    · exact ⟨_, q1⟩
    · exact ⟨_, q2⟩
    · exact ⟨_, q3⟩
    · exact S1.get _ _ q4
    · exact S2.get _ _ q5
    · exact S1.getS _ _ q4
    · exact S2.getS _ _ q5
  · intro hm
    simp only [List.mem_cons, List.not_mem_nil, or_false] at hm
    rcases hm with e | e | e | e | e | e | e
    · exact eL 4 e.symm
    · exact eL 2 e.symm
    · exact eL 3 e.symm
    · exact eL 0 e.symm
    · exact eL 1 e.symm
    · exact (N _ (hm1 c₀)).2.1 e.symm
    · exact (N _ (hm2 c₀)).2.1 e.symm
  · intro b hb
    simp only [List.mem_cons, List.not_mem_nil, or_false] at hb
    rcases hb with rfl | rfl | rfl | rfl
    · exact g0 _ (Nat.le_add_right _ _)
    · exact g0 _ (Nat.le_add_right _ _)
    · exact g0 _ (Nat.le_refl _)
    · exact g0 _ (Nat.le_add_right _ _)
  · intro p hp' hm
    have := hlt p hp'
    simp only [List.mem_cons, List.not_mem_nil, or_false] at hm
    have a1 : @LT.lt Nat _ p.1 Z := this
    rcases hm with e | e | e | e <;> (have e' : @Eq Nat _ _ := e; omega)
  · rintro c i v u s₁ own hi ⟨T, x, y, rfl, hx, hy, hT, hzT⟩ hPc hoff hown hall hR F₁ N₁
    have mk : ∀ b ∈ [Z + 4, Z + 3, Z + 2, Z + 1, Z], ∃ o, (b, o) ∈ own := fun b hb => by
      simp only [List.mem_cons, List.not_mem_nil, or_false] at hb
      rcases hb with rfl | rfl | rfl | rfl | rfl
      · exact hall _ (by simp) (g0 _ (Nat.le_add_right _ _))
      · exact hall _ (by simp) (g0 _ (Nat.le_add_right _ _))
      · exact hall _ (by simp) (g0 _ (Nat.le_add_right _ _))
      · exact hall _ (by simp) (g0 _ (Nat.le_add_right _ _))
      · exact hall _ (by simp) (g0 _ (Nat.le_refl _))
    obtain ⟨o4, k4⟩ := mk (Z + 4) (by simp)
    obtain ⟨o3, k3⟩ := mk (Z + 3) (by simp)
    obtain ⟨o2, k2⟩ := mk (Z + 2) (by simp)
    obtain ⟨o1, k1⟩ := mk (Z + 1) (by simp)
    obtain ⟨o0, k0⟩ := mk Z (by simp)
    have inA : ∀ p ∈ own, p ∈ Ld c ++ own := fun p hp => memR hp
    have zsub : ∀ p ∈ zown Z o4 o3 o2 o1 o0, p ∈ own := fun p hp => by
      simp only [List.mem_cons, List.not_mem_nil, or_false] at hp
      rcases hp with rfl | rfl | rfl | rfl | rfl <;> assumption
    have N₂ : News h₀ env.locals s₁.heap ((T, tupObj #[x, y] 0) :: (Z + 4, o4) :: (Z + 3, o3) :: (Z + 2, o2) :: (Z + 1, o1) :: (Z, o0) :: Ld c) := by
      refine newsCons F₁ (newsSub N₁ fun p hp => ?_) hT (Nat.lt_trans (Nat.lt_of_lt_of_le hLZ (Nat.le_add_right _ _)) hzT)
      have hz5 := zsub p
      simp only [List.mem_cons, List.not_mem_nil, or_false] at hz5 hp
      rcases hp with h | h | h | h | h | h
      · exact memR (hz5 (.inl h))
      · exact memR (hz5 (.inr (.inl h)))
      · exact memR (hz5 (.inr (.inr (.inl h))))
      · exact memR (hz5 (.inr (.inr (.inr (.inl h)))))
      · exact memR (hz5 (.inr (.inr (.inr (.inr h)))))
      · exact memL h
    have own_is : ∀ p ∈ own, p ∈ zown Z o4 o3 o2 o1 o0 ∨ ∀ c, p ∈ Ld c := by
      intro p hp
      have g := (N₁ p (memR hp)).1
      have same : ∀ {b : Addr} {o : Obj}, p.1 = b → (b, o) ∈ Ld c ++ own → p = (b, o) := fun {b o} e hm => by
        have g2 := (N₁ _ hm).1
        rw [e] at g
        exact Prod.ext e (Option.some.inj (g.symm.trans g2))
      have h7 := hown p hp
      simp only [List.mem_cons, List.not_mem_nil, or_false] at h7
      rcases h7 with e | e | e | e | e | e | e
      · exact .inl (by rw [same e (inA _ k4)]; simp)
      · exact .inl (by rw [same e (inA _ k2)]; simp)
      · exact .inl (by rw [same e (inA _ k3)]; simp)
      · exact .inl (by rw [same e (inA _ k0)]; simp)
      · exact .inl (by rw [same e (inA _ k1)]; simp)
      · exact .inr fun c' => by rw [same e (memL (hm1 c))]; exact hm1 c'
      · exact .inr fun c' => by rw [same e (memL (hm2 c))]; exact hm2 c'
    have up : ∀ {T' : σ → Prop} {s₂ : Shared}, LeftK h₀ env.locals m₀ stored Ld ps (zwr Z) (zown Z o4 o3 o2 o1 o0) Rel T' s₂ → LeftK h₀ env.locals m₀ stored Ld ps (zwr Z) own Rel T' s₂ := by
      rintro T' s₂ ⟨c', m', nw, hR', F', N', hown', hsub, ho', q1, q2, hP'⟩
      refine ⟨c', m', nw, hR', F', N', fun p hp => ?_, hsub, ho', q1, q2, hP'⟩
      rcases own_is p hp with h | h
      · exact hown' _ h
      · exact hsub _ (h c')
    refine wpAny_mono (turn c i T x y u s₁ o4 o3 o2 o1 o0 (by simpa using hx) (by simpa using hy) hPc hoff hzT hR F₁ N₂) (fun _ s₂ h₂ => wpAny_mono h₂ (fun f s₃ h₃ => ?_) fun _ _ e => e) fun _ _ e => e
    cases f with
    | ret v => exact h₃
    | brk => exact up h₃
    | next => exact up h₃
    | cont => exact up h₃
/-- zip of two lists of the ledger's -/
theorem zipLL {σ : Type} {elts : List Expr} {ek : Nat} {pos : Pos} {l1 l2 : Addr} {k1 k2 : Nat} {xs ys : List Value} {m₀ : Str → Option Value} (Ld : σ → Led) (ps : σ → List (Str × Value)) (stored : List Str) (PP : Addr → Nat → σ → Prop) (Fin : σ → Prop) (Rel : Shared → Prop) (c₀ : σ)
    (hh : A.handled = none) (hlen : xs.length = ys.length) (hm1 : ∀ c, (l1, W.listOf xs.toArray k1) ∈ Ld c) (hm2 : ∀ c, (l2, W.listOf ys.toArray k2) ∈ Ld c)
    (hR0 : Rel s) (hRm : ∀ s' h tk, Rel s' → Rel { s' with heap := h, toks := tk })
    (F : Fr h₀ env.locals s.heap m₀) (N : News h₀ env.locals s.heap (Ld c₀)) (hk : ∀ p ∈ ps c₀, m₀ p.1 = some p.2) (hp : ∀ Z, (∀ p ∈ Ld c₀, p.1 < Z) → PP Z 0 c₀)
    (turn : ∀ Z, (∀ p ∈ Ld c₀, p.1 < Z) → env.locals < Z → ∀ (c : σ) i T x y (u : Str → Option Value) s₁ o4 o3 o2 o1 o0, xs[i]? = some x → ys[i]? = some y → PP Z i c → (∀ p ∈ Ld c, p.1 ∉ zwr Z) → @LT.lt Nat _ (Z + 4) T → Rel s₁ →
      Fr h₀ env.locals s₁.heap (kstB (fun z => if stored.contains z then u z else m₀ z) (ps c)) → News h₀ env.locals s₁.heap ((T, tupObj #[x, y] 0) :: (Z + 4, o4) :: (Z + 3, o3) :: (Z + 2, o2) :: (Z + 1, o1) :: (Z, o0) :: Ld c) →
      wpAny (model prog w) A (assign (.Tuple elts ek pos) env (.ref T)) (fun _ s₂ => wpAny (model prog w) A (execs body env) (TurnK h₀ env.locals m₀ stored Ld ps (zwr Z) (zown Z o4 o3 o2 o1 o0) Rel (PP Z (i + 1)) Fin Q) E s₂) E s₁)
    (done : ∀ Z c, PP Z xs.length c → Fin c)
    (fin : ∀ (c : σ) (u : Str → Option Value) s₁, Fin c → Rel s₁ → Fr h₀ env.locals s₁.heap (kstB (fun z => if stored.contains z then u z else m₀ z) (ps c)) → News h₀ env.locals s₁.heap (Ld c) → Q .next s₁) :
    wpAny (model prog w) A (call (.type "zip") [.ref l1, .ref l2]) (fun xv s₁ => wpAny (model prog w) A (pyIter xv) (fun it s₂ => LoopS prog w A env (.Tuple elts ek pos) body Q E it s₂) E s₁) E s := by
  have hlt : ∀ p ∈ Ld c₀, p.1 < s.heap.objs.size := fun p hp => Heap.lt_size (N p hp).1
  refine call_zip_2 (N.isList (hm1 c₀)) (N.isList (hm2 c₀)) fun h' hz hTI hTO hi1 hi2 hsz hk' => ?_
  refine wpAny_pyIter_zip hz ?_
  exact zipCore (Z := s.heap.objs.size) (s := { s with heap := h' }) Ld ps stored PP Fin Rel c₀ hh hlen (SubIt.list (Nat.ne_of_lt (hlt _ (hm1 c₀)))) (SubIt.list (Nat.ne_of_lt (Nat.lt_succ_of_lt (hlt _ (hm2 c₀))))) hm1 hm2 hz hTI hTO
    ⟨hi1, (N.isList (hm1 c₀)).at fun o e => hk' _ o e⟩ ⟨hi2, (N.isList (hm2 c₀)).at fun o e => hk' _ o e⟩ F.ns.lt hlt (hRm s _ s.toks hR0) hRm (F.keeps hk') (newsKeep N hk') hk (hp _ hlt) (turn _ hlt F.ns.lt) (done _) fin
/-- zip of a list and a tuple of the ledger's -/
theorem zipLT {σ : Type} {elts : List Expr} {ek : Nat} {pos : Pos} {l1 l2 : Addr} {k1 k2 : Nat} {xs ys : List Value} {m₀ : Str → Option Value} (Ld : σ → Led) (ps : σ → List (Str × Value)) (stored : List Str) (PP : Addr → Nat → σ → Prop) (Fin : σ → Prop) (Rel : Shared → Prop) (c₀ : σ)
    (hh : A.handled = none) (hlen : xs.length = ys.length) (hm1 : ∀ c, (l1, W.listOf xs.toArray k1) ∈ Ld c) (hm2 : ∀ c, (l2, tupObj ys.toArray k2) ∈ Ld c)
    (hR0 : Rel s) (hRm : ∀ s' h tk, Rel s' → Rel { s' with heap := h, toks := tk })
    (F : Fr h₀ env.locals s.heap m₀) (N : News h₀ env.locals s.heap (Ld c₀)) (hk : ∀ p ∈ ps c₀, m₀ p.1 = some p.2) (hp : ∀ Z, (∀ p ∈ Ld c₀, p.1 < Z) → PP Z 0 c₀)
    (turn : ∀ Z, (∀ p ∈ Ld c₀, p.1 < Z) → env.locals < Z → ∀ (c : σ) i T x y (u : Str → Option Value) s₁ o4 o3 o2 o1 o0, xs[i]? = some x → ys[i]? = some y → PP Z i c → (∀ p ∈ Ld c, p.1 ∉ zwr Z) → @LT.lt Nat _ (Z + 4) T → Rel s₁ →
      Fr h₀ env.locals s₁.heap (kstB (fun z => if stored.contains z then u z else m₀ z) (ps c)) → News h₀ env.locals s₁.heap ((T, tupObj #[x, y] 0) :: (Z + 4, o4) :: (Z + 3, o3) :: (Z + 2, o2) :: (Z + 1, o1) :: (Z, o0) :: Ld c) →
      wpAny (model prog w) A (assign (.Tuple elts ek pos) env (.ref T)) (fun _ s₂ => wpAny (model prog w) A (execs body env) (TurnK h₀ env.locals m₀ stored Ld ps (zwr Z) (zown Z o4 o3 o2 o1 o0) Rel (PP Z (i + 1)) Fin Q) E s₂) E s₁)
    (done : ∀ Z c, PP Z xs.length c → Fin c)
    (fin : ∀ (c : σ) (u : Str → Option Value) s₁, Fin c → Rel s₁ → Fr h₀ env.locals s₁.heap (kstB (fun z => if stored.contains z then u z else m₀ z) (ps c)) → News h₀ env.locals s₁.heap (Ld c) → Q .next s₁) :
    wpAny (model prog w) A (call (.type "zip") [.ref l1, .ref l2]) (fun xv s₁ => wpAny (model prog w) A (pyIter xv) (fun it s₂ => LoopS prog w A env (.Tuple elts ek pos) body Q E it s₂) E s₁) E s := by
  have hlt : ∀ p ∈ Ld c₀, p.1 < s.heap.objs.size := fun p hp => Heap.lt_size (N p hp).1
  have htup := tupIs N (hm2 c₀)
  refine call_zip_lt (N.isList (hm1 c₀)) htup fun h' hz hTI hTO hi1 hi2 hsz hk' => ?_
  refine wpAny_pyIter_zip hz ?_
  exact zipCore (Z := s.heap.objs.size) (s := { s with heap := h' }) Ld ps stored PP Fin Rel c₀ hh hlen (SubIt.list (Nat.ne_of_lt (hlt _ (hm1 c₀)))) (SubIt.tup (Nat.ne_of_lt (Nat.lt_succ_of_lt (hlt _ (hm2 c₀))))) hm1 hm2 hz hTI hTO
    ⟨hi1, (N.isList (hm1 c₀)).at fun o e => hk' _ o e⟩ ⟨hi2, htup.at fun o e => hk' _ o e⟩ F.ns.lt hlt (hRm s _ s.toks hR0) hRm (F.keeps hk') (newsKeep N hk') hk (hp _ hlt) (turn _ hlt F.ns.lt) (done _) fin
end
end Mine
end

section
open PySem PySem.W PyProof.Rows
namespace Mine
theorem sec_AL {M : Model} {A : Around} {E : Value → Shared → Prop} {s : Shared} {env : Env} {p : Pos} {Q : Flow → Shared → Prop} (h : Q .next s) : wpAny M A (exec (.Pass p) env) Q E s := by
  w_top off
  k_with_none
  walk1
  exact h
end Mine
end
section
open PySem PySem.W PyProof.Rows
set_option maxRecDepth 100000
set_option maxHeartbeats 2000000
namespace Mine
noncomputable def wsOf (rows : List Int) (b : Int) : Ws := wsRun (whiteText rows (behindOf b)).cps.toList ⟨[], 0, 0, 0⟩
noncomputable def witOf (st st' : Ws) : List (Int × Int × Int) := newRows st st' (topSize st st').toNat
noncomputable def agOf (b n : Int) (sz : List Int) : List Str := agentsOf (witOf (wsOf [n] b) (wsOf [n - 1] b)) sz
theorem newRows_len (st st' : Ws) : ∀ n, (newRows st st' n).length ≤ n
  | 0 => Nat.le_refl _
  | n + 1 => by
    rw [newRows_succ, newStep]
    have := newRows_len st st' n
    split
    · omega
    · simp; omega
theorem newRows_in (st st' : Ws) : ∀ n, ∀ r ∈ newRows st st' n, 1 ≤ r.1 ∧ r.1 ≤ (n : Int)
  | 0 => fun _ h => nomatch h
  | n + 1 => fun r h => by
    rw [newRows_succ, newStep] at h
    have := newRows_in st st' n r
    split at h
    · have := this h; omega
    · rcases List.mem_append.mp h with h | h
      · have := this h; omega
      · rw [List.mem_singleton.mp h]; dsimp only; omega
theorem top_small : ∀ b ∈ [(0 : Int), 1, 2], ∀ n ∈ [(1 : Int), 2, 3, 4, 5, 6, 7, 8, 9, 10], (topSize (wsOf [n] b) (wsOf [n - 1] b)).toNat ≤ 20 := by decide +kernel
theorem behind_len : ∀ b ∈ [(0 : Int), 1, 2], (behindOf b).length ≤ 10 := by decide +kernel
theorem in3 {b : Int} (h : 0 ≤ b ∧ b ≤ 2) : b ∈ [(0 : Int), 1, 2] := by simp only [List.mem_cons, List.not_mem_nil, or_false]; omega
theorem in10 {n : Int} (h : 1 ≤ n ∧ n ≤ 10) : n ∈ [(1 : Int), 2, 3, 4, 5, 6, 7, 8, 9, 10] := fin_mem (m := 10) (by decide) h
theorem wit_len {b n : Int} (hb : 0 ≤ b ∧ b ≤ 2) (hn : 1 ≤ n ∧ n ≤ 10) : (witOf (wsOf [n] b) (wsOf [n - 1] b)).length ≤ 1000 := Nat.le_trans (newRows_len _ _ _) (Nat.le_trans (top_small b (in3 hb) n (in10 hn)) (by decide))
theorem wit_in {b n : Int} (hb : 0 ≤ b ∧ b ≤ 2) (hn : 1 ≤ n ∧ n ≤ 10) : ∀ r ∈ witOf (wsOf [n] b) (wsOf [n - 1] b), 0 ≤ r.1 ∧ r.1 ≤ 100000 := fun r h => by
  have h1 := newRows_in _ _ _ r h
  have h2 := top_small b (in3 hb) n (in10 hn)
  omega
/-- the records of law's first loop -/
noncomputable def RecsAt (w : World) (tl cd : Led) (vs : List Value) (ns : List Int) (szs : List (List Int)) (b : Int) : Prop :=
  ∀ (j : Nat) v, vs[j]? = some v → ∃ x rv n sz, v = .ref x ∧ ns[j]? = some n ∧ szs[j]? = some sz ∧ EntAt tl x (agOf b n sz) rv ∧ RulesAt w (tl ++ cd) rv (rulesOf (agOf b n sz))
theorem RecsAt.mono {w : World} {tl cd tl' cd' : Led} {vs : List Value} {ns : List Int} {szs : List (List Int)} {b : Int} (h : RecsAt w tl cd vs ns szs b) (h1 : ∀ p ∈ tl, p ∈ tl') (h2 : ∀ p ∈ cd, p ∈ cd') : RecsAt w tl' cd' vs ns szs b :=
  fun j v e => let ⟨x, rv, n, sz, e1, e2, e3, e4, e5⟩ := h j v e; ⟨x, rv, n, sz, e1, e2, e3, e4.mono h1, e5.mono fun p hp => (List.mem_append.mp hp).elim (fun q => memL (h1 p q)) fun q => memR (h2 p q)⟩
theorem RecsAt.snoc {w : World} {tl cd : Led} {vs : List Value} {ns : List Int} {szs : List (List Int)} {b : Int} {i : Nat} {x : Addr} {rv : List Value} {n : Int} {sz : List Int} (h : RecsAt w tl cd vs ns szs b) (hl : vs.length = i) (h1 : ns[i]? = some n) (h2 : szs[i]? = some sz) (h3 : EntAt tl x (agOf b n sz) rv) (h4 : RulesAt w (tl ++ cd) rv (rulesOf (agOf b n sz))) : RecsAt w tl cd (vs ++ [.ref x]) ns szs b := by
  intro j v e
  by_cases hj : j < vs.length
  · rw [List.getElem?_append_left hj] at e
    exact h j v e
  · have hj' : j = i := by
      have := (List.getElem?_eq_some_iff.mp e).1
      simp at this
      omega
    subst hj'
    rw [List.getElem?_append_right (by omega)] at e
    simp [hl] at e
    exact ⟨x, rv, n, sz, e.symm, h1, h2, h3, h4⟩
end Mine
end

section
local macro_rules | `(tactic| walk_at "exec For Name Call cons nil") => `(tactic| (k_here; (with_unfolding_all refine' For_S ?_)))
section
local macro_rules | `(tactic| walk_at "exec For Tuple Tuple cons nil") => `(tactic| (k_here; (with_unfolding_all refine' For_S ?_)))
section
local macro_rules | `(tactic| walk_at "exec For Tuple Call cons nil") => `(tactic| (k_here; (with_unfolding_all refine' For_S ?_)))
section
local macro_rules | `(tactic| walk_at "exec For Tuple Call") => `(tactic| (k_here; (with_unfolding_all refine' For_S ?_ (hE := (by assumption)))))
section
open PySem PySem.W PyProof.Rows
namespace Mine
theorem sec_S3 {M : Model} {A : Around} {E : Value → Shared → Prop} {s : Shared} {env : Env} {p : Pos} {Q : Flow → Shared → Prop} (h : Q .next s) : wpAny M A (exec (.Pass p) env) Q E s := by
  w_top off
  k_with_none
  walk1
  exact h
end Mine
end
section
open PySem PySem.W PyProof.Rows
set_option maxRecDepth 100000
set_option maxHeartbeats 2000000
namespace Mine
theorem exec_lawFE {M : Model} {E : Value → Shared → Prop} {s : Shared} {dp un k : Nat} {gd : Option (List Code)} {fa L : Addr} {cd : Value} {outer : List Env} {a b : Expr} {c d : List Stmt} {p : Pos} {sk : ScopeKind} {nms : List (Str × NameKind)} {ig ic : Bool} {mr : List (Str × Const)} {Q : Flow → Shared → Prop} (e : lawStmt k = .For a b c d p) (e2 : lawSc = ⟨sk, nms, ig, ic, mr⟩) (hE : PassesOwn M (ktrTop dp un gd (Str.ofString "law") lawSc L fa cd (lawCl L) outer) (lawEnv L fa cd) E)
    (h : PassesOwn M (ktrTop dp un gd (Str.ofString "law") ⟨sk, nms, ig, ic, mr⟩ L fa cd (lawCells L) outer) (envX (Str.ofString "law") ⟨sk, nms, ig, ic, mr⟩ L fa cd (lawCells L)) E → wpAny M (ktrTop dp un gd (Str.ofString "law") ⟨sk, nms, ig, ic, mr⟩ L fa cd (lawCells L) outer) (exec (.For a b c d p) (envX (Str.ofString "law") ⟨sk, nms, ig, ic, mr⟩ L fa cd (lawCells L))) Q E s) :
    wpAny M (ktrTop dp un gd (Str.ofString "law") lawSc L fa cd (lawCl L) outer) (exec (lawStmt k) (lawEnv L fa cd)) Q E s := by
  refine exec_lawF e e2 (h ?_)
  unfold lawEnv at hE
  rw [lawCl_is, e2] at hE
  exact hE
structure ZC where
  rv : List Value
  k : Nat
  t1 : Array Value
  t2 : Array Value
  cd : Led
  tl : Led
noncomputable def ZInv (w : World) (cd : Led) (lr : Addr) (ns : List Int) (szs : List (List Int)) (b : Int) (Z : Addr) (i : Nat) (c : ZC) : Prop :=
  c.rv.length = i ∧ RecsAt w c.tl c.cd c.rv ns szs b ∧ TriplesOk c.t1.toList ∧ TabC lamQ c.t2 c.cd ∧ (∀ p ∈ c.cd ++ c.tl, @LT.lt Nat _ 157 p.1) ∧ (∀ p ∈ c.cd ++ c.tl, p.1 ≠ lr) ∧ (∀ p ∈ cd, p ∈ c.cd) ∧ (∀ p ∈ c.cd, p ∈ cd ∨ @LT.lt Nat _ (Z + 4) p.1) ∧ ∀ p ∈ c.tl, @LT.lt Nat _ (Z + 4) p.1
theorem seg6 (w : World) {dp un : Nat} {gd : Option (List Code)} {fa : Addr} {cd0 : Value} {outer : List Env} {A₀ : Around} {base h₀ : Heap} {L : Addr} {loose : List Str} {mean : ExcName → Option Value} {mg mb : Str → Option Value} {m : Str → Option Value} {s : Shared} {Q : Flow → Shared → Prop} {E : Value → Shared → Prop}
    (B : Below A₀ base outer h₀) (X : (hd.heap_39 w.params).In h₀) (T : Top topProg loose mean mg mb h₀) (hdp : dp + 8 < recursionLimit) (hu : un + 20 * 8 < cLine)
    (hE : PassesOwn (model PySem.Challenge.rw_rs0140_02.prog w) (ktrTop dp un gd (Str.ofString "law") lawSc L fa cd0 (lawCl L) outer) (lawEnv L fa cd0) E)
    {b : Int} (hb : 0 ≤ b ∧ b ≤ 2) {tb : Tok} {lr an ao ar : Addr} {xs ys rvs : List Value} {ns : List Int} {szs : List (List Int)} {kn ko kr : Nat} {c2 : Obj} {t1 t2 : Array Value} {cd KK : Led}
    (hmN : m (Str.ofString "numbers") = some (.ref an)) (hmO : m (Str.ofString "orders") = some (.ref ao)) (hmR : m (Str.ofString "readers") = some (.ref ar)) (hmB : m (Str.ofString "behind") = some (.str (behindOf b) tb))
    (hc2 : c2.data = .cell (some (.ref lr))) (k2 : (L + 1 + 1, c2) ∈ KK) (kN : (an, W.listOf xs.toArray kn) ∈ KK) (kO : (ao, W.listOf ys.toArray ko) ∈ KK) (kR : (ar, W.listOf rvs.toArray kr) ∈ KK) (hR : ReadersAt KK rvs)
    (hxs : ∀ (i : Nat) x, xs[i]? = some x → ∃ n q, x = .int n q ∧ ns[i]? = some n ∧ 1 ≤ n ∧ n ≤ 10) (hys : ∀ (i : Nat) y, ys[i]? = some y → ∃ d us kd sz, y = .ref d ∧ szs[i]? = some sz ∧ (d, W.listOf us.toArray kd) ∈ KK ∧ IntsAre us sz ∧ (∀ z ∈ sz, 1 ≤ z ∧ z ≤ 10) ∧ sz.length ≤ 10) (hxl : xs.length = 3) (hyl : ys.length = 3)
    (F : Fr h₀ L s.heap m) (N : News h₀ L s.heap ((lr, W.listOf #[] 0) :: tb1 t1 :: tb2 t2 :: (cd ++ KK))) (ht1 : TriplesOk t1.toList) (ht2 : TabC lamQ t2 cd) (h157 : ∀ p ∈ cd ++ KK, @LT.lt Nat _ 157 p.1) (hlr : @LT.lt Nat _ 157 lr) (hne : ∀ p ∈ cd ++ KK, p.1 ≠ lr)
    (hq : ∀ rv k t1' t2' cd' tl s' m', Fr h₀ L s'.heap m' → (∀ y, y ∉ [Str.ofString "number", Str.ofString "sizes", Str.ofString "longer", Str.ofString "alone"] → m' y = m y) → News h₀ L s'.heap ((lr, W.listOf (List.toArray rv) k) :: tb1 t1' :: tb2 t2' :: (cd' ++ (tl ++ KK))) → rv.length = 3 → RecsAt w tl cd' rv ns szs b → TriplesOk t1'.toList → TabC lamQ t2' cd' → (∀ p ∈ cd' ++ tl, @LT.lt Nat _ 157 p.1) → (∀ p ∈ cd' ++ tl, p.1 ≠ lr) → (∀ p ∈ cd' ++ tl, p ∈ cd ∨ ∀ q ∈ KK, q.1 < p.1) → Same s s' → Q .next s') :
    wpAny (model PySem.Challenge.rw_rs0140_02.prog w) (ktrTop dp un gd (Str.ofString "law") lawSc L fa cd0 (lawCl L) outer) (exec (lawStmt 6) (lawEnv L fa cd0)) Q E s := by
  refine exec_lawFE (by conv => lhs; whnf) (by conv => lhs; whnf) hE ?_
  clear hE
  revert X
  k_fill
  intro X hE
  replace F := frWith [(Str.ofString "numbers", .ref an), (Str.ofString "orders", .ref ao), (Str.ofString "readers", .ref ar), (Str.ofString "behind", .str (behindOf b) tb)] (List.forall_mem_cons.mpr ⟨hmN, List.forall_mem_cons.mpr ⟨hmO, List.forall_mem_cons.mpr ⟨hmR, List.forall_mem_cons.mpr ⟨hmB, fun _ h => nomatch h⟩⟩⟩⟩) F
  dsimp only [kstB] at F
  (repeat' (first | (k_unfold; (try dsimp only)) | (k_end; wrow_close) | (first | ((with_reducible show wpAny _ _ (call (Value.type "zip") _) _ _ _); (with_reducible refine holdIt ?_)) | ((with_reducible show wpAny _ _ (call (Value.ref _) _) _ _ _); (with_reducible refine holdIt ?_)) | ((with_reducible show Exists _); (with_reducible refine holdIt ?_)) | walk1) | (dsimp only; (first | ((with_reducible show wpAny _ _ (call (Value.type "zip") _) _ _ _); (with_reducible refine holdIt ?_)) | ((with_reducible show wpAny _ _ (call (Value.ref _) _) _ _ _); (with_reducible refine holdIt ?_)) | ((with_reducible show Exists _); (with_reducible refine holdIt ?_)) | walk1)) | (leave1; walk_say "STEP leave1"; try dsimp only) | fail "no step"))
  unfold Hold
  have kN' := fun (c : ZC) => (List.Mem.tail (lr, W.listOf c.rv.toArray c.k) (List.Mem.tail (tb1 c.t1) (List.Mem.tail (tb2 c.t2) (memR (memR kN) : _ ∈ c.cd ++ (c.tl ++ KK)))))
  have kO' := fun (c : ZC) => (List.Mem.tail (lr, W.listOf c.rv.toArray c.k) (List.Mem.tail (tb1 c.t1) (List.Mem.tail (tb2 c.t2) (memR (memR kO) : _ ∈ c.cd ++ (c.tl ++ KK)))))
  refine' zipLL (σ := ZC) (fun c => (lr, W.listOf c.rv.toArray c.k) :: tb1 c.t1 :: tb2 c.t2 :: (c.cd ++ (c.tl ++ KK))) (fun _ => []) [Str.ofString "number", Str.ofString "sizes", Str.ofString "longer", Str.ofString "alone"]
    (fun Z i c => (∀ q ∈ KK, q.1 < Z) ∧ ZInv w cd lr ns szs b Z i c) (fun c => ∃ Z, (∀ q ∈ KK, q.1 < Z) ∧ ZInv w cd lr ns szs b Z 3 c) (Same s) ⟨[], 0, t1, t2, cd, []⟩ rfl (hxl.trans hyl.symm) kN' kO' Same.rfl Same.move F N ?hk ?hp ?turn ?done ?fin
  case hk => kst_all
  case hp => intro Z hZ; exact ⟨fun q hq => hZ q (.tail _ (.tail _ (.tail _ (memR (memR hq))))), rfl, fun j v e => by simp at e, ht1, ht2, allApp (fun p hp => h157 p (memL hp)) allNil, allApp (fun p hp => hne p (memL hp)) allNil, fun p hp => hp, fun p hp => .inl hp, allNil⟩
  case done => intro Z c h; rw [hxl] at h; exact ⟨Z, h⟩
  case turn =>
    rintro Z hZ hLZ c i T x y u s₁ o4 o3 o2 o1 o0 hx hy hP hoff hT hS F' N'
    obtain ⟨n, q, rfl, hni, hn⟩ := hxs i x hx
    obtain ⟨d, us, kd, sz, rfl, hsz, hmd, hI, hzb, hzl⟩ := hys i y hy
    dsimp only [kstB] at F'
    clear hq F N
    (repeat' (first | (k_unfold; (try dsimp only)) | (k_end; wrow_close) | (first | ((with_reducible show wpAny _ _ (call (Value.type "zip") _) _ _ _); (with_reducible refine holdIt ?_)) | ((with_reducible show wpAny _ _ (call (Value.ref _) _) _ _ _); (with_reducible refine holdIt ?_)) | ((with_reducible show Exists _); (with_reducible refine holdIt ?_)) | walk1) | (dsimp only; (first | ((with_reducible show wpAny _ _ (call (Value.type "zip") _) _ _ _); (with_reducible refine holdIt ?_)) | ((with_reducible show wpAny _ _ (call (Value.ref _) _) _ _ _); (with_reducible refine holdIt ?_)) | ((with_reducible show Exists _); (with_reducible refine holdIt ?_)) | walk1)) | (leave1; walk_say "STEP leave1"; try dsimp only) | fail "no step"))
    unfold Hold
    rename News _ _ _ _ => N1
    rename_i l1 _ _ hl1
    have hi3 : i < 3 := by rw [← hxl]; exact (List.getElem?_eq_some_iff.mp hx).1
    have ⟨gK, g0, g1, g2, g3, g4, g5, g6, g7, g8⟩ := hP
    have hlrZ : @LT.lt Nat _ lr Z := hZ _ (.head _)
    have hbl := behind_len b (in3 hb)
    refine Spec.use (white_ok w l1 [.int n q] [n] 0 (behindOf b) tb _ (.head _) (.cons _ _ .nil) (Nat.le_of_ble_eq_true rfl) (fun r hr => by rw [List.mem_singleton.mp hr]; omega) hbl) (by k_asm) (by k_asm) (by k_asm) N1 (by k_asm) rfl (by ktr_room) (by ktr_units) ?_
    rintro r A1 h5 tk5 F2 N2 ⟨⟨tl1, eA1, hn1⟩, x1, rfl, W1⟩
    have s1 : ∀ p ∈ (Z + 4, o4) :: (Z + 3, o3) :: (Z + 2, o2) :: (Z + 1, o1) :: (Z, o0) :: (lr, W.listOf c.rv.toArray c.k) :: tb1 c.t1 :: tb2 c.t2 :: (c.cd ++ (c.tl ++ KK)), p ∈ A1 := fun p hp => by rw [eA1]; exact memR (.tail _ (.tail _ hp))
    clear eA1 N1 hn1
    refine W1.el fun d1 _ _ _ _ _ _ _ _ _ _ _ _ _ _ _ _ _ _ _ _ _ q1 q2 _ _ _ _ _ _ => ?_
    have k2' := s1 _ (.tail _ (.tail _ (.tail _ (.tail _ (.tail _ (.tail _ (.tail _ (.tail _ (memR (memR k2))))))))))
    (repeat' (first | (k_unfold; (try dsimp only)) | (k_end; wrow_close) | (first | ((with_reducible show wpAny _ _ (call (Value.type "zip") _) _ _ _); (with_reducible refine holdIt ?_)) | ((with_reducible show wpAny _ _ (call (Value.ref _) _) _ _ _); (with_reducible refine holdIt ?_)) | ((with_reducible show Exists _); (with_reducible refine holdIt ?_)) | walk1) | (dsimp only; (first | ((with_reducible show wpAny _ _ (call (Value.type "zip") _) _ _ _); (with_reducible refine holdIt ?_)) | ((with_reducible show wpAny _ _ (call (Value.ref _) _) _ _ _); (with_reducible refine holdIt ?_)) | ((with_reducible show Exists _); (with_reducible refine holdIt ?_)) | walk1)) | (leave1; walk_say "STEP leave1"; try dsimp only) | fail "no step"))
    unfold Hold
    rename News _ _ _ _ => N3
    rename_i l2 _ _ hl2
    refine Spec.use (white_ok w l2 [.int (n - 1) _] [n - 1] 0 (behindOf b) tb _ (.head _) (.cons _ _ .nil) (Nat.le_of_ble_eq_true rfl) (fun r hr => by rw [List.mem_singleton.mp hr]; omega) hbl) (by k_asm) (by k_asm) (by k_asm) N3 (by k_asm) rfl (by ktr_room) (by ktr_units) ?_
    rintro r A2 h6 tk6 F4 N4 ⟨⟨tl2, eA2, hn2⟩, x2, rfl, W2⟩
    have s2 : ∀ p ∈ A1, p ∈ A2 := fun p hp => by rw [eA2]; exact memR (.tail _ hp)
    clear eA2 N3 hn2
    have W1' := W1.mono s2
    (repeat' (first | (k_unfold; (try dsimp only)) | (k_end; wrow_close) | (first | ((with_reducible show wpAny _ _ (call (Value.type "zip") _) _ _ _); (with_reducible refine holdIt ?_)) | ((with_reducible show wpAny _ _ (call (Value.ref _) _) _ _ _); (with_reducible refine holdIt ?_)) | ((with_reducible show Exists _); (with_reducible refine holdIt ?_)) | walk1) | (dsimp only; (first | ((with_reducible show wpAny _ _ (call (Value.type "zip") _) _ _ _); (with_reducible refine holdIt ?_)) | ((with_reducible show wpAny _ _ (call (Value.ref _) _) _ _ _); (with_reducible refine holdIt ?_)) | ((with_reducible show Exists _); (with_reducible refine holdIt ?_)) | walk1)) | (leave1; walk_say "STEP leave1"; try dsimp only) | fail "no step"))
    unfold Hold
    refine Spec.use (new_ok w x1 x2 _ _ A2 W1' W2) (by k_asm) (by k_asm) (by k_asm) N4 (by k_asm) rfl (by ktr_room) (by ktr_units) ?_
    rintro r A3 h7 tk7 F5 N5 ⟨tl3, eA3, hn3, a, vs, k, rfl, hma, hrw⟩
    have s3 : ∀ p ∈ A2, p ∈ A3 := fun p hp => by rw [eA3]; exact memR hp
    have s4 : ∀ p ∈ (Z + 4, o4) :: (Z + 3, o3) :: (Z + 2, o2) :: (Z + 1, o1) :: (Z, o0) :: (lr, W.listOf c.rv.toArray c.k) :: tb1 c.t1 :: tb2 c.t2 :: (c.cd ++ (c.tl ++ KK)), p ∈ A3 := fun p hp => s3 _ (s2 _ (s1 p hp))
    have hn4 : ∀ p ∈ tl3, ∀ q ∈ (Z + 4, o4) :: (Z + 3, o3) :: (Z + 2, o2) :: (Z + 1, o1) :: (Z, o0) :: (lr, W.listOf c.rv.toArray c.k) :: tb1 c.t1 :: tb2 c.t2 :: (c.cd ++ (c.tl ++ KK)), q.1 < p.1 := fun p hp q hq => hn3 p hp q (s2 _ (s1 q hq))
    have hsub3 : ∀ p ∈ tl3, p ∈ A3 := fun p hp => by rw [eA3]; exact memL hp
    clear eA3 hn3 W1 W2 W1' q1 q2 k2' F4 N4 hl1 hl2
    have k2' := s4 _ (.tail _ (.tail _ (.tail _ (.tail _ (.tail _ (.tail _ (.tail _ (.tail _ (memR (memR k2))))))))))
    have klr : (lr, W.listOf c.rv.toArray c.k) ∈ A3 := s4 _ (.tail _ (.tail _ (.tail _ (.tail _ (.tail _ (.head _))))))
    clear s1 s2 s3
    (repeat' (first | (k_unfold; (try dsimp only)) | (k_end; wrow_close) | (first | ((with_reducible show wpAny _ _ (call (Value.type "zip") _) _ _ _); (with_reducible refine holdIt ?_)) | ((with_reducible show wpAny _ _ (call (Value.ref _) _) _ _ _); (with_reducible refine holdIt ?_)) | ((with_reducible show Exists _); (with_reducible refine holdIt ?_)) | walk1) | (dsimp only; (first | ((with_reducible show wpAny _ _ (call (Value.type "zip") _) _ _ _); (with_reducible refine holdIt ?_)) | ((with_reducible show wpAny _ _ (call (Value.ref _) _) _ _ _); (with_reducible refine holdIt ?_)) | ((with_reducible show Exists _); (with_reducible refine holdIt ?_)) | walk1)) | (leave1; walk_say "STEP leave1"; try dsimp only) | fail "no step"))
    unfold Hold
    rename News _ _ _ _ => N7
    have hrw' : RowsAt tl3 vs (witOf (wsOf [n] b) (wsOf [n - 1] b)) := hrw
    have ⟨NW, eNW⟩ : ∃ NW, NW = tl3 ++ ((Z + 4, o4) :: (Z + 3, o3) :: (Z + 2, o2) :: (Z + 1, o1) :: (Z, o0) :: (lr, W.listOf c.rv.toArray c.k) :: (c.tl ++ KK)) := ⟨_, rfl⟩
    have w1 : ∀ p ∈ tl3, p ∈ NW := fun p hp => by rw [eNW]; exact memL hp
    have w2 : ∀ p ∈ (Z + 4, o4) :: (Z + 3, o3) :: (Z + 2, o2) :: (Z + 1, o1) :: (Z, o0) :: (lr, W.listOf c.rv.toArray c.k) :: (c.tl ++ KK), p ∈ NW := fun p hp => by rw [eNW]; exact memR hp
    have w3 : ∀ p ∈ KK, p ∈ NW := fun p hp => w2 p (.tail _ (.tail _ (.tail _ (.tail _ (.tail _ (.tail _ (memR hp)))))))
    have z157 : @LT.lt Nat _ 157 Z := hZ _ (.tail _ (.tail _ (.head _)))
    refine SpecX.use (R := Same) (t1 := c.t1) (t2 := c.t2) (cd := c.cd) (rec_ok w ar a d rvs vs us _ sz kr k kd NW (w3 _ kR) (hR.mono w3) (w1 _ hma) (hrw'.mono w1) (wit_len hb hn) (wit_in hb hn) (w3 _ hmd) hI hzb hzl) (by k_asm) (by k_asm) (by k_asm) (newsSub N7 ?_) g2 g3 ?_ (by k_asm) rfl (by ktr_room) (by ktr_units) ?_
    · rw [eNW]
      intro p hp
      have h1 := hsub3 p
      have h2 := s4 p
      simp only [List.mem_cons, List.mem_append] at hp h2
      grind
    · refine allApp (fun p hp => g4 p (memL hp)) ?_
      rw [eNW]
      refine allApp (fun p hp => hn4 p hp _ (.tail _ (.tail _ (.tail _ (.tail _ (.tail _ (.tail _ (.tail _ (.head _)))))))) ) (allCons ?_ (allCons ?_ (allCons ?_ (allCons ?_ (allCons ?_ (allCons hlr (allApp (fun p hp => g4 p (memR hp)) fun p hp => h157 p (memR hp))))))))
      all_goals (refine ltN ?_; (try dsimp only); omega)
    rintro r tl t1'' t2'' cd'' s' F8 N8 ht1'' ht2'' hT9 hc1 hc2 hc3 ⟨x, rv', rfl, hE9, hRu⟩ hS'
    have mlr : (lr, W.listOf c.rv.toArray c.k) ∈ c.cd ++ NW := memR (w2 _ (.tail _ (.tail _ (.tail _ (.tail _ (.tail _ (.head _)))))))
    have mZ4 : (Z + 4, o4) ∈ c.cd ++ NW := memR (w2 _ (.head _))
    have N10 : News _ _ _ ((Z + 4, o4) :: (Z + 3, o3) :: (Z + 2, o2) :: (Z + 1, o1) :: (Z, o0) :: (lr, W.listOf c.rv.toArray c.k) :: tb1 t1'' :: tb2 t2'' :: (cd'' ++ ((tl ++ c.tl) ++ KK))) := newsSub N8 (by
      intro p hp
      have h2 := w2 p
      simp only [List.mem_cons, List.mem_append] at hp h2 ⊢
      grind)
    clear N8 N7
    have hNe : ∀ p ∈ cd'' ++ ((tl ++ c.tl) ++ KK), p.1 ≠ lr := allApp (fun p hp => (hc2 p hp).elim (fun h => g5 p (memL h)) fun h => Nat.ne_of_gt (h _ mlr)) (allApp (allApp (fun p hp => Nat.ne_of_gt (hc3 p hp _ mlr)) fun p hp => g5 p (memR hp)) fun p hp => hne p (memR hp))
    have offZ : ∀ p : Addr × Obj, @LT.lt Nat _ (Z + 4) p.1 → p.1 ∉ zwr Z := fun p h hm => by
      simp only [List.mem_cons, List.not_mem_nil, or_false] at hm
      rcases hm with e | e | e | e <;> (have e' : @Eq Nat _ _ := e; omega)
    have hcd9 : ∀ p ∈ cd'', p.1 ∉ zwr Z := fun p hp => (hc2 p hp).elim (fun h => hoff p (.tail _ (.tail _ (.tail _ (memL h))))) fun h => offZ p (h _ mZ4)
    have htl9 : ∀ p ∈ tl, @LT.lt Nat _ (Z + 4) p.1 := fun p hp => hc3 p hp _ mZ4
    clear hn4 s4 hsub3 hrw hrw' hT
    have hinv : ZInv w cd lr ns szs b Z (i + 1) ⟨c.rv ++ [.ref x], c.k + 1, t1'', t2'', cd'', tl ++ c.tl⟩ := by
      refine ⟨by simp [g0], (g1.mono (fun p hp => memR hp) hc1).snoc g0 hni hsz (hE9.mono fun p hp => memL hp) (hRu.mono fun p hp => (List.mem_append.mp hp).elim (fun q => memL (memL q)) memR), ht1'', ht2'', ?_, ?_, fun p hp => hc1 p (g6 p hp), ?_, allApp htl9 g8⟩
      · exact allApp (fun p hp => hT9 p (memL hp)) (allApp (fun p hp => hT9 p (memR (memL hp))) fun p hp => g4 p (memR hp))
      · exact allApp (fun p hp => hNe p (memL hp)) (fun p hp => hNe p (memR (memL hp)))
      · exact fun p hp => (hc2 p hp).elim (fun h => g7 p h) fun h => .inr (h _ mZ4)
    have hSS : Same s s' := ⟨hS'.1.trans hS.1, hS'.2.1.trans hS.2.1, fun h => hS'.2.2 (hS.2.2 h)⟩
    (repeat' (first | (k_unfold; (try dsimp only)) | (k_end; wrow_close) | (first | ((with_reducible show wpAny _ _ (call (Value.type "zip") _) _ _ _); (with_reducible refine holdIt ?_)) | ((with_reducible show wpAny _ _ (call (Value.ref _) _) _ _ _); (with_reducible refine holdIt ?_)) | ((with_reducible show Exists _); (with_reducible refine holdIt ?_)) | walk1) | (dsimp only; (first | ((with_reducible show wpAny _ _ (call (Value.type "zip") _) _ _ _); (with_reducible refine holdIt ?_)) | ((with_reducible show wpAny _ _ (call (Value.ref _) _) _ _ _); (with_reducible refine holdIt ?_)) | ((with_reducible show Exists _); (with_reducible refine holdIt ?_)) | walk1)) | (leave1; walk_say "STEP leave1"; try dsimp only) | fail "no step"))
    rename News _ _ _ _ => N8
    simp only [List.push_toArray] at N8
    refine' ⟨⟨c.rv ++ [.ref x], c.k + 1, t1'', t2'', cd'', tl ++ c.tl⟩, _, _, hSS.move _ _ _, by k_asm, N8, ?a3, ?a4, ?a5, ?a6, ?a7, gK, hinv⟩
    case a3 =>
      intro p hp
      simp only [List.mem_cons, List.not_mem_nil, or_false] at hp ⊢
      rcases hp with h | h | h | h | h <;> simp [h]
    case a4 => exact fun p hp => .tail _ (.tail _ (.tail _ (.tail _ (.tail _ hp))))
    case a5 =>
      refine allCons (hoff (lr, W.listOf c.rv.toArray c.k) (.head _)) (allCons (hoff (tb1 c.t1) (.tail _ (.head _))) (allCons (hoff (tb2 c.t2) (.tail _ (.tail _ (.head _)))) (allApp hcd9 (allApp (allApp (fun p hp => offZ p (htl9 p hp)) fun p hp => offZ p (g8 p hp)) fun p hp => hoff p (.tail _ (.tail _ (.tail _ (memR (memR hp)))))))))
    case a6 => kst_all
    case a7 =>
      intro z h2 h3
      dsimp +zetaDelta only
      simp only [List.contains_cons, List.contains_nil, Bool.or_false, Bool.or_eq_false_iff, beq_eq_false_iff_ne, ne_eq] at h3
      simp [h3]
  case fin =>
    rintro c u s₁ ⟨Z, hK, g0, g1, g2, g3, g4, g5, g6, g7, g8⟩ hS F9 N9
    refine hq c.rv c.k c.t1 c.t2 c.cd c.tl s₁ _ F9 ?_ N9 g0 g1 g2 g3 g4 g5 ?_ hS
    · intro y hy
      simp only [List.mem_cons, List.not_mem_nil, or_false, not_or] at hy
      dsimp only [kstB]
      rw [if_neg (by simp [hy])]
      (repeat' split) <;> first | rfl | (subst_vars; exact Eq.symm (by assumption))
    · refine allApp (fun p hp => (g7 p hp).elim .inl fun h => .inr fun q hq => Nat.lt_trans (hK q hq) (Nat.lt_of_le_of_lt (Nat.le_add_right _ _) h)) fun p hp => .inr fun q hq => Nat.lt_trans (hK q hq) (Nat.lt_of_le_of_lt (Nat.le_add_right _ _) (g8 p hp))
end Mine
end

end
end
end
end
section
open PySem PySem.W PyProof.Rows
namespace Mine
theorem sec_S4 {M : Model} {A : Around} {E : Value → Shared → Prop} {s : Shared} {env : Env} {p : Pos} {Q : Flow → Shared → Prop} (h : Q .next s) : wpAny M A (exec (.Pass p) env) Q E s := by
  w_top off
  k_with_none
  walk1
  exact h
end Mine
end
section
open PySem PySem.W PyProof.Rows
set_option maxRecDepth 100000
set_option maxHeartbeats 2000000
namespace Mine
theorem itemI {prog : Program} {w : World} {A : Around} {E : Value → Shared → Prop} {s : Shared} {h₀ : Heap} {L l : Addr} {news : Led} {value slice : PySem.Expr} {vs : List Value} {k : Nat} {i : Int} {u : Tok} {v : Value} {Q : Value → Shared → Prop}
    (N : News h₀ L s.heap news) (hm : (l, W.listOf vs.toArray k) ∈ news) (h0 : -(vs.length : Int) ≤ i) (hhi : i < (vs.length : Int)) (hl : vs.length ≤ 1000) (hx : vs[(if i < 0 then i + (vs.length : Int) else i).toNat]? = some v) (h : Q v s)
    (hs : subscripted slice false (.ref l) (.int i u) = operate [.ref l, .int i u] (getItem (.ref l) (.int i u)) := by with_unfolding_all rfl) :
    wpAny (model prog w) A (subscriptTail value slice (.ref l) (.int i u)) Q E s := by
  by_cases hi : i < 0
  · rw [if_pos hi] at hx
    exact tail_any (N.isList hm).typeIs PySem.F.slot_list_getitem.lookup (wpAny_getItem_list_neg (N.isList hm) hi (by simpa using h0) (by omega) (by simpa using hx) h) hs
  · rw [if_neg hi] at hx
    exact itemL N hm (by omega) (by omega) hx h hs
noncomputable def mAg (ag1 ag2 ag3 : List Str) : Nat → List Str
  | 0 => ag3.filter (hasS ag1)
  | 1 => ag1.filter (hasS ag2)
  | _ => ag2.filter (hasS ag3)
noncomputable def mRv (rv1 rv2 rv3 : List Value) : Nat → List Value
  | 0 => rv3 ++ rv1
  | 1 => rv1 ++ rv2
  | _ => rv2 ++ rv3
/-- a list of entries, one for each number -/
noncomputable def EntsAt (tl : Led) (ys : List Value) (f : Nat → List Str) (g : Nat → List Value) : Prop := ∀ (j : Nat) v, ys[j]? = some v → ∃ z, v = .ref z ∧ EntAt tl z (f j) (g j)
theorem EntsAt.snoc {tl tl' : Led} {ys : List Value} {f : Nat → List Str} {g : Nat → List Value} {i : Nat} {x : Addr} (h : EntsAt tl ys f g) (hl : ys.length = i) (h3 : EntAt tl' x (f i) (g i)) : EntsAt (tl' ++ tl) (ys ++ [.ref x]) f g := by
  intro j v e
  by_cases hj : j < ys.length
  · rw [List.getElem?_append_left hj] at e
    obtain ⟨z, rfl, hz⟩ := h j v e
    exact ⟨z, rfl, hz.mono fun p hp => memR hp⟩
  · have hj' : j = i := by
      have := (List.getElem?_eq_some_iff.mp e).1
      simp at this
      omega
    subst hj'
    rw [List.getElem?_append_right (by omega)] at e
    simp [hl] at e
    exact ⟨x, e.symm, h3.mono fun p hp => memL hp⟩
theorem EntsAt.three {tl : Led} {ys : List Value} {f : Nat → List Str} {g : Nat → List Value} (h : EntsAt tl ys f g) (hl : ys.length = 3) : ∃ z1 z2 z3, ys = [.ref z1, .ref z2, .ref z3] ∧ EntAt tl z1 (f 0) (g 0) ∧ EntAt tl z2 (f 1) (g 1) ∧ EntAt tl z3 (f 2) (g 2) := by
  rcases ys with _ | ⟨a, _ | ⟨b, _ | ⟨c, _ | ⟨d, r⟩⟩⟩⟩
  all_goals simp at hl
  obtain ⟨z1, rfl, h1⟩ := h 0 _ rfl
  obtain ⟨z2, rfl, h2⟩ := h 1 _ rfl
  obtain ⟨z3, rfl, h3⟩ := h 2 _ rfl
  exact ⟨z1, z2, z3, rfl, h1, h2, h3⟩
theorem seg7 (w : World) {dp un : Nat} {gd : Option (List Code)} {fa : Addr} {cd0 : Value} {outer : List Env} {A₀ : Around} {base h₀ : Heap} {L : Addr} {loose : List Str} {mean : ExcName → Option Value} {mg mb : Str → Option Value} {m : Str → Option Value} {s : Shared} {Q : Flow → Shared → Prop} {E : Value → Shared → Prop}
    (B : Below A₀ base outer h₀) (X : (hd.heap_39 w.params).In h₀) (T : Top topProg loose mean mg mb h₀) (hdp : dp + 8 < recursionLimit) (hu : un + 20 * 8 < cLine)
    {c2 : Obj} {lr x1 x2 x3 : Addr} {ag1 ag2 ag3 : List Str} {rv1 rv2 rv3 : List Value} {k : Nat} {led : Led} (hc2 : c2.data = .cell (some (.ref lr))) (k2 : (L + 1 + 1, c2) ∈ led) (kr : (lr, W.listOf #[.ref x1, .ref x2, .ref x3] k) ∈ led)
    (e1 : EntAt led x1 ag1 rv1) (e2 : EntAt led x2 ag2 rv2) (e3 : EntAt led x3 ag3 rv3) (l1 : ag1.length ≤ 1000) (l2 : ag2.length ≤ 1000) (l3 : ag3.length ≤ 1000) (q1 : rv1.length ≤ 1000) (q2 : rv2.length ≤ 1000) (q3 : rv3.length ≤ 1000)
    (F : Fr h₀ L s.heap m) (N : News h₀ L s.heap led)
    (hq : ∀ D z1 z2 z3 k tl h' tk' m', Fr h₀ L h' m' → StM m m' (Str.ofString "pairs") (.ref D) → News h₀ L h' ((D, W.listOf #[.ref z1, .ref z2, .ref z3] k) :: (tl ++ led)) → (∀ p ∈ led, p.1 < D) → (∀ p ∈ tl, @LT.lt Nat _ D p.1) → EntAt tl z1 (ag3.filter (hasS ag1)) (rv3 ++ rv1) → EntAt tl z2 (ag1.filter (hasS ag2)) (rv1 ++ rv2) → EntAt tl z3 (ag2.filter (hasS ag3)) (rv2 ++ rv3) → Q .next { s with heap := h', toks := tk' }) :
    wpAny (model PySem.Challenge.rw_rs0140_02.prog w) (ktrTop dp un gd (Str.ofString "law") lawSc L fa cd0 (lawCl L) outer) (exec (lawStmt 7) (lawEnv L fa cd0)) Q E s := by
  refine exec_lawA (by conv => lhs; whnf) (by conv => lhs; whnf) ?_
  revert X
  k_fill
  intro X
  refine Assign_ListComp_N (L := L) (h₀ := h₀) (m := m) rfl ?sw rfl (by decide) rfl (by decide) rfl rfl rfl ?_
  case sw => with_unfolding_all rfl
  (repeat' (first | (k_unfold; (try dsimp only)) | (k_end; wrow_close) | (first | ((with_reducible show wpAny _ _ (subscriptTail _ _ (Value.ref _) (Value.int _ _)) _ _ _); refine' itemI ?iN ?iM ?i0 ?i1 ?i2 ?i3 ?_ ?i4; (case iN => k_asm); (case iM => k_mem); (case i0 => (simp only [List.length_cons, List.length_nil]; decide)); (case i1 => (simp only [List.length_cons, List.length_nil]; decide)); (case i2 => exact Nat.le_of_ble_eq_true rfl); (case i3 => rfl); (case i4 => with_unfolding_all rfl)) | ((with_reducible show wpAny _ _ (pyIter (Value.ref _)) _ _ _); (with_reducible refine holdIt ?_)) | ((with_reducible show wpAny _ _ (call (Value.ref _) _) _ _ _); (with_reducible refine holdIt ?_)) | ((with_reducible show Exists _); (with_reducible refine holdIt ?_)) | walk1) | (dsimp only; (first | ((with_reducible show wpAny _ _ (subscriptTail _ _ (Value.ref _) (Value.int _ _)) _ _ _); refine' itemI ?iN ?iM ?i0 ?i1 ?i2 ?i3 ?_ ?i4; (case iN => k_asm); (case iM => k_mem); (case i0 => (simp only [List.length_cons, List.length_nil]; decide)); (case i1 => (simp only [List.length_cons, List.length_nil]; decide)); (case i2 => exact Nat.le_of_ble_eq_true rfl); (case i3 => rfl); (case i4 => with_unfolding_all rfl)) | ((with_reducible show wpAny _ _ (pyIter (Value.ref _)) _ _ _); (with_reducible refine holdIt ?_)) | ((with_reducible show wpAny _ _ (call (Value.ref _) _) _ _ _); (with_reducible refine holdIt ?_)) | ((with_reducible show Exists _); (with_reducible refine holdIt ?_)) | walk1)) | (leave1; walk_say "STEP leave1"; try dsimp only) | fail "no step"))
  unfold Hold
  rename_i rg F5 N5 _
  refine CompN.range (R := fun i ys tl => ys.length = i ∧ EntsAt tl ys (mAg ag1 ag2 ag3) (mRv rv1 rv2 rv3)) rfl F5 N5 rg (small_one (by omega) (by omega) (by omega) (by omega)) (n := 3) rfl (by decide) ⟨rfl, fun j v e => by simp at e⟩ ?_ ?_
  · rintro i t ys tl C oC D m₂ own h tk E' hi ⟨hl, hys⟩ hC hx hlt hDC htl F6 N6
    clear N5 F5
    have k2' : (L + 1 + 1, c2) ∈ own ++ (tl ++ led) := memR (memR k2)
    have kr' : (lr, W.listOf #[.ref x1, .ref x2, .ref x3] k) ∈ own ++ (tl ++ led) := memR (memR kr)
    have e1' : EntAt (own ++ (tl ++ led)) x1 ag1 rv1 := e1.mono fun p hp => memR (memR hp)
    have e2' : EntAt (own ++ (tl ++ led)) x2 ag2 rv2 := e2.mono fun p hp => memR (memR hp)
    have e3' : EntAt (own ++ (tl ++ led)) x3 ag3 rv3 := e3.mono fun p hp => memR (memR hp)
    have hi' : i = 0 ∨ i = 1 ∨ i = 2 := by omega
    rcases hi' with rfl | rfl | rfl
    · replace hx : m₂ (Str.ofString "place") = some (.int 0 t) := hx
      (repeat' (first | (k_unfold; (try dsimp only)) | (k_end; wrow_close) | (first | ((with_reducible show wpAny _ _ (subscriptTail _ _ (Value.ref _) (Value.int _ _)) _ _ _); refine' itemI ?iN ?iM ?i0 ?i1 ?i2 ?i3 ?_ ?i4; (case iN => k_asm); (case iM => k_mem); (case i0 => (simp only [List.length_cons, List.length_nil]; decide)); (case i1 => (simp only [List.length_cons, List.length_nil]; decide)); (case i2 => exact Nat.le_of_ble_eq_true rfl); (case i3 => rfl); (case i4 => with_unfolding_all rfl)) | ((with_reducible show wpAny _ _ (pyIter (Value.ref _)) _ _ _); (with_reducible refine holdIt ?_)) | ((with_reducible show wpAny _ _ (call (Value.ref _) _) _ _ _); (with_reducible refine holdIt ?_)) | ((with_reducible show Exists _); (with_reducible refine holdIt ?_)) | walk1) | (dsimp only; (first | ((with_reducible show wpAny _ _ (subscriptTail _ _ (Value.ref _) (Value.int _ _)) _ _ _); refine' itemI ?iN ?iM ?i0 ?i1 ?i2 ?i3 ?_ ?i4; (case iN => k_asm); (case iM => k_mem); (case i0 => (simp only [List.length_cons, List.length_nil]; decide)); (case i1 => (simp only [List.length_cons, List.length_nil]; decide)); (case i2 => exact Nat.le_of_ble_eq_true rfl); (case i3 => rfl); (case i4 => with_unfolding_all rfl)) | ((with_reducible show wpAny _ _ (pyIter (Value.ref _)) _ _ _); (with_reducible refine holdIt ?_)) | ((with_reducible show wpAny _ _ (call (Value.ref _) _) _ _ _); (with_reducible refine holdIt ?_)) | ((with_reducible show Exists _); (with_reducible refine holdIt ?_)) | walk1)) | (leave1; walk_say "STEP leave1"; try dsimp only) | fail "no step"))
      unfold Hold
      refine Spec.use (mer_ok w x3 x1 ag3 ag1 rv3 rv1 _ (e3'.mono fun p hp => .tail _ (.tail _ hp)) (e1'.mono fun p hp => .tail _ (.tail _ hp)) l3 l1 q3 q1) (by k_asm) (by k_asm) (by k_asm) N6 (by k_asm) rfl (by ktr_room) (by ktr_units) ?_
      rintro r news' h' tk' F7 N7 ⟨tl', rfl, hnew, z, rfl, hE9⟩
      have hCC : ∀ p ∈ tl', @LT.lt Nat _ C p.1 := fun p hp => hnew p hp _ (.head _)
      (repeat' (first | (k_unfold; (try dsimp only)) | (k_end; wrow_close) | (first | ((with_reducible show wpAny _ _ (subscriptTail _ _ (Value.ref _) (Value.int _ _)) _ _ _); refine' itemI ?iN ?iM ?i0 ?i1 ?i2 ?i3 ?_ ?i4; (case iN => k_asm); (case iM => k_mem); (case i0 => (simp only [List.length_cons, List.length_nil]; decide)); (case i1 => (simp only [List.length_cons, List.length_nil]; decide)); (case i2 => exact Nat.le_of_ble_eq_true rfl); (case i3 => rfl); (case i4 => with_unfolding_all rfl)) | ((with_reducible show wpAny _ _ (pyIter (Value.ref _)) _ _ _); (with_reducible refine holdIt ?_)) | ((with_reducible show wpAny _ _ (call (Value.ref _) _) _ _ _); (with_reducible refine holdIt ?_)) | ((with_reducible show Exists _); (with_reducible refine holdIt ?_)) | walk1) | (dsimp only; (first | ((with_reducible show wpAny _ _ (subscriptTail _ _ (Value.ref _) (Value.int _ _)) _ _ _); refine' itemI ?iN ?iM ?i0 ?i1 ?i2 ?i3 ?_ ?i4; (case iN => k_asm); (case iM => k_mem); (case i0 => (simp only [List.length_cons, List.length_nil]; decide)); (case i1 => (simp only [List.length_cons, List.length_nil]; decide)); (case i2 => exact Nat.le_of_ble_eq_true rfl); (case i3 => rfl); (case i4 => with_unfolding_all rfl)) | ((with_reducible show wpAny _ _ (pyIter (Value.ref _)) _ _ _); (with_reducible refine holdIt ?_)) | ((with_reducible show wpAny _ _ (call (Value.ref _) _) _ _ _); (with_reducible refine holdIt ?_)) | ((with_reducible show Exists _); (with_reducible refine holdIt ?_)) | walk1)) | (leave1; walk_say "STEP leave1"; try dsimp only) | fail "no step"))
      unfold Hold
      exact ⟨_, _, tl' ++ tl, rfl, by k_asm, newsSub (by k_asm) (by intro p hp; simp only [List.mem_cons, List.mem_append] at hp ⊢; grind), allApp hCC htl, by simp [hl], hys.snoc hl hE9⟩
    · replace hx : m₂ (Str.ofString "place") = some (.int 1 t) := hx
      (repeat' (first | (k_unfold; (try dsimp only)) | (k_end; wrow_close) | (first | ((with_reducible show wpAny _ _ (subscriptTail _ _ (Value.ref _) (Value.int _ _)) _ _ _); refine' itemI ?iN ?iM ?i0 ?i1 ?i2 ?i3 ?_ ?i4; (case iN => k_asm); (case iM => k_mem); (case i0 => (simp only [List.length_cons, List.length_nil]; decide)); (case i1 => (simp only [List.length_cons, List.length_nil]; decide)); (case i2 => exact Nat.le_of_ble_eq_true rfl); (case i3 => rfl); (case i4 => with_unfolding_all rfl)) | ((with_reducible show wpAny _ _ (pyIter (Value.ref _)) _ _ _); (with_reducible refine holdIt ?_)) | ((with_reducible show wpAny _ _ (call (Value.ref _) _) _ _ _); (with_reducible refine holdIt ?_)) | ((with_reducible show Exists _); (with_reducible refine holdIt ?_)) | walk1) | (dsimp only; (first | ((with_reducible show wpAny _ _ (subscriptTail _ _ (Value.ref _) (Value.int _ _)) _ _ _); refine' itemI ?iN ?iM ?i0 ?i1 ?i2 ?i3 ?_ ?i4; (case iN => k_asm); (case iM => k_mem); (case i0 => (simp only [List.length_cons, List.length_nil]; decide)); (case i1 => (simp only [List.length_cons, List.length_nil]; decide)); (case i2 => exact Nat.le_of_ble_eq_true rfl); (case i3 => rfl); (case i4 => with_unfolding_all rfl)) | ((with_reducible show wpAny _ _ (pyIter (Value.ref _)) _ _ _); (with_reducible refine holdIt ?_)) | ((with_reducible show wpAny _ _ (call (Value.ref _) _) _ _ _); (with_reducible refine holdIt ?_)) | ((with_reducible show Exists _); (with_reducible refine holdIt ?_)) | walk1)) | (leave1; walk_say "STEP leave1"; try dsimp only) | fail "no step"))
      unfold Hold
      refine Spec.use (mer_ok w x1 x2 ag1 ag2 rv1 rv2 _ (e1'.mono fun p hp => .tail _ (.tail _ hp)) (e2'.mono fun p hp => .tail _ (.tail _ hp)) l1 l2 q1 q2) (by k_asm) (by k_asm) (by k_asm) N6 (by k_asm) rfl (by ktr_room) (by ktr_units) ?_
      rintro r news' h' tk' F7 N7 ⟨tl', rfl, hnew, z, rfl, hE9⟩
      have hCC : ∀ p ∈ tl', @LT.lt Nat _ C p.1 := fun p hp => hnew p hp _ (.head _)
      (repeat' (first | (k_unfold; (try dsimp only)) | (k_end; wrow_close) | (first | ((with_reducible show wpAny _ _ (subscriptTail _ _ (Value.ref _) (Value.int _ _)) _ _ _); refine' itemI ?iN ?iM ?i0 ?i1 ?i2 ?i3 ?_ ?i4; (case iN => k_asm); (case iM => k_mem); (case i0 => (simp only [List.length_cons, List.length_nil]; decide)); (case i1 => (simp only [List.length_cons, List.length_nil]; decide)); (case i2 => exact Nat.le_of_ble_eq_true rfl); (case i3 => rfl); (case i4 => with_unfolding_all rfl)) | ((with_reducible show wpAny _ _ (pyIter (Value.ref _)) _ _ _); (with_reducible refine holdIt ?_)) | ((with_reducible show wpAny _ _ (call (Value.ref _) _) _ _ _); (with_reducible refine holdIt ?_)) | ((with_reducible show Exists _); (with_reducible refine holdIt ?_)) | walk1) | (dsimp only; (first | ((with_reducible show wpAny _ _ (subscriptTail _ _ (Value.ref _) (Value.int _ _)) _ _ _); refine' itemI ?iN ?iM ?i0 ?i1 ?i2 ?i3 ?_ ?i4; (case iN => k_asm); (case iM => k_mem); (case i0 => (simp only [List.length_cons, List.length_nil]; decide)); (case i1 => (simp only [List.length_cons, List.length_nil]; decide)); (case i2 => exact Nat.le_of_ble_eq_true rfl); (case i3 => rfl); (case i4 => with_unfolding_all rfl)) | ((with_reducible show wpAny _ _ (pyIter (Value.ref _)) _ _ _); (with_reducible refine holdIt ?_)) | ((with_reducible show wpAny _ _ (call (Value.ref _) _) _ _ _); (with_reducible refine holdIt ?_)) | ((with_reducible show Exists _); (with_reducible refine holdIt ?_)) | walk1)) | (leave1; walk_say "STEP leave1"; try dsimp only) | fail "no step"))
      unfold Hold
      exact ⟨_, _, tl' ++ tl, rfl, by k_asm, newsSub (by k_asm) (by intro p hp; simp only [List.mem_cons, List.mem_append] at hp ⊢; grind), allApp hCC htl, by simp [hl], hys.snoc hl hE9⟩
    · replace hx : m₂ (Str.ofString "place") = some (.int 2 t) := hx
      (repeat' (first | (k_unfold; (try dsimp only)) | (k_end; wrow_close) | (first | ((with_reducible show wpAny _ _ (subscriptTail _ _ (Value.ref _) (Value.int _ _)) _ _ _); refine' itemI ?iN ?iM ?i0 ?i1 ?i2 ?i3 ?_ ?i4; (case iN => k_asm); (case iM => k_mem); (case i0 => (simp only [List.length_cons, List.length_nil]; decide)); (case i1 => (simp only [List.length_cons, List.length_nil]; decide)); (case i2 => exact Nat.le_of_ble_eq_true rfl); (case i3 => rfl); (case i4 => with_unfolding_all rfl)) | ((with_reducible show wpAny _ _ (pyIter (Value.ref _)) _ _ _); (with_reducible refine holdIt ?_)) | ((with_reducible show wpAny _ _ (call (Value.ref _) _) _ _ _); (with_reducible refine holdIt ?_)) | ((with_reducible show Exists _); (with_reducible refine holdIt ?_)) | walk1) | (dsimp only; (first | ((with_reducible show wpAny _ _ (subscriptTail _ _ (Value.ref _) (Value.int _ _)) _ _ _); refine' itemI ?iN ?iM ?i0 ?i1 ?i2 ?i3 ?_ ?i4; (case iN => k_asm); (case iM => k_mem); (case i0 => (simp only [List.length_cons, List.length_nil]; decide)); (case i1 => (simp only [List.length_cons, List.length_nil]; decide)); (case i2 => exact Nat.le_of_ble_eq_true rfl); (case i3 => rfl); (case i4 => with_unfolding_all rfl)) | ((with_reducible show wpAny _ _ (pyIter (Value.ref _)) _ _ _); (with_reducible refine holdIt ?_)) | ((with_reducible show wpAny _ _ (call (Value.ref _) _) _ _ _); (with_reducible refine holdIt ?_)) | ((with_reducible show Exists _); (with_reducible refine holdIt ?_)) | walk1)) | (leave1; walk_say "STEP leave1"; try dsimp only) | fail "no step"))
      unfold Hold
      refine Spec.use (mer_ok w x2 x3 ag2 ag3 rv2 rv3 _ (e2'.mono fun p hp => .tail _ (.tail _ hp)) (e3'.mono fun p hp => .tail _ (.tail _ hp)) l2 l3 q2 q3) (by k_asm) (by k_asm) (by k_asm) N6 (by k_asm) rfl (by ktr_room) (by ktr_units) ?_
      rintro r news' h' tk' F7 N7 ⟨tl', rfl, hnew, z, rfl, hE9⟩
      have hCC : ∀ p ∈ tl', @LT.lt Nat _ C p.1 := fun p hp => hnew p hp _ (.head _)
      (repeat' (first | (k_unfold; (try dsimp only)) | (k_end; wrow_close) | (first | ((with_reducible show wpAny _ _ (subscriptTail _ _ (Value.ref _) (Value.int _ _)) _ _ _); refine' itemI ?iN ?iM ?i0 ?i1 ?i2 ?i3 ?_ ?i4; (case iN => k_asm); (case iM => k_mem); (case i0 => (simp only [List.length_cons, List.length_nil]; decide)); (case i1 => (simp only [List.length_cons, List.length_nil]; decide)); (case i2 => exact Nat.le_of_ble_eq_true rfl); (case i3 => rfl); (case i4 => with_unfolding_all rfl)) | ((with_reducible show wpAny _ _ (pyIter (Value.ref _)) _ _ _); (with_reducible refine holdIt ?_)) | ((with_reducible show wpAny _ _ (call (Value.ref _) _) _ _ _); (with_reducible refine holdIt ?_)) | ((with_reducible show Exists _); (with_reducible refine holdIt ?_)) | walk1) | (dsimp only; (first | ((with_reducible show wpAny _ _ (subscriptTail _ _ (Value.ref _) (Value.int _ _)) _ _ _); refine' itemI ?iN ?iM ?i0 ?i1 ?i2 ?i3 ?_ ?i4; (case iN => k_asm); (case iM => k_mem); (case i0 => (simp only [List.length_cons, List.length_nil]; decide)); (case i1 => (simp only [List.length_cons, List.length_nil]; decide)); (case i2 => exact Nat.le_of_ble_eq_true rfl); (case i3 => rfl); (case i4 => with_unfolding_all rfl)) | ((with_reducible show wpAny _ _ (pyIter (Value.ref _)) _ _ _); (with_reducible refine holdIt ?_)) | ((with_reducible show wpAny _ _ (call (Value.ref _) _) _ _ _); (with_reducible refine holdIt ?_)) | ((with_reducible show Exists _); (with_reducible refine holdIt ?_)) | walk1)) | (leave1; walk_say "STEP leave1"; try dsimp only) | fail "no step"))
      unfold Hold
      exact ⟨_, _, tl' ++ tl, rfl, by k_asm, newsSub (by k_asm) (by intro p hp; simp only [List.mem_cons, List.mem_append] at hp ⊢; grind), allApp hCC htl, by simp [hl], hys.snoc hl hE9⟩
  · rintro ys tl g ⟨hl, hys⟩ D h tk F7 N7 h1 h2
    obtain ⟨z1, z2, z3, rfl, a1, a2, a3⟩ := hys.three hl
    exact hq D z1 z2 z3 _ tl h tk _ F7 ⟨if_pos rfl, by (intro y hy; (try dsimp only); (repeat' split) <;> first | exact absurd (by assumption) hy | rfl | (subst_vars; exact Eq.symm (by assumption)))⟩ N7 h1 h2 a1 a2 a3
end Mine
end

section
open PySem PySem.W PyProof.Rows
namespace Mine
theorem sec_S5 {M : Model} {A : Around} {E : Value → Shared → Prop} {s : Shared} {env : Env} {p : Pos} {Q : Flow → Shared → Prop} (h : Q .next s) : wpAny M A (exec (.Pass p) env) Q E s := by
  w_top off
  k_with_none
  walk1
  exact h
end Mine
end
section
open PySem PySem.W PyProof.Rows
set_option maxRecDepth 100000
set_option maxHeartbeats 2000000
namespace Mine
theorem ints_snoc {y : Int} {t : Tok} : ∀ {vs : List Value} {ys : List Int}, IntsAre vs ys → IntsAre (vs ++ [.int y t]) (ys ++ [y])
  | _, _, .nil => .cons _ _ .nil
  | _, _, .cons z u r => .cons z u (ints_snoc r)
theorem frOff {h₀ h : Heap} {L : Addr} {m : Str → Option Value} {a : Str} {v : Value} (F : Fr h₀ L h (fun z => if z = a then some v else m z)) (hm : m a = some v) : Fr h₀ L h m := by
  have e : (fun z => if z = a then some v else m z) = m := by
    funext z
    by_cases h : z = a
    · rw [if_pos h, h, hm]
    · rw [if_neg h]
  rw [e] at F; exact F
theorem seg8 (w : World) {dp un : Nat} {gd : Option (List Code)} {fa : Addr} {cd0 : Value} {outer : List Env} {A₀ : Around} {base h₀ : Heap} {L : Addr} {loose : List Str} {mean : ExcName → Option Value} {mg mb : Str → Option Value} {m : Str → Option Value} {s : Shared} {Q : Flow → Shared → Prop} {E : Value → Shared → Prop}
    (B : Below A₀ base outer h₀) (X : (hd.heap_39 w.params).In h₀) (T : Top topProg loose mean mg mb h₀) (hdp : dp + 8 < recursionLimit) (hu : un + 20 * 8 < cLine)
    {c2 : Obj} {lr lp x1 x2 x3 z1 z2 z3 : Addr} {ag2 ag3 : List Str} {rv2 rv3 : List Value} {k kp : Nat} {led : Led} (hc2 : c2.data = .cell (some (.ref lr))) (k2 : (L + 1 + 1, c2) ∈ led) (kr : (lr, W.listOf #[.ref x1, .ref x2, .ref x3] k) ∈ led) (kp1 : (lp, W.listOf #[.ref z1, .ref z2, .ref z3] kp) ∈ led) (hm : m (Str.ofString "pairs") = some (.ref lp))
    (e2 : EntAt led z2 ag2 rv2) (e3 : EntAt led x3 ag3 rv3) (l2 : ag2.length ≤ 1000) (l3 : ag3.length ≤ 1000) (q2 : rv2.length ≤ 1000) (q3 : rv3.length ≤ 1000)
    (F : Fr h₀ L s.heap m) (N : News h₀ L s.heap led)
    (hq : ∀ z tl h' tk' m', Fr h₀ L h' m' → StM m m' (Str.ofString "whole") (.ref z) → News h₀ L h' (tl ++ led) → (∀ p ∈ tl, ∀ q ∈ led, q.1 < p.1) → EntAt tl z (ag2.filter (hasS ag3)) (rv2 ++ rv3) → Q .next { s with heap := h', toks := tk' }) :
    wpAny (model PySem.Challenge.rw_rs0140_02.prog w) (ktrTop dp un gd (Str.ofString "law") lawSc L fa cd0 (lawCl L) outer) (exec (lawStmt 8) (lawEnv L fa cd0)) Q E s := by
  refine exec_lawA (by conv => lhs; whnf) (by conv => lhs; whnf) ?_
  revert X
  k_fill
  intro X
  replace F := frWith [(Str.ofString "pairs", .ref lp)] (List.forall_mem_cons.mpr ⟨hm, fun _ h => nomatch h⟩) F
  dsimp only [kstB] at F
  (repeat' (first | (k_unfold; (try dsimp only)) | (k_end; wrow_close) | (first | ((with_reducible show wpAny _ _ (eval (Expr.ListComp _ _ _ _) _) _ _ _); (with_reducible refine holdIt ?_)) | ((with_reducible show wpAny _ _ (compareOp CmpOp.NotEq (Value.ref _) (Value.ref _)) _ _ _); (with_reducible refine holdIt ?_)) | ((with_reducible show wpAny _ _ (call (Value.ref _) _) _ _ _); (with_reducible refine holdIt ?_)) | ((with_reducible show Exists _); (with_reducible refine holdIt ?_)) | ((with_reducible show wpAny _ _ (subscriptTail _ _ (Value.ref _) (Value.int _ _)) _ _ _); refine' itemI ?iN ?iM ?i0 ?i1 ?i2 ?i3 ?_ ?i4; (case iN => k_asm); (case iM => k_mem); (case i0 => (simp only [List.length_cons, List.length_nil]; decide)); (case i1 => (simp only [List.length_cons, List.length_nil]; decide)); (case i2 => exact Nat.le_of_ble_eq_true rfl); (case i3 => rfl); (case i4 => with_unfolding_all rfl)) | walk1) | (dsimp only; (first | ((with_reducible show wpAny _ _ (eval (Expr.ListComp _ _ _ _) _) _ _ _); (with_reducible refine holdIt ?_)) | ((with_reducible show wpAny _ _ (compareOp CmpOp.NotEq (Value.ref _) (Value.ref _)) _ _ _); (with_reducible refine holdIt ?_)) | ((with_reducible show wpAny _ _ (call (Value.ref _) _) _ _ _); (with_reducible refine holdIt ?_)) | ((with_reducible show Exists _); (with_reducible refine holdIt ?_)) | ((with_reducible show wpAny _ _ (subscriptTail _ _ (Value.ref _) (Value.int _ _)) _ _ _); refine' itemI ?iN ?iM ?i0 ?i1 ?i2 ?i3 ?_ ?i4; (case iN => k_asm); (case iM => k_mem); (case i0 => (simp only [List.length_cons, List.length_nil]; decide)); (case i1 => (simp only [List.length_cons, List.length_nil]; decide)); (case i2 => exact Nat.le_of_ble_eq_true rfl); (case i3 => rfl); (case i4 => with_unfolding_all rfl)) | walk1)) | (leave1; walk_say "STEP leave1"; try dsimp only) | fail "no step"))
  unfold Hold
  refine Spec.use (mer_ok w z2 x3 ag2 ag3 rv2 rv3 _ e2 e3 l2 l3 q2 q3) (by k_asm) (by k_asm) (by k_asm) N (by k_asm) rfl (by ktr_room) (by ktr_units) ?_
  rintro r news' h' tk' F7 N7 ⟨tl', rfl, hnew, z, rfl, hE9⟩
  (repeat' (first | (k_unfold; (try dsimp only)) | (k_end; wrow_close) | (first | ((with_reducible show wpAny _ _ (eval (Expr.ListComp _ _ _ _) _) _ _ _); (with_reducible refine holdIt ?_)) | ((with_reducible show wpAny _ _ (compareOp CmpOp.NotEq (Value.ref _) (Value.ref _)) _ _ _); (with_reducible refine holdIt ?_)) | ((with_reducible show wpAny _ _ (call (Value.ref _) _) _ _ _); (with_reducible refine holdIt ?_)) | ((with_reducible show Exists _); (with_reducible refine holdIt ?_)) | ((with_reducible show wpAny _ _ (subscriptTail _ _ (Value.ref _) (Value.int _ _)) _ _ _); refine' itemI ?iN ?iM ?i0 ?i1 ?i2 ?i3 ?_ ?i4; (case iN => k_asm); (case iM => k_mem); (case i0 => (simp only [List.length_cons, List.length_nil]; decide)); (case i1 => (simp only [List.length_cons, List.length_nil]; decide)); (case i2 => exact Nat.le_of_ble_eq_true rfl); (case i3 => rfl); (case i4 => with_unfolding_all rfl)) | walk1) | (dsimp only; (first | ((with_reducible show wpAny _ _ (eval (Expr.ListComp _ _ _ _) _) _ _ _); (with_reducible refine holdIt ?_)) | ((with_reducible show wpAny _ _ (compareOp CmpOp.NotEq (Value.ref _) (Value.ref _)) _ _ _); (with_reducible refine holdIt ?_)) | ((with_reducible show wpAny _ _ (call (Value.ref _) _) _ _ _); (with_reducible refine holdIt ?_)) | ((with_reducible show Exists _); (with_reducible refine holdIt ?_)) | ((with_reducible show wpAny _ _ (subscriptTail _ _ (Value.ref _) (Value.int _ _)) _ _ _); refine' itemI ?iN ?iM ?i0 ?i1 ?i2 ?i3 ?_ ?i4; (case iN => k_asm); (case iM => k_mem); (case i0 => (simp only [List.length_cons, List.length_nil]; decide)); (case i1 => (simp only [List.length_cons, List.length_nil]; decide)); (case i2 => exact Nat.le_of_ble_eq_true rfl); (case i3 => rfl); (case i4 => with_unfolding_all rfl)) | walk1)) | (leave1; walk_say "STEP leave1"; try dsimp only) | fail "no step"))
  exact hq z tl' _ _ _ (by k_asm) ⟨if_pos rfl, by (intro y hy; (try dsimp only); (repeat' split) <;> first | exact absurd (by assumption) hy | rfl | (subst_vars; exact Eq.symm (by assumption)))⟩ (by k_asm) hnew hE9
theorem seg9 (w : World) {dp un : Nat} {gd : Option (List Code)} {fa : Addr} {cd0 : Value} {outer : List Env} {A₀ : Around} {base h₀ : Heap} {L : Addr} {loose : List Str} {mean : ExcName → Option Value} {mg mb : Str → Option Value} {m : Str → Option Value} {s : Shared} {Q : Flow → Shared → Prop} {E : Value → Shared → Prop}
    (B : Below A₀ base outer h₀) (X : (hd.heap_39 w.params).In h₀) (T : Top topProg loose mean mg mb h₀) (hdp : dp + 8 < recursionLimit) (hu : un + 20 * 8 < cLine)
    {c2 : Obj} {lr an x1 x2 x3 : Addr} {ag1 ag2 ag3 : List Str} {rv1 rv2 rv3 : List Value} {r1 r2 r3 : List (Int × Int)} {n1 n2 n3 : Int} {t1 t2 t3 : Tok} {k kn : Nat} {led : Led} (hc2 : c2.data = .cell (some (.ref lr))) (k2 : (L + 1 + 1, c2) ∈ led) (kr : (lr, W.listOf #[.ref x1, .ref x2, .ref x3] k) ∈ led)
    (kn1 : (an, W.listOf #[.int n1 t1, .int n2 t2, .int n3 t3] kn) ∈ led) (hm : m (Str.ofString "numbers") = some (.ref an))
    (e1 : EntAt led x1 ag1 rv1) (e2 : EntAt led x2 ag2 rv2) (e3 : EntAt led x3 ag3 rv3) (R1 : RulesAt w led rv1 r1) (R2 : RulesAt w led rv2 r2) (R3 : RulesAt w led rv3 r3)
    (b1 : ∀ r ∈ r1, 1 ≤ r.1 ∧ r.1 ≤ 1000 ∧ 0 ≤ r.2 ∧ r.2 ≤ 1000) (b2 : ∀ r ∈ r2, 1 ≤ r.1 ∧ r.1 ≤ 1000 ∧ 0 ≤ r.2 ∧ r.2 ≤ 1000) (b3 : ∀ r ∈ r3, 1 ≤ r.1 ∧ r.1 ≤ 1000 ∧ 0 ≤ r.2 ∧ r.2 ≤ 1000) (o1 : toldOf r1 = n1) (o2 : toldOf r2 = n2) (o3 : toldOf r3 = n3)
    (F : Fr h₀ L s.heap m) (N : News h₀ L s.heap led)
    (hq : ∀ h' tk', Fr h₀ L h' m → News h₀ L h' led → Q .next { s with heap := h', toks := tk' }) :
    wpAny (model PySem.Challenge.rw_rs0140_02.prog w) (ktrTop dp un gd (Str.ofString "law") lawSc L fa cd0 (lawCl L) outer) (exec (lawStmt 9) (lawEnv L fa cd0)) Q E s := by
  refine exec_lawI (by conv => lhs; whnf) (by conv => lhs; whnf) ?_
  revert X
  k_fill
  intro X
  replace F := frWith [(Str.ofString "numbers", .ref an)] (List.forall_mem_cons.mpr ⟨hm, fun _ h => nomatch h⟩) F
  dsimp only [kstB] at F
  (repeat' (first | (k_unfold; (try dsimp only)) | (k_end; wrow_close) | (first | ((with_reducible show wpAny _ _ (eval (Expr.ListComp _ _ _ _) _) _ _ _); (with_reducible refine holdIt ?_)) | ((with_reducible show wpAny _ _ (compareOp CmpOp.NotEq (Value.ref _) (Value.ref _)) _ _ _); (with_reducible refine holdIt ?_)) | ((with_reducible show wpAny _ _ (call (Value.ref _) _) _ _ _); (with_reducible refine holdIt ?_)) | ((with_reducible show Exists _); (with_reducible refine holdIt ?_)) | ((with_reducible show wpAny _ _ (subscriptTail _ _ (Value.ref _) (Value.int _ _)) _ _ _); refine' itemI ?iN ?iM ?i0 ?i1 ?i2 ?i3 ?_ ?i4; (case iN => k_asm); (case iM => k_mem); (case i0 => (simp only [List.length_cons, List.length_nil]; decide)); (case i1 => (simp only [List.length_cons, List.length_nil]; decide)); (case i2 => exact Nat.le_of_ble_eq_true rfl); (case i3 => rfl); (case i4 => with_unfolding_all rfl)) | walk1) | (dsimp only; (first | ((with_reducible show wpAny _ _ (eval (Expr.ListComp _ _ _ _) _) _ _ _); (with_reducible refine holdIt ?_)) | ((with_reducible show wpAny _ _ (compareOp CmpOp.NotEq (Value.ref _) (Value.ref _)) _ _ _); (with_reducible refine holdIt ?_)) | ((with_reducible show wpAny _ _ (call (Value.ref _) _) _ _ _); (with_reducible refine holdIt ?_)) | ((with_reducible show Exists _); (with_reducible refine holdIt ?_)) | ((with_reducible show wpAny _ _ (subscriptTail _ _ (Value.ref _) (Value.int _ _)) _ _ _); refine' itemI ?iN ?iM ?i0 ?i1 ?i2 ?i3 ?_ ?i4; (case iN => k_asm); (case iM => k_mem); (case i0 => (simp only [List.length_cons, List.length_nil]; decide)); (case i1 => (simp only [List.length_cons, List.length_nil]; decide)); (case i2 => exact Nat.le_of_ble_eq_true rfl); (case i3 => rfl); (case i4 => with_unfolding_all rfl)) | walk1)) | (leave1; walk_say "STEP leave1"; try dsimp only) | fail "no step"))
  unfold Hold
  refine LCg.ListComp_U F rfl (by decide) rfl (by decide) rfl ?_
  walk1
  refine LCg.CompSrc.ledger rfl (by k_asm) (by k_asm) kr (by simp [sizeLine_eq]) ?_
  intro g5
  refine compBy (fun i ys nw => nw = led ∧ IntsAre ys ([n1, n2, n3].take i)) ⟨rfl, .nil⟩ ?_ ?_
  · rintro i v I oI C oC D m₂ ys nw h tk E' hlt hv ⟨rfl, hys⟩ hC hx F6 N6 off ne
    have hi' : i = 0 ∨ i = 1 ∨ i = 2 := by simp at hlt; omega
    rcases hi' with rfl | rfl | rfl
    · obtain rfl : Value.ref x1 = v := by simpa using hv
      (repeat' (first | (k_unfold; (try dsimp only)) | (k_end; wrow_close) | (first | ((with_reducible show wpAny _ _ (eval (Expr.ListComp _ _ _ _) _) _ _ _); (with_reducible refine holdIt ?_)) | ((with_reducible show wpAny _ _ (compareOp CmpOp.NotEq (Value.ref _) (Value.ref _)) _ _ _); (with_reducible refine holdIt ?_)) | ((with_reducible show wpAny _ _ (call (Value.ref _) _) _ _ _); (with_reducible refine holdIt ?_)) | ((with_reducible show Exists _); (with_reducible refine holdIt ?_)) | ((with_reducible show wpAny _ _ (subscriptTail _ _ (Value.ref _) (Value.int _ _)) _ _ _); refine' itemI ?iN ?iM ?i0 ?i1 ?i2 ?i3 ?_ ?i4; (case iN => k_asm); (case iM => k_mem); (case i0 => (simp only [List.length_cons, List.length_nil]; decide)); (case i1 => (simp only [List.length_cons, List.length_nil]; decide)); (case i2 => exact Nat.le_of_ble_eq_true rfl); (case i3 => rfl); (case i4 => with_unfolding_all rfl)) | walk1) | (dsimp only; (first | ((with_reducible show wpAny _ _ (eval (Expr.ListComp _ _ _ _) _) _ _ _); (with_reducible refine holdIt ?_)) | ((with_reducible show wpAny _ _ (compareOp CmpOp.NotEq (Value.ref _) (Value.ref _)) _ _ _); (with_reducible refine holdIt ?_)) | ((with_reducible show wpAny _ _ (call (Value.ref _) _) _ _ _); (with_reducible refine holdIt ?_)) | ((with_reducible show Exists _); (with_reducible refine holdIt ?_)) | ((with_reducible show wpAny _ _ (subscriptTail _ _ (Value.ref _) (Value.int _ _)) _ _ _); refine' itemI ?iN ?iM ?i0 ?i1 ?i2 ?i3 ?_ ?i4; (case iN => k_asm); (case iM => k_mem); (case i0 => (simp only [List.length_cons, List.length_nil]; decide)); (case i1 => (simp only [List.length_cons, List.length_nil]; decide)); (case i2 => exact Nat.le_of_ble_eq_true rfl); (case i3 => rfl); (case i4 => with_unfolding_all rfl)) | walk1)) | (leave1; walk_say "STEP leave1"; try dsimp only) | fail "no step"))
      unfold Hold
      refine Spec.use (told_ok w x1 ag1 rv1 r1 _ (e1.mono fun p hp => .tail _ (.tail _ (.tail _ hp))) (R1.mono fun p hp => .tail _ (.tail _ (.tail _ hp))) b1) (by k_asm) (by k_asm) (by k_asm) N6 (by k_asm) rfl (by ktr_room) (by ktr_units) ?_
      rintro r news' h' tk' F7 N7 ⟨rfl, u, rfl⟩
      (repeat' (first | (k_unfold; (try dsimp only)) | (k_end; wrow_close) | (first | ((with_reducible show wpAny _ _ (eval (Expr.ListComp _ _ _ _) _) _ _ _); (with_reducible refine holdIt ?_)) | ((with_reducible show wpAny _ _ (compareOp CmpOp.NotEq (Value.ref _) (Value.ref _)) _ _ _); (with_reducible refine holdIt ?_)) | ((with_reducible show wpAny _ _ (call (Value.ref _) _) _ _ _); (with_reducible refine holdIt ?_)) | ((with_reducible show Exists _); (with_reducible refine holdIt ?_)) | ((with_reducible show wpAny _ _ (subscriptTail _ _ (Value.ref _) (Value.int _ _)) _ _ _); refine' itemI ?iN ?iM ?i0 ?i1 ?i2 ?i3 ?_ ?i4; (case iN => k_asm); (case iM => k_mem); (case i0 => (simp only [List.length_cons, List.length_nil]; decide)); (case i1 => (simp only [List.length_cons, List.length_nil]; decide)); (case i2 => exact Nat.le_of_ble_eq_true rfl); (case i3 => rfl); (case i4 => with_unfolding_all rfl)) | walk1) | (dsimp only; (first | ((with_reducible show wpAny _ _ (eval (Expr.ListComp _ _ _ _) _) _ _ _); (with_reducible refine holdIt ?_)) | ((with_reducible show wpAny _ _ (compareOp CmpOp.NotEq (Value.ref _) (Value.ref _)) _ _ _); (with_reducible refine holdIt ?_)) | ((with_reducible show wpAny _ _ (call (Value.ref _) _) _ _ _); (with_reducible refine holdIt ?_)) | ((with_reducible show Exists _); (with_reducible refine holdIt ?_)) | ((with_reducible show wpAny _ _ (subscriptTail _ _ (Value.ref _) (Value.int _ _)) _ _ _); refine' itemI ?iN ?iM ?i0 ?i1 ?i2 ?i3 ?_ ?i4; (case iN => k_asm); (case iM => k_mem); (case i0 => (simp only [List.length_cons, List.length_nil]; decide)); (case i1 => (simp only [List.length_cons, List.length_nil]; decide)); (case i2 => exact Nat.le_of_ble_eq_true rfl); (case i3 => rfl); (case i4 => with_unfolding_all rfl)) | walk1)) | (leave1; walk_say "STEP leave1"; try dsimp only) | fail "no step"))
      refine LCg.CompEnd.intro (by k_asm) N7 _ (fun p hp => hp) off (.inr ⟨_, kr, rfl, _, rfl⟩) ⟨rfl, ?_⟩
      rw [o1]
      exact ints_snoc hys
    · obtain rfl : Value.ref x2 = v := by simpa using hv
      (repeat' (first | (k_unfold; (try dsimp only)) | (k_end; wrow_close) | (first | ((with_reducible show wpAny _ _ (eval (Expr.ListComp _ _ _ _) _) _ _ _); (with_reducible refine holdIt ?_)) | ((with_reducible show wpAny _ _ (compareOp CmpOp.NotEq (Value.ref _) (Value.ref _)) _ _ _); (with_reducible refine holdIt ?_)) | ((with_reducible show wpAny _ _ (call (Value.ref _) _) _ _ _); (with_reducible refine holdIt ?_)) | ((with_reducible show Exists _); (with_reducible refine holdIt ?_)) | ((with_reducible show wpAny _ _ (subscriptTail _ _ (Value.ref _) (Value.int _ _)) _ _ _); refine' itemI ?iN ?iM ?i0 ?i1 ?i2 ?i3 ?_ ?i4; (case iN => k_asm); (case iM => k_mem); (case i0 => (simp only [List.length_cons, List.length_nil]; decide)); (case i1 => (simp only [List.length_cons, List.length_nil]; decide)); (case i2 => exact Nat.le_of_ble_eq_true rfl); (case i3 => rfl); (case i4 => with_unfolding_all rfl)) | walk1) | (dsimp only; (first | ((with_reducible show wpAny _ _ (eval (Expr.ListComp _ _ _ _) _) _ _ _); (with_reducible refine holdIt ?_)) | ((with_reducible show wpAny _ _ (compareOp CmpOp.NotEq (Value.ref _) (Value.ref _)) _ _ _); (with_reducible refine holdIt ?_)) | ((with_reducible show wpAny _ _ (call (Value.ref _) _) _ _ _); (with_reducible refine holdIt ?_)) | ((with_reducible show Exists _); (with_reducible refine holdIt ?_)) | ((with_reducible show wpAny _ _ (subscriptTail _ _ (Value.ref _) (Value.int _ _)) _ _ _); refine' itemI ?iN ?iM ?i0 ?i1 ?i2 ?i3 ?_ ?i4; (case iN => k_asm); (case iM => k_mem); (case i0 => (simp only [List.length_cons, List.length_nil]; decide)); (case i1 => (simp only [List.length_cons, List.length_nil]; decide)); (case i2 => exact Nat.le_of_ble_eq_true rfl); (case i3 => rfl); (case i4 => with_unfolding_all rfl)) | walk1)) | (leave1; walk_say "STEP leave1"; try dsimp only) | fail "no step"))
      unfold Hold
      refine Spec.use (told_ok w x2 ag2 rv2 r2 _ (e2.mono fun p hp => .tail _ (.tail _ (.tail _ hp))) (R2.mono fun p hp => .tail _ (.tail _ (.tail _ hp))) b2) (by k_asm) (by k_asm) (by k_asm) N6 (by k_asm) rfl (by ktr_room) (by ktr_units) ?_
      rintro r news' h' tk' F7 N7 ⟨rfl, u, rfl⟩
      (repeat' (first | (k_unfold; (try dsimp only)) | (k_end; wrow_close) | (first | ((with_reducible show wpAny _ _ (eval (Expr.ListComp _ _ _ _) _) _ _ _); (with_reducible refine holdIt ?_)) | ((with_reducible show wpAny _ _ (compareOp CmpOp.NotEq (Value.ref _) (Value.ref _)) _ _ _); (with_reducible refine holdIt ?_)) | ((with_reducible show wpAny _ _ (call (Value.ref _) _) _ _ _); (with_reducible refine holdIt ?_)) | ((with_reducible show Exists _); (with_reducible refine holdIt ?_)) | ((with_reducible show wpAny _ _ (subscriptTail _ _ (Value.ref _) (Value.int _ _)) _ _ _); refine' itemI ?iN ?iM ?i0 ?i1 ?i2 ?i3 ?_ ?i4; (case iN => k_asm); (case iM => k_mem); (case i0 => (simp only [List.length_cons, List.length_nil]; decide)); (case i1 => (simp only [List.length_cons, List.length_nil]; decide)); (case i2 => exact Nat.le_of_ble_eq_true rfl); (case i3 => rfl); (case i4 => with_unfolding_all rfl)) | walk1) | (dsimp only; (first | ((with_reducible show wpAny _ _ (eval (Expr.ListComp _ _ _ _) _) _ _ _); (with_reducible refine holdIt ?_)) | ((with_reducible show wpAny _ _ (compareOp CmpOp.NotEq (Value.ref _) (Value.ref _)) _ _ _); (with_reducible refine holdIt ?_)) | ((with_reducible show wpAny _ _ (call (Value.ref _) _) _ _ _); (with_reducible refine holdIt ?_)) | ((with_reducible show Exists _); (with_reducible refine holdIt ?_)) | ((with_reducible show wpAny _ _ (subscriptTail _ _ (Value.ref _) (Value.int _ _)) _ _ _); refine' itemI ?iN ?iM ?i0 ?i1 ?i2 ?i3 ?_ ?i4; (case iN => k_asm); (case iM => k_mem); (case i0 => (simp only [List.length_cons, List.length_nil]; decide)); (case i1 => (simp only [List.length_cons, List.length_nil]; decide)); (case i2 => exact Nat.le_of_ble_eq_true rfl); (case i3 => rfl); (case i4 => with_unfolding_all rfl)) | walk1)) | (leave1; walk_say "STEP leave1"; try dsimp only) | fail "no step"))
      refine LCg.CompEnd.intro (by k_asm) N7 _ (fun p hp => hp) off (.inr ⟨_, kr, rfl, _, rfl⟩) ⟨rfl, ?_⟩
      rw [o2]
      exact ints_snoc hys
    · obtain rfl : Value.ref x3 = v := by simpa using hv
      (repeat' (first | (k_unfold; (try dsimp only)) | (k_end; wrow_close) | (first | ((with_reducible show wpAny _ _ (eval (Expr.ListComp _ _ _ _) _) _ _ _); (with_reducible refine holdIt ?_)) | ((with_reducible show wpAny _ _ (compareOp CmpOp.NotEq (Value.ref _) (Value.ref _)) _ _ _); (with_reducible refine holdIt ?_)) | ((with_reducible show wpAny _ _ (call (Value.ref _) _) _ _ _); (with_reducible refine holdIt ?_)) | ((with_reducible show Exists _); (with_reducible refine holdIt ?_)) | ((with_reducible show wpAny _ _ (subscriptTail _ _ (Value.ref _) (Value.int _ _)) _ _ _); refine' itemI ?iN ?iM ?i0 ?i1 ?i2 ?i3 ?_ ?i4; (case iN => k_asm); (case iM => k_mem); (case i0 => (simp only [List.length_cons, List.length_nil]; decide)); (case i1 => (simp only [List.length_cons, List.length_nil]; decide)); (case i2 => exact Nat.le_of_ble_eq_true rfl); (case i3 => rfl); (case i4 => with_unfolding_all rfl)) | walk1) | (dsimp only; (first | ((with_reducible show wpAny _ _ (eval (Expr.ListComp _ _ _ _) _) _ _ _); (with_reducible refine holdIt ?_)) | ((with_reducible show wpAny _ _ (compareOp CmpOp.NotEq (Value.ref _) (Value.ref _)) _ _ _); (with_reducible refine holdIt ?_)) | ((with_reducible show wpAny _ _ (call (Value.ref _) _) _ _ _); (with_reducible refine holdIt ?_)) | ((with_reducible show Exists _); (with_reducible refine holdIt ?_)) | ((with_reducible show wpAny _ _ (subscriptTail _ _ (Value.ref _) (Value.int _ _)) _ _ _); refine' itemI ?iN ?iM ?i0 ?i1 ?i2 ?i3 ?_ ?i4; (case iN => k_asm); (case iM => k_mem); (case i0 => (simp only [List.length_cons, List.length_nil]; decide)); (case i1 => (simp only [List.length_cons, List.length_nil]; decide)); (case i2 => exact Nat.le_of_ble_eq_true rfl); (case i3 => rfl); (case i4 => with_unfolding_all rfl)) | walk1)) | (leave1; walk_say "STEP leave1"; try dsimp only) | fail "no step"))
      unfold Hold
      refine Spec.use (told_ok w x3 ag3 rv3 r3 _ (e3.mono fun p hp => .tail _ (.tail _ (.tail _ hp))) (R3.mono fun p hp => .tail _ (.tail _ (.tail _ hp))) b3) (by k_asm) (by k_asm) (by k_asm) N6 (by k_asm) rfl (by ktr_room) (by ktr_units) ?_
      rintro r news' h' tk' F7 N7 ⟨rfl, u, rfl⟩
      (repeat' (first | (k_unfold; (try dsimp only)) | (k_end; wrow_close) | (first | ((with_reducible show wpAny _ _ (eval (Expr.ListComp _ _ _ _) _) _ _ _); (with_reducible refine holdIt ?_)) | ((with_reducible show wpAny _ _ (compareOp CmpOp.NotEq (Value.ref _) (Value.ref _)) _ _ _); (with_reducible refine holdIt ?_)) | ((with_reducible show wpAny _ _ (call (Value.ref _) _) _ _ _); (with_reducible refine holdIt ?_)) | ((with_reducible show Exists _); (with_reducible refine holdIt ?_)) | ((with_reducible show wpAny _ _ (subscriptTail _ _ (Value.ref _) (Value.int _ _)) _ _ _); refine' itemI ?iN ?iM ?i0 ?i1 ?i2 ?i3 ?_ ?i4; (case iN => k_asm); (case iM => k_mem); (case i0 => (simp only [List.length_cons, List.length_nil]; decide)); (case i1 => (simp only [List.length_cons, List.length_nil]; decide)); (case i2 => exact Nat.le_of_ble_eq_true rfl); (case i3 => rfl); (case i4 => with_unfolding_all rfl)) | walk1) | (dsimp only; (first | ((with_reducible show wpAny _ _ (eval (Expr.ListComp _ _ _ _) _) _ _ _); (with_reducible refine holdIt ?_)) | ((with_reducible show wpAny _ _ (compareOp CmpOp.NotEq (Value.ref _) (Value.ref _)) _ _ _); (with_reducible refine holdIt ?_)) | ((with_reducible show wpAny _ _ (call (Value.ref _) _) _ _ _); (with_reducible refine holdIt ?_)) | ((with_reducible show Exists _); (with_reducible refine holdIt ?_)) | ((with_reducible show wpAny _ _ (subscriptTail _ _ (Value.ref _) (Value.int _ _)) _ _ _); refine' itemI ?iN ?iM ?i0 ?i1 ?i2 ?i3 ?_ ?i4; (case iN => k_asm); (case iM => k_mem); (case i0 => (simp only [List.length_cons, List.length_nil]; decide)); (case i1 => (simp only [List.length_cons, List.length_nil]; decide)); (case i2 => exact Nat.le_of_ble_eq_true rfl); (case i3 => rfl); (case i4 => with_unfolding_all rfl)) | walk1)) | (leave1; walk_say "STEP leave1"; try dsimp only) | fail "no step"))
      refine LCg.CompEnd.intro (by k_asm) N7 _ (fun p hp => hp) off (.inr ⟨_, kr, rfl, _, rfl⟩) ⟨rfl, ?_⟩
      rw [o3]
      exact ints_snoc hys
  · rintro ys nw ⟨rfl, hys⟩
    intro D h tk F5 N5 off
    replace hys : IntsAre ys [n1, n2, n3] := hys
    (repeat' (first | (k_unfold; (try dsimp only)) | (k_end; wrow_close) | (first | ((with_reducible show wpAny _ _ (eval (Expr.ListComp _ _ _ _) _) _ _ _); (with_reducible refine holdIt ?_)) | ((with_reducible show wpAny _ _ (compareOp CmpOp.NotEq (Value.ref _) (Value.ref _)) _ _ _); (with_reducible refine holdIt ?_)) | ((with_reducible show wpAny _ _ (call (Value.ref _) _) _ _ _); (with_reducible refine holdIt ?_)) | ((with_reducible show Exists _); (with_reducible refine holdIt ?_)) | ((with_reducible show wpAny _ _ (subscriptTail _ _ (Value.ref _) (Value.int _ _)) _ _ _); refine' itemI ?iN ?iM ?i0 ?i1 ?i2 ?i3 ?_ ?i4; (case iN => k_asm); (case iM => k_mem); (case i0 => (simp only [List.length_cons, List.length_nil]; decide)); (case i1 => (simp only [List.length_cons, List.length_nil]; decide)); (case i2 => exact Nat.le_of_ble_eq_true rfl); (case i3 => rfl); (case i4 => with_unfolding_all rfl)) | walk1) | (dsimp only; (first | ((with_reducible show wpAny _ _ (eval (Expr.ListComp _ _ _ _) _) _ _ _); (with_reducible refine holdIt ?_)) | ((with_reducible show wpAny _ _ (compareOp CmpOp.NotEq (Value.ref _) (Value.ref _)) _ _ _); (with_reducible refine holdIt ?_)) | ((with_reducible show wpAny _ _ (call (Value.ref _) _) _ _ _); (with_reducible refine holdIt ?_)) | ((with_reducible show Exists _); (with_reducible refine holdIt ?_)) | ((with_reducible show wpAny _ _ (subscriptTail _ _ (Value.ref _) (Value.int _ _)) _ _ _); refine' itemI ?iN ?iM ?i0 ?i1 ?i2 ?i3 ?_ ?i4; (case iN => k_asm); (case iM => k_mem); (case i0 => (simp only [List.length_cons, List.length_nil]; decide)); (case i1 => (simp only [List.length_cons, List.length_nil]; decide)); (case i2 => exact Nat.le_of_ble_eq_true rfl); (case i3 => rfl); (case i4 => with_unfolding_all rfl)) | walk1)) | (leave1; walk_say "STEP leave1"; try dsimp only) | fail "no step"))
    unfold Hold
    refine ke_ne_ints (xs := ys) (N5.isList (.head _)) (N5.isList (.tail _ kn1)) hys (.cons _ _ (.cons _ _ (.cons _ _ .nil))) (by units_room) ?_
    replace N5 : News _ _ _ nw := newsSub N5 fun p hp => .tail _ hp
    rw [decide_eq_true rfl]
    (repeat' (first | (k_unfold; (try dsimp only)) | (k_end; wrow_close) | (first | ((with_reducible show wpAny _ _ (eval (Expr.ListComp _ _ _ _) _) _ _ _); (with_reducible refine holdIt ?_)) | ((with_reducible show wpAny _ _ (compareOp CmpOp.NotEq (Value.ref _) (Value.ref _)) _ _ _); (with_reducible refine holdIt ?_)) | ((with_reducible show wpAny _ _ (call (Value.ref _) _) _ _ _); (with_reducible refine holdIt ?_)) | ((with_reducible show Exists _); (with_reducible refine holdIt ?_)) | ((with_reducible show wpAny _ _ (subscriptTail _ _ (Value.ref _) (Value.int _ _)) _ _ _); refine' itemI ?iN ?iM ?i0 ?i1 ?i2 ?i3 ?_ ?i4; (case iN => k_asm); (case iM => k_mem); (case i0 => (simp only [List.length_cons, List.length_nil]; decide)); (case i1 => (simp only [List.length_cons, List.length_nil]; decide)); (case i2 => exact Nat.le_of_ble_eq_true rfl); (case i3 => rfl); (case i4 => with_unfolding_all rfl)) | walk1) | (dsimp only; (first | ((with_reducible show wpAny _ _ (eval (Expr.ListComp _ _ _ _) _) _ _ _); (with_reducible refine holdIt ?_)) | ((with_reducible show wpAny _ _ (compareOp CmpOp.NotEq (Value.ref _) (Value.ref _)) _ _ _); (with_reducible refine holdIt ?_)) | ((with_reducible show wpAny _ _ (call (Value.ref _) _) _ _ _); (with_reducible refine holdIt ?_)) | ((with_reducible show Exists _); (with_reducible refine holdIt ?_)) | ((with_reducible show wpAny _ _ (subscriptTail _ _ (Value.ref _) (Value.int _ _)) _ _ _); refine' itemI ?iN ?iM ?i0 ?i1 ?i2 ?i3 ?_ ?i4; (case iN => k_asm); (case iM => k_mem); (case i0 => (simp only [List.length_cons, List.length_nil]; decide)); (case i1 => (simp only [List.length_cons, List.length_nil]; decide)); (case i2 => exact Nat.le_of_ble_eq_true rfl); (case i3 => rfl); (case i4 => with_unfolding_all rfl)) | walk1)) | (leave1; walk_say "STEP leave1"; try dsimp only) | fail "no step"))
    exact hq _ _ (frOff F5 hm) (by k_asm)
end Mine
end

section
open PySem PySem.W PyProof.Rows
namespace Mine
theorem sec_S6 {M : Model} {A : Around} {E : Value → Shared → Prop} {s : Shared} {env : Env} {p : Pos} {Q : Flow → Shared → Prop} (h : Q .next s) : wpAny M A (exec (.Pass p) env) Q E s := by
  w_top off
  k_with_none
  walk1
  exact h
end Mine
end
section
open PySem PySem.W PyProof.Rows
set_option maxRecDepth 100000
set_option maxHeartbeats 2000000
namespace Mine
theorem off1_mem {D : Addr} : ∀ {l : Led}, LCg.Off1 D l → ∀ p ∈ l, p.1 ≠ D
  | [], _, _, h => nomatch h
  | _ :: _, x, p, h => by
    rcases List.mem_cons.mp h with rfl | h
    · exact x.1
    · exact off1_mem x.2 p h
theorem seg10 (w : World) {dp un : Nat} {gd : Option (List Code)} {fa : Addr} {cd0 : Value} {outer : List Env} {A₀ : Around} {base h₀ : Heap} {L : Addr} {loose : List Str} {mean : ExcName → Option Value} {mg mb : Str → Option Value} {m : Str → Option Value} {s : Shared} {Q : Flow → Shared → Prop} {E : Value → Shared → Prop}
    (B : Below A₀ base outer h₀) (X : (hd.heap_39 w.params).In h₀) (T : Top topProg loose mean mg mb h₀) (hdp : dp + 8 < recursionLimit) (hu : un + 20 * 8 < cLine)
    {led : Led} (F : Fr h₀ L s.heap m) (N : News h₀ L s.heap led)
    (hq : ∀ D h' tk' m', Fr h₀ L h' m' → StM m m' (Str.ofString "greatest") (.ref D) → News h₀ L h' ((D, W.listOf #[] 0) :: led) → (∀ p ∈ led, p.1 < D) → Q .next { s with heap := h', toks := tk' }) :
    wpAny (model PySem.Challenge.rw_rs0140_02.prog w) (ktrTop dp un gd (Str.ofString "law") lawSc L fa cd0 (lawCl L) outer) (exec (lawStmt 10) (lawEnv L fa cd0)) Q E s := by
  refine exec_lawA (by conv => lhs; whnf) (by conv => lhs; whnf) ?_
  revert X
  k_fill
  intro X
  (repeat' (first | (k_unfold; (try dsimp only)) | (k_end; wrow_close) | (first | ((with_reducible show wpAny _ _ (eval (Expr.ListComp _ _ _ _) _) _ _ _); (with_reducible refine holdIt ?_)) | ((with_reducible show wpAny _ _ (call (Value.ref _) _) _ _ _); (with_reducible refine holdIt ?_)) | ((with_reducible show Exists _); (with_reducible refine holdIt ?_)) | walk1) | (dsimp only; (first | ((with_reducible show wpAny _ _ (eval (Expr.ListComp _ _ _ _) _) _ _ _); (with_reducible refine holdIt ?_)) | ((with_reducible show wpAny _ _ (call (Value.ref _) _) _ _ _); (with_reducible refine holdIt ?_)) | ((with_reducible show Exists _); (with_reducible refine holdIt ?_)) | walk1)) | (leave1; walk_say "STEP leave1"; try dsimp only) | fail "no step"))
  rename_i l1 _ _ _
  exact hq _ _ _ _ (by k_asm) ⟨if_pos rfl, by (intro y hy; (try dsimp only); (repeat' split) <;> first | exact absurd (by assumption) hy | rfl | (subst_vars; exact Eq.symm (by assumption)))⟩ (by k_asm) l1
theorem seg12 (w : World) {dp un : Nat} {gd : Option (List Code)} {fa : Addr} {cd0 : Value} {outer : List Env} {A₀ : Around} {base h₀ : Heap} {L : Addr} {loose : List Str} {mean : ExcName → Option Value} {mg mb : Str → Option Value} {m : Str → Option Value} {s : Shared} {Q : Flow → Shared → Prop} {E : Value → Shared → Prop}
    (B : Below A₀ base outer h₀) (X : (hd.heap_39 w.params).In h₀) (T : Top topProg loose mean mg mb h₀) (hdp : dp + 8 < recursionLimit) (hu : un + 20 * 8 < cLine)
    {b : Int} (hb : 0 ≤ b ∧ b ≤ 2) {tb t1 t2 t3 : Tok} {an : Addr} {n1 n2 n3 : Int} {kn : Nat} {led : Led} (hmN : m (Str.ofString "numbers") = some (.ref an)) (hmB : m (Str.ofString "behind") = some (.str (behindOf b) tb)) (kn1 : (an, W.listOf #[.int n1 t1, .int n2 t2, .int n3 t3] kn) ∈ led) (hn1 : 1 ≤ n1 ∧ n1 ≤ 10) (hn2 : 1 ≤ n2 ∧ n2 ≤ 10) (hn3 : 1 ≤ n3 ∧ n3 ≤ 10)
    (F : Fr h₀ L s.heap m) (N : News h₀ L s.heap led)
    (hq : ∀ x nw h' tk' m', Fr h₀ L h' m' → StM m m' (Str.ofString "shorter") (.ref x) → News h₀ L h' (nw ++ led) → (∀ p ∈ nw, ∀ q ∈ led, p.1 ≠ q.1) → WhiteAt (nw ++ led) x (wsOf [n1 - 1, n2 - 1, n3 - 1] b) → Q .next { s with heap := h', toks := tk' }) :
    wpAny (model PySem.Challenge.rw_rs0140_02.prog w) (ktrTop dp un gd (Str.ofString "law") lawSc L fa cd0 (lawCl L) outer) (exec (lawStmt 12) (lawEnv L fa cd0)) Q E s := by
  refine exec_lawA (by conv => lhs; whnf) (by conv => lhs; whnf) ?_
  revert X
  k_fill
  intro X
  replace F := frWith [(Str.ofString "numbers", .ref an), (Str.ofString "behind", .str (behindOf b) tb)] (List.forall_mem_cons.mpr ⟨hmN, List.forall_mem_cons.mpr ⟨hmB, fun _ h => nomatch h⟩⟩) F
  dsimp only [kstB] at F
  (repeat' (first | (k_unfold; (try dsimp only)) | (k_end; wrow_close) | (first | ((with_reducible show wpAny _ _ (eval (Expr.ListComp _ _ _ _) _) _ _ _); (with_reducible refine holdIt ?_)) | ((with_reducible show wpAny _ _ (call (Value.ref _) _) _ _ _); (with_reducible refine holdIt ?_)) | ((with_reducible show Exists _); (with_reducible refine holdIt ?_)) | walk1) | (dsimp only; (first | ((with_reducible show wpAny _ _ (eval (Expr.ListComp _ _ _ _) _) _ _ _); (with_reducible refine holdIt ?_)) | ((with_reducible show wpAny _ _ (call (Value.ref _) _) _ _ _); (with_reducible refine holdIt ?_)) | ((with_reducible show Exists _); (with_reducible refine holdIt ?_)) | walk1)) | (leave1; walk_say "STEP leave1"; try dsimp only) | fail "no step"))
  unfold Hold
  refine LCg.ListComp_U F rfl (by decide) rfl (by decide) rfl ?_
  walk1
  refine LCg.CompSrc.ledger rfl (by k_asm) (by k_asm) kn1 (by simp [sizeLine_eq]) ?_
  intro g5
  refine compBy (fun i ys nw => nw = led ∧ IntsAre ys ([n1 - 1, n2 - 1, n3 - 1].take i)) ⟨rfl, .nil⟩ ?_ ?_
  · rintro i v I oI C oC D m₂ ys nw h tk E' hlt hv ⟨rfl, hys⟩ hC hx F6 N6 off ne
    have hi' : i = 0 ∨ i = 1 ∨ i = 2 := by simp at hlt; omega
    rcases hi' with rfl | rfl | rfl
    · obtain rfl : Value.int n1 t1 = v := by simpa using hv
      (repeat' (first | (k_unfold; (try dsimp only)) | (k_end; wrow_close) | (first | ((with_reducible show wpAny _ _ (eval (Expr.ListComp _ _ _ _) _) _ _ _); (with_reducible refine holdIt ?_)) | ((with_reducible show wpAny _ _ (call (Value.ref _) _) _ _ _); (with_reducible refine holdIt ?_)) | ((with_reducible show Exists _); (with_reducible refine holdIt ?_)) | walk1) | (dsimp only; (first | ((with_reducible show wpAny _ _ (eval (Expr.ListComp _ _ _ _) _) _ _ _); (with_reducible refine holdIt ?_)) | ((with_reducible show wpAny _ _ (call (Value.ref _) _) _ _ _); (with_reducible refine holdIt ?_)) | ((with_reducible show Exists _); (with_reducible refine holdIt ?_)) | walk1)) | (leave1; walk_say "STEP leave1"; try dsimp only) | fail "no step"))
      exact LCg.CompEnd.intro (by k_asm) N6 _ (fun p hp => hp) off (.inr ⟨_, kn1, rfl, _, rfl⟩) ⟨rfl, ints_snoc hys⟩
    · obtain rfl : Value.int n2 t2 = v := by simpa using hv
      (repeat' (first | (k_unfold; (try dsimp only)) | (k_end; wrow_close) | (first | ((with_reducible show wpAny _ _ (eval (Expr.ListComp _ _ _ _) _) _ _ _); (with_reducible refine holdIt ?_)) | ((with_reducible show wpAny _ _ (call (Value.ref _) _) _ _ _); (with_reducible refine holdIt ?_)) | ((with_reducible show Exists _); (with_reducible refine holdIt ?_)) | walk1) | (dsimp only; (first | ((with_reducible show wpAny _ _ (eval (Expr.ListComp _ _ _ _) _) _ _ _); (with_reducible refine holdIt ?_)) | ((with_reducible show wpAny _ _ (call (Value.ref _) _) _ _ _); (with_reducible refine holdIt ?_)) | ((with_reducible show Exists _); (with_reducible refine holdIt ?_)) | walk1)) | (leave1; walk_say "STEP leave1"; try dsimp only) | fail "no step"))
      exact LCg.CompEnd.intro (by k_asm) N6 _ (fun p hp => hp) off (.inr ⟨_, kn1, rfl, _, rfl⟩) ⟨rfl, ints_snoc hys⟩
    · obtain rfl : Value.int n3 t3 = v := by simpa using hv
      (repeat' (first | (k_unfold; (try dsimp only)) | (k_end; wrow_close) | (first | ((with_reducible show wpAny _ _ (eval (Expr.ListComp _ _ _ _) _) _ _ _); (with_reducible refine holdIt ?_)) | ((with_reducible show wpAny _ _ (call (Value.ref _) _) _ _ _); (with_reducible refine holdIt ?_)) | ((with_reducible show Exists _); (with_reducible refine holdIt ?_)) | walk1) | (dsimp only; (first | ((with_reducible show wpAny _ _ (eval (Expr.ListComp _ _ _ _) _) _ _ _); (with_reducible refine holdIt ?_)) | ((with_reducible show wpAny _ _ (call (Value.ref _) _) _ _ _); (with_reducible refine holdIt ?_)) | ((with_reducible show Exists _); (with_reducible refine holdIt ?_)) | walk1)) | (leave1; walk_say "STEP leave1"; try dsimp only) | fail "no step"))
      exact LCg.CompEnd.intro (by k_asm) N6 _ (fun p hp => hp) off (.inr ⟨_, kn1, rfl, _, rfl⟩) ⟨rfl, ints_snoc hys⟩
  · rintro ys nw ⟨rfl, hys⟩
    intro D h tk F5 N5 off
    replace hys : IntsAre ys [n1 - 1, n2 - 1, n3 - 1] := hys
    (repeat' (first | (k_unfold; (try dsimp only)) | (k_end; wrow_close) | (first | ((with_reducible show wpAny _ _ (eval (Expr.ListComp _ _ _ _) _) _ _ _); (with_reducible refine holdIt ?_)) | ((with_reducible show wpAny _ _ (call (Value.ref _) _) _ _ _); (with_reducible refine holdIt ?_)) | ((with_reducible show Exists _); (with_reducible refine holdIt ?_)) | walk1) | (dsimp only; (first | ((with_reducible show wpAny _ _ (eval (Expr.ListComp _ _ _ _) _) _ _ _); (with_reducible refine holdIt ?_)) | ((with_reducible show wpAny _ _ (call (Value.ref _) _) _ _ _); (with_reducible refine holdIt ?_)) | ((with_reducible show Exists _); (with_reducible refine holdIt ?_)) | walk1)) | (leave1; walk_say "STEP leave1"; try dsimp only) | fail "no step"))
    unfold Hold
    refine Spec.use (white_ok w D ys [n1 - 1, n2 - 1, n3 - 1] _ (behindOf b) tb _ (.head _) hys (Nat.le_of_ble_eq_true rfl) (fun r hr => by simp only [List.mem_cons, List.not_mem_nil, or_false] at hr; omega) (behind_len b (in3 hb))) (by k_asm) (by k_asm) (by k_asm) N5 (by k_asm) rfl (by ktr_room) (by ktr_units) ?_
    rintro r A1 h5 tk5 F6 N6 ⟨⟨tl1, rfl, hl1⟩, x1, rfl, W1⟩
    have hof := off1_mem off
    (repeat' (first | (k_unfold; (try dsimp only)) | (k_end; wrow_close) | (first | ((with_reducible show wpAny _ _ (eval (Expr.ListComp _ _ _ _) _) _ _ _); (with_reducible refine holdIt ?_)) | ((with_reducible show wpAny _ _ (call (Value.ref _) _) _ _ _); (with_reducible refine holdIt ?_)) | ((with_reducible show Exists _); (with_reducible refine holdIt ?_)) | walk1) | (dsimp only; (first | ((with_reducible show wpAny _ _ (eval (Expr.ListComp _ _ _ _) _) _ _ _); (with_reducible refine holdIt ?_)) | ((with_reducible show wpAny _ _ (call (Value.ref _) _) _ _ _); (with_reducible refine holdIt ?_)) | ((with_reducible show Exists _); (with_reducible refine holdIt ?_)) | walk1)) | (leave1; walk_say "STEP leave1"; try dsimp only) | fail "no step"))
    rename News _ _ _ _ => N7
    refine hq x1 (tl1 ++ [(D, LCg.lst ys)]) _ _ _ (by k_asm) ⟨if_pos rfl, by (intro y hy; (try dsimp only); (repeat' split) <;> first | exact absurd (by assumption) hy | rfl | (subst_vars; exact Eq.symm (by assumption)))⟩ (by rw [List.append_assoc]; exact N7) (allApp (fun p hp q hq => Nat.ne_of_gt (hl1 p hp q (.tail _ hq))) (allCons (fun q hq e => hof q hq e.symm) allNil)) (by rw [List.append_assoc]; exact W1)
theorem seg13 (w : World) {dp un : Nat} {gd : Option (List Code)} {fa : Addr} {cd0 : Value} {outer : List Env} {A₀ : Around} {base h₀ : Heap} {L : Addr} {loose : List Str} {mean : ExcName → Option Value} {mg mb : Str → Option Value} {m : Str → Option Value} {s : Shared} {Q : Flow → Shared → Prop} {E : Value → Shared → Prop}
    (B : Below A₀ base outer h₀) (X : (hd.heap_39 w.params).In h₀) (T : Top topProg loose mean mg mb h₀) (hdp : dp + 8 < recursionLimit) (hu : un + 20 * 8 < cLine)
    {b : Int} (hb : 0 ≤ b ∧ b ≤ 2) {tb t1 t2 t3 : Tok} {an xs : Addr} {n1 n2 n3 : Int} {kn : Nat} {led : Led} (hmN : m (Str.ofString "numbers") = some (.ref an)) (hmB : m (Str.ofString "behind") = some (.str (behindOf b) tb)) (hmS : m (Str.ofString "shorter") = some (.ref xs)) (kn1 : (an, W.listOf #[.int n1 t1, .int n2 t2, .int n3 t3] kn) ∈ led) (hn1 : 1 ≤ n1 ∧ n1 ≤ 10) (hn2 : 1 ≤ n2 ∧ n2 ≤ 10) (hn3 : 1 ≤ n3 ∧ n3 ≤ 10) {st : Ws} (W0 : WhiteAt led xs st)
    (F : Fr h₀ L s.heap m) (N : News h₀ L s.heap led)
    (hq : ∀ a vs k tl nw h' tk' m', Fr h₀ L h' m' → StM m m' (Str.ofString "rows") (.ref a) → News h₀ L h' (tl ++ (nw ++ led)) → (∀ p ∈ tl, ∀ q ∈ led, q.1 < p.1) → (∀ p ∈ nw, ∀ q ∈ led, q.1 < p.1) → (a, W.listOf (List.toArray vs) k) ∈ tl → RowsAt tl vs (witOf st (wsOf [n1, n2, n3] b)) → Q .next { s with heap := h', toks := tk' }) :
    wpAny (model PySem.Challenge.rw_rs0140_02.prog w) (ktrTop dp un gd (Str.ofString "law") lawSc L fa cd0 (lawCl L) outer) (exec (lawStmt 13) (lawEnv L fa cd0)) Q E s := by
  refine exec_lawA (by conv => lhs; whnf) (by conv => lhs; whnf) ?_
  revert X
  k_fill
  intro X
  replace F := frWith [(Str.ofString "numbers", .ref an), (Str.ofString "behind", .str (behindOf b) tb), (Str.ofString "shorter", .ref xs)] (List.forall_mem_cons.mpr ⟨hmN, List.forall_mem_cons.mpr ⟨hmB, List.forall_mem_cons.mpr ⟨hmS, fun _ h => nomatch h⟩⟩⟩) F
  dsimp only [kstB] at F
  refine W0.el fun d1 _ _ _ _ _ _ _ _ _ _ _ _ _ _ _ _ _ _ _ _ _ q1 q2 _ _ _ _ _ _ => ?_
  (repeat' (first | (k_unfold; (try dsimp only)) | (k_end; wrow_close) | (first | ((with_reducible show wpAny _ _ (eval (Expr.ListComp _ _ _ _) _) _ _ _); (with_reducible refine holdIt ?_)) | ((with_reducible show wpAny _ _ (call (Value.ref _) _) _ _ _); (with_reducible refine holdIt ?_)) | ((with_reducible show Exists _); (with_reducible refine holdIt ?_)) | walk1) | (dsimp only; (first | ((with_reducible show wpAny _ _ (eval (Expr.ListComp _ _ _ _) _) _ _ _); (with_reducible refine holdIt ?_)) | ((with_reducible show wpAny _ _ (call (Value.ref _) _) _ _ _); (with_reducible refine holdIt ?_)) | ((with_reducible show Exists _); (with_reducible refine holdIt ?_)) | walk1)) | (leave1; walk_say "STEP leave1"; try dsimp only) | fail "no step"))
  unfold Hold
  refine Spec.use (white_ok w an [.int n1 t1, .int n2 t2, .int n3 t3] [n1, n2, n3] _ (behindOf b) tb _ kn1 (.cons _ _ (.cons _ _ (.cons _ _ .nil))) (Nat.le_of_ble_eq_true rfl) (fun r hr => by simp only [List.mem_cons, List.not_mem_nil, or_false] at hr; omega) (behind_len b (in3 hb))) (by k_asm) (by k_asm) (by k_asm) N (by k_asm) rfl (by ktr_room) (by ktr_units) ?_
  rintro r A1 h5 tk5 F6 N6 ⟨⟨tl1, rfl, hl1⟩, x1, rfl, W1⟩
  (repeat' (first | (k_unfold; (try dsimp only)) | (k_end; wrow_close) | (first | ((with_reducible show wpAny _ _ (eval (Expr.ListComp _ _ _ _) _) _ _ _); (with_reducible refine holdIt ?_)) | ((with_reducible show wpAny _ _ (call (Value.ref _) _) _ _ _); (with_reducible refine holdIt ?_)) | ((with_reducible show Exists _); (with_reducible refine holdIt ?_)) | walk1) | (dsimp only; (first | ((with_reducible show wpAny _ _ (eval (Expr.ListComp _ _ _ _) _) _ _ _); (with_reducible refine holdIt ?_)) | ((with_reducible show wpAny _ _ (call (Value.ref _) _) _ _ _); (with_reducible refine holdIt ?_)) | ((with_reducible show Exists _); (with_reducible refine holdIt ?_)) | walk1)) | (leave1; walk_say "STEP leave1"; try dsimp only) | fail "no step"))
  unfold Hold
  refine Spec.use (new_ok w xs x1 _ _ _ (W0.mono fun p hp => memR hp) W1) (by k_asm) (by k_asm) (by k_asm) N6 (by k_asm) rfl (by ktr_room) (by ktr_units) ?_
  rintro r A3 h7 tk7 F7 N7 ⟨tl3, rfl, hn3', a, vs, k, rfl, hma, hrw⟩
  (repeat' (first | (k_unfold; (try dsimp only)) | (k_end; wrow_close) | (first | ((with_reducible show wpAny _ _ (eval (Expr.ListComp _ _ _ _) _) _ _ _); (with_reducible refine holdIt ?_)) | ((with_reducible show wpAny _ _ (call (Value.ref _) _) _ _ _); (with_reducible refine holdIt ?_)) | ((with_reducible show Exists _); (with_reducible refine holdIt ?_)) | walk1) | (dsimp only; (first | ((with_reducible show wpAny _ _ (eval (Expr.ListComp _ _ _ _) _) _ _ _); (with_reducible refine holdIt ?_)) | ((with_reducible show wpAny _ _ (call (Value.ref _) _) _ _ _); (with_reducible refine holdIt ?_)) | ((with_reducible show Exists _); (with_reducible refine holdIt ?_)) | walk1)) | (leave1; walk_say "STEP leave1"; try dsimp only) | fail "no step"))
  exact hq a vs k tl3 tl1 _ _ _ (by k_asm) ⟨if_pos rfl, by (intro y hy; (try dsimp only); (repeat' split) <;> first | exact absurd (by assumption) hy | rfl | (subst_vars; exact Eq.symm (by assumption)))⟩ (by k_asm) (fun p hp q hq => hn3' p hp q (memR hq)) hl1 hma hrw
end Mine
end

section
open PySem PySem.W PyProof.Rows
namespace Mine
theorem sec_S7 {M : Model} {A : Around} {E : Value → Shared → Prop} {s : Shared} {env : Env} {p : Pos} {Q : Flow → Shared → Prop} (h : Q .next s) : wpAny M A (exec (.Pass p) env) Q E s := by
  w_top off
  k_with_none
  walk1
  exact h
end Mine
end
section
open PySem PySem.W PyProof.Rows
set_option maxRecDepth 100000
set_option maxHeartbeats 2000000
namespace Mine
theorem frBack {h₀ h : Heap} {L : Addr} {m : Str → Option Value} (ps : List (Str × Value)) (hp : ∀ p ∈ ps, m p.1 = some p.2) (F : Fr h₀ L h (kstB m ps)) : Fr h₀ L h m := by
  have e : kstB m ps = m := by
    funext y
    exact kstB_eq hp fun _ => rfl
  rw [e] at F; exact F
theorem powers_small : ∀ r ∈ powers, 1 ≤ r.1 ∧ r.1 ≤ 1000 ∧ 0 ≤ r.2 ∧ r.2 ≤ 1000 := by decide
theorem rules_small {ags : List Str} : ∀ r ∈ rulesOf ags, 1 ≤ r.1 ∧ r.1 ≤ 1000 ∧ 0 ≤ r.2 ∧ r.2 ≤ 1000 := fun r h => powers_small r (List.mem_filter.mp h).1
theorem seg17 (w : World) {dp un : Nat} {gd : Option (List Code)} {fa : Addr} {cd0 : Value} {outer : List Env} {A₀ : Around} {base h₀ : Heap} {L : Addr} {loose : List Str} {mean : ExcName → Option Value} {mg mb : Str → Option Value} {m : Str → Option Value} {s : Shared} {Q : Flow → Shared → Prop} {E : Value → Shared → Prop}
    (B : Below A₀ base outer h₀) (X : (hd.heap_39 w.params).In h₀) (T : Top topProg loose mean mg mb h₀) (hdp : dp + 8 < recursionLimit) (hu : un + 20 * 8 < cLine)
    {z : Addr} {ag : List Str} {rv : List Value} {rs : List (Int × Int)} {led : Led} (hm : m (Str.ofString "whole") = some (.ref z)) (e1 : EntAt led z ag rv) (R1 : RulesAt w led rv rs) (b1 : ∀ r ∈ rs, 1 ≤ r.1 ∧ r.1 ≤ 1000 ∧ 0 ≤ r.2 ∧ r.2 ≤ 1000)
    (F : Fr h₀ L s.heap m) (N : News h₀ L s.heap led)
    (hq : ∀ t h' tk' m', Fr h₀ L h' m' → StM m m' (Str.ofString "multiple") (.int (toldOf rs) t) → News h₀ L h' led → Q .next { s with heap := h', toks := tk' }) :
    wpAny (model PySem.Challenge.rw_rs0140_02.prog w) (ktrTop dp un gd (Str.ofString "law") lawSc L fa cd0 (lawCl L) outer) (exec (lawStmt 17) (lawEnv L fa cd0)) Q E s := by
  refine exec_lawA (by conv => lhs; whnf) (by conv => lhs; whnf) ?_
  revert X
  k_fill
  intro X
  replace F := frWith [(Str.ofString "whole", .ref z)] (List.forall_mem_cons.mpr ⟨hm, fun _ h => nomatch h⟩) F
  dsimp only [kstB] at F
  (repeat' (first | (k_unfold; (try dsimp only)) | (k_end; wrow_close) | (first | ((with_reducible show wpAny _ _ (eval (Expr.ListComp _ _ _ _) _) _ _ _); (with_reducible refine holdIt ?_)) | ((with_reducible show wpAny _ _ (call (Value.ref _) _) _ _ _); (with_reducible refine holdIt ?_)) | ((with_reducible show Exists _); (with_reducible refine holdIt ?_)) | ((with_reducible show wpAny _ _ (subscriptTail _ _ (Value.ref _) (Value.int _ _)) _ _ _); refine' itemI ?iN ?iM ?i0 ?i1 ?i2 ?i3 ?_ ?i4; (case iN => k_asm); (case iM => k_mem); (case i0 => (simp only [List.length_cons, List.length_nil]; decide)); (case i1 => (simp only [List.length_cons, List.length_nil]; decide)); (case i2 => exact Nat.le_of_ble_eq_true rfl); (case i3 => rfl); (case i4 => with_unfolding_all rfl)) | walk1) | (dsimp only; (first | ((with_reducible show wpAny _ _ (eval (Expr.ListComp _ _ _ _) _) _ _ _); (with_reducible refine holdIt ?_)) | ((with_reducible show wpAny _ _ (call (Value.ref _) _) _ _ _); (with_reducible refine holdIt ?_)) | ((with_reducible show Exists _); (with_reducible refine holdIt ?_)) | ((with_reducible show wpAny _ _ (subscriptTail _ _ (Value.ref _) (Value.int _ _)) _ _ _); refine' itemI ?iN ?iM ?i0 ?i1 ?i2 ?i3 ?_ ?i4; (case iN => k_asm); (case iM => k_mem); (case i0 => (simp only [List.length_cons, List.length_nil]; decide)); (case i1 => (simp only [List.length_cons, List.length_nil]; decide)); (case i2 => exact Nat.le_of_ble_eq_true rfl); (case i3 => rfl); (case i4 => with_unfolding_all rfl)) | walk1)) | (leave1; walk_say "STEP leave1"; try dsimp only) | fail "no step"))
  unfold Hold
  refine Spec.use (told_ok w z ag rv rs _ e1 R1 b1) (by k_asm) (by k_asm) (by k_asm) N (by k_asm) rfl (by ktr_room) (by ktr_units) ?_
  rintro r news' h' tk' F7 N7 ⟨rfl, u, rfl⟩
  (repeat' (first | (k_unfold; (try dsimp only)) | (k_end; wrow_close) | (first | ((with_reducible show wpAny _ _ (eval (Expr.ListComp _ _ _ _) _) _ _ _); (with_reducible refine holdIt ?_)) | ((with_reducible show wpAny _ _ (call (Value.ref _) _) _ _ _); (with_reducible refine holdIt ?_)) | ((with_reducible show Exists _); (with_reducible refine holdIt ?_)) | ((with_reducible show wpAny _ _ (subscriptTail _ _ (Value.ref _) (Value.int _ _)) _ _ _); refine' itemI ?iN ?iM ?i0 ?i1 ?i2 ?i3 ?_ ?i4; (case iN => k_asm); (case iM => k_mem); (case i0 => (simp only [List.length_cons, List.length_nil]; decide)); (case i1 => (simp only [List.length_cons, List.length_nil]; decide)); (case i2 => exact Nat.le_of_ble_eq_true rfl); (case i3 => rfl); (case i4 => with_unfolding_all rfl)) | walk1) | (dsimp only; (first | ((with_reducible show wpAny _ _ (eval (Expr.ListComp _ _ _ _) _) _ _ _); (with_reducible refine holdIt ?_)) | ((with_reducible show wpAny _ _ (call (Value.ref _) _) _ _ _); (with_reducible refine holdIt ?_)) | ((with_reducible show Exists _); (with_reducible refine holdIt ?_)) | ((with_reducible show wpAny _ _ (subscriptTail _ _ (Value.ref _) (Value.int _ _)) _ _ _); refine' itemI ?iN ?iM ?i0 ?i1 ?i2 ?i3 ?_ ?i4; (case iN => k_asm); (case iM => k_mem); (case i0 => (simp only [List.length_cons, List.length_nil]; decide)); (case i1 => (simp only [List.length_cons, List.length_nil]; decide)); (case i2 => exact Nat.le_of_ble_eq_true rfl); (case i3 => rfl); (case i4 => with_unfolding_all rfl)) | walk1)) | (leave1; walk_say "STEP leave1"; try dsimp only) | fail "no step"))
  exact hq _ _ _ _ (by k_asm) ⟨if_pos rfl, by (intro y hy; (try dsimp only); (repeat' split) <;> first | exact absurd (by assumption) hy | rfl | (subst_vars; exact Eq.symm (by assumption)))⟩ (by k_asm)
theorem seg21 (w : World) {dp un : Nat} {gd : Option (List Code)} {fa : Addr} {cd0 : Value} {outer : List Env} {A₀ : Around} {base h₀ : Heap} {L : Addr} {loose : List Str} {mean : ExcName → Option Value} {mg mb : Str → Option Value} {m : Str → Option Value} {s : Shared} {Q : Flow → Shared → Prop} {E : Value → Shared → Prop}
    (B : Below A₀ base outer h₀) (X : (hd.heap_39 w.params).In h₀) (T : Top topProg loose mean mg mb h₀) (hdp : dp + 8 < recursionLimit) (hu : un + 20 * 8 < cLine)
    {ag : Addr} {g0 g1 g2 g3 g4 g5 g6 : Int} {t0 t1 t2 t3 t4 t5 t6 : Tok} {k : Nat} {led : Led} (hm : m (Str.ofString "greatest") = some (.ref ag)) (kg : (ag, W.listOf #[.int g0 t0, .int g1 t1, .int g2 t2, .int g3 t3, .int g4 t4, .int g5 t5, .int g6 t6] k) ∈ led)
    (b3 : 1 ≤ g3 ∧ g3 ≤ 10) (b4 : 1 ≤ g4 ∧ g4 ≤ 10) (b5 : 1 ≤ g5 ∧ g5 ≤ 10) (F : Fr h₀ L s.heap m) (N : News h₀ L s.heap led)
    (hq : ∀ t h' tk' m', Fr h₀ L h' m' → StM m m' (Str.ofString "shared") (.int (g3 * g4 * g5) t) → News h₀ L h' led → Q .next { s with heap := h', toks := tk' }) :
    wpAny (model PySem.Challenge.rw_rs0140_02.prog w) (ktrTop dp un gd (Str.ofString "law") lawSc L fa cd0 (lawCl L) outer) (exec (lawStmt 21) (lawEnv L fa cd0)) Q E s := by
  refine exec_lawA (by conv => lhs; whnf) (by conv => lhs; whnf) ?_
  revert X
  k_fill
  intro X
  replace F := frWith [(Str.ofString "greatest", .ref ag)] (List.forall_mem_cons.mpr ⟨hm, fun _ h => nomatch h⟩) F
  dsimp only [kstB] at F
  (repeat' (first | (k_unfold; (try dsimp only)) | (k_end; wrow_close) | (first | ((with_reducible show wpAny _ _ (eval (Expr.ListComp _ _ _ _) _) _ _ _); (with_reducible refine holdIt ?_)) | ((with_reducible show wpAny _ _ (call (Value.ref _) _) _ _ _); (with_reducible refine holdIt ?_)) | ((with_reducible show Exists _); (with_reducible refine holdIt ?_)) | ((with_reducible show wpAny _ _ (subscriptTail _ _ (Value.ref _) (Value.int _ _)) _ _ _); refine' itemI ?iN ?iM ?i0 ?i1 ?i2 ?i3 ?_ ?i4; (case iN => k_asm); (case iM => k_mem); (case i0 => (simp only [List.length_cons, List.length_nil]; decide)); (case i1 => (simp only [List.length_cons, List.length_nil]; decide)); (case i2 => exact Nat.le_of_ble_eq_true rfl); (case i3 => rfl); (case i4 => with_unfolding_all rfl)) | walk1) | (dsimp only; (first | ((with_reducible show wpAny _ _ (eval (Expr.ListComp _ _ _ _) _) _ _ _); (with_reducible refine holdIt ?_)) | ((with_reducible show wpAny _ _ (call (Value.ref _) _) _ _ _); (with_reducible refine holdIt ?_)) | ((with_reducible show Exists _); (with_reducible refine holdIt ?_)) | ((with_reducible show wpAny _ _ (subscriptTail _ _ (Value.ref _) (Value.int _ _)) _ _ _); refine' itemI ?iN ?iM ?i0 ?i1 ?i2 ?i3 ?_ ?i4; (case iN => k_asm); (case iM => k_mem); (case i0 => (simp only [List.length_cons, List.length_nil]; decide)); (case i1 => (simp only [List.length_cons, List.length_nil]; decide)); (case i2 => exact Nat.le_of_ble_eq_true rfl); (case i3 => rfl); (case i4 => with_unfolding_all rfl)) | walk1)) | (leave1; walk_say "STEP leave1"; try dsimp only) | fail "no step"))
  exact hq _ _ _ _ (by k_asm) ⟨if_pos rfl, by (intro y hy; (try dsimp only); (repeat' split) <;> first | exact absurd (by assumption) hy | rfl | (subst_vars; exact Eq.symm (by assumption)))⟩ (by k_asm)
theorem seg22 (w : World) {dp un : Nat} {gd : Option (List Code)} {fa : Addr} {cd0 : Value} {outer : List Env} {A₀ : Around} {base h₀ : Heap} {L : Addr} {loose : List Str} {mean : ExcName → Option Value} {mg mb : Str → Option Value} {m : Str → Option Value} {s : Shared} {Q : Flow → Shared → Prop} {E : Value → Shared → Prop}
    (B : Below A₀ base outer h₀) (X : (hd.heap_39 w.params).In h₀) (T : Top topProg loose mean mg mb h₀) (hdp : dp + 8 < recursionLimit) (hu : un + 20 * 8 < cLine)
    {an ag : Addr} {n1 n2 n3 g0 g1 g2 g3 g4 g5 g6 mu sh : Int} {u1 u2 u3 um us t0 t1 t2 t3 t4 t5 t6 : Tok} {k kn : Nat} {led : Led} (hmG : m (Str.ofString "greatest") = some (.ref ag)) (hmN : m (Str.ofString "numbers") = some (.ref an)) (hmM : m (Str.ofString "multiple") = some (.int mu um)) (hmS : m (Str.ofString "shared") = some (.int sh us))
    (kg : (ag, W.listOf #[.int g0 t0, .int g1 t1, .int g2 t2, .int g3 t3, .int g4 t4, .int g5 t5, .int g6 t6] k) ∈ led) (kn1 : (an, W.listOf #[.int n1 u1, .int n2 u2, .int n3 u3] kn) ∈ led)
    (bm : 0 ≤ mu ∧ mu ≤ 100000) (bs : 1 ≤ sh ∧ sh ≤ 1000) (b1 : 1 ≤ n1 ∧ n1 ≤ 10) (b2 : 1 ≤ n2 ∧ n2 ≤ 10) (b3 : 1 ≤ n3 ∧ n3 ≤ 10) (b6 : 1 ≤ g6 ∧ g6 ≤ 10) (heq : mu * sh = n1 * n2 * n3 * g6) (F : Fr h₀ L s.heap m) (N : News h₀ L s.heap led)
    (hq : ∀ h' tk', Fr h₀ L h' m → News h₀ L h' led → Q (.ret (.bool true)) { s with heap := h', toks := tk' }) :
    wpAny (model PySem.Challenge.rw_rs0140_02.prog w) (ktrTop dp un gd (Str.ofString "law") lawSc L fa cd0 (lawCl L) outer) (exec (lawStmt 22) (lawEnv L fa cd0)) Q E s := by
  refine exec_lawR (by conv => lhs; whnf) (by conv => lhs; whnf) ?_
  revert X
  k_fill
  intro X
  replace F := frWith [(Str.ofString "greatest", .ref ag), (Str.ofString "numbers", .ref an), (Str.ofString "multiple", .int mu um), (Str.ofString "shared", .int sh us)] (List.forall_mem_cons.mpr ⟨hmG, List.forall_mem_cons.mpr ⟨hmN, List.forall_mem_cons.mpr ⟨hmM, List.forall_mem_cons.mpr ⟨hmS, fun _ h => nomatch h⟩⟩⟩⟩) F
  dsimp only [kstB] at F
  (repeat' (first | (k_unfold; (try dsimp only)) | (k_end; wrow_close) | (first | ((with_reducible show wpAny _ _ (eval (Expr.ListComp _ _ _ _) _) _ _ _); (with_reducible refine holdIt ?_)) | ((with_reducible show wpAny _ _ (call (Value.ref _) _) _ _ _); (with_reducible refine holdIt ?_)) | ((with_reducible show Exists _); (with_reducible refine holdIt ?_)) | ((with_reducible show wpAny _ _ (subscriptTail _ _ (Value.ref _) (Value.int _ _)) _ _ _); refine' itemI ?iN ?iM ?i0 ?i1 ?i2 ?i3 ?_ ?i4; (case iN => k_asm); (case iM => k_mem); (case i0 => (simp only [List.length_cons, List.length_nil]; decide)); (case i1 => (simp only [List.length_cons, List.length_nil]; decide)); (case i2 => exact Nat.le_of_ble_eq_true rfl); (case i3 => rfl); (case i4 => with_unfolding_all rfl)) | walk1) | (dsimp only; (first | ((with_reducible show wpAny _ _ (eval (Expr.ListComp _ _ _ _) _) _ _ _); (with_reducible refine holdIt ?_)) | ((with_reducible show wpAny _ _ (call (Value.ref _) _) _ _ _); (with_reducible refine holdIt ?_)) | ((with_reducible show Exists _); (with_reducible refine holdIt ?_)) | ((with_reducible show wpAny _ _ (subscriptTail _ _ (Value.ref _) (Value.int _ _)) _ _ _); refine' itemI ?iN ?iM ?i0 ?i1 ?i2 ?i3 ?_ ?i4; (case iN => k_asm); (case iM => k_mem); (case i0 => (simp only [List.length_cons, List.length_nil]; decide)); (case i1 => (simp only [List.length_cons, List.length_nil]; decide)); (case i2 => exact Nat.le_of_ble_eq_true rfl); (case i3 => rfl); (case i4 => with_unfolding_all rfl)) | walk1)) | (leave1; walk_say "STEP leave1"; try dsimp only) | fail "no step"))
  rw [heq, beq_self_eq_true]
  exact hq _ _ (frBack [(Str.ofString "greatest", .ref ag), (Str.ofString "numbers", .ref an), (Str.ofString "multiple", .int mu um), (Str.ofString "shared", .int sh us)] (List.forall_mem_cons.mpr ⟨hmG, List.forall_mem_cons.mpr ⟨hmN, List.forall_mem_cons.mpr ⟨hmM, List.forall_mem_cons.mpr ⟨hmS, fun _ h => nomatch h⟩⟩⟩⟩) F) N
theorem seg18 (w : World) {dp un : Nat} {gd : Option (List Code)} {fa : Addr} {cd0 : Value} {outer : List Env} {A₀ : Around} {base h₀ : Heap} {L : Addr} {loose : List Str} {mean : ExcName → Option Value} {mg mb : Str → Option Value} {m : Str → Option Value} {s : Shared} {Q : Flow → Shared → Prop} {E : Value → Shared → Prop}
    (B : Below A₀ base outer h₀) (X : (hd.heap_39 w.params).In h₀) (T : Top topProg loose mean mg mb h₀) (hdp : dp + 8 < recursionLimit) (hu : un + 20 * 8 < cLine)
    {ar ao a d1 d2 d3 : Addr} {rvs vs us : List Value} {rows : List (Int × Int × Int)} {szs : List Int} {kr ko k kd : Nat} {mu : Int} {um : Tok} {t1 t2 : Array Value} {cd KK : Led} (hmR : m (Str.ofString "readers") = some (.ref ar)) (hmO : m (Str.ofString "orders") = some (.ref ao)) (hmW : m (Str.ofString "rows") = some (.ref a)) (hmM : m (Str.ofString "multiple") = some (.int mu um))
    (kO : (ao, W.listOf #[.ref d1, .ref d2, .ref d3] ko) ∈ KK) (kR : (ar, W.listOf rvs.toArray kr) ∈ KK) (hR : ReadersAt KK rvs) (kW : (a, W.listOf vs.toArray k) ∈ KK) (hW : RowsAt KK vs rows) (hn : rows.length ≤ 1000) (hb : ∀ r ∈ rows, 0 ≤ r.1 ∧ r.1 ≤ 100000) (kD : (d2, W.listOf us.toArray kd) ∈ KK) (hI : IntsAre us szs) (hz : ∀ z ∈ szs, 1 ≤ z ∧ z ≤ 10) (hzl : szs.length ≤ 10)
    (heq : toldOf (rulesOf (agentsOf rows szs)) = mu)
    (F : Fr h₀ L s.heap m) (N : News h₀ L s.heap (tb1 t1 :: tb2 t2 :: (cd ++ KK))) (ht1 : TriplesOk t1.toList) (ht2 : TabC lamQ t2 cd) (h157 : ∀ p ∈ cd ++ KK, @LT.lt Nat _ 157 p.1)
    (hq : ∀ s' t1' t2', Fr h₀ L s'.heap m → News h₀ L s'.heap (tb1 t1' :: tb2 t2' :: KK) → Same s s' → Q .next s') :
    wpAny (model PySem.Challenge.rw_rs0140_02.prog w) (ktrTop dp un gd (Str.ofString "law") lawSc L fa cd0 (lawCl L) outer) (exec (lawStmt 18) (lawEnv L fa cd0)) Q E s := by
  refine exec_lawI (by conv => lhs; whnf) (by conv => lhs; whnf) ?_
  revert X
  k_fill
  intro X
  have hps : ∀ p ∈ [(Str.ofString "readers", Value.ref ar), (Str.ofString "orders", .ref ao), (Str.ofString "rows", .ref a), (Str.ofString "multiple", .int mu um)], m p.1 = some p.2 := List.forall_mem_cons.mpr ⟨hmR, List.forall_mem_cons.mpr ⟨hmO, List.forall_mem_cons.mpr ⟨hmW, List.forall_mem_cons.mpr ⟨hmM, fun _ h => nomatch h⟩⟩⟩⟩
  replace F := frWith _ hps F
  dsimp only [kstB] at F
  have kO' := (memR kO : _ ∈ cd ++ KK)
  (repeat' (first | (k_unfold; (try dsimp only)) | (k_end; wrow_close) | (first | ((with_reducible show wpAny _ _ (eval (Expr.ListComp _ _ _ _) _) _ _ _); (with_reducible refine holdIt ?_)) | ((with_reducible show wpAny _ _ (call (Value.ref _) _) _ _ _); (with_reducible refine holdIt ?_)) | ((with_reducible show Exists _); (with_reducible refine holdIt ?_)) | ((with_reducible show wpAny _ _ (subscriptTail _ _ (Value.ref _) (Value.int _ _)) _ _ _); refine' itemI ?iN ?iM ?i0 ?i1 ?i2 ?i3 ?_ ?i4; (case iN => k_asm); (case iM => k_mem); (case i0 => (simp only [List.length_cons, List.length_nil]; decide)); (case i1 => (simp only [List.length_cons, List.length_nil]; decide)); (case i2 => exact Nat.le_of_ble_eq_true rfl); (case i3 => rfl); (case i4 => with_unfolding_all rfl)) | walk1) | (dsimp only; (first | ((with_reducible show wpAny _ _ (eval (Expr.ListComp _ _ _ _) _) _ _ _); (with_reducible refine holdIt ?_)) | ((with_reducible show wpAny _ _ (call (Value.ref _) _) _ _ _); (with_reducible refine holdIt ?_)) | ((with_reducible show Exists _); (with_reducible refine holdIt ?_)) | ((with_reducible show wpAny _ _ (subscriptTail _ _ (Value.ref _) (Value.int _ _)) _ _ _); refine' itemI ?iN ?iM ?i0 ?i1 ?i2 ?i3 ?_ ?i4; (case iN => k_asm); (case iM => k_mem); (case i0 => (simp only [List.length_cons, List.length_nil]; decide)); (case i1 => (simp only [List.length_cons, List.length_nil]; decide)); (case i2 => exact Nat.le_of_ble_eq_true rfl); (case i3 => rfl); (case i4 => with_unfolding_all rfl)) | walk1)) | (leave1; walk_say "STEP leave1"; try dsimp only) | fail "no step"))
  unfold Hold
  refine SpecX.use (R := Same) (t1 := t1) (t2 := t2) (cd := cd) (rec_ok w ar a d2 rvs vs us rows szs kr k kd KK kR hR kW hW hn hb kD hI hz hzl) (by k_asm) (by k_asm) (by k_asm) N ht1 ht2 h157 (by k_asm) rfl (by ktr_room) (by ktr_units) ?_
  rintro r tl t1' t2' cd' s' F8 N8 ht1' ht2' hT9 hc1 hc2 hc3 ⟨x, rv, rfl, hE9, hRu⟩ hS'
  clear N
  (repeat' (first | (k_unfold; (try dsimp only)) | (k_end; wrow_close) | (first | ((with_reducible show wpAny _ _ (eval (Expr.ListComp _ _ _ _) _) _ _ _); (with_reducible refine holdIt ?_)) | ((with_reducible show wpAny _ _ (call (Value.ref _) _) _ _ _); (with_reducible refine holdIt ?_)) | ((with_reducible show Exists _); (with_reducible refine holdIt ?_)) | ((with_reducible show wpAny _ _ (subscriptTail _ _ (Value.ref _) (Value.int _ _)) _ _ _); refine' itemI ?iN ?iM ?i0 ?i1 ?i2 ?i3 ?_ ?i4; (case iN => k_asm); (case iM => k_mem); (case i0 => (simp only [List.length_cons, List.length_nil]; decide)); (case i1 => (simp only [List.length_cons, List.length_nil]; decide)); (case i2 => exact Nat.le_of_ble_eq_true rfl); (case i3 => rfl); (case i4 => with_unfolding_all rfl)) | walk1) | (dsimp only; (first | ((with_reducible show wpAny _ _ (eval (Expr.ListComp _ _ _ _) _) _ _ _); (with_reducible refine holdIt ?_)) | ((with_reducible show wpAny _ _ (call (Value.ref _) _) _ _ _); (with_reducible refine holdIt ?_)) | ((with_reducible show Exists _); (with_reducible refine holdIt ?_)) | ((with_reducible show wpAny _ _ (subscriptTail _ _ (Value.ref _) (Value.int _ _)) _ _ _); refine' itemI ?iN ?iM ?i0 ?i1 ?i2 ?i3 ?_ ?i4; (case iN => k_asm); (case iM => k_mem); (case i0 => (simp only [List.length_cons, List.length_nil]; decide)); (case i1 => (simp only [List.length_cons, List.length_nil]; decide)); (case i2 => exact Nat.le_of_ble_eq_true rfl); (case i3 => rfl); (case i4 => with_unfolding_all rfl)) | walk1)) | (leave1; walk_say "STEP leave1"; try dsimp only) | fail "no step"))
  unfold Hold
  refine Spec.use (told_ok w x _ rv _ _ (hE9.mono fun p hp => .tail _ (.tail _ (memR (memL hp)))) (hRu.mono fun p hp => .tail _ (.tail _ ((List.mem_append.mp hp).elim (fun h => memR (memL h)) memL))) rules_small) (by k_asm) (by k_asm) (by k_asm) N8 (by k_asm) rfl (by ktr_room) (by ktr_units) ?_
  rintro r news' h' tk' F9 N9 ⟨rfl, u, rfl⟩
  rw [heq]
  have hSS : Same s { s' with heap := h', toks := tk' } := ⟨hS'.1, hS'.2.1, hS'.2.2⟩
  (repeat' (first | (k_unfold; (try dsimp only)) | (k_end; wrow_close) | (first | ((with_reducible show wpAny _ _ (eval (Expr.ListComp _ _ _ _) _) _ _ _); (with_reducible refine holdIt ?_)) | ((with_reducible show wpAny _ _ (call (Value.ref _) _) _ _ _); (with_reducible refine holdIt ?_)) | ((with_reducible show Exists _); (with_reducible refine holdIt ?_)) | ((with_reducible show wpAny _ _ (subscriptTail _ _ (Value.ref _) (Value.int _ _)) _ _ _); refine' itemI ?iN ?iM ?i0 ?i1 ?i2 ?i3 ?_ ?i4; (case iN => k_asm); (case iM => k_mem); (case i0 => (simp only [List.length_cons, List.length_nil]; decide)); (case i1 => (simp only [List.length_cons, List.length_nil]; decide)); (case i2 => exact Nat.le_of_ble_eq_true rfl); (case i3 => rfl); (case i4 => with_unfolding_all rfl)) | walk1) | (dsimp only; (first | ((with_reducible show wpAny _ _ (eval (Expr.ListComp _ _ _ _) _) _ _ _); (with_reducible refine holdIt ?_)) | ((with_reducible show wpAny _ _ (call (Value.ref _) _) _ _ _); (with_reducible refine holdIt ?_)) | ((with_reducible show Exists _); (with_reducible refine holdIt ?_)) | ((with_reducible show wpAny _ _ (subscriptTail _ _ (Value.ref _) (Value.int _ _)) _ _ _); refine' itemI ?iN ?iM ?i0 ?i1 ?i2 ?i3 ?_ ?i4; (case iN => k_asm); (case iM => k_mem); (case i0 => (simp only [List.length_cons, List.length_nil]; decide)); (case i1 => (simp only [List.length_cons, List.length_nil]; decide)); (case i2 => exact Nat.le_of_ble_eq_true rfl); (case i3 => rfl); (case i4 => with_unfolding_all rfl)) | walk1)) | (leave1; walk_say "STEP leave1"; try dsimp only) | fail "no step"))
  all_goals first
    | exact hq _ t1' t2' (frBack _ hps F9) (newsSub N9 fun p hp => by
      rcases List.mem_cons.mp hp with rfl | hp
      · exact .head _
      rcases List.mem_cons.mp hp with rfl | hp
      · exact .tail _ (.head _)
      exact .tail _ (.tail _ (memR (memR hp)))) hSS
    | exact absurd rfl (by assumption)
end Mine
end

section
open PySem PySem.W PyProof.Rows
namespace Mine
theorem sec_S8 {M : Model} {A : Around} {E : Value → Shared → Prop} {s : Shared} {env : Env} {p : Pos} {Q : Flow → Shared → Prop} (h : Q .next s) : wpAny M A (exec (.Pass p) env) Q E s := by
  w_top off
  k_with_none
  walk1
  exact h
end Mine
end
section
open PySem PySem.W PyProof.Rows
set_option maxRecDepth 100000
set_option maxHeartbeats 2000000
namespace Mine
theorem seg19 (w : World) {dp un : Nat} {gd : Option (List Code)} {fa : Addr} {cd0 : Value} {outer : List Env} {A₀ : Around} {base h₀ : Heap} {L : Addr} {loose : List Str} {mean : ExcName → Option Value} {mg mb : Str → Option Value} {m : Str → Option Value} {s : Shared} {Q : Flow → Shared → Prop} {E : Value → Shared → Prop}
    (B : Below A₀ base outer h₀) (X : (hd.heap_39 w.params).In h₀) (T : Top topProg loose mean mg mb h₀) (hdp : dp + 8 < recursionLimit) (hu : un + 20 * 8 < cLine)
    {b : Int} (hb : 0 ≤ b ∧ b ≤ 2) {tb t1 t2 t3 : Tok} {an : Addr} {n1 n2 n3 : Int} {kn : Nat} {led : Led} (hmN : m (Str.ofString "numbers") = some (.ref an)) (hmB : m (Str.ofString "behind") = some (.str (behindOf b) tb)) (kn1 : (an, W.listOf #[.int n1 t1, .int n2 t2, .int n3 t3] kn) ∈ led) (hn1 : 1 ≤ n1 ∧ n1 ≤ 10) (hn2 : 1 ≤ n2 ∧ n2 ≤ 10) (hn3 : 1 ≤ n3 ∧ n3 ≤ 10)
    (F : Fr h₀ L s.heap m) (N : News h₀ L s.heap led)
    (hq : ∀ a vs k tl nw h' tk' m', Fr h₀ L h' m' → StM m m' (Str.ofString "beside") (.ref a) → News h₀ L h' (tl ++ (nw ++ led)) → (a, W.listOf (List.toArray vs) k) ∈ tl → RowsAt tl vs (witOf (wsOf [n1, n2] b) (wsOf [n3] b)) → Q .next { s with heap := h', toks := tk' }) :
    wpAny (model PySem.Challenge.rw_rs0140_02.prog w) (ktrTop dp un gd (Str.ofString "law") lawSc L fa cd0 (lawCl L) outer) (exec (lawStmt 19) (lawEnv L fa cd0)) Q E s := by
  refine exec_lawA (by conv => lhs; whnf) (by conv => lhs; whnf) ?_
  revert X
  k_fill
  intro X
  have hps : ∀ p ∈ [(Str.ofString "numbers", Value.ref an), (Str.ofString "behind", .str (behindOf b) tb)], m p.1 = some p.2 := List.forall_mem_cons.mpr ⟨hmN, List.forall_mem_cons.mpr ⟨hmB, fun _ h => nomatch h⟩⟩
  replace F := frWith _ hps F
  dsimp only [kstB] at F
  (repeat' (first | (k_unfold; (try dsimp only)) | (k_end; wrow_close) | (first | ((with_reducible show wpAny _ _ (eval (Expr.ListComp _ _ _ _) _) _ _ _); (with_reducible refine holdIt ?_)) | ((with_reducible show wpAny _ _ (compareOp CmpOp.NotEq (Value.ref _) (Value.ref _)) _ _ _); (with_reducible refine holdIt ?_)) | ((with_reducible show wpAny _ _ (call (Value.ref _) _) _ _ _); (with_reducible refine holdIt ?_)) | ((with_reducible show Exists _); (with_reducible refine holdIt ?_)) | walk1) | (dsimp only; (first | ((with_reducible show wpAny _ _ (eval (Expr.ListComp _ _ _ _) _) _ _ _); (with_reducible refine holdIt ?_)) | ((with_reducible show wpAny _ _ (compareOp CmpOp.NotEq (Value.ref _) (Value.ref _)) _ _ _); (with_reducible refine holdIt ?_)) | ((with_reducible show wpAny _ _ (call (Value.ref _) _) _ _ _); (with_reducible refine holdIt ?_)) | ((with_reducible show Exists _); (with_reducible refine holdIt ?_)) | walk1)) | (leave1; walk_say "STEP leave1"; try dsimp only) | fail "no step"))
  unfold Hold
  rename News _ _ _ _ => N5
  refine Spec.use (white_ok w _ [.int n1 t1, .int n2 t2] [n1, n2] _ (behindOf b) tb _ (.head _) (.cons _ _ (.cons _ _ .nil)) (Nat.le_of_ble_eq_true rfl) (fun r hr => by simp only [List.mem_cons, List.not_mem_nil, or_false] at hr; omega) (behind_len b (in3 hb))) (by k_asm) (by k_asm) (by k_asm) N5 (by k_asm) rfl (by ktr_room) (by ktr_units) ?_
  rintro r A1 h5 tk5 F6 N6 ⟨⟨tl1, eA1, hl1⟩, x1, rfl, W1⟩
  refine W1.el fun d1 _ _ _ _ _ _ _ _ _ _ _ _ _ _ _ _ _ _ _ _ _ q1 q2 _ _ _ _ _ _ => ?_
  have kn2 : (an, W.listOf #[.int n1 t1, .int n2 t2, .int n3 t3] kn) ∈ A1 := by rw [eA1]; exact memR (.tail _ kn1)
  have s1 : ∀ p ∈ led, p ∈ A1 := fun p hp => by rw [eA1]; exact memR (.tail _ hp)
  clear eA1 hl1 N5
  (repeat' (first | (k_unfold; (try dsimp only)) | (k_end; wrow_close) | (first | ((with_reducible show wpAny _ _ (eval (Expr.ListComp _ _ _ _) _) _ _ _); (with_reducible refine holdIt ?_)) | ((with_reducible show wpAny _ _ (compareOp CmpOp.NotEq (Value.ref _) (Value.ref _)) _ _ _); (with_reducible refine holdIt ?_)) | ((with_reducible show wpAny _ _ (call (Value.ref _) _) _ _ _); (with_reducible refine holdIt ?_)) | ((with_reducible show Exists _); (with_reducible refine holdIt ?_)) | walk1) | (dsimp only; (first | ((with_reducible show wpAny _ _ (eval (Expr.ListComp _ _ _ _) _) _ _ _); (with_reducible refine holdIt ?_)) | ((with_reducible show wpAny _ _ (compareOp CmpOp.NotEq (Value.ref _) (Value.ref _)) _ _ _); (with_reducible refine holdIt ?_)) | ((with_reducible show wpAny _ _ (call (Value.ref _) _) _ _ _); (with_reducible refine holdIt ?_)) | ((with_reducible show Exists _); (with_reducible refine holdIt ?_)) | walk1)) | (leave1; walk_say "STEP leave1"; try dsimp only) | fail "no step"))
  unfold Hold
  rename News _ _ _ _ => N7
  refine Spec.use (white_ok w _ [.int n3 t3] [n3] _ (behindOf b) tb _ (.head _) (.cons _ _ .nil) (Nat.le_of_ble_eq_true rfl) (fun r hr => by simp only [List.mem_cons, List.not_mem_nil, or_false] at hr; omega) (behind_len b (in3 hb))) (by k_asm) (by k_asm) (by k_asm) N7 (by k_asm) rfl (by ktr_room) (by ktr_units) ?_
  rintro r A2 h6 tk6 F8 N8 ⟨⟨tl2, eA2, hl2⟩, x2, rfl, W2⟩
  have s2 : ∀ p ∈ A1, p ∈ A2 := fun p hp => by rw [eA2]; exact memR (.tail _ hp)
  have W1' := W1.mono s2
  clear eA2 hl2 N7
  (repeat' (first | (k_unfold; (try dsimp only)) | (k_end; wrow_close) | (first | ((with_reducible show wpAny _ _ (eval (Expr.ListComp _ _ _ _) _) _ _ _); (with_reducible refine holdIt ?_)) | ((with_reducible show wpAny _ _ (compareOp CmpOp.NotEq (Value.ref _) (Value.ref _)) _ _ _); (with_reducible refine holdIt ?_)) | ((with_reducible show wpAny _ _ (call (Value.ref _) _) _ _ _); (with_reducible refine holdIt ?_)) | ((with_reducible show Exists _); (with_reducible refine holdIt ?_)) | walk1) | (dsimp only; (first | ((with_reducible show wpAny _ _ (eval (Expr.ListComp _ _ _ _) _) _ _ _); (with_reducible refine holdIt ?_)) | ((with_reducible show wpAny _ _ (compareOp CmpOp.NotEq (Value.ref _) (Value.ref _)) _ _ _); (with_reducible refine holdIt ?_)) | ((with_reducible show wpAny _ _ (call (Value.ref _) _) _ _ _); (with_reducible refine holdIt ?_)) | ((with_reducible show Exists _); (with_reducible refine holdIt ?_)) | walk1)) | (leave1; walk_say "STEP leave1"; try dsimp only) | fail "no step"))
  unfold Hold
  refine Spec.use (new_ok w x1 x2 _ _ _ W1' W2) (by k_asm) (by k_asm) (by k_asm) N8 (by k_asm) rfl (by ktr_room) (by ktr_units) ?_
  rintro r A3 h7 tk7 F9 N9 ⟨tl3, rfl, hn3', a, vs, k, rfl, hma, hrw⟩
  (repeat' (first | (k_unfold; (try dsimp only)) | (k_end; wrow_close) | (first | ((with_reducible show wpAny _ _ (eval (Expr.ListComp _ _ _ _) _) _ _ _); (with_reducible refine holdIt ?_)) | ((with_reducible show wpAny _ _ (compareOp CmpOp.NotEq (Value.ref _) (Value.ref _)) _ _ _); (with_reducible refine holdIt ?_)) | ((with_reducible show wpAny _ _ (call (Value.ref _) _) _ _ _); (with_reducible refine holdIt ?_)) | ((with_reducible show Exists _); (with_reducible refine holdIt ?_)) | walk1) | (dsimp only; (first | ((with_reducible show wpAny _ _ (eval (Expr.ListComp _ _ _ _) _) _ _ _); (with_reducible refine holdIt ?_)) | ((with_reducible show wpAny _ _ (compareOp CmpOp.NotEq (Value.ref _) (Value.ref _)) _ _ _); (with_reducible refine holdIt ?_)) | ((with_reducible show wpAny _ _ (call (Value.ref _) _) _ _ _); (with_reducible refine holdIt ?_)) | ((with_reducible show Exists _); (with_reducible refine holdIt ?_)) | walk1)) | (leave1; walk_say "STEP leave1"; try dsimp only) | fail "no step"))
  rename News _ _ _ _ => N10
  exact hq a vs k tl3 [] _ _ _ (by k_asm) ⟨if_pos rfl, by (intro y hy; (try dsimp only); (repeat' split) <;> first | exact absurd (by assumption) hy | rfl | (subst_vars; exact Eq.symm (by assumption)))⟩ (newsSub N10 fun p hp => (List.mem_append.mp hp).elim memL fun h => memR (s2 _ (s1 _ h))) hma hrw
end Mine
end

section
open PySem PySem.W PyProof.Rows
namespace Mine
theorem sec_EQ {M : Model} {A : Around} {E : Value → Shared → Prop} {s : Shared} {env : Env} {p : Pos} {Q : Flow → Shared → Prop} (h : Q .next s) : wpAny M A (exec (.Pass p) env) Q E s := by
  w_top off
  k_with_none
  walk1
  exact h
end Mine
end
section
open PySem PySem.W PyProof.Rows PySem.Spec PyProof
set_option maxRecDepth 100000
set_option maxHeartbeats 1000000
namespace Mine
noncomputable def row3 (r : Int × Int × Int) : PyData := .tuple [.int r.1, .int r.2.1, .int r.2.2]
theorem reads_rows {h₀ h : Heap} {L : Addr} {news led : Led} {vs : List Value} {rs : List (Int × Int × Int)} (N : News h₀ L h news) (H : RowsAt led vs rs) (hs : ∀ p ∈ led, p ∈ news) : ∃ as, ReadsAll h vs (rs.map row3) as := by
  induction H with
  | nil => exact ⟨_, .nil⟩
  | cons hm _ ih =>
    obtain ⟨as, ha⟩ := ih
    have g := N _ (hs _ hm)
    exact ⟨_, .cons (reads_tuple_at g.1 rfl rfl (.cons (.int _ _) (.cons (.int _ _) (.cons (.int _ _) .nil)))) ha⟩
theorem eqv_row3 (r : Int × Int × Int) : PyData.eqv (row3 r) (row3 r) = true := by simp [row3, PyData.eqv, PyData.eqvAll]
theorem eqv_rows : ∀ rs : List (Int × Int × Int), PyData.eqvAll (rs.map row3) (rs.map row3) = true
  | [] => rfl
  | r :: t => by simp [PyData.eqvAll, eqv_row3, eqv_rows t]
theorem lay_rows : ∀ rs : List (Int × Int × Int), PyData.canLayAll0 (rs.map row3) = true
  | [] => rfl
  | r :: t => by simp [PyData.canLayAll0, row3, PyData.canLay0, lay_rows t]
theorem depth_rows : ∀ rs : List (Int × Int × Int), PyData.depthAll (rs.map row3) ≤ 1
  | [] => Nat.zero_le _
  | r :: t => by
    have := depth_rows t
    simp [PyData.depthAll, row3, PyData.depth]
    omega
theorem shaped_rows (rs : List (Int × Int × Int)) : SeqAt.shaped (.list (rs.map row3)) = true := by
  have := depth_rows rs
  simp [SeqAt.shaped, PyData.canLay0, PyData.depth, lay_rows]
  omega
/-- two lists of one row set are not unequal -/
theorem ne_rows {prog : Program} {w : World} {A : Around} {E : Value → Shared → Prop} {s : Shared} {h₀ : Heap} {L a b : Addr} {news led led' : Led} {vs vs' : List Value} {rs : List (Int × Int × Int)} {k k' : Nat} {Q : Value → Shared → Prop} (N : News h₀ L s.heap news) (ha : (a, W.listOf vs.toArray k) ∈ news) (hb : (b, W.listOf vs'.toArray k') ∈ news) (H : RowsAt led vs rs) (H' : RowsAt led' vs' rs) (hs : ∀ p ∈ led, p ∈ news) (hs' : ∀ p ∈ led', p ∈ news) (hu : A.units + 64 < cLine)
    (h : Q (.bool false) s) : wpAny (model prog w) A (compareOp .NotEq (.ref a) (.ref b)) Q E s := by
  obtain ⟨as, r1⟩ := reads_rows N H hs
  obtain ⟨bs, r2⟩ := reads_rows N H' hs'
  refine ne_dataH (reads_list_at (N _ ha).1 rfl rfl r1) (reads_list_at (N _ hb).1 rfl rfl r2) (shaped_rows rs) (shaped_rows rs) hu ?_
  have e : PyData.eqv (.list (rs.map row3)) (.list (rs.map row3)) = true := by simp only [PyData.eqv]; exact eqv_rows rs
  rw [e]; exact h
end Mine
end

section
open PySem PySem.W PyProof.Rows
namespace Mine
theorem sec_S9 {M : Model} {A : Around} {E : Value → Shared → Prop} {s : Shared} {env : Env} {p : Pos} {Q : Flow → Shared → Prop} (h : Q .next s) : wpAny M A (exec (.Pass p) env) Q E s := by
  w_top off
  k_with_none
  walk1
  exact h
end Mine
end
section
open PySem PySem.W PyProof.Rows
set_option maxRecDepth 100000
set_option maxHeartbeats 2000000
namespace Mine
theorem seg20 (w : World) {dp un : Nat} {gd : Option (List Code)} {fa : Addr} {cd0 : Value} {outer : List Env} {A₀ : Around} {base h₀ : Heap} {L : Addr} {loose : List Str} {mean : ExcName → Option Value} {mg mb : Str → Option Value} {m : Str → Option Value} {s : Shared} {Q : Flow → Shared → Prop} {E : Value → Shared → Prop}
    (B : Below A₀ base outer h₀) (X : (hd.heap_39 w.params).In h₀) (T : Top topProg loose mean mg mb h₀) (hdp : dp + 8 < recursionLimit) (hu : un + 20 * 8 < cLine)
    {b : Int} (hb : 0 ≤ b ∧ b ≤ 2) {tb t1 t2 t3 : Tok} {an a : Addr} {n1 n2 n3 : Int} {kn k : Nat} {vs : List Value} {rows : List (Int × Int × Int)} {led led0 : Led} (hmN : m (Str.ofString "numbers") = some (.ref an)) (hmL : m (Str.ofString "blanks") = some (.int b tb)) (hmB : m (Str.ofString "beside") = some (.ref a)) (kn1 : (an, W.listOf #[.int n1 t1, .int n2 t2, .int n3 t3] kn) ∈ led) (hn1 : 1 ≤ n1 ∧ n1 ≤ 10) (hn2 : 1 ≤ n2 ∧ n2 ≤ 10) (hn3 : 1 ≤ n3 ∧ n3 ≤ 10)
    (kB : (a, W.listOf vs.toArray k) ∈ led) (hB : RowsAt led0 vs rows) (h0 : ∀ p ∈ led0, p ∈ led) (heq : unRows n1 n2 n3 b (unTop n1 n2 n3 b).toNat = rows)
    (F : Fr h₀ L s.heap m) (N : News h₀ L s.heap led)
    (hq : ∀ h' tk', Fr h₀ L h' m → News h₀ L h' led → Q .next { s with heap := h', toks := tk' }) :
    wpAny (model PySem.Challenge.rw_rs0140_02.prog w) (ktrTop dp un gd (Str.ofString "law") lawSc L fa cd0 (lawCl L) outer) (exec (lawStmt 20) (lawEnv L fa cd0)) Q E s := by
  refine exec_lawI (by conv => lhs; whnf) (by conv => lhs; whnf) ?_
  revert X
  k_fill
  intro X
  have hps : ∀ p ∈ [(Str.ofString "numbers", Value.ref an), (Str.ofString "blanks", .int b tb), (Str.ofString "beside", .ref a)], m p.1 = some p.2 := List.forall_mem_cons.mpr ⟨hmN, List.forall_mem_cons.mpr ⟨hmL, List.forall_mem_cons.mpr ⟨hmB, fun _ h => nomatch h⟩⟩⟩
  replace F := frWith _ hps F
  dsimp only [kstB] at F
  (repeat' (first | (k_unfold; (try dsimp only)) | (k_end; wrow_close) | (first | ((with_reducible show wpAny _ _ (eval (Expr.ListComp _ _ _ _) _) _ _ _); (with_reducible refine holdIt ?_)) | ((with_reducible show wpAny _ _ (compareOp CmpOp.NotEq (Value.ref _) (Value.ref _)) _ _ _); (with_reducible refine holdIt ?_)) | ((with_reducible show wpAny _ _ (call (Value.ref _) _) _ _ _); (with_reducible refine holdIt ?_)) | ((with_reducible show Exists _); (with_reducible refine holdIt ?_)) | walk1) | (dsimp only; (first | ((with_reducible show wpAny _ _ (eval (Expr.ListComp _ _ _ _) _) _ _ _); (with_reducible refine holdIt ?_)) | ((with_reducible show wpAny _ _ (compareOp CmpOp.NotEq (Value.ref _) (Value.ref _)) _ _ _); (with_reducible refine holdIt ?_)) | ((with_reducible show wpAny _ _ (call (Value.ref _) _) _ _ _); (with_reducible refine holdIt ?_)) | ((with_reducible show Exists _); (with_reducible refine holdIt ?_)) | walk1)) | (leave1; walk_say "STEP leave1"; try dsimp only) | fail "no step"))
  unfold Hold
  refine Spec.use (unl_ok w an n1 n2 n3 b t1 t2 t3 tb kn _ kn1 (by omega) (by omega) (by omega) (by omega)) (by k_asm) (by k_asm) (by k_asm) N (by k_asm) rfl (by ktr_room) (by ktr_units) ?_
  rintro r A1 h5 tk5 F6 N6 ⟨⟨tl1, eA1, hl1⟩, a1, vs1, k1, rfl, ha1, hr1⟩
  rw [heq] at hr1
  have s1 : ∀ p ∈ led, p ∈ A1 := fun p hp => by rw [eA1]; exact memR hp
  clear eA1
  (repeat' (first | (k_unfold; (try dsimp only)) | (k_end; wrow_close) | (first | ((with_reducible show wpAny _ _ (eval (Expr.ListComp _ _ _ _) _) _ _ _); (with_reducible refine holdIt ?_)) | ((with_reducible show wpAny _ _ (compareOp CmpOp.NotEq (Value.ref _) (Value.ref _)) _ _ _); (with_reducible refine holdIt ?_)) | ((with_reducible show wpAny _ _ (call (Value.ref _) _) _ _ _); (with_reducible refine holdIt ?_)) | ((with_reducible show Exists _); (with_reducible refine holdIt ?_)) | walk1) | (dsimp only; (first | ((with_reducible show wpAny _ _ (eval (Expr.ListComp _ _ _ _) _) _ _ _); (with_reducible refine holdIt ?_)) | ((with_reducible show wpAny _ _ (compareOp CmpOp.NotEq (Value.ref _) (Value.ref _)) _ _ _); (with_reducible refine holdIt ?_)) | ((with_reducible show wpAny _ _ (call (Value.ref _) _) _ _ _); (with_reducible refine holdIt ?_)) | ((with_reducible show Exists _); (with_reducible refine holdIt ?_)) | walk1)) | (leave1; walk_say "STEP leave1"; try dsimp only) | fail "no step"))
  unfold Hold
  refine ne_rows N6 (s1 _ kB) ha1 hB hr1 (fun p hp => s1 _ (h0 p hp)) (fun p hp => hp) (by units_room) ?_
  (repeat' (first | (k_unfold; (try dsimp only)) | (k_end; wrow_close) | (first | ((with_reducible show wpAny _ _ (eval (Expr.ListComp _ _ _ _) _) _ _ _); (with_reducible refine holdIt ?_)) | ((with_reducible show wpAny _ _ (compareOp CmpOp.NotEq (Value.ref _) (Value.ref _)) _ _ _); (with_reducible refine holdIt ?_)) | ((with_reducible show wpAny _ _ (call (Value.ref _) _) _ _ _); (with_reducible refine holdIt ?_)) | ((with_reducible show Exists _); (with_reducible refine holdIt ?_)) | walk1) | (dsimp only; (first | ((with_reducible show wpAny _ _ (eval (Expr.ListComp _ _ _ _) _) _ _ _); (with_reducible refine holdIt ?_)) | ((with_reducible show wpAny _ _ (compareOp CmpOp.NotEq (Value.ref _) (Value.ref _)) _ _ _); (with_reducible refine holdIt ?_)) | ((with_reducible show wpAny _ _ (call (Value.ref _) _) _ _ _); (with_reducible refine holdIt ?_)) | ((with_reducible show Exists _); (with_reducible refine holdIt ?_)) | walk1)) | (leave1; walk_say "STEP leave1"; try dsimp only) | fail "no step"))
  exact hq _ _ (frBack _ hps (by k_asm)) (newsSub N6 s1)
end Mine
end

section
open PySem PySem.W PyProof.Rows
namespace Mine
theorem sec_CC {M : Model} {A : Around} {E : Value → Shared → Prop} {s : Shared} {env : Env} {p : Pos} {Q : Flow → Shared → Prop} (h : Q .next s) : wpAny M A (exec (.Pass p) env) Q E s := by
  w_top off
  k_with_none
  walk1
  exact h
end Mine
end
section
open PySem PySem.W PyProof.Rows PySem.Calls PySem.Spec
set_option maxRecDepth 100000
set_option maxHeartbeats 1000000
namespace Mine
open LCg LCp
theorem newEnv_cells {M : Model} {A : Around} {E : Value → Shared → Prop} {s : Shared} {scope : Scope} {globals : Addr} {closure : List (Str × Addr)} {qual : Str} {func : Option Addr} {code : Value} {around : Option Env} {builtins : Addr} {Q : Env → Shared → Prop} (hk : scope.kind = .function)
    (hQ : Q (newEnv scope s.heap.objs.size globals (cellsFrom (s.heap.objs.size + 1) scope.names closure) qual func code around builtins) { s with heap := pushCells (s.heap.push { cls := .type (if around.isSome then "dict" else "frame"), data := .dict #[] }) scope.names }) :
    wpAny M A (newFunctionEnv scope globals closure [] qual func code around builtins) Q E s := by
  simp only [newFunctionEnv]
  refine wpAny_bind (wpAny_alloc ?_)
  refine wpAny_bind (wpAny_layCells _ (fun name kind cells => by cases hkc : kind == NameKind.cell <;> simp [hkc]) _ _ _ _ ?_)
  rw [show ({ s with heap := s.heap.push { cls := .type (if around.isSome then "dict" else "frame"), data := .dict #[] } } : Shared).heap.objs.size = s.heap.objs.size + 1 from Heap.size_push ..]
  simp only [List.forIn_nil]
  refine wpAny_bind (wpAny_pure ?_)
  exact wpAny_pure hQ
section
variable {prog : Program} {w : World} {A : Around} {E : Value → Shared → Prop} {s : Shared} {h₀ : Heap} {L : Addr} {m : Str → Option Value} {env : Env}
/-- a comprehension whose element makes objects; what it makes is younger than the list -/
inductive CompC (prog : Program) (w : World) (A : Around) (h₀ : Heap) (L : Addr) (m : Str → Option Value) (env : Env) (elt : Expr) (x : Str) (scope : Scope) (cl : List (Str × Addr)) (K : List Value → Led → Led → Shared → Prop) (it : Value) (s₂ : Shared) : Prop
  | intro (I : Addr) (fp : List Addr) (n : Nat) (P : Nat → Value → Prop) (St : Nat → Heap → Prop) (led : Led) (R : Nat → List Value → Led → Prop) (h0 : it = .ref I) (h1 : Walks prog w A I fp [I] n P St) (h2 : n ≤ sizeLine) (h3 : St 0 s₂.heap) (h4 : (∀ i h, St i h → ∀ b ∈ fp, ∃ o, h.get? b = some o)) (h5 : (∀ b ∈ fp, b < s₂.heap.objs.size)) (h6 : L ∉ fp) (h7 : h₀.get? I = none) (h8 : Fr h₀ L s₂.heap m) (h9 : News h₀ L s₂.heap led) (h10 : (∀ p ∈ led, p.1 ≠ I)) (h11 : R 0 [] []) (h12 : (∀ i v ys tl C oC oK D m₂ own h tk (E' : Value → Shared → Prop), i < n → P i v → R i ys tl → NsObj oC m₂ → oK.data = .cell (some v) → (∀ p ∈ led, p.1 < D) → @LT.lt Nat _ D C → (∀ p ∈ tl, @LT.lt Nat _ (C + 1) p.1) → Fr h₀ L h m → News h₀ L h ((C, oC) :: (C + 1, oK) :: (D, lst ys) :: (own ++ (tl ++ led))) → wpAny (model prog w) A (eval elt (compEnvC scope ((x, C + 1) :: cl) C env)) (fun y s₄ => ∃ h' tk' tl', s₄ = { s₂ with heap := h', toks := tk' } ∧ Fr h₀ L h' m ∧ News h₀ L h' ((C, oC) :: (C + 1, oK) :: (D, lst ys) :: (own ++ (tl' ++ led))) ∧ (∀ p ∈ tl', @LT.lt Nat _ (C + 1) p.1) ∧ R (i + 1) (ys ++ [y]) tl') E' { s₂ with heap := h, toks := tk })) (h13 : ∀ ys tl, R n ys tl → K ys tl led s₂) : CompC prog w A h₀ L m env elt x scope cl K it s₂
theorem block_C {elt iter : Expr} {x : Str} {px : Pos} {scope : Scope} {cl : List (Str × Addr)} {pos : Pos} {K : List Value → Led → Led → Shared → Prop} {RR : Value → Addr → Result → Shared → Prop} {it : Value} {s₂ : Shared}
    (hcells : ∀ n, cellsFrom n scope.names cl = (x, n) :: cl) (hpush : ∀ H, pushCells H scope.names = H.push { cls := .type "cell", data := .cell none }) (hkind : scope.kind = .function) (hx : ∀ cl' C, (compEnvC scope cl' C env).kindOf x = some .cell)
    (h₂ : CompC prog w A h₀ L m env elt x scope cl K it s₂)
    (hRR : ∀ D C h tk m' ys tl led, Fr h₀ L h m → News h₀ L h ((D, lst ys) :: (tl ++ led)) → (∀ p ∈ led, p.1 < D) → (∀ p ∈ tl, @LT.lt Nat _ D p.1) → h.Ns C m' → h₀.get? C = none → C ≠ L → C ≠ D → (∀ p ∈ tl ++ led, p.1 ≠ C) → K ys tl led s₂ → RR (.ref D) C (.ok .next) { s₂ with heap := h, toks := tk }) :
    wpAny (model prog w) A (newList []) (fun acc s₃ => wpAny (model prog w) A (newFunctionEnv scope env.globals cl [] env.qual none .none (some env)) (fun cenv s₄ =>
      codeAny (model prog w) A (.compStart (.ListComp elt [⟨.Name x px, iter, [], 0⟩] scope pos) 0 it acc { cenv with scope := relabel scope env }) (RR acc cenv.locals) s₄) E s₃) E s₂ := by
  obtain ⟨I, fp, n, P, St, led, R, rfl, W, hsz, hst, hex, hfp, hLf, hI₀, F, N, hoff, h0, turn, fin⟩ := h₂
  refine wpAny_newObj_type (newEnv_cells hkind ?_)
  dsimp only
  generalize hH2 : s₂.heap.push { cls := .type "list", dict := none, data := .seq ([] : List Value).toArray } = H2
  rw [hcells, hpush]
  simp only [Option.isSome_some, if_true]
  have hC : H2.objs.size = s₂.heap.objs.size + 1 := by rw [← hH2, Heap.size_push]
  have hDC : s₂.heap.objs.size ≠ H2.objs.size := by rw [hC]; exact Nat.ne_of_lt (Nat.lt_succ_self _)
  have hDC' : @LT.lt Nat _ s₂.heap.objs.size H2.objs.size := by rw [hC]; exact Nat.lt_succ_self _
  have below : ∀ b, b < s₂.heap.objs.size → b ≠ H2.objs.size ∧ b ≠ s₂.heap.objs.size := fun b hb => ⟨by rw [hC]; exact Nat.ne_of_lt (Nat.lt_succ_of_lt hb), Nat.ne_of_lt hb⟩
  have hDf : s₂.heap.objs.size ∉ fp := fun hm => Nat.lt_irrefl _ (hfp _ hm)
  have hCf : H2.objs.size ∉ fp := fun hm => by have := hfp _ hm; rw [hC] at this; exact Nat.lt_irrefl _ (Nat.lt_of_succ_lt this)
  have hIf : I ∈ fp := W.sub I (List.mem_singleton.mpr rfl)
  have hIlt : I < s₂.heap.objs.size := hfp I hIf
  have hIL : L ≠ I := fun e => hLf (e ▸ hIf)
  generalize hh1 : (H2.push { cls := .type "dict", data := .dict #[] }).push { cls := .type "cell", data := .cell none } = h₁
  have hz1 : (H2.push { cls := .type "dict", data := .dict #[] }).objs.size = H2.objs.size + 1 := Heap.size_push ..
  have old : ∀ b o, s₂.heap.get? b = some o → h₁.get? b = some o := fun b o e => by rw [← hh1]; exact Heap.get?_push_of_some _ (Heap.get?_push_of_some _ (hH2 ▸ Heap.get?_push_of_some _ e))
  have hacc : h₁.get? s₂.heap.objs.size = some (lst []) := by rw [← hh1]; exact Heap.get?_push_of_some _ (Heap.get?_push_of_some _ (hH2 ▸ Heap.get?_push_size _ rfl))
  have hns₁ : h₁.Ns H2.objs.size (fun _ => none) := by rw [← hh1]; exact (Heap.Ns.new H2 (.type "dict")).keeps fun b o e => Heap.get?_push_of_some _ e
  have hce₁ : ∃ v₀, h₁.IsCell (H2.objs.size + 1) v₀ := ⟨none, by rw [← hh1, ← hz1]; exact ⟨_, Heap.get?_push_size _ rfl, rfl⟩⟩
  clear hh1
  have hst₁ : St 0 h₁ := W.frame _ _ _ hst fun b hb o e => old b o e
  have fresh₀ : ∀ a, s₂.heap.objs.size ≤ a → h₀.get? a = none := fun a ha => by
    cases e : h₀.get? a with
    | none => rfl
    | some o' => exact absurd (Heap.lt_size (F.keep a o' e)) (Nat.not_lt.mpr ha)
  have hD₀ : h₀.get? s₂.heap.objs.size = none := fresh₀ _ (Nat.le_refl _)
  have hC₀ : h₀.get? H2.objs.size = none := fresh₀ _ (by rw [hC]; exact Nat.le_succ _)
  have hLlt : L < s₂.heap.objs.size := F.ns.lt
  have hDL : s₂.heap.objs.size ≠ L := Ne.symm (below L hLlt).2
  have hCL : H2.objs.size ≠ L := Ne.symm (below L hLlt).1
  have hCI : I ≠ H2.objs.size := (below I hIlt).1
  have hDI : I ≠ s₂.heap.objs.size := (below I hIlt).2
  have hCK : @LT.lt Nat _ H2.objs.size (H2.objs.size + 1) := Nat.lt_succ_self _
  have hDK : @LT.lt Nat _ s₂.heap.objs.size (H2.objs.size + 1) := Nat.lt_trans hDC' hCK
  have hK₀ : h₀.get? (H2.objs.size + 1) = none := fresh₀ _ (Nat.le_of_lt hDK)
  have hKL : H2.objs.size + 1 ≠ L := Nat.ne_of_gt (Nat.lt_trans hLlt hDK)
  have hKf : H2.objs.size + 1 ∉ fp := fun hm => absurd (Nat.lt_trans (hfp _ hm) hDK) (Nat.lt_irrefl _)
  have hKI : I ≠ H2.objs.size + 1 := Nat.ne_of_lt (Nat.lt_trans hIlt hDK)
  have ledlt : ∀ p ∈ led, p.1 < s₂.heap.objs.size := fun p hp => Heap.lt_size (N p hp).1
  have loop : ∀ s₃ : Shared, s₃ = { s₂ with heap := h₁, toks := s₂.toks + ([] : List (Str × Value)).length } →
      codeAny (model prog w) A (.compLoop (.ListComp elt [⟨.Name x px, iter, [], 0⟩] scope pos) 0 (.ref I) (.ref s₂.heap.objs.size) (compEnvC scope ((x, H2.objs.size + 1) :: cl) H2.objs.size env))
        (RR (.ref s₂.heap.objs.size) H2.objs.size) s₃ := by
    rintro s₃ rfl
    refine codeAny_compLoop_tests
      (fun k s' => ∃ h' tk i ys m' tl, s' = { s₂ with heap := h', toks := tk } ∧ i ≤ n ∧ k = n + 1 - i ∧ ys.length = i ∧ St i h' ∧ Fr h₀ L h' m ∧ h'.Ns H2.objs.size m' ∧ (∃ v₀, h'.IsCell (H2.objs.size + 1) v₀) ∧ News h₀ L h' ((s₂.heap.objs.size, lst ys) :: (tl ++ led)) ∧ (∀ p ∈ tl, @LT.lt Nat _ (H2.objs.size + 1) p.1) ∧ R i ys tl) ?_ (n + 1)
      ⟨h₁, _, 0, [], _, [], rfl, Nat.zero_le _, rfl, rfl, hst₁, F.keeps old, hns₁, hce₁, fun p hp => ?_, (fun _ h => nomatch h), h0⟩
    · rintro k s' ⟨h', tk', i, ys, m', tl, rfl, hi, rfl, hyl, hst', F', hn', ⟨v₀, hce'⟩, N', htl, hR⟩
      have allI : ∀ p ∈ (s₂.heap.objs.size, lst ys) :: (tl ++ led), p.1 ≠ I := fun p hp => by
        rcases List.mem_cons.mp hp with rfl | hp
        · exact Ne.symm hDI
        · rcases List.mem_append.mp hp with hp | hp
          · exact Nat.ne_of_gt (Nat.lt_trans (Nat.lt_trans hIlt hDK) (htl p hp))
          · exact hoff p hp
      have move : ∀ h₂ : Heap, (∀ b o, b ∉ [I] → h'.get? b = some o → h₂.get? b = some o) → Fr h₀ L h₂ m ∧ h₂.Ns H2.objs.size m' ∧ h₂.IsCell (H2.objs.size + 1) v₀ ∧ News h₀ L h₂ ((s₂.heap.objs.size, lst ys) :: (tl ++ led)) := fun h₂ hk =>
        ⟨⟨F'.ns.at' fun o e => hk _ o (fun q => hIL (List.mem_singleton.mp q)) e, fun b o e => hk b o (fun q => by rw [List.mem_singleton.mp q, hI₀] at e; cases e) (F'.keep b o e), F'.above⟩, hn'.at' fun o e => hk _ o (fun q => hCI (List.mem_singleton.mp q).symm) e, (let ⟨o, ho, hd⟩ := hce'; ⟨o, hk _ o (fun q => hKI (List.mem_singleton.mp q).symm) ho, hd⟩), fun p hp =>
          ⟨hk _ _ (fun q => allI p hp (List.mem_singleton.mp q)) (N' p hp).1, (N' p hp).2⟩⟩
      have allC : ∀ p ∈ (s₂.heap.objs.size, lst ys) :: (tl ++ led), p.1 ≠ H2.objs.size := fun p hp => by
        rcases List.mem_cons.mp hp with rfl | hp
        · exact hDC
        · rcases List.mem_append.mp hp with hp | hp
          · exact Nat.ne_of_gt (Nat.lt_trans hCK (htl p hp))
          · exact (below _ (ledlt p hp)).1
      have allK : ∀ p ∈ (s₂.heap.objs.size, lst ys) :: (tl ++ led), p.1 ≠ H2.objs.size + 1 := fun p hp => by
        rcases List.mem_cons.mp hp with rfl | hp
        · exact Nat.ne_of_lt hDK
        · rcases List.mem_append.mp hp with hp | hp
          · exact Nat.ne_of_gt (htl p hp)
          · exact Nat.ne_of_lt (Nat.lt_trans (ledlt p hp) hDK)
      by_cases hlt : i < n
      · refine W.item i _ _ _ hlt hst' fun v h₂ tk₂ hPv hst₂ hk₂ => ?_
        obtain ⟨F₂, hn₂, hce₂, N₂⟩ := move h₂ hk₂
        refine wpAny_assign_Name (wpAny_storeName_cell (by simp [compEnvC, relabel, hkind]) (hx _ _) (c := H2.objs.size + 1) (by simp [compEnvC]) hce₂ fun h₃ hce₃ hs₃ => ?_)
        refine wpAny_tests_nil ?_
        simp only [if_true]
        replace hs₃ : Heap.SameBut (H2.objs.size + 1) h₂ h₃ := hs₃
        have hst₃ : St (i + 1) h₃ := W.frame _ _ _ hst₂ fun b hb o e => hs₃.extBut b o (fun q => hKf (by rw [← q]; exact hb)) e
        have hn₃ : h₃.Ns H2.objs.size m' := hn₂.sameBut hs₃ (Nat.ne_of_lt hCK)
        obtain ⟨oC, heC, hoC⟩ := ns_obj hn₃
        obtain ⟨oK, heK, hoK⟩ := hce₃
        have F₃ : Fr h₀ L h₃ m := F₂.change hs₃ hKL hK₀
        have N₃ : News h₀ L h₃ ((s₂.heap.objs.size, lst ys) :: (tl ++ led)) := fun p hp => ⟨hs₃.extBut _ _ (allK p hp) (N₂ p hp).1, (N₂ p hp).2⟩
        have Nown : News h₀ L h₃ (PyProof.Rows.ownOf h₀ fp h₃) := news_ownOf hLf
        have N₄ : News h₀ L h₃ ((H2.objs.size, oC) :: (H2.objs.size + 1, oK) :: (s₂.heap.objs.size, lst ys) :: (PyProof.Rows.ownOf h₀ fp h₃ ++ (tl ++ led))) := fun p hp => by
          rcases List.mem_cons.mp hp with rfl | hp
          · exact ⟨heC, hCL, hC₀⟩
          · rcases List.mem_cons.mp hp with rfl | hp
            · exact ⟨heK, hKL, hK₀⟩
            · rcases List.mem_cons.mp hp with rfl | hp
              · exact N₃ _ (.head _)
              · rcases List.mem_append.mp hp with hp | hp
                · exact Nown _ hp
                · exact N₃ _ (.tail _ hp)
        refine wpAny_mono (turn i v ys tl H2.objs.size oC oK s₂.heap.objs.size _ (PyProof.Rows.ownOf h₀ fp h₃) h₃ _ _ hlt hPv hR hoC hoK ledlt hDC' htl F₃ N₄) (fun y s₄ h₄ => ?_) fun _ _ e => e
        obtain ⟨h₅, tk₅, tl', rfl, F₅, N₅, htl', hR'⟩ := h₄
        have zC := (N₅ (H2.objs.size, oC) (.head _)).1
        have zK := (N₅ (H2.objs.size + 1, oK) (.tail _ (.head _))).1
        have zD := (N₅ (s₂.heap.objs.size, lst ys) (.tail _ (.tail _ (.head _)))).1
        have hst₅ : St (i + 1) h₅ := W.frame _ _ _ hst₃ fun b hb o e => by
          cases hn : h₀.get? b with
          | some o₀ =>
            have : o₀ = o := by have q := F₃.keep b o₀ hn; rw [e] at q; exact (Option.some.inj q).symm
            exact this ▸ F₅.keep b o₀ hn
          | none => exact (N₅ _ (.tail _ (.tail _ (.tail _ (List.mem_append_left _ (mem_ownOf hb hn e)))))).1
        refine append_at (hsz := by show ys.toArray.size ≤ sizeLine; rw [List.size_toArray, hyl]; exact Nat.le_trans hi hsz) zD fun h₆ hs₆ hD₆ => ?_
        refine ⟨n + 1 - (i + 1), by omega, h₆, tk₅, i + 1, ys ++ [y], _, tl', rfl, hlt, rfl, by rw [List.length_append, List.length_singleton, hyl], W.frame _ _ _ hst₅ fun b hb o e => hs₆.extBut b o (fun q => hDf (q ▸ hb)) e, F₅.change hs₆ hDL hD₀,
          (hoC.ns zC).sameBut hs₆ (Ne.symm hDC), ⟨_, oK, hs₆.extBut _ _ (Nat.ne_of_gt hDK) zK, hoK⟩, fun p hp => ?_, htl', hR'⟩
        rcases List.mem_cons.mp hp with rfl | hp
        · exact ⟨hD₆.trans (congrArg some (lst_snoc ys y)), hDL, hD₀⟩
        · have z := N₅ p (.tail _ (.tail _ (.tail _ (List.mem_append_right _ hp))))
          refine ⟨hs₆.extBut _ _ ?_ z.1, z.2⟩
          rcases List.mem_append.mp hp with hp | hp
          · exact Nat.ne_of_gt (Nat.lt_trans hDK (htl' p hp))
          · exact (below _ (ledlt p hp)).2
      · obtain rfl : i = n := Nat.le_antisymm hi (Nat.not_lt.mp hlt)
        refine W.done _ _ _ hst' fun h₂ tk₂ hk₂ => ?_
        obtain ⟨F₃, hn₃, _, N₃⟩ := move h₂ hk₂
        exact hRR _ _ h₂ tk₂ _ ys tl led F₃ N₃ ledlt (fun p hp => Nat.lt_trans hDK (htl p hp)) hn₃ hC₀ hCL (Ne.symm hDC) (fun p hp => allC p (.tail _ hp)) (fin ys tl hR)
    · rcases List.mem_cons.mp hp with rfl | hp
      · exact ⟨hacc, hDL, hD₀⟩
      · exact ⟨old _ _ (N p hp).1, (N p hp).2⟩
  exact codeAny_compStart_list (loop _ rfl) (W.self 0 _ _ _ hst₁ (loop _ rfl))
noncomputable def FinCE (h₀ : Heap) (L : Addr) (m : Str → Option Value) (Q : Value → Shared → Prop) (ys : List Value) (tl led : Led) (s₂ : Shared) : Prop :=
  ∀ D h tk, Fr h₀ L h m → News h₀ L h ((D, lst ys) :: (tl ++ led)) → (∀ p ∈ led, p.1 < D) → (∀ p ∈ tl, @LT.lt Nat _ D p.1) → Q (.ref D) { s₂ with heap := h, toks := tk }
theorem ListComp_C {elt iter : Expr} {x : Str} {px : Pos} {scope : Scope} {cl : List (Str × Addr)} {pos : Pos} {Q : Value → Shared → Prop}
    (hclos : closureFor scope env = pure cl) (hcells : ∀ n, cellsFrom n scope.names cl = (x, n) :: cl) (hpush : ∀ H, pushCells H scope.names = H.push { cls := .type "cell", data := .cell none }) (hkind : scope.kind = .function)
    (hnames : ∀ z ∈ scope.names, z.2 = .local → scope.names.lookup z.1 = some .local) (hx : ∀ cl' C, (compEnvC scope cl' C env).kindOf x = some .cell)
    (h : wpAny (model prog w) A (eval iter env) (fun xv s₁ => wpAny (model prog w) A (pyIter xv) (fun it s₂ => CompC prog w A h₀ L m env elt x scope cl (FinCE h₀ L m Q) it s₂) E s₁) E s)
    (hs : ∀ x, foldedSetIterable iter env x = pure x := by intro _; rfl) :
    wpAny (model prog w) A (eval (.ListComp elt [⟨.Name x px, iter, [], 0⟩] scope pos) env) Q E s := by
  rw [eval_ListComp]
  refine wpAny_comprehension_free (use := none) rfl hs hclos hkind hnames (wpAny_mono h (fun xv s₁ h₁ => wpAny_mono h₁ (fun it s₂ h₂ => ?_) fun _ _ e => e) fun _ _ e => e)
  refine block_C hcells hpush hkind hx h₂ ?_
  intro D C h tk m' ys tl led F' N' hlt hgt hn hC₀ hCL hCD offC fin
  refine ⟨m', hn, fun h'' hs'' => fin D h'' tk (F'.change hs'' hCL hC₀) (fun p hp => ?_) hlt hgt⟩
  refine ⟨hs''.extBut _ _ ?_ (N' p hp).1, (N' p hp).2⟩
  rcases List.mem_cons.mp hp with rfl | hp
  · exact Ne.symm hCD
  · exact offC p hp
/-- over a range -/
theorem CompC.range {elt : Expr} {x : Str} {scope : Scope} {cl : List (Str × Addr)} {K : List Value → Led → Led → Shared → Prop} {r : Addr} {a b : Int} {t u v : Tok} {n : Nat} {led : Led} {s₁ : Shared} (R : Nat → List Value → Led → Prop)
    (hh : A.handled = none) (F : Fr h₀ L s₁.heap m) (N : News h₀ L s₁.heap led) (hr : IsRange s₁.heap r a b 1 t u v) (hsm : Builtin.Range.small a b 1 = true) (hn : Builtin.Range.rangeSize a b 1 = ((n : Nat) : Int)) (hsz : n ≤ 1000) (h0 : R 0 [] [])
    (turn : ∀ i t ys tl C oC oK D m₂ own h tk (E' : Value → Shared → Prop), i < n → R i ys tl → NsObj oC m₂ → oK.data = .cell (some (.int (a + (i : Int)) t)) → (∀ p ∈ led, p.1 < D) → @LT.lt Nat _ D C → (∀ p ∈ tl, @LT.lt Nat _ (C + 1) p.1) → Fr h₀ L h m → News h₀ L h ((C, oC) :: (C + 1, oK) :: (D, lst ys) :: (own ++ (tl ++ led))) →
      wpAny (model prog w) A (eval elt (compEnvC scope ((x, C + 1) :: cl) C env)) (fun y s₄ => ∃ h' tk' tl', s₄ = { s₁ with heap := h', toks := tk' } ∧ Fr h₀ L h' m ∧ News h₀ L h' ((C, oC) :: (C + 1, oK) :: (D, lst ys) :: (own ++ (tl' ++ led))) ∧ (∀ p ∈ tl', @LT.lt Nat _ (C + 1) p.1) ∧ R (i + 1) (ys ++ [y]) tl') E' { s₁ with heap := h, toks := tk })
    (fin : ∀ ys tl g, R n ys tl → K ys tl led { s₁ with heap := g }) :
    wpAny (model prog w) A (pyIter (.ref r)) (fun it s₂ => CompC prog w A h₀ L m env elt x scope cl K it s₂) E s₁ := by
  refine wpAny_pyIter_range hr hsm ?_
  refine ⟨s₁.heap.objs.size, [s₁.heap.objs.size], n, _, _, led, R, rfl, range_walks hh a n, Nat.le_trans hsz (by rw [sizeLine_eq]; decide), by show IsRangeIter _ _ _ _ _; rw [hn]; simpa using Heap.get?_push_size _ rfl, fun i h st b hb => by rw [List.mem_singleton.mp hb]; exact ⟨_, st⟩, fun b hb => ?_, fun hm => absurd F.ns.lt (by rw [List.mem_singleton.mp hm]; exact Nat.lt_irrefl _), next_is_new F,
    F.keeps fun _ _ e => Heap.get?_push_of_some _ e, N.grown fun _ _ e => Heap.get?_push_of_some _ e, fun p hp => Nat.ne_of_lt (Heap.lt_size (N p hp).1), h0, ?_, fun ys tl hR => fin ys tl _ hR⟩
  · rw [List.mem_singleton.mp hb]
    show s₁.heap.objs.size < (s₁.heap.push _).objs.size
    rw [Heap.size_push]; exact Nat.lt_succ_self _
  · rintro i v ys tl C oC oK D m₂ own h tk E' hi ⟨t, rfl⟩ hR hC hx h1 h2 h3 F' N'
    exact turn i t ys tl C oC oK D m₂ own h tk E' hi hR hC hx h1 h2 h3 F' N'
end
end Mine
end

section
open PySem PySem.W PyProof.Rows
namespace Mine
theorem sec_S10 {M : Model} {A : Around} {E : Value → Shared → Prop} {s : Shared} {env : Env} {p : Pos} {Q : Flow → Shared → Prop} (h : Q .next s) : wpAny M A (exec (.Pass p) env) Q E s := by
  w_top off
  k_with_none
  walk1
  exact h
end Mine
end
section
open PySem PySem.W PyProof.Rows
set_option maxRecDepth 100000
set_option maxHeartbeats 2000000
namespace Mine
theorem seg14 (w : World) {dp un : Nat} {gd : Option (List Code)} {fa : Addr} {cd0 : Value} {outer : List Env} {A₀ : Around} {base h₀ : Heap} {L : Addr} {loose : List Str} {mean : ExcName → Option Value} {mg mb : Str → Option Value} {m : Str → Option Value} {s : Shared} {Q : Flow → Shared → Prop} {E : Value → Shared → Prop}
    (B : Below A₀ base outer h₀) (X : (hd.heap_39 w.params).In h₀) (T : Top topProg loose mean mg mb h₀) (hdp : dp + 8 < recursionLimit) (hu : un + 20 * 8 < cLine)
    {c2 c4 : Obj} {lr x1 x2 x3 : Addr} {ag1 ag2 ag3 : List Str} {rv1 rv2 rv3 : List Value} {k : Nat} {led : Led} (hc4 : ∃ v, c4.data = .cell v) (hc2 : c2.data = .cell (some (.ref lr))) (k2 : (L + 1 + 1, c2) ∈ led) (kr : (lr, W.listOf #[.ref x1, .ref x2, .ref x3] k) ∈ led)
    (e1 : EntAt led x1 ag1 rv1) (e2 : EntAt led x2 ag2 rv2) (e3 : EntAt led x3 ag3 rv3) (F : Fr h₀ L s.heap m) (N : News h₀ L s.heap ((L + 1 + 1 + 1 + 1, c4) :: led)) (hne : ∀ p ∈ led, p.1 ≠ L + 1 + 1 + 1 + 1)
    (hq : ∀ D c4' us k h' tk', Fr h₀ L h' m → c4'.data = .cell (some (.ref D)) → IntsAre us ((rangeKs 1 10).map fun z => (([ag1, ag2, ag3].filter fun a => hasS a (Str.ofString (toString z))).length : Int)) → News h₀ L h' ((D, W.listOf (List.toArray us) k) :: (L + 1 + 1 + 1 + 1, c4') :: led) → (∀ p ∈ led, p.1 < D) → Q .next { s with heap := h', toks := tk' }) :
    wpAny (model PySem.Challenge.rw_rs0140_02.prog w) (ktrTop dp un gd (Str.ofString "law") lawSc L fa cd0 (lawCl L) outer) (exec (lawStmt 14) (lawEnv L fa cd0)) Q E s := by
  refine exec_lawA (by conv => lhs; whnf) (by conv => lhs; whnf) ?_
  revert X
  k_fill
  intro X
  obtain ⟨cv, hcv⟩ := hc4
  (repeat' (first | (k_unfold; (try dsimp only)) | (k_end; wrow_close) | (first | ((with_reducible show wpAny _ _ (eval (Expr.ListComp _ _ _ _) _) _ _ _); (with_reducible refine holdIt ?_)) | ((with_reducible show wpAny _ _ (compareOp CmpOp.In _ _) _ _ _); (with_reducible refine holdIt ?_)) | ((with_reducible show wpAny _ _ (compareOp CmpOp.NotEq (Value.ref _) (Value.ref _)) _ _ _); (with_reducible refine holdIt ?_)) | ((with_reducible show wpAny _ _ (pyIter (Value.ref _)) _ _ _); (with_reducible refine holdIt ?_)) | ((with_reducible show wpAny _ _ (call (Value.ref _) _) _ _ _); (with_reducible refine holdIt ?_)) | ((with_reducible show Exists _); (with_reducible refine holdIt ?_)) | walk1) | (dsimp only; (first | ((with_reducible show wpAny _ _ (eval (Expr.ListComp _ _ _ _) _) _ _ _); (with_reducible refine holdIt ?_)) | ((with_reducible show wpAny _ _ (compareOp CmpOp.In _ _) _ _ _); (with_reducible refine holdIt ?_)) | ((with_reducible show wpAny _ _ (compareOp CmpOp.NotEq (Value.ref _) (Value.ref _)) _ _ _); (with_reducible refine holdIt ?_)) | ((with_reducible show wpAny _ _ (pyIter (Value.ref _)) _ _ _); (with_reducible refine holdIt ?_)) | ((with_reducible show wpAny _ _ (call (Value.ref _) _) _ _ _); (with_reducible refine holdIt ?_)) | ((with_reducible show Exists _); (with_reducible refine holdIt ?_)) | walk1)) | (leave1; walk_say "STEP leave1"; try dsimp only) | fail "no step"))
  unfold Hold
  refine ListComp_C (L := L) (h₀ := h₀) (m := m) rfl (fun _ => rfl) (fun _ => rfl) rfl (by decide) (fun _ _ => rfl) ?_
  (repeat' (first | (k_unfold; (try dsimp only)) | (k_end; wrow_close) | (first | ((with_reducible show wpAny _ _ (eval (Expr.ListComp _ _ _ _) _) _ _ _); (with_reducible refine holdIt ?_)) | ((with_reducible show wpAny _ _ (compareOp CmpOp.In _ _) _ _ _); (with_reducible refine holdIt ?_)) | ((with_reducible show wpAny _ _ (compareOp CmpOp.NotEq (Value.ref _) (Value.ref _)) _ _ _); (with_reducible refine holdIt ?_)) | ((with_reducible show wpAny _ _ (pyIter (Value.ref _)) _ _ _); (with_reducible refine holdIt ?_)) | ((with_reducible show wpAny _ _ (call (Value.ref _) _) _ _ _); (with_reducible refine holdIt ?_)) | ((with_reducible show Exists _); (with_reducible refine holdIt ?_)) | walk1) | (dsimp only; (first | ((with_reducible show wpAny _ _ (eval (Expr.ListComp _ _ _ _) _) _ _ _); (with_reducible refine holdIt ?_)) | ((with_reducible show wpAny _ _ (compareOp CmpOp.In _ _) _ _ _); (with_reducible refine holdIt ?_)) | ((with_reducible show wpAny _ _ (compareOp CmpOp.NotEq (Value.ref _) (Value.ref _)) _ _ _); (with_reducible refine holdIt ?_)) | ((with_reducible show wpAny _ _ (pyIter (Value.ref _)) _ _ _); (with_reducible refine holdIt ?_)) | ((with_reducible show wpAny _ _ (call (Value.ref _) _) _ _ _); (with_reducible refine holdIt ?_)) | ((with_reducible show Exists _); (with_reducible refine holdIt ?_)) | walk1)) | (leave1; walk_say "STEP leave1"; try dsimp only) | fail "no step"))
  unfold Hold
  rename_i rg F5 N5 _
  refine CompC.range (R := fun i ys tl => tl = [] ∧ IntsAre ys ((rangeKs 1 i).map fun z => (([ag1, ag2, ag3].filter fun a => hasS a (Str.ofString (toString z))).length : Int))) rfl F5 N5 rg (small_one (by omega) (by omega) (by omega) (by omega)) (n := 10) rfl (by decide) ⟨rfl, .nil⟩ ?_ ?_
  · rintro i t ys tl C oC oK D m₂ own h tk E' hi ⟨rfl, hys⟩ hC hK hlt hDC htl F6 N6
    clear N5 F5
    have k2' : (L + 1 + 1, c2) ∈ own ++ ([] ++ ((L + 1 + 1 + 1 + 1, c4) :: led)) := memR (.tail _ k2)
    have kr' : (lr, W.listOf #[.ref x1, .ref x2, .ref x3] k) ∈ own ++ ([] ++ ((L + 1 + 1 + 1 + 1, c4) :: led)) := memR (.tail _ kr)
    have e1' : EntAt (own ++ ([] ++ ((L + 1 + 1 + 1 + 1, c4) :: led))) x1 ag1 rv1 := e1.mono fun p hp => memR (.tail _ hp)
    have e2' : EntAt (own ++ ([] ++ ((L + 1 + 1 + 1 + 1, c4) :: led))) x2 ag2 rv2 := e2.mono fun p hp => memR (.tail _ hp)
    have e3' : EntAt (own ++ ([] ++ ((L + 1 + 1 + 1 + 1, c4) :: led))) x3 ag3 rv3 := e3.mono fun p hp => memR (.tail _ hp)
    (repeat' (first | (k_unfold; (try dsimp only)) | (k_end; wrow_close) | (first | ((with_reducible show wpAny _ _ (eval (Expr.ListComp _ _ _ _) _) _ _ _); (with_reducible refine holdIt ?_)) | ((with_reducible show wpAny _ _ (compareOp CmpOp.In _ _) _ _ _); (with_reducible refine holdIt ?_)) | ((with_reducible show wpAny _ _ (compareOp CmpOp.NotEq (Value.ref _) (Value.ref _)) _ _ _); (with_reducible refine holdIt ?_)) | ((with_reducible show wpAny _ _ (pyIter (Value.ref _)) _ _ _); (with_reducible refine holdIt ?_)) | ((with_reducible show wpAny _ _ (call (Value.ref _) _) _ _ _); (with_reducible refine holdIt ?_)) | ((with_reducible show Exists _); (with_reducible refine holdIt ?_)) | walk1) | (dsimp only; (first | ((with_reducible show wpAny _ _ (eval (Expr.ListComp _ _ _ _) _) _ _ _); (with_reducible refine holdIt ?_)) | ((with_reducible show wpAny _ _ (compareOp CmpOp.In _ _) _ _ _); (with_reducible refine holdIt ?_)) | ((with_reducible show wpAny _ _ (compareOp CmpOp.NotEq (Value.ref _) (Value.ref _)) _ _ _); (with_reducible refine holdIt ?_)) | ((with_reducible show wpAny _ _ (pyIter (Value.ref _)) _ _ _); (with_reducible refine holdIt ?_)) | ((with_reducible show wpAny _ _ (call (Value.ref _) _) _ _ _); (with_reducible refine holdIt ?_)) | ((with_reducible show Exists _); (with_reducible refine holdIt ?_)) | walk1)) | (leave1; walk_say "STEP leave1"; try dsimp only) | fail "no step"))
    unfold Hold
    refine LCt.ListComp_T F6 rfl (by decide) rfl (by decide) rfl ?_
    walk1
    refine LCt.CompSrcT.ledger rfl (by k_asm) N6 (.tail _ (.tail _ (.tail _ kr'))) (by simp [sizeLine_eq]) ?_
    intro g5
    refine compTBy (fun i' ys' nw => nw = ((C, oC) :: (C + 1, oK) :: (D, LCg.lst ys) :: (own ++ ([] ++ (L + 1 + 1 + 1 + 1, c4) :: led))) ∧ ys'.length = (([ag1, ag2, ag3].take i').filter fun a => hasS a (Str.ofString (toString (1 + (i : Int))))).length) ⟨rfl, rfl⟩ ?_ ?_
    · rintro i' v I oI C' oC' D' m₂' ys' nw h' tk' E'' hlt' hv ⟨rfl, hys'⟩ hC' hx' F7 N7 off ne
      have hi' : i' = 0 ∨ i' = 1 ∨ i' = 2 := by simp at hlt'; omega
      rcases hi' with rfl | rfl | rfl
      · obtain rfl : Value.ref x1 = v := by simpa using hv
        refine (e1').el fun d9 la9 _ us9 _ _ _ _ _ _ _ _ _ _ _ f1 f2 f3 _ f5 => ?_
        (repeat' (first | (k_unfold; (try dsimp only)) | (k_end; wrow_close) | (first | ((with_reducible show wpAny _ _ (eval (Expr.ListComp _ _ _ _) _) _ _ _); (with_reducible refine holdIt ?_)) | ((with_reducible show wpAny _ _ (compareOp CmpOp.In _ _) _ _ _); (with_reducible refine holdIt ?_)) | ((with_reducible show wpAny _ _ (compareOp CmpOp.NotEq (Value.ref _) (Value.ref _)) _ _ _); (with_reducible refine holdIt ?_)) | ((with_reducible show wpAny _ _ (pyIter (Value.ref _)) _ _ _); (with_reducible refine holdIt ?_)) | ((with_reducible show wpAny _ _ (call (Value.ref _) _) _ _ _); (with_reducible refine holdIt ?_)) | ((with_reducible show Exists _); (with_reducible refine holdIt ?_)) | walk1) | (dsimp only; (first | ((with_reducible show wpAny _ _ (eval (Expr.ListComp _ _ _ _) _) _ _ _); (with_reducible refine holdIt ?_)) | ((with_reducible show wpAny _ _ (compareOp CmpOp.In _ _) _ _ _); (with_reducible refine holdIt ?_)) | ((with_reducible show wpAny _ _ (compareOp CmpOp.NotEq (Value.ref _) (Value.ref _)) _ _ _); (with_reducible refine holdIt ?_)) | ((with_reducible show wpAny _ _ (pyIter (Value.ref _)) _ _ _); (with_reducible refine holdIt ?_)) | ((with_reducible show wpAny _ _ (call (Value.ref _) _) _ _ _); (with_reducible refine holdIt ?_)) | ((with_reducible show Exists _); (with_reducible refine holdIt ?_)) | walk1)) | (leave1; walk_say "STEP leave1"; try dsimp only) | fail "no step"))
        unfold Hold
        refine inS N7 (by k_mem) f5 ?_
        (repeat' (first | (k_unfold; (try dsimp only)) | (k_end; wrow_close) | (first | ((with_reducible show wpAny _ _ (eval (Expr.ListComp _ _ _ _) _) _ _ _); (with_reducible refine holdIt ?_)) | ((with_reducible show wpAny _ _ (compareOp CmpOp.In _ _) _ _ _); (with_reducible refine holdIt ?_)) | ((with_reducible show wpAny _ _ (compareOp CmpOp.NotEq (Value.ref _) (Value.ref _)) _ _ _); (with_reducible refine holdIt ?_)) | ((with_reducible show wpAny _ _ (pyIter (Value.ref _)) _ _ _); (with_reducible refine holdIt ?_)) | ((with_reducible show wpAny _ _ (call (Value.ref _) _) _ _ _); (with_reducible refine holdIt ?_)) | ((with_reducible show Exists _); (with_reducible refine holdIt ?_)) | walk1) | (dsimp only; (first | ((with_reducible show wpAny _ _ (eval (Expr.ListComp _ _ _ _) _) _ _ _); (with_reducible refine holdIt ?_)) | ((with_reducible show wpAny _ _ (compareOp CmpOp.In _ _) _ _ _); (with_reducible refine holdIt ?_)) | ((with_reducible show wpAny _ _ (compareOp CmpOp.NotEq (Value.ref _) (Value.ref _)) _ _ _); (with_reducible refine holdIt ?_)) | ((with_reducible show wpAny _ _ (pyIter (Value.ref _)) _ _ _); (with_reducible refine holdIt ?_)) | ((with_reducible show wpAny _ _ (call (Value.ref _) _) _ _ _); (with_reducible refine holdIt ?_)) | ((with_reducible show Exists _); (with_reducible refine holdIt ?_)) | walk1)) | (leave1; walk_say "STEP leave1"; try dsimp only) | fail "no step"))
        · rename hasS _ _ = true => hh
          refine LCg.CompEnd.intro (by k_asm) N7 _ (fun p hp => hp) off (.inr ⟨_, .tail _ (.tail _ (.tail _ kr')), rfl, _, rfl⟩) ⟨rfl, ?_⟩
          simp only [List.take, List.filter] at hys' ⊢
          rw [List.length_append, hys']
          (repeat' split) <;> simp_all
        · rename hasS _ _ = false => hh
          refine LCg.CompEnd.intro (by k_asm) N7 _ (fun p hp => hp) off (.inr ⟨_, .tail _ (.tail _ (.tail _ kr')), rfl, _, rfl⟩) ⟨rfl, ?_⟩
          simp only [List.take, List.filter] at hys' ⊢
          rw [hys']
          (repeat' split) <;> simp_all
      · obtain rfl : Value.ref x2 = v := by simpa using hv
        refine (e2').el fun d9 la9 _ us9 _ _ _ _ _ _ _ _ _ _ _ f1 f2 f3 _ f5 => ?_
        (repeat' (first | (k_unfold; (try dsimp only)) | (k_end; wrow_close) | (first | ((with_reducible show wpAny _ _ (eval (Expr.ListComp _ _ _ _) _) _ _ _); (with_reducible refine holdIt ?_)) | ((with_reducible show wpAny _ _ (compareOp CmpOp.In _ _) _ _ _); (with_reducible refine holdIt ?_)) | ((with_reducible show wpAny _ _ (compareOp CmpOp.NotEq (Value.ref _) (Value.ref _)) _ _ _); (with_reducible refine holdIt ?_)) | ((with_reducible show wpAny _ _ (pyIter (Value.ref _)) _ _ _); (with_reducible refine holdIt ?_)) | ((with_reducible show wpAny _ _ (call (Value.ref _) _) _ _ _); (with_reducible refine holdIt ?_)) | ((with_reducible show Exists _); (with_reducible refine holdIt ?_)) | walk1) | (dsimp only; (first | ((with_reducible show wpAny _ _ (eval (Expr.ListComp _ _ _ _) _) _ _ _); (with_reducible refine holdIt ?_)) | ((with_reducible show wpAny _ _ (compareOp CmpOp.In _ _) _ _ _); (with_reducible refine holdIt ?_)) | ((with_reducible show wpAny _ _ (compareOp CmpOp.NotEq (Value.ref _) (Value.ref _)) _ _ _); (with_reducible refine holdIt ?_)) | ((with_reducible show wpAny _ _ (pyIter (Value.ref _)) _ _ _); (with_reducible refine holdIt ?_)) | ((with_reducible show wpAny _ _ (call (Value.ref _) _) _ _ _); (with_reducible refine holdIt ?_)) | ((with_reducible show Exists _); (with_reducible refine holdIt ?_)) | walk1)) | (leave1; walk_say "STEP leave1"; try dsimp only) | fail "no step"))
        unfold Hold
        refine inS N7 (by k_mem) f5 ?_
        (repeat' (first | (k_unfold; (try dsimp only)) | (k_end; wrow_close) | (first | ((with_reducible show wpAny _ _ (eval (Expr.ListComp _ _ _ _) _) _ _ _); (with_reducible refine holdIt ?_)) | ((with_reducible show wpAny _ _ (compareOp CmpOp.In _ _) _ _ _); (with_reducible refine holdIt ?_)) | ((with_reducible show wpAny _ _ (compareOp CmpOp.NotEq (Value.ref _) (Value.ref _)) _ _ _); (with_reducible refine holdIt ?_)) | ((with_reducible show wpAny _ _ (pyIter (Value.ref _)) _ _ _); (with_reducible refine holdIt ?_)) | ((with_reducible show wpAny _ _ (call (Value.ref _) _) _ _ _); (with_reducible refine holdIt ?_)) | ((with_reducible show Exists _); (with_reducible refine holdIt ?_)) | walk1) | (dsimp only; (first | ((with_reducible show wpAny _ _ (eval (Expr.ListComp _ _ _ _) _) _ _ _); (with_reducible refine holdIt ?_)) | ((with_reducible show wpAny _ _ (compareOp CmpOp.In _ _) _ _ _); (with_reducible refine holdIt ?_)) | ((with_reducible show wpAny _ _ (compareOp CmpOp.NotEq (Value.ref _) (Value.ref _)) _ _ _); (with_reducible refine holdIt ?_)) | ((with_reducible show wpAny _ _ (pyIter (Value.ref _)) _ _ _); (with_reducible refine holdIt ?_)) | ((with_reducible show wpAny _ _ (call (Value.ref _) _) _ _ _); (with_reducible refine holdIt ?_)) | ((with_reducible show Exists _); (with_reducible refine holdIt ?_)) | walk1)) | (leave1; walk_say "STEP leave1"; try dsimp only) | fail "no step"))
        · rename hasS _ _ = true => hh
          refine LCg.CompEnd.intro (by k_asm) N7 _ (fun p hp => hp) off (.inr ⟨_, .tail _ (.tail _ (.tail _ kr')), rfl, _, rfl⟩) ⟨rfl, ?_⟩
          simp only [List.take, List.filter] at hys' ⊢
          rw [List.length_append, hys']
          (repeat' split) <;> simp_all
        · rename hasS _ _ = false => hh
          refine LCg.CompEnd.intro (by k_asm) N7 _ (fun p hp => hp) off (.inr ⟨_, .tail _ (.tail _ (.tail _ kr')), rfl, _, rfl⟩) ⟨rfl, ?_⟩
          simp only [List.take, List.filter] at hys' ⊢
          rw [hys']
          (repeat' split) <;> simp_all
      · obtain rfl : Value.ref x3 = v := by simpa using hv
        refine (e3').el fun d9 la9 _ us9 _ _ _ _ _ _ _ _ _ _ _ f1 f2 f3 _ f5 => ?_
        (repeat' (first | (k_unfold; (try dsimp only)) | (k_end; wrow_close) | (first | ((with_reducible show wpAny _ _ (eval (Expr.ListComp _ _ _ _) _) _ _ _); (with_reducible refine holdIt ?_)) | ((with_reducible show wpAny _ _ (compareOp CmpOp.In _ _) _ _ _); (with_reducible refine holdIt ?_)) | ((with_reducible show wpAny _ _ (compareOp CmpOp.NotEq (Value.ref _) (Value.ref _)) _ _ _); (with_reducible refine holdIt ?_)) | ((with_reducible show wpAny _ _ (pyIter (Value.ref _)) _ _ _); (with_reducible refine holdIt ?_)) | ((with_reducible show wpAny _ _ (call (Value.ref _) _) _ _ _); (with_reducible refine holdIt ?_)) | ((with_reducible show Exists _); (with_reducible refine holdIt ?_)) | walk1) | (dsimp only; (first | ((with_reducible show wpAny _ _ (eval (Expr.ListComp _ _ _ _) _) _ _ _); (with_reducible refine holdIt ?_)) | ((with_reducible show wpAny _ _ (compareOp CmpOp.In _ _) _ _ _); (with_reducible refine holdIt ?_)) | ((with_reducible show wpAny _ _ (compareOp CmpOp.NotEq (Value.ref _) (Value.ref _)) _ _ _); (with_reducible refine holdIt ?_)) | ((with_reducible show wpAny _ _ (pyIter (Value.ref _)) _ _ _); (with_reducible refine holdIt ?_)) | ((with_reducible show wpAny _ _ (call (Value.ref _) _) _ _ _); (with_reducible refine holdIt ?_)) | ((with_reducible show Exists _); (with_reducible refine holdIt ?_)) | walk1)) | (leave1; walk_say "STEP leave1"; try dsimp only) | fail "no step"))
        unfold Hold
        refine inS N7 (by k_mem) f5 ?_
        (repeat' (first | (k_unfold; (try dsimp only)) | (k_end; wrow_close) | (first | ((with_reducible show wpAny _ _ (eval (Expr.ListComp _ _ _ _) _) _ _ _); (with_reducible refine holdIt ?_)) | ((with_reducible show wpAny _ _ (compareOp CmpOp.In _ _) _ _ _); (with_reducible refine holdIt ?_)) | ((with_reducible show wpAny _ _ (compareOp CmpOp.NotEq (Value.ref _) (Value.ref _)) _ _ _); (with_reducible refine holdIt ?_)) | ((with_reducible show wpAny _ _ (pyIter (Value.ref _)) _ _ _); (with_reducible refine holdIt ?_)) | ((with_reducible show wpAny _ _ (call (Value.ref _) _) _ _ _); (with_reducible refine holdIt ?_)) | ((with_reducible show Exists _); (with_reducible refine holdIt ?_)) | walk1) | (dsimp only; (first | ((with_reducible show wpAny _ _ (eval (Expr.ListComp _ _ _ _) _) _ _ _); (with_reducible refine holdIt ?_)) | ((with_reducible show wpAny _ _ (compareOp CmpOp.In _ _) _ _ _); (with_reducible refine holdIt ?_)) | ((with_reducible show wpAny _ _ (compareOp CmpOp.NotEq (Value.ref _) (Value.ref _)) _ _ _); (with_reducible refine holdIt ?_)) | ((with_reducible show wpAny _ _ (pyIter (Value.ref _)) _ _ _); (with_reducible refine holdIt ?_)) | ((with_reducible show wpAny _ _ (call (Value.ref _) _) _ _ _); (with_reducible refine holdIt ?_)) | ((with_reducible show Exists _); (with_reducible refine holdIt ?_)) | walk1)) | (leave1; walk_say "STEP leave1"; try dsimp only) | fail "no step"))
        · rename hasS _ _ = true => hh
          refine LCg.CompEnd.intro (by k_asm) N7 _ (fun p hp => hp) off (.inr ⟨_, .tail _ (.tail _ (.tail _ kr')), rfl, _, rfl⟩) ⟨rfl, ?_⟩
          simp only [List.take, List.filter] at hys' ⊢
          rw [List.length_append, hys']
          (repeat' split) <;> simp_all
        · rename hasS _ _ = false => hh
          refine LCg.CompEnd.intro (by k_asm) N7 _ (fun p hp => hp) off (.inr ⟨_, .tail _ (.tail _ (.tail _ kr')), rfl, _, rfl⟩) ⟨rfl, ?_⟩
          simp only [List.take, List.filter] at hys' ⊢
          rw [hys']
          (repeat' split) <;> simp_all
    · rintro ys' nw ⟨rfl, hys'⟩
      intro D' h' tk' F7 N7 off
      have hz' : ys'.length ≤ 3 := by rw [hys']; exact List.length_filter_le _ _
      have hys9 : (ys'.length : Int) = ((([ag1, ag2, ag3].filter fun a => hasS a (Str.ofString (toString (1 + (i : Int))))).length : Nat) : Int) := congrArg _ hys'
      (repeat' (first | (k_unfold; (try dsimp only)) | (k_end; wrow_close) | (first | ((with_reducible show wpAny _ _ (eval (Expr.ListComp _ _ _ _) _) _ _ _); (with_reducible refine holdIt ?_)) | ((with_reducible show wpAny _ _ (compareOp CmpOp.In _ _) _ _ _); (with_reducible refine holdIt ?_)) | ((with_reducible show wpAny _ _ (compareOp CmpOp.NotEq (Value.ref _) (Value.ref _)) _ _ _); (with_reducible refine holdIt ?_)) | ((with_reducible show wpAny _ _ (pyIter (Value.ref _)) _ _ _); (with_reducible refine holdIt ?_)) | ((with_reducible show wpAny _ _ (call (Value.ref _) _) _ _ _); (with_reducible refine holdIt ?_)) | ((with_reducible show Exists _); (with_reducible refine holdIt ?_)) | walk1) | (dsimp only; (first | ((with_reducible show wpAny _ _ (eval (Expr.ListComp _ _ _ _) _) _ _ _); (with_reducible refine holdIt ?_)) | ((with_reducible show wpAny _ _ (compareOp CmpOp.In _ _) _ _ _); (with_reducible refine holdIt ?_)) | ((with_reducible show wpAny _ _ (compareOp CmpOp.NotEq (Value.ref _) (Value.ref _)) _ _ _); (with_reducible refine holdIt ?_)) | ((with_reducible show wpAny _ _ (pyIter (Value.ref _)) _ _ _); (with_reducible refine holdIt ?_)) | ((with_reducible show wpAny _ _ (call (Value.ref _) _) _ _ _); (with_reducible refine holdIt ?_)) | ((with_reducible show Exists _); (with_reducible refine holdIt ?_)) | walk1)) | (leave1; walk_say "STEP leave1"; try dsimp only) | fail "no step"))
      refine lenL N7 (.head _) (by omega) ?_
      refine ⟨_, _, [], rfl, F7, newsSub N7 (fun p hp => .tail _ hp), (fun _ h => nomatch h), rfl, ?_⟩
      rw [hys9, show rangeKs 1 (i + 1) = rangeKs 1 i ++ [1 + (i : Int)] by simp [rangeKs, List.range_succ], List.map_append]
      exact ints_snoc hys
  · rintro ys tl g ⟨rfl, hys⟩ D h tk F7 N7 h1 h2
    simp only [List.nil_append] at N7
    have hD4 : @LT.lt Nat _ (L + 1 + 1 + 1 + 1) D := h1 _ (.head _)
    (repeat' (first | (k_unfold; (try dsimp only)) | (k_end; wrow_close) | (first | ((with_reducible show wpAny _ _ (eval (Expr.ListComp _ _ _ _) _) _ _ _); (with_reducible refine holdIt ?_)) | ((with_reducible show wpAny _ _ (compareOp CmpOp.In _ _) _ _ _); (with_reducible refine holdIt ?_)) | ((with_reducible show wpAny _ _ (compareOp CmpOp.NotEq (Value.ref _) (Value.ref _)) _ _ _); (with_reducible refine holdIt ?_)) | ((with_reducible show wpAny _ _ (pyIter (Value.ref _)) _ _ _); (with_reducible refine holdIt ?_)) | ((with_reducible show wpAny _ _ (call (Value.ref _) _) _ _ _); (with_reducible refine holdIt ?_)) | ((with_reducible show Exists _); (with_reducible refine holdIt ?_)) | walk1) | (dsimp only; (first | ((with_reducible show wpAny _ _ (eval (Expr.ListComp _ _ _ _) _) _ _ _); (with_reducible refine holdIt ?_)) | ((with_reducible show wpAny _ _ (compareOp CmpOp.In _ _) _ _ _); (with_reducible refine holdIt ?_)) | ((with_reducible show wpAny _ _ (compareOp CmpOp.NotEq (Value.ref _) (Value.ref _)) _ _ _); (with_reducible refine holdIt ?_)) | ((with_reducible show wpAny _ _ (pyIter (Value.ref _)) _ _ _); (with_reducible refine holdIt ?_)) | ((with_reducible show wpAny _ _ (call (Value.ref _) _) _ _ _); (with_reducible refine holdIt ?_)) | ((with_reducible show Exists _); (with_reducible refine holdIt ?_)) | walk1)) | (leave1; walk_say "STEP leave1"; try dsimp only) | fail "no step"))
    exact hq _ _ _ _ _ _ (by k_asm) (by assumption) hys (by k_asm) (fun p hp => h1 p (.tail _ hp))
end Mine
end

section
local macro_rules | `(tactic| walk_at "CompSrcT") => `(tactic| (with_reducible refine holdIt ?_))
section
local macro_rules | `(tactic| walk_at "subscriptTail") => `(tactic| ((with_reducible show wpAny _ _ (subscriptTail _ _ (Value.ref _) (Value.int _ _)) _ _ _); refine' itemL ?iN ?iM ?i0 ?i1 ?i2 ?_ ?i4; (case iN => k_asm); (case iM => k_mem); (case i0 => omega); (case i1 => omega); (case i2 => assumption); (case i4 => with_unfolding_all rfl)))
section
open PySem PySem.W PyProof.Rows
namespace Mine
theorem sec_S11 {M : Model} {A : Around} {E : Value → Shared → Prop} {s : Shared} {env : Env} {p : Pos} {Q : Flow → Shared → Prop} (h : Q .next s) : wpAny M A (exec (.Pass p) env) Q E s := by
  w_top off
  k_with_none
  walk1
  exact h
end Mine
end
section
open PySem PySem.W PyProof.Rows
set_option maxRecDepth 100000
set_option maxHeartbeats 2000000
namespace Mine
noncomputable def dueOf (cnt : List Int) (n : Nat) : List (Int × Int) := ((List.range n).filter fun j : Nat => decide (0 < cnt.getD j 0)).map fun j : Nat => (1 + (j : Int), (1 + (j : Int)) * cnt.getD j 0)
theorem dueOf_yes {cnt : List Int} {i : Nat} (h : 0 < cnt.getD i 0) : dueOf cnt (i + 1) = dueOf cnt i ++ [(1 + (i : Int), (1 + (i : Int)) * cnt.getD i 0)] := by
  unfold dueOf
  rw [List.range_succ, List.filter_append, List.map_append]
  simp only [List.filter, decide_eq_true h, List.map]
theorem dueOf_no {cnt : List Int} {i : Nat} (h : ¬ 0 < cnt.getD i 0) : dueOf cnt (i + 1) = dueOf cnt i := by
  unfold dueOf
  rw [List.range_succ, List.filter_append, List.map_append]
  simp only [List.filter, decide_eq_false h, List.map, List.append_nil]
theorem pairs_snoc {led : Led} {a : Addr} {i j : Int} {t1 t2 : Tok} {n : Nat} (hm : (a, tupObj #[.int i t1, .int j t2] n) ∈ led) : ∀ {vs : List Value} {rs : List (Int × Int)}, PairsAt led vs rs → PairsAt led (vs ++ [.ref a]) (rs ++ [(i, j)])
  | _, _, .nil => .cons hm .nil
  | _, _, .cons h r => .cons h (pairs_snoc hm r)
theorem mulOk_small {a b : Int} (h0 : 0 ≤ a) (h1 : a ≤ 1000) : IntMulOk a b := IntMulOk.of_left (intBits_le_64 (by omega) (by omega))
section
open PySem.Spec PyProof
noncomputable def row2 (r : Int × Int) : PyData := .tuple [.int r.1, .int r.2]
theorem reads_pairs {h₀ h : Heap} {L : Addr} {news led : Led} {vs : List Value} {rs : List (Int × Int)} (N : News h₀ L h news) (H : PairsAt led vs rs) (hs : ∀ p ∈ led, p ∈ news) : ∃ as, ReadsAll h vs (rs.map row2) as := by
  induction H with
  | nil => exact ⟨_, .nil⟩
  | cons hm _ ih =>
    obtain ⟨as, ha⟩ := ih
    have g := N _ (hs _ hm)
    exact ⟨_, .cons (reads_tuple_at g.1 rfl rfl (.cons (.int _ _) (.cons (.int _ _) .nil))) ha⟩
theorem eqv_row2 (r : Int × Int) : PyData.eqv (row2 r) (row2 r) = true := by simp [row2, PyData.eqv, PyData.eqvAll]
theorem eqv_pairs : ∀ rs : List (Int × Int), PyData.eqvAll (rs.map row2) (rs.map row2) = true
  | [] => rfl
  | r :: t => by simp [PyData.eqvAll, eqv_row2, eqv_pairs t]
theorem lay_pairs : ∀ rs : List (Int × Int), PyData.canLayAll0 (rs.map row2) = true
  | [] => rfl
  | r :: t => by simp [PyData.canLayAll0, row2, PyData.canLay0, lay_pairs t]
theorem depth_pairs : ∀ rs : List (Int × Int), PyData.depthAll (rs.map row2) ≤ 1
  | [] => Nat.zero_le _
  | r :: t => by
    have := depth_pairs t
    simp [PyData.depthAll, row2, PyData.depth]
    omega
theorem shaped_pairs (rs : List (Int × Int)) : SeqAt.shaped (.list (rs.map row2)) = true := by
  have := depth_pairs rs
  simp [SeqAt.shaped, PyData.canLay0, PyData.depth, lay_pairs]
  omega
theorem ne_pairs {prog : Program} {w : World} {A : Around} {E : Value → Shared → Prop} {s : Shared} {h₀ : Heap} {L a b : Addr} {news led led' : Led} {vs vs' : List Value} {rs : List (Int × Int)} {k k' : Nat} {Q : Value → Shared → Prop} (N : News h₀ L s.heap news) (ha : (a, W.listOf vs.toArray k) ∈ news) (hb : (b, W.listOf vs'.toArray k') ∈ news) (H : PairsAt led vs rs) (H' : PairsAt led' vs' rs) (hs : ∀ p ∈ led, p ∈ news) (hs' : ∀ p ∈ led', p ∈ news) (hu : A.units + 64 < cLine)
    (h : Q (.bool false) s) : wpAny (model prog w) A (compareOp .NotEq (.ref a) (.ref b)) Q E s := by
  obtain ⟨as, r1⟩ := reads_pairs N H hs
  obtain ⟨bs, r2⟩ := reads_pairs N H' hs'
  refine ne_dataH (reads_list_at (N _ ha).1 rfl rfl r1) (reads_list_at (N _ hb).1 rfl rfl r2) (shaped_pairs rs) (shaped_pairs rs) hu ?_
  have e : PyData.eqv (.list (rs.map row2)) (.list (rs.map row2)) = true := by simp only [PyData.eqv]; exact eqv_pairs rs
  rw [e]; exact h
end
local macro_rules | `(tactic| walk_at "binaryOp Mult int int") => `(tactic| ((with_reducible show wpAny _ _ (binaryOp Operator.Mult (Value.int _ _) (Value.int _ _)) _ _ _); refine mul_int ?_ (mulOk_small (by omega) (by omega))))
set_option maxHeartbeats 1000000 in
theorem seg15 (w : World) {dp un : Nat} {gd : Option (List Code)} {fa : Addr} {cd0 : Value} {outer : List Env} {A₀ : Around} {base h₀ : Heap} {L : Addr} {loose : List Str} {mean : ExcName → Option Value} {mg mb : Str → Option Value} {m : Str → Option Value} {s : Shared} {Q : Flow → Shared → Prop} {E : Value → Shared → Prop}
    (B : Below A₀ base outer h₀) (X : (hd.heap_39 w.params).In h₀) (T : Top topProg loose mean mg mb h₀) (hdp : dp + 8 < recursionLimit) (hu : un + 20 * 8 < cLine)
    {c4 : Obj} {D0 : Addr} {us : List Value} {cnt : List Int} {k : Nat} {led : Led} (hc4 : c4.data = .cell (some (.ref D0))) (k4 : (L + 1 + 1 + 1 + 1, c4) ∈ led) (kD : (D0, W.listOf us.toArray k) ∈ led) (hI : IntsAre us cnt) (hl : cnt.length = 10) (hb : ∀ c ∈ cnt, 0 ≤ c ∧ c ≤ 3)
    (F : Fr h₀ L s.heap m) (N : News h₀ L s.heap led)
    (hq : ∀ D ys k tl h' tk' m', Fr h₀ L h' m' → StM m m' (Str.ofString "due") (.ref D) → News h₀ L h' ((D, W.listOf (List.toArray ys) k) :: (tl ++ led)) → PairsAt tl ys (dueOf cnt 10) → Q .next { s with heap := h', toks := tk' }) :
    wpAny (model PySem.Challenge.rw_rs0140_02.prog w) (ktrTop dp un gd (Str.ofString "law") lawSc L fa cd0 (lawCl L) outer) (exec (lawStmt 15) (lawEnv L fa cd0)) Q E s := by
  refine exec_lawA (by conv => lhs; whnf) (by conv => lhs; whnf) ?_
  revert X
  k_fill
  intro X
  refine LCt.Assign_ListComp_T F rfl ?sw rfl (by decide) rfl (by decide) rfl rfl rfl ?_
  case sw => with_unfolding_all rfl
  (repeat' (first | (k_unfold; (try dsimp only)) | (k_end; wrow_close) | (first | ((with_reducible show wpAny _ _ (eval (Expr.ListComp _ _ _ _) _) _ _ _); (with_reducible refine holdIt ?_)) | ((with_reducible show wpAny _ _ (compareOp CmpOp.NotEq (Value.ref _) (Value.ref _)) _ _ _); (with_reducible refine holdIt ?_)) | ((with_reducible show Exists _); (with_reducible refine holdIt ?_)) | walk1) | (dsimp only; (first | ((with_reducible show wpAny _ _ (eval (Expr.ListComp _ _ _ _) _) _ _ _); (with_reducible refine holdIt ?_)) | ((with_reducible show wpAny _ _ (compareOp CmpOp.NotEq (Value.ref _) (Value.ref _)) _ _ _); (with_reducible refine holdIt ?_)) | ((with_reducible show Exists _); (with_reducible refine holdIt ?_)) | walk1)) | (leave1; walk_say "STEP leave1"; try dsimp only) | fail "no step"))
  unfold Hold
  rename IsRange _ _ _ _ _ _ _ _ => rg
  refine LCt.CompSrcT.range rfl (by k_asm) (by k_asm) rg (small_one (by omega) (by omega) (by omega) (by omega)) (n := 10) rfl (by rw [sizeLine_eq]; decide) ?_
  intro g5
  refine compTBy (fun i ys nw => ∃ tl, nw = tl ++ led ∧ PairsAt tl ys (dueOf cnt i)) ⟨[], rfl, .nil⟩ ?_ ?_
  · rintro i v I oI C oC D m₂ ys nw h tk E' hlt ⟨t, rfl⟩ ⟨tl, rfl, hys⟩ hC hx F6 N6 off ne
    have k4' : (L + 1 + 1 + 1 + 1, c4) ∈ tl ++ led := memR k4
    have kD' : (D0, W.listOf us.toArray k) ∈ tl ++ led := memR kD
    obtain ⟨cv, hcv⟩ : ∃ c, cnt[i]? = some c := ⟨_, List.getElem?_eq_getElem (by omega)⟩
    obtain ⟨cu, hcu⟩ := hI.get i cv hcv
    have hcb := hb cv (List.mem_of_getElem? hcv)
    have hgd : cnt.getD i 0 = cv := by simp [List.getD_eq_getElem?_getD, hcv]
    have hix : us[((1 + (i : Int)) - 1).toNat]? = some (.int cv cu) := by rw [show ((1 + (i : Int)) - 1).toNat = i by omega]; exact hcu
    have hti : ((1 + (i : Int)) - 1).toNat = i := by omega
    (repeat' (first | (k_unfold; (try dsimp only)) | (k_end; wrow_close) | (first | ((with_reducible show wpAny _ _ (eval (Expr.ListComp _ _ _ _) _) _ _ _); (with_reducible refine holdIt ?_)) | ((with_reducible show wpAny _ _ (compareOp CmpOp.NotEq (Value.ref _) (Value.ref _)) _ _ _); (with_reducible refine holdIt ?_)) | ((with_reducible show Exists _); (with_reducible refine holdIt ?_)) | walk1) | (dsimp only; (first | ((with_reducible show wpAny _ _ (eval (Expr.ListComp _ _ _ _) _) _ _ _); (with_reducible refine holdIt ?_)) | ((with_reducible show wpAny _ _ (compareOp CmpOp.NotEq (Value.ref _) (Value.ref _)) _ _ _); (with_reducible refine holdIt ?_)) | ((with_reducible show Exists _); (with_reducible refine holdIt ?_)) | walk1)) | (leave1; walk_say "STEP leave1"; try dsimp only) | fail "no step"))
    · rename 0 < List.getD _ _ _ => hpos
      rename_i T7 h7 F7 N7 l7
      rw [hti] at hpos N7
      refine LCg.CompEnd.intro F7 N7 ((T7, tupObj #[.int (1 + (i : Int)) t, .int ((1 + (i : Int)) * cnt.getD i 0) (tk + 1 + 1 + 1 + 1 + 1)] 0) :: (tl ++ led)) (fun p hp => ?_) ⟨⟨Nat.ne_of_gt l7.1, Nat.ne_of_gt l7.2.1, Nat.ne_of_gt l7.2.2.1⟩, off⟩ trivial ⟨(T7, tupObj #[.int (1 + (i : Int)) t, .int ((1 + (i : Int)) * cnt.getD i 0) (tk + 1 + 1 + 1 + 1 + 1)] 0) :: tl, rfl, ?_⟩
      · simp only [List.mem_cons] at hp ⊢; grind
      · rw [dueOf_yes hpos]
        exact pairs_snoc (.head _) (hys.mono fun p hp => .tail _ hp)
    · rename ¬ 0 < List.getD _ _ _ => hneg
      rw [hti] at hneg
      exact LCg.CompEnd.intro F6 N6 _ (fun p hp => hp) off trivial ⟨tl, rfl, by rw [dueOf_no hneg]; exact hys⟩
  · rintro ys nw ⟨tl, rfl, hys⟩
    intro D h tk F7 N7 h1
    exact hq D ys _ tl h tk _ F7 ⟨if_pos rfl, by (intro y hy; (try dsimp only); (repeat' split) <;> first | exact absurd (by assumption) hy | rfl | (subst_vars; exact Eq.symm (by assumption)))⟩ N7 hys
noncomputable def rowPair (r : Int × Int × Int) : Int × Int := (r.1, r.2.2 - r.2.1)
theorem seg16 (w : World) {dp un : Nat} {gd : Option (List Code)} {fa : Addr} {cd0 : Value} {outer : List Env} {A₀ : Around} {base h₀ : Heap} {L : Addr} {loose : List Str} {mean : ExcName → Option Value} {mg mb : Str → Option Value} {m : Str → Option Value} {s : Shared} {Q : Flow → Shared → Prop} {E : Value → Shared → Prop}
    (B : Below A₀ base outer h₀) (X : (hd.heap_39 w.params).In h₀) (T : Top topProg loose mean mg mb h₀) (hdp : dp + 8 < recursionLimit) (hu : un + 20 * 8 < cLine)
    {aw ad : Addr} {vs ys : List Value} {rows : List (Int × Int × Int)} {k kd : Nat} {led : Led} (hmW : m (Str.ofString "rows") = some (.ref aw)) (hmD : m (Str.ofString "due") = some (.ref ad)) (kW : (aw, W.listOf vs.toArray k) ∈ led) (hW : RowsAt led vs rows) (hn : rows.length ≤ 1000) (kD : (ad, W.listOf ys.toArray kd) ∈ led) (hD : PairsAt led ys (rows.map rowPair))
    (F : Fr h₀ L s.heap m) (N : News h₀ L s.heap led)
    (hq : ∀ h' tk', Fr h₀ L h' m → News h₀ L h' led → Q .next { s with heap := h', toks := tk' }) :
    wpAny (model PySem.Challenge.rw_rs0140_02.prog w) (ktrTop dp un gd (Str.ofString "law") lawSc L fa cd0 (lawCl L) outer) (exec (lawStmt 16) (lawEnv L fa cd0)) Q E s := by
  refine exec_lawI (by conv => lhs; whnf) (by conv => lhs; whnf) ?_
  revert X
  k_fill
  intro X
  have hps : ∀ p ∈ [(Str.ofString "rows", Value.ref aw), (Str.ofString "due", .ref ad)], m p.1 = some p.2 := List.forall_mem_cons.mpr ⟨hmW, List.forall_mem_cons.mpr ⟨hmD, fun _ h => nomatch h⟩⟩
  replace F := frWith _ hps F
  dsimp only [kstB] at F
  (repeat' (first | (k_unfold; (try dsimp only)) | (k_end; wrow_close) | (first | ((with_reducible show wpAny _ _ (eval (Expr.ListComp _ _ _ _) _) _ _ _); (with_reducible refine holdIt ?_)) | ((with_reducible show wpAny _ _ (compareOp CmpOp.NotEq (Value.ref _) (Value.ref _)) _ _ _); (with_reducible refine holdIt ?_)) | ((with_reducible show Exists _); (with_reducible refine holdIt ?_)) | walk1) | (dsimp only; (first | ((with_reducible show wpAny _ _ (eval (Expr.ListComp _ _ _ _) _) _ _ _); (with_reducible refine holdIt ?_)) | ((with_reducible show wpAny _ _ (compareOp CmpOp.NotEq (Value.ref _) (Value.ref _)) _ _ _); (with_reducible refine holdIt ?_)) | ((with_reducible show Exists _); (with_reducible refine holdIt ?_)) | walk1)) | (leave1; walk_say "STEP leave1"; try dsimp only) | fail "no step"))
  unfold Hold
  refine LCg.ListComp_U F rfl (by decide) rfl (by decide) rfl ?_
  walk1
  have hvl := hW.length
  refine LCg.CompSrc.ledger rfl (by k_asm) (by k_asm) kW (by rw [sizeLine_eq]; simp; omega) ?_
  intro g5
  refine compBy (fun i ys nw => ∃ tl, nw = tl ++ led ∧ PairsAt tl ys ((rows.map rowPair).take i)) ⟨[], rfl, .nil⟩ ?_ ?_
  · rintro i v I oI C oC D m₂ ys nw h tk E' hlt hv ⟨tl, rfl, hys⟩ hC hx F6 N6 off ne
    obtain ⟨a, t1, t2, t3, n, r, rfl, hr, hm⟩ := hW.at (by simpa using hv)
    have hm' := (memR hm : _ ∈ tl ++ led)
    (repeat' (first | (k_unfold; (try dsimp only)) | (k_end; wrow_close) | (first | ((with_reducible show wpAny _ _ (eval (Expr.ListComp _ _ _ _) _) _ _ _); (with_reducible refine holdIt ?_)) | ((with_reducible show wpAny _ _ (compareOp CmpOp.NotEq (Value.ref _) (Value.ref _)) _ _ _); (with_reducible refine holdIt ?_)) | ((with_reducible show Exists _); (with_reducible refine holdIt ?_)) | walk1) | (dsimp only; (first | ((with_reducible show wpAny _ _ (eval (Expr.ListComp _ _ _ _) _) _ _ _); (with_reducible refine holdIt ?_)) | ((with_reducible show wpAny _ _ (compareOp CmpOp.NotEq (Value.ref _) (Value.ref _)) _ _ _); (with_reducible refine holdIt ?_)) | ((with_reducible show Exists _); (with_reducible refine holdIt ?_)) | walk1)) | (leave1; walk_say "STEP leave1"; try dsimp only) | fail "no step"))
    rename_i T7 h7 F7 N7 l7
    refine LCg.CompEnd.intro F7 N7 ((T7, tupObj #[.int r.1 t1, .int (r.2.2 - r.2.1) (tk + 1 + 1 + 1)] 0) :: (tl ++ led)) (fun p hp => ?_) ⟨⟨Nat.ne_of_gt l7.1, Nat.ne_of_gt l7.2.1, Nat.ne_of_gt l7.2.2.1⟩, off⟩ (.inr ⟨_, .tail _ (memR kW), rfl, _, rfl⟩) ⟨(T7, tupObj #[.int r.1 t1, .int (r.2.2 - r.2.1) (tk + 1 + 1 + 1)] 0) :: tl, rfl, ?_⟩
    · simp only [List.mem_cons] at hp ⊢; grind
    · rw [take_succ_of (a := rowPair r) (by rw [List.getElem?_map, hr]; rfl)]
      exact pairs_snoc (.head _) (hys.mono fun p hp => .tail _ hp)
  · rintro ys nw ⟨tl, rfl, hys⟩
    intro D h tk F5 N5 off
    rw [List.take_of_length_le (by simp; omega)] at hys
    (repeat' (first | (k_unfold; (try dsimp only)) | (k_end; wrow_close) | (first | ((with_reducible show wpAny _ _ (eval (Expr.ListComp _ _ _ _) _) _ _ _); (with_reducible refine holdIt ?_)) | ((with_reducible show wpAny _ _ (compareOp CmpOp.NotEq (Value.ref _) (Value.ref _)) _ _ _); (with_reducible refine holdIt ?_)) | ((with_reducible show Exists _); (with_reducible refine holdIt ?_)) | walk1) | (dsimp only; (first | ((with_reducible show wpAny _ _ (eval (Expr.ListComp _ _ _ _) _) _ _ _); (with_reducible refine holdIt ?_)) | ((with_reducible show wpAny _ _ (compareOp CmpOp.NotEq (Value.ref _) (Value.ref _)) _ _ _); (with_reducible refine holdIt ?_)) | ((with_reducible show Exists _); (with_reducible refine holdIt ?_)) | walk1)) | (leave1; walk_say "STEP leave1"; try dsimp only) | fail "no step"))
    unfold Hold
    refine ne_pairs N5 (.head _) (.tail _ (memR kD)) hys hD (fun p hp => .tail _ (memL hp)) (fun p hp => .tail _ (memR hp)) (by units_room) ?_
    (repeat' (first | (k_unfold; (try dsimp only)) | (k_end; wrow_close) | (first | ((with_reducible show wpAny _ _ (eval (Expr.ListComp _ _ _ _) _) _ _ _); (with_reducible refine holdIt ?_)) | ((with_reducible show wpAny _ _ (compareOp CmpOp.NotEq (Value.ref _) (Value.ref _)) _ _ _); (with_reducible refine holdIt ?_)) | ((with_reducible show Exists _); (with_reducible refine holdIt ?_)) | walk1) | (dsimp only; (first | ((with_reducible show wpAny _ _ (eval (Expr.ListComp _ _ _ _) _) _ _ _); (with_reducible refine holdIt ?_)) | ((with_reducible show wpAny _ _ (compareOp CmpOp.NotEq (Value.ref _) (Value.ref _)) _ _ _); (with_reducible refine holdIt ?_)) | ((with_reducible show Exists _); (with_reducible refine holdIt ?_)) | walk1)) | (leave1; walk_say "STEP leave1"; try dsimp only) | fail "no step"))
    exact hq _ _ (frBack _ hps (by k_asm)) (newsSub N5 fun p hp => .tail _ (memR hp))
end Mine
end

section
local macro_rules | `(tactic| walk_at "exec For Tuple Call") => `(tactic| (k_here; (with_unfolding_all refine' For_S ?_ (hE := (by assumption)))))
section
local macro_rules | `(tactic| walk_at "binaryOp Add ref ref") => `(tactic| (k_here; (with_reducible show wpAny _ _ (binaryOp _ (Value.ref _) (Value.ref _)) _ _ _); k_dflt (refine' addN ?k1 ?k2 ?k3 ?k4 ?k5 ?_; (case k1 => k_asm); (case k2 => k_asm); (case k3 => k_mem); (case k4 => k_mem); (case k5 => exact Nat.le_of_ble_eq_true rfl); k_whole); intro D' h' F' N' l1; (try k_lt l1); (try k_sweep)))
section
local macro_rules | `(tactic| walk_at "CompSrc") => `(tactic| (with_reducible refine holdIt ?_))
section
open PySem PySem.W PyProof.Rows
namespace Mine
theorem sec_S12 {M : Model} {A : Around} {E : Value → Shared → Prop} {s : Shared} {env : Env} {p : Pos} {Q : Flow → Shared → Prop} (h : Q .next s) : wpAny M A (exec (.Pass p) env) Q E s := by
  w_top off
  k_with_none
  walk1
  exact h
end Mine
end
section
open PySem PySem.W PyProof.Rows
set_option maxRecDepth 100000
set_option maxHeartbeats 2000000
namespace Mine
theorem StrsAre.at' : ∀ {vs : List Value} {ns : List Str}, StrsAre vs ns → ∀ (i : Nat) (v : Value), vs[i]? = some v → ∃ n t, v = .str n t ∧ ns[i]? = some n
  | _, _, .nil => fun i v e => by simp at e
  | _, _, .cons x t r => fun i v e => by
    cases i with
    | zero => simp at e; exact ⟨x, t, e.symm, rfl⟩
    | succ i => exact StrsAre.at' r i v (by simpa using e)
section
open PySem.Spec PyProof
theorem reads_strs {h : Heap} {vs : List Value} {ns : List Str} (H : StrsAre vs ns) : ∃ as, ReadsAll h vs (ns.map PyData.str) as := by
  induction H with
  | nil => exact ⟨_, .nil⟩
  | cons x t _ ih => obtain ⟨as, ha⟩ := ih; exact ⟨_, .cons (.str _ _) ha⟩
theorem eqv_strs : ∀ rs : List Str, PyData.eqvAll (rs.map .str) (rs.map .str) = true
  | [] => rfl
  | r :: t => by simp [PyData.eqvAll, PyData.eqv, eqv_strs t]
theorem lay_strs : ∀ rs : List Str, (∀ r ∈ rs, PyData.strOk r = true) → PyData.canLayAll0 (rs.map .str) = true
  | [], _ => rfl
  | r :: t, h => by simp [PyData.canLayAll0, PyData.canLay0, lay_strs t fun x hx => h x (.tail _ hx), h r (.head _)]
theorem depth_strs : ∀ rs : List Str, PyData.depthAll (rs.map .str) ≤ 1
  | [] => Nat.zero_le _
  | r :: t => by
    have := depth_strs t
    simp [PyData.depthAll, PyData.depth]
    omega
theorem shaped_strs (rs : List Str) (hok : ∀ r ∈ rs, PyData.strOk r = true) : SeqAt.shaped (.list (rs.map .str)) = true := by
  have := depth_strs rs
  simp [SeqAt.shaped, PyData.canLay0, PyData.depth, lay_strs rs hok]
  omega
theorem ne_strs {prog : Program} {w : World} {A : Around} {E : Value → Shared → Prop} {s : Shared} {h₀ : Heap} {L a b : Addr} {news : Led} {vs vs' : List Value} {rs : List Str} {k k' : Nat} {Q : Value → Shared → Prop} (N : News h₀ L s.heap news) (ha : (a, W.listOf vs.toArray k) ∈ news) (hb : (b, W.listOf vs'.toArray k') ∈ news) (H : StrsAre vs rs) (H' : StrsAre vs' rs) (hok : ∀ r ∈ rs, PyData.strOk r = true) (hu : A.units + 64 < cLine)
    (h : Q (.bool false) s) : wpAny (model prog w) A (compareOp .NotEq (.ref a) (.ref b)) Q E s := by
  obtain ⟨as, r1⟩ := reads_strs H
  obtain ⟨bs, r2⟩ := reads_strs H'
  refine ne_dataH (reads_list_at (N _ ha).1 rfl rfl r1) (reads_list_at (N _ hb).1 rfl rfl r2) (shaped_strs rs hok) (shaped_strs rs hok) hu ?_
  have e : PyData.eqv (.list (rs.map .str)) (.list (rs.map .str)) = true := by simp only [PyData.eqv]; exact eqv_strs rs
  rw [e]; exact h
end
noncomputable abbrev strN (z : Int) : Str := Str.ofString (toString z)
theorem strN_ok {zs : List Int} (h : ∀ z ∈ zs, 1 ≤ z ∧ z ≤ 10) : ∀ r ∈ zs.map strN, PyData.strOk r = true := by
  intro r hr
  obtain ⟨z, hz, rfl⟩ := List.mem_map.mp hr
  have k : ∀ z ∈ [(1 : Int), 2, 3, 4, 5, 6, 7, 8, 9, 10], PyData.strOk (strN z) = true := by decide +kernel
  exact k z (in10 (h z hz))
structure GC where
  gs : List Value
  k : Nat
  co : Obj
noncomputable def fts : List Int := [0, 1, 2, 2, 0, 1, 0]
theorem fts_small {i : Nat} {f : Int} (h : fts[i]? = some f) : 0 ≤ f ∧ f ≤ 2 := by
  have : ∀ f ∈ fts, 0 ≤ f ∧ f ≤ 2 := by decide
  exact this f (List.mem_of_getElem? h)
theorem seg11 (w : World) {dp un : Nat} {gd : Option (List Code)} {fa : Addr} {cd0 : Value} {outer : List Env} {A₀ : Around} {base h₀ : Heap} {L : Addr} {loose : List Str} {mean : ExcName → Option Value} {mg mb : Str → Option Value} {m : Str → Option Value} {s : Shared} {Q : Flow → Shared → Prop} {E : Value → Shared → Prop}
    (B : Below A₀ base outer h₀) (X : (hd.heap_39 w.params).In h₀) (T : Top topProg loose mean mg mb h₀) (hdp : dp + 8 < recursionLimit) (hu : un + 20 * 8 < cLine)
    (hE : PassesOwn (model PySem.Challenge.rw_rs0140_02.prog w) (ktrTop dp un gd (Str.ofString "law") lawSc L fa cd0 (lawCl L) outer) (lawEnv L fa cd0) E)
    {c2 c3 : Obj} {lr lp lg ao x1 x2 x3 z1 z2 z3 wz : Addr} {zs : Nat → List Int} {mo : Nat → Int} {ys : List Value} {szs : List (List Int)} {k kp ko : Nat} {KK : Led}
    (hmP : m (Str.ofString "pairs") = some (.ref lp)) (hmO : m (Str.ofString "orders") = some (.ref ao)) (hmW : m (Str.ofString "whole") = some (.ref wz)) (hmG : m (Str.ofString "greatest") = some (.ref lg))
    (hc2 : c2.data = .cell (some (.ref lr))) (hc3 : ∃ v, c3.data = .cell v) (k2 : (L + 1 + 1, c2) ∈ KK) (kr : (lr, W.listOf #[.ref x1, .ref x2, .ref x3] k) ∈ KK) (kpp : (lp, W.listOf #[.ref z1, .ref z2, .ref z3] kp) ∈ KK) (kO : (ao, W.listOf ys.toArray ko) ∈ KK)
    (hys : ∀ (i : Nat) y, ys[i]? = some y → ∃ d us kd sz, y = .ref d ∧ szs[i]? = some sz ∧ (d, W.listOf us.toArray kd) ∈ KK ∧ IntsAre us sz ∧ (∀ z ∈ sz, 1 ≤ z ∧ z ≤ 10) ∧ sz.length ≤ 10) (hyl : ys.length = 3)
    (hEn : ∀ (i : Nat) x, [Value.ref x1, .ref x2, .ref x3, .ref z1, .ref z2, .ref z3, .ref wz][i]? = some x → ∃ a rv, x = .ref a ∧ EntAt KK a ((zs i).map strN) rv)
    (hz : ∀ i < 7, (zs i).length ≤ 10 ∧ ∀ z ∈ zs i, 1 ≤ z ∧ z ≤ 10) (hmax : ∀ i < 7, mo i ∈ zs i ∧ ∀ z ∈ zs i, z ≤ mo i)
    (hdiv : ∀ i f sz, fts[i]? = some f → szs[f.toNat]? = some sz → (sz.filter fun z => decide (Int.fmod (mo i) z = 0)) = zs i)
    (F : Fr h₀ L s.heap m) (N : News h₀ L s.heap ((lg, W.listOf #[] 0) :: (L + 1 + 1 + 1, c3) :: KK)) (hne : ∀ p ∈ KK, p.1 ≠ lg) (hne3 : ∀ p ∈ KK, p.1 ≠ L + 1 + 1 + 1) (hlg : @LT.lt Nat _ (L + 1 + 1 + 1) lg)
    (hq : ∀ gs k co h' tk' m', Fr h₀ L h' m' → (∀ y, y ∉ [Str.ofString "record", Str.ofString "first"] → m' y = m y) → News h₀ L h' ((lg, W.listOf (List.toArray gs) k) :: (L + 1 + 1 + 1, co) :: KK) → IntsAre gs ((List.range 7).map mo) → Q .next { s with heap := h', toks := tk' }) :
    wpAny (model PySem.Challenge.rw_rs0140_02.prog w) (ktrTop dp un gd (Str.ofString "law") lawSc L fa cd0 (lawCl L) outer) (exec (lawStmt 11) (lawEnv L fa cd0)) Q E s := by
  refine exec_lawFE (by conv => lhs; whnf) (by conv => lhs; whnf) hE ?_
  clear hE
  revert X
  k_fill
  intro X hE
  obtain ⟨cv3, hcv3⟩ := hc3
  have hps : ∀ p ∈ [(Str.ofString "pairs", Value.ref lp), (Str.ofString "orders", .ref ao), (Str.ofString "whole", .ref wz), (Str.ofString "greatest", .ref lg)], m p.1 = some p.2 := List.forall_mem_cons.mpr ⟨hmP, List.forall_mem_cons.mpr ⟨hmO, List.forall_mem_cons.mpr ⟨hmW, List.forall_mem_cons.mpr ⟨hmG, fun _ h => nomatch h⟩⟩⟩⟩
  replace F := frWith _ hps F
  dsimp only [kstB] at F
  (repeat' (first | (k_unfold; (try dsimp only)) | (k_end; wrow_close) | (first | ((with_reducible show wpAny _ _ (call (Value.type "zip") _) _ _ _); (with_reducible refine holdIt ?_)) | ((with_reducible show wpAny _ _ (eval (Expr.ListComp _ _ _ _) _) _ _ _); (with_reducible refine holdIt ?_)) | ((with_reducible show wpAny _ _ (compareOp CmpOp.NotEq (Value.ref _) (Value.ref _)) _ _ _); (with_reducible refine holdIt ?_)) | ((with_reducible show Exists _); (with_reducible refine holdIt ?_)) | ((with_reducible show wpAny _ _ (call (Value.builtin "max") _) _ _ _); (with_reducible refine holdIt ?_)) | (k_here; (with_reducible show wpAny _ _ (call (Value.type _) [Value.str _ _]) _ _ _); refine KIN.call_num (by omega) (by omega) ?_) | walk1) | (dsimp only; (first | ((with_reducible show wpAny _ _ (call (Value.type "zip") _) _ _ _); (with_reducible refine holdIt ?_)) | ((with_reducible show wpAny _ _ (eval (Expr.ListComp _ _ _ _) _) _ _ _); (with_reducible refine holdIt ?_)) | ((with_reducible show wpAny _ _ (compareOp CmpOp.NotEq (Value.ref _) (Value.ref _)) _ _ _); (with_reducible refine holdIt ?_)) | ((with_reducible show Exists _); (with_reducible refine holdIt ?_)) | ((with_reducible show wpAny _ _ (call (Value.builtin "max") _) _ _ _); (with_reducible refine holdIt ?_)) | (k_here; (with_reducible show wpAny _ _ (call (Value.type _) [Value.str _ _]) _ _ _); refine KIN.call_num (by omega) (by omega) ?_) | walk1)) | (leave1; walk_say "STEP leave1"; try dsimp only) | fail "no step"))
  unfold Hold
  rename_i D1 h1 l1 W1 h2 l2 D2 h3 l3 T7 h7 F7 N7 l7

  obtain ⟨fv, hI, N8⟩ : ∃ fv, IntsAre fv fts ∧ News h₀ L h7 ((T7, tupObj fv.toArray 0) :: (D2, W.listOf [Value.ref x1, .ref x2, .ref x3, .ref z1, .ref z2, .ref z3, .ref wz].toArray 0) :: (W1, W.listOf #[.ref wz] 0) :: (D1, W.listOf ([Value.ref x1, Value.ref x2, Value.ref x3] ++ [Value.ref z1, Value.ref z2, Value.ref z3]).toArray 0) :: (lg, W.listOf #[] 0) :: (L + 1 + 1 + 1, c3) :: KK) := ⟨_, .cons _ _ (.cons _ _ (.cons _ _ (.cons _ _ (.cons _ _ (.cons _ _ (.cons _ _ .nil)))))), N7⟩
  obtain ⟨KQ, hKs, kQ1, kQ2, hneQ, hneQ3, N9⟩ : ∃ KQ, (∀ p ∈ KK, p ∈ KQ) ∧ (D2, W.listOf [Value.ref x1, .ref x2, .ref x3, .ref z1, .ref z2, .ref z3, .ref wz].toArray 0) ∈ KQ ∧ (T7, tupObj fv.toArray 0) ∈ KQ ∧ (∀ p ∈ KQ, p.1 ≠ lg) ∧ (∀ p ∈ KQ, p.1 ≠ L + 1 + 1 + 1) ∧ News h₀ L h7 ((lg, W.listOf #[] 0) :: (L + 1 + 1 + 1, c3) :: KQ) := by
    refine ⟨(T7, tupObj fv.toArray 0) :: (D2, W.listOf [Value.ref x1, .ref x2, .ref x3, .ref z1, .ref z2, .ref z3, .ref wz].toArray 0) :: KK, fun p hp => .tail _ (.tail _ hp), .tail _ (.head _), .head _, ?_, ?_, newsSub N8 fun p hp => ?_⟩
    · exact allCons (Nat.ne_of_gt l7.2.2.2.1) (allCons (Nat.ne_of_gt l3.2.2.1) hne)
    · exact allCons (Nat.ne_of_gt l7.2.2.2.2.1) (allCons (Nat.ne_of_gt l3.2.2.2.1) hne3)
    · simp only [List.mem_cons] at hp ⊢; grind
  clear N8 N7 l7 l3 l2 l1
  have hil := hI.length
  refine' zipLT (σ := GC) (xs := [Value.ref x1, .ref x2, .ref x3, .ref z1, .ref z2, .ref z3, .ref wz]) (ys := fv) (fun c => (lg, W.listOf c.gs.toArray c.k) :: (L + 1 + 1 + 1, c.co) :: KQ) (fun _ => []) [Str.ofString "record", Str.ofString "first"] (fun Z i c => c.gs.length = i ∧ IntsAre c.gs ((List.range i).map mo) ∧ ∃ v, c.co.data = .cell v) (fun c => IntsAre c.gs ((List.range 7).map mo)) (HT s) ⟨[], 0, c3⟩ rfl hil.symm (fun c => .tail _ (.tail _ kQ1)) (fun c => .tail _ (.tail _ kQ2)) ?hr HT.move F7 N9 ?hk ?hp ?turn ?done ?fin
  case hr => exact HT.mk
  case hk => exact fun _ h => nomatch h
  case hp => exact fun Z hZ => ⟨rfl, .nil, _, hcv3⟩
  case done => exact fun Z c h => h.2.1
  case turn =>
    rintro Z hZ hLZ c i T x y u s₁ o4 o3 o2 o1 o0 hx hy ⟨g0, g1, v3, g2⟩ hoff hT hS F' N'
    obtain ⟨a, rv, rfl, hEa⟩ := hEn i x hx
    obtain ⟨f, tf, rfl, hf⟩ := hI.at i y hy
    have hf2 := fts_small hf
    have hi7 : i < 7 := (List.getElem?_eq_some_iff.mp hx).1
    obtain ⟨yd, hyd⟩ : ∃ yd, ys[f.toNat]? = some yd := ⟨_, List.getElem?_eq_getElem (by omega)⟩
    obtain ⟨d, us, kd, sz, rfl, hsz, hmd, hIu, hzb, hzl⟩ := hys _ _ hyd
    have hdv := hdiv i f sz hf hsz
    obtain ⟨hzl1, hzb1⟩ := hz i hi7
    obtain ⟨hm1, hm2⟩ := hmax i hi7
    dsimp only [kstB] at F'
    clear hq N9 F7 hys hdiv hz hmax hEn hI
    have kO' := hKs _ kO
    have kd' := hKs _ hmd
    refine (hEa.mono hKs).el fun d9 la9 _ us9 _ _ _ _ _ _ _ _ _ _ _ f1 f2 f3 _ f5 => ?_
    have lgZ : @LT.lt Nat _ lg Z := hZ _ (.head _)
    (repeat' (first | (k_unfold; (try dsimp only)) | (k_end; wrow_close) | (first | ((with_reducible show wpAny _ _ (call (Value.type "zip") _) _ _ _); (with_reducible refine holdIt ?_)) | ((with_reducible show wpAny _ _ (eval (Expr.ListComp _ _ _ _) _) _ _ _); (with_reducible refine holdIt ?_)) | ((with_reducible show wpAny _ _ (compareOp CmpOp.NotEq (Value.ref _) (Value.ref _)) _ _ _); (with_reducible refine holdIt ?_)) | ((with_reducible show Exists _); (with_reducible refine holdIt ?_)) | ((with_reducible show wpAny _ _ (call (Value.builtin "max") _) _ _ _); (with_reducible refine holdIt ?_)) | (k_here; (with_reducible show wpAny _ _ (call (Value.type _) [Value.str _ _]) _ _ _); refine KIN.call_num (by omega) (by omega) ?_) | walk1) | (dsimp only; (first | ((with_reducible show wpAny _ _ (call (Value.type "zip") _) _ _ _); (with_reducible refine holdIt ?_)) | ((with_reducible show wpAny _ _ (eval (Expr.ListComp _ _ _ _) _) _ _ _); (with_reducible refine holdIt ?_)) | ((with_reducible show wpAny _ _ (compareOp CmpOp.NotEq (Value.ref _) (Value.ref _)) _ _ _); (with_reducible refine holdIt ?_)) | ((with_reducible show Exists _); (with_reducible refine holdIt ?_)) | ((with_reducible show wpAny _ _ (call (Value.builtin "max") _) _ _ _); (with_reducible refine holdIt ?_)) | (k_here; (with_reducible show wpAny _ _ (call (Value.type _) [Value.str _ _]) _ _ _); refine KIN.call_num (by omega) (by omega) ?_) | walk1)) | (leave1; walk_say "STEP leave1"; try dsimp only) | fail "no step"))
    unfold Hold
    rename Fr _ _ _ _ => F5
    rename News _ _ _ _ => N5
    have ⟨NL, hNL, N6⟩ : ∃ NL, NL = _ ∧ News _ _ _ NL := ⟨_, rfl, N5⟩
    have s9 : ∀ p ∈ KQ, p ∈ NL := by intro p hp; rw [hNL]; exact .tail _ (.tail _ (.tail _ (.tail _ (.tail _ (.tail _ (.tail _ (.tail _ hp)))))))
    have hm3 := s9 _ f3
    have hm4 := s9 _ f1
    have hm5 := s9 _ f2
    have h9l := f5.length
    rw [List.length_map] at h9l
    have hL3Z : @LT.lt Nat _ (L + 1 + 1 + 1) Z := hZ _ (.tail _ (.head _))
    refine LCg.ListComp_U F5 rfl (by decide) rfl (by decide) rfl ?_
    clear N5
    (repeat' (first | (k_unfold; (try dsimp only)) | (k_end; wrow_close) | (first | ((with_reducible show wpAny _ _ (call (Value.type "zip") _) _ _ _); (with_reducible refine holdIt ?_)) | ((with_reducible show wpAny _ _ (eval (Expr.ListComp _ _ _ _) _) _ _ _); (with_reducible refine holdIt ?_)) | ((with_reducible show wpAny _ _ (compareOp CmpOp.NotEq (Value.ref _) (Value.ref _)) _ _ _); (with_reducible refine holdIt ?_)) | ((with_reducible show Exists _); (with_reducible refine holdIt ?_)) | ((with_reducible show wpAny _ _ (call (Value.builtin "max") _) _ _ _); (with_reducible refine holdIt ?_)) | (k_here; (with_reducible show wpAny _ _ (call (Value.type _) [Value.str _ _]) _ _ _); refine KIN.call_num (by omega) (by omega) ?_) | walk1) | (dsimp only; (first | ((with_reducible show wpAny _ _ (call (Value.type "zip") _) _ _ _); (with_reducible refine holdIt ?_)) | ((with_reducible show wpAny _ _ (eval (Expr.ListComp _ _ _ _) _) _ _ _); (with_reducible refine holdIt ?_)) | ((with_reducible show wpAny _ _ (compareOp CmpOp.NotEq (Value.ref _) (Value.ref _)) _ _ _); (with_reducible refine holdIt ?_)) | ((with_reducible show Exists _); (with_reducible refine holdIt ?_)) | ((with_reducible show wpAny _ _ (call (Value.builtin "max") _) _ _ _); (with_reducible refine holdIt ?_)) | (k_here; (with_reducible show wpAny _ _ (call (Value.type _) [Value.str _ _]) _ _ _); refine KIN.call_num (by omega) (by omega) ?_) | walk1)) | (leave1; walk_say "STEP leave1"; try dsimp only) | fail "no step"))
    unfold Hold
    rename Fr _ _ _ _ => F7
    rename News _ _ _ _ => N7
    refine LCg.CompSrc.ledger rfl F7 N7 hm3 (by rw [sizeLine_eq]; simp; omega) ?_
    intro g5
    refine compBy (fun i' ys' nw => nw = NL ∧ IntsAre ys' ((zs i).take i')) ⟨rfl, .nil⟩ ?_ ?_
    · rintro i' v I oI C oC D m₂ ys' nw h tk E' hlt hv ⟨rfl, hys'⟩ hC hx' F8 N8 off ne
      obtain ⟨q, tq, rfl, hq'⟩ := StrsAre.at' f5 i' v (by simpa using hv)
      obtain ⟨z, hz9, rfl⟩ : ∃ z, (zs i)[i']? = some z ∧ strN z = q := by simpa using hq'
      have hzz := hzb1 z (List.mem_of_getElem? hz9)
      (repeat' (first | (k_unfold; (try dsimp only)) | (k_end; wrow_close) | (first | ((with_reducible show wpAny _ _ (call (Value.type "zip") _) _ _ _); (with_reducible refine holdIt ?_)) | ((with_reducible show wpAny _ _ (eval (Expr.ListComp _ _ _ _) _) _ _ _); (with_reducible refine holdIt ?_)) | ((with_reducible show wpAny _ _ (compareOp CmpOp.NotEq (Value.ref _) (Value.ref _)) _ _ _); (with_reducible refine holdIt ?_)) | ((with_reducible show Exists _); (with_reducible refine holdIt ?_)) | ((with_reducible show wpAny _ _ (call (Value.builtin "max") _) _ _ _); (with_reducible refine holdIt ?_)) | (k_here; (with_reducible show wpAny _ _ (call (Value.type _) [Value.str _ _]) _ _ _); refine KIN.call_num (by omega) (by omega) ?_) | walk1) | (dsimp only; (first | ((with_reducible show wpAny _ _ (call (Value.type "zip") _) _ _ _); (with_reducible refine holdIt ?_)) | ((with_reducible show wpAny _ _ (eval (Expr.ListComp _ _ _ _) _) _ _ _); (with_reducible refine holdIt ?_)) | ((with_reducible show wpAny _ _ (compareOp CmpOp.NotEq (Value.ref _) (Value.ref _)) _ _ _); (with_reducible refine holdIt ?_)) | ((with_reducible show Exists _); (with_reducible refine holdIt ?_)) | ((with_reducible show wpAny _ _ (call (Value.builtin "max") _) _ _ _); (with_reducible refine holdIt ?_)) | (k_here; (with_reducible show wpAny _ _ (call (Value.type _) [Value.str _ _]) _ _ _); refine KIN.call_num (by omega) (by omega) ?_) | walk1)) | (leave1; walk_say "STEP leave1"; try dsimp only) | fail "no step"))
      refine LCg.CompEnd.intro (by k_asm) N8 _ (fun p hp => hp) off (.inr ⟨_, hm3, rfl, _, rfl⟩) ⟨rfl, ?_⟩
      rw [take_succ_of hz9]
      exact ints_snoc hys'
    · rintro ys' nw ⟨rfl, hys'⟩
      intro D h tk F8 N8 off
      rw [show us9.toArray.size = (zs i).length by simpa using h9l, List.take_length] at hys'
      (repeat' (first | (k_unfold; (try dsimp only)) | (k_end; wrow_close) | (first | ((with_reducible show wpAny _ _ (call (Value.type "zip") _) _ _ _); (with_reducible refine holdIt ?_)) | ((with_reducible show wpAny _ _ (eval (Expr.ListComp _ _ _ _) _) _ _ _); (with_reducible refine holdIt ?_)) | ((with_reducible show wpAny _ _ (compareOp CmpOp.NotEq (Value.ref _) (Value.ref _)) _ _ _); (with_reducible refine holdIt ?_)) | ((with_reducible show Exists _); (with_reducible refine holdIt ?_)) | ((with_reducible show wpAny _ _ (call (Value.builtin "max") _) _ _ _); (with_reducible refine holdIt ?_)) | (k_here; (with_reducible show wpAny _ _ (call (Value.type _) [Value.str _ _]) _ _ _); refine KIN.call_num (by omega) (by omega) ?_) | walk1) | (dsimp only; (first | ((with_reducible show wpAny _ _ (call (Value.type "zip") _) _ _ _); (with_reducible refine holdIt ?_)) | ((with_reducible show wpAny _ _ (eval (Expr.ListComp _ _ _ _) _) _ _ _); (with_reducible refine holdIt ?_)) | ((with_reducible show wpAny _ _ (compareOp CmpOp.NotEq (Value.ref _) (Value.ref _)) _ _ _); (with_reducible refine holdIt ?_)) | ((with_reducible show Exists _); (with_reducible refine holdIt ?_)) | ((with_reducible show wpAny _ _ (call (Value.builtin "max") _) _ _ _); (with_reducible refine holdIt ?_)) | (k_here; (with_reducible show wpAny _ _ (call (Value.type _) [Value.str _ _]) _ _ _); refine KIN.call_num (by omega) (by omega) ?_) | walk1)) | (leave1; walk_say "STEP leave1"; try dsimp only) | fail "no step"))
      unfold Hold
      refine kso_max F8 N8 (N8.isList (.head _)) hys' (List.length_pos_of_mem hm1) rfl ?_
      intro h8 M t8 tk8 F9 N9 hM1 hM2
      obtain rfl : M = mo i := Int.le_antisymm (hm2 _ hM1) (hM2 _ hm1)
      replace N9 := newsSub N9 fun p hp => List.Mem.tail _ hp
      (try clear N8); (try clear N7); (try clear N6); (try clear F8); (try clear F7); (try clear F5); clear off hys'
      subst hNL
      clear hm3 hm4 hm5 s9 hM1 hM2
      (repeat' (first | (k_unfold; (try dsimp only)) | (k_end; wrow_close) | (first | ((with_reducible show wpAny _ _ (call (Value.type "zip") _) _ _ _); (with_reducible refine holdIt ?_)) | ((with_reducible show wpAny _ _ (eval (Expr.ListComp _ _ _ _) _) _ _ _); (with_reducible refine holdIt ?_)) | ((with_reducible show wpAny _ _ (compareOp CmpOp.NotEq (Value.ref _) (Value.ref _)) _ _ _); (with_reducible refine holdIt ?_)) | ((with_reducible show Exists _); (with_reducible refine holdIt ?_)) | ((with_reducible show wpAny _ _ (call (Value.builtin "max") _) _ _ _); (with_reducible refine holdIt ?_)) | (k_here; (with_reducible show wpAny _ _ (call (Value.type _) [Value.str _ _]) _ _ _); refine KIN.call_num (by omega) (by omega) ?_) | walk1) | (dsimp only; (first | ((with_reducible show wpAny _ _ (call (Value.type "zip") _) _ _ _); (with_reducible refine holdIt ?_)) | ((with_reducible show wpAny _ _ (eval (Expr.ListComp _ _ _ _) _) _ _ _); (with_reducible refine holdIt ?_)) | ((with_reducible show wpAny _ _ (compareOp CmpOp.NotEq (Value.ref _) (Value.ref _)) _ _ _); (with_reducible refine holdIt ?_)) | ((with_reducible show Exists _); (with_reducible refine holdIt ?_)) | ((with_reducible show wpAny _ _ (call (Value.builtin "max") _) _ _ _); (with_reducible refine holdIt ?_)) | (k_here; (with_reducible show wpAny _ _ (call (Value.type _) [Value.str _ _]) _ _ _); refine KIN.call_num (by omega) (by omega) ?_) | walk1)) | (leave1; walk_say "STEP leave1"; try dsimp only) | fail "no step"))
      unfold Hold
      rename_i o9 N9 d99 _ _ _ F9
      have ⟨NL, hNL, N6⟩ : ∃ NL, NL = _ ∧ News _ _ _ NL := ⟨_, rfl, N9⟩
      have s9 : ∀ p ∈ KQ, p ∈ NL := by intro p hp; rw [hNL]; exact .tail _ (.tail _ (.tail _ (.tail _ (.tail _ (.tail _ (.tail _ (.tail _ hp)))))))
      have kc9 : (L + 1 + 1 + 1, o9) ∈ NL := by rw [hNL]; k_mem
      have kO9 := s9 _ kO'
      have kd9 := s9 _ kd'
      have hil9 := hIu.length
      refine LCt.ListComp_T F9 rfl (by decide) rfl (by decide) rfl ?_
      clear N9
      (repeat' (first | (k_unfold; (try dsimp only)) | (k_end; wrow_close) | (first | ((with_reducible show wpAny _ _ (call (Value.type "zip") _) _ _ _); (with_reducible refine holdIt ?_)) | ((with_reducible show wpAny _ _ (eval (Expr.ListComp _ _ _ _) _) _ _ _); (with_reducible refine holdIt ?_)) | ((with_reducible show wpAny _ _ (compareOp CmpOp.NotEq (Value.ref _) (Value.ref _)) _ _ _); (with_reducible refine holdIt ?_)) | ((with_reducible show Exists _); (with_reducible refine holdIt ?_)) | ((with_reducible show wpAny _ _ (call (Value.builtin "max") _) _ _ _); (with_reducible refine holdIt ?_)) | (k_here; (with_reducible show wpAny _ _ (call (Value.type _) [Value.str _ _]) _ _ _); refine KIN.call_num (by omega) (by omega) ?_) | walk1) | (dsimp only; (first | ((with_reducible show wpAny _ _ (call (Value.type "zip") _) _ _ _); (with_reducible refine holdIt ?_)) | ((with_reducible show wpAny _ _ (eval (Expr.ListComp _ _ _ _) _) _ _ _); (with_reducible refine holdIt ?_)) | ((with_reducible show wpAny _ _ (compareOp CmpOp.NotEq (Value.ref _) (Value.ref _)) _ _ _); (with_reducible refine holdIt ?_)) | ((with_reducible show Exists _); (with_reducible refine holdIt ?_)) | ((with_reducible show wpAny _ _ (call (Value.builtin "max") _) _ _ _); (with_reducible refine holdIt ?_)) | (k_here; (with_reducible show wpAny _ _ (call (Value.type _) [Value.str _ _]) _ _ _); refine KIN.call_num (by omega) (by omega) ?_) | walk1)) | (leave1; walk_say "STEP leave1"; try dsimp only) | fail "no step"))
      unfold Hold
      rename Fr _ _ _ _ => F7
      rename News _ _ _ _ => N7
      refine LCt.CompSrcT.ledger rfl F7 N7 kd9 (by rw [sizeLine_eq]; simp; omega) ?_
      intro g6
      refine compTBy (fun i' ys' nw => nw = NL ∧ StrsAre ys' (((sz.take i').filter fun z => decide (Int.fmod (mo i) z = 0)).map strN)) ⟨rfl, .nil⟩ ?_ ?_
      · rintro i' v I oI C oC D m₂ ys' nw h tk E' hlt hv ⟨rfl, hys'⟩ hC hx' F8 N8 off ne
        obtain ⟨z, tz, rfl, hz9⟩ := hIu.at i' v (by simpa using hv)
        have hzz := hzb z (List.mem_of_getElem? hz9)
        (repeat' (first | (k_unfold; (try dsimp only)) | (k_end; wrow_close) | (first | ((with_reducible show wpAny _ _ (call (Value.type "zip") _) _ _ _); (with_reducible refine holdIt ?_)) | ((with_reducible show wpAny _ _ (eval (Expr.ListComp _ _ _ _) _) _ _ _); (with_reducible refine holdIt ?_)) | ((with_reducible show wpAny _ _ (compareOp CmpOp.NotEq (Value.ref _) (Value.ref _)) _ _ _); (with_reducible refine holdIt ?_)) | ((with_reducible show Exists _); (with_reducible refine holdIt ?_)) | ((with_reducible show wpAny _ _ (call (Value.builtin "max") _) _ _ _); (with_reducible refine holdIt ?_)) | (k_here; (with_reducible show wpAny _ _ (call (Value.type _) [Value.str _ _]) _ _ _); refine KIN.call_num (by omega) (by omega) ?_) | walk1) | (dsimp only; (first | ((with_reducible show wpAny _ _ (call (Value.type "zip") _) _ _ _); (with_reducible refine holdIt ?_)) | ((with_reducible show wpAny _ _ (eval (Expr.ListComp _ _ _ _) _) _ _ _); (with_reducible refine holdIt ?_)) | ((with_reducible show wpAny _ _ (compareOp CmpOp.NotEq (Value.ref _) (Value.ref _)) _ _ _); (with_reducible refine holdIt ?_)) | ((with_reducible show Exists _); (with_reducible refine holdIt ?_)) | ((with_reducible show wpAny _ _ (call (Value.builtin "max") _) _ _ _); (with_reducible refine holdIt ?_)) | (k_here; (with_reducible show wpAny _ _ (call (Value.type _) [Value.str _ _]) _ _ _); refine KIN.call_num (by omega) (by omega) ?_) | walk1)) | (leave1; walk_say "STEP leave1"; try dsimp only) | fail "no step"))
        · rename Int.fmod _ _ = 0 => hh
          refine LCg.CompEnd.intro (by k_asm) N8 _ (fun p hp => hp) off (.inr ⟨_, kd9, rfl, _, rfl⟩) ⟨rfl, ?_⟩
          rw [take_succ_of hz9, List.filter_append, List.map_append]
          simp only [List.filter, decide_eq_true hh, List.map]
          exact strs_snoc hys'
        · rename Int.fmod _ _ ≠ 0 => hh
          refine LCg.CompEnd.intro (by k_asm) N8 _ (fun p hp => hp) off (.inr ⟨_, kd9, rfl, _, rfl⟩) ⟨rfl, ?_⟩
          rw [take_succ_of hz9, List.filter_append, List.map_append]
          simp only [List.filter, decide_eq_false hh, List.map, List.append_nil]
          exact hys'
      · rintro ys' nw ⟨rfl, hys'⟩
        intro D h tk F8 N8 off
        rw [show us.toArray.size = sz.length by simpa using hil9, List.take_length, hdv] at hys'
        (repeat' (first | (k_unfold; (try dsimp only)) | (k_end; wrow_close) | (first | ((with_reducible show wpAny _ _ (call (Value.type "zip") _) _ _ _); (with_reducible refine holdIt ?_)) | ((with_reducible show wpAny _ _ (eval (Expr.ListComp _ _ _ _) _) _ _ _); (with_reducible refine holdIt ?_)) | ((with_reducible show wpAny _ _ (compareOp CmpOp.NotEq (Value.ref _) (Value.ref _)) _ _ _); (with_reducible refine holdIt ?_)) | ((with_reducible show Exists _); (with_reducible refine holdIt ?_)) | ((with_reducible show wpAny _ _ (call (Value.builtin "max") _) _ _ _); (with_reducible refine holdIt ?_)) | (k_here; (with_reducible show wpAny _ _ (call (Value.type _) [Value.str _ _]) _ _ _); refine KIN.call_num (by omega) (by omega) ?_) | walk1) | (dsimp only; (first | ((with_reducible show wpAny _ _ (call (Value.type "zip") _) _ _ _); (with_reducible refine holdIt ?_)) | ((with_reducible show wpAny _ _ (eval (Expr.ListComp _ _ _ _) _) _ _ _); (with_reducible refine holdIt ?_)) | ((with_reducible show wpAny _ _ (compareOp CmpOp.NotEq (Value.ref _) (Value.ref _)) _ _ _); (with_reducible refine holdIt ?_)) | ((with_reducible show Exists _); (with_reducible refine holdIt ?_)) | ((with_reducible show wpAny _ _ (call (Value.builtin "max") _) _ _ _); (with_reducible refine holdIt ?_)) | (k_here; (with_reducible show wpAny _ _ (call (Value.type _) [Value.str _ _]) _ _ _); refine KIN.call_num (by omega) (by omega) ?_) | walk1)) | (leave1; walk_say "STEP leave1"; try dsimp only) | fail "no step"))
        unfold Hold
        refine ne_strs N8 (.tail _ (s9 _ f3)) (.head _) f5 hys' (strN_ok hzb1) (by units_room) ?_
        replace N8 := newsSub N8 fun p hp => List.Mem.tail _ hp
        subst hNL
        clear s9 kO9 kd9 kc9 off hys'
        (repeat' (first | (k_unfold; (try dsimp only)) | (k_end; wrow_close) | (first | ((with_reducible show wpAny _ _ (call (Value.type "zip") _) _ _ _); (with_reducible refine holdIt ?_)) | ((with_reducible show wpAny _ _ (eval (Expr.ListComp _ _ _ _) _) _ _ _); (with_reducible refine holdIt ?_)) | ((with_reducible show wpAny _ _ (compareOp CmpOp.NotEq (Value.ref _) (Value.ref _)) _ _ _); (with_reducible refine holdIt ?_)) | ((with_reducible show Exists _); (with_reducible refine holdIt ?_)) | ((with_reducible show wpAny _ _ (call (Value.builtin "max") _) _ _ _); (with_reducible refine holdIt ?_)) | (k_here; (with_reducible show wpAny _ _ (call (Value.type _) [Value.str _ _]) _ _ _); refine KIN.call_num (by omega) (by omega) ?_) | walk1) | (dsimp only; (first | ((with_reducible show wpAny _ _ (call (Value.type "zip") _) _ _ _); (with_reducible refine holdIt ?_)) | ((with_reducible show wpAny _ _ (eval (Expr.ListComp _ _ _ _) _) _ _ _); (with_reducible refine holdIt ?_)) | ((with_reducible show wpAny _ _ (compareOp CmpOp.NotEq (Value.ref _) (Value.ref _)) _ _ _); (with_reducible refine holdIt ?_)) | ((with_reducible show Exists _); (with_reducible refine holdIt ?_)) | ((with_reducible show wpAny _ _ (call (Value.builtin "max") _) _ _ _); (with_reducible refine holdIt ?_)) | (k_here; (with_reducible show wpAny _ _ (call (Value.type _) [Value.str _ _]) _ _ _); refine KIN.call_num (by omega) (by omega) ?_) | walk1)) | (leave1; walk_say "STEP leave1"; try dsimp only) | fail "no step"))
        rename Fr _ _ _ _ => F9
        rename News _ _ _ _ => N9
        simp only [List.push_toArray] at N9
        refine' ⟨⟨c.gs ++ [.int (mo i) t8], c.k + 1, o9⟩, _, _, hS.move _ _ _, F9, N9, ?a3, ?a4, ?a5, ?a6, ?a7, ?a8⟩
        case a3 =>
          intro p hp
          simp only [List.mem_cons, List.not_mem_nil, or_false] at hp ⊢
          rcases hp with h | h | h | h | h <;> simp [h]
        case a4 => exact fun p hp => .tail _ (.tail _ (.tail _ (.tail _ (.tail _ (.tail _ hp)))))
        case a5 => exact allCons (hoff (lg, W.listOf c.gs.toArray c.k) (.head _)) (allCons (hoff (L + 1 + 1 + 1, c.co) (.tail _ (.head _))) fun p hp => hoff p (.tail _ (.tail _ hp)))
        case a6 => exact fun _ h => nomatch h
        case a7 =>
          intro z h2 h3
          dsimp +zetaDelta only
          simp only [List.contains_cons, List.contains_nil, Bool.or_false, Bool.or_eq_false_iff, beq_eq_false_iff_ne, ne_eq] at h3
          simp [h3]
        case a8 => exact ⟨by simp [g0], by rw [List.range_succ, List.map_append]; exact ints_snoc g1, _, d99⟩
  case fin =>
    rintro c u s₁ hI9 ⟨h9, tk9, rfl⟩ F9 N9
    refine hq c.gs c.k c.co h9 tk9 _ F9 ?_ (newsSub N9 fun p hp => ?_) hI9
    · intro y hy
      simp only [List.mem_cons, List.not_mem_nil, or_false, not_or] at hy
      dsimp only [kstB]
      rw [if_neg (by simp [hy])]
      (repeat' split) <;> first | rfl | (subst_vars; exact Eq.symm (by assumption))
    · have h1 := hKs p
      simp only [List.mem_cons] at hp ⊢
      grind
end Mine
end

section
open PySem PySem.W PyProof.Rows
namespace Mine
theorem sec_PA {M : Model} {A : Around} {E : Value → Shared → Prop} {s : Shared} {env : Env} {p : Pos} {Q : Flow → Shared → Prop} (h : Q .next s) : wpAny M A (exec (.Pass p) env) Q E s := by
  w_top off
  k_with_none
  walk1
  exact h
end Mine
end
section
open PySem PySem.W PyProof.Rows Builtin Builtin.Str StrLaws
set_option maxRecDepth 100000
set_option maxHeartbeats 1000000
namespace Mine
noncomputable def hasInf (p : List Nat) : List Nat → Bool
  | [] => p.isEmpty
  | c :: r => p.isPrefixOf (c :: r) || hasInf p r
theorem prefix_take {p l : List Nat} : p.isPrefixOf l = true ↔ p.length ≤ l.length ∧ l.take p.length = p := by
  rw [List.isPrefixOf_iff_prefix, List.prefix_iff_eq_take]
  constructor
  · intro h
    refine ⟨?_, h.symm⟩
    have := congrArg List.length h
    rw [List.length_take] at this
    omega
  · exact fun h => h.2.symm
theorem hasInf_iff (p : List Nat) : ∀ l : List Nat, hasInf p l = true ↔ ∃ i, i + p.length ≤ l.length ∧ (l.drop i).take p.length = p
  | [] => by
    cases p with
    | nil =>
      constructor
      · intro _; exact ⟨0, Nat.le_refl _, rfl⟩
      · intro _; rfl
    | cons a r =>
      constructor
      · intro h; cases h
      · rintro ⟨i, h, _⟩; simp at h
  | c :: r => by
    rw [hasInf, Bool.or_eq_true, prefix_take, hasInf_iff p r]
    constructor
    · rintro (⟨h1, h2⟩ | ⟨i, h1, h2⟩)
      · exact ⟨0, by omega, h2⟩
      · exact ⟨i + 1, by simp; omega, h2⟩
    · rintro ⟨i, h1, h2⟩
      cases i with
      | zero => exact .inl ⟨by omega, h2⟩
      | succ i => exact .inr ⟨i, by simp at h1; omega, h2⟩
theorem found_inf (x y : Str) : (!(occurrences x y 0 x.length 1).isEmpty) = hasInf y.cps.toList x.cps.toList := by
  rw [Bool.eq_iff_iff, found_iff, hasInf_iff]
  simp only [subAt_eq, beq_iff_eq, Str.length, Array.length_toList]
/-! lower of plain signs -/
noncomputable def okc (c : Nat) : Bool := Unicode.lowerOf c == [c] && c != 0x3A3
theorem lower_ok (x : Str) (h : ∀ c ∈ x.cps.toList, okc c = true) : Txt.lower x = x := by
  have e : (x.cps.mapIdx fun i _ => (Unicode.lowerAt x.cps i).toArray) = x.cps.map fun c => #[c] := by
    refine Array.ext (by simp) fun i h1 h2 => ?_
    simp only [Array.size_mapIdx] at h1
    have hc := h x.cps[i] (by simp)
    unfold okc at hc
    simp only [Bool.and_eq_true, beq_iff_eq, bne_iff_ne] at hc
    simp only [Array.getElem_mapIdx, Array.getElem_map, Unicode.lowerAt, Array.getElem?_eq_getElem h1]
    rw [if_neg (by simp [hc.2]), hc.1]
  have e2 : ∀ l : List Nat, ((l.map fun c => #[c]).toArray).flatten.toList = l := by
    intro l
    induction l with
    | nil => rfl
    | cons a r ih => simp_all
  unfold Txt.lower placed
  rw [e]
  cases x with
  | mk a =>
    congr 1
    apply Array.toList_inj.mp
    have := e2 a.toList
    simpa using this
noncomputable def plainCs : List Nat := [32, 44, 97, 98, 101, 105, 115, 116, 122, 48, 49, 50, 51, 52, 53, 54, 55, 56, 57]
theorem plain_ok : ∀ c ∈ plainCs, okc c = true := by decide +kernel
/-! the part ahead of a slash -/
theorem first_of {x : Str} {A B : List Nat} {c : Nat} (hx : x.cps.toList = A ++ c :: B) (hA : c ∉ A) : (((Txt.split x ⟨#[c]⟩)[0]?).getD Str.empty).cps.toList = A := by
  have h1 := join_split x ⟨#[c]⟩
  have h2 := split_free x c
  cases hs : Txt.split x ⟨#[c]⟩ with
  | nil => rw [hs] at h1; rw [← h1] at hx; simp [Str.join, Str.empty] at hx
  | cons p r =>
    rw [hs] at h1 h2
    have hp := h2 p (.head _)
    show p.cps.toList = A
    cases r with
    | nil =>
      have h1' : p = x := h1
      rw [h1'] at hp
      exact absurd (by rw [hx]; simp) hp
    | cons q r =>
      have h1' : p ++ ⟨#[c]⟩ ++ Str.join ⟨#[c]⟩ (q :: r) = x := h1
      have e : p.cps.toList ++ c :: (Str.join ⟨#[c]⟩ (q :: r)).cps.toList = A ++ c :: B := by
        rw [← hx, ← h1']
        simp [Str.cps_append]
      have tw : ∀ l m : List Nat, c ∉ l → (l ++ c :: m).takeWhile (· != c) = l := by
        intro l m hl
        induction l with
        | nil => simp
        | cons a t ih =>
          have ha : a ≠ c := fun h => hl (by rw [h]; exact .head _)
          have ht : c ∉ t := fun h => hl (.tail _ h)
          simp [ha, ih ht]
      have e2 := congrArg (List.takeWhile (· != c)) e
      rw [tw _ _ hp, tw _ _ hA] at e2
      exact e2
end Mine
end

section
open PySem PySem.W PyProof.Rows
namespace Mine
theorem sec_PB {M : Model} {A : Around} {E : Value → Shared → Prop} {s : Shared} {env : Env} {p : Pos} {Q : Flow → Shared → Prop} (h : Q .next s) : wpAny M A (exec (.Pass p) env) Q E s := by
  w_top off
  k_with_none
  walk1
  exact h
end Mine
end
section
open PySem PySem.W PyProof.Rows Builtin Builtin.Str StrLaws
set_option maxRecDepth 100000
set_option maxHeartbeats 1000000
namespace Mine
noncomputable def ten : List Int := [1, 2, 3, 4, 5, 6, 7, 8, 9, 10]
noncomputable def digs (z : Int) : List Nat := if z = 10 then [49, 48] else [48 + z.toNat]
noncomputable def agL (z : Int) : List Nat := 32 :: digs z ++ [44]
theorem dig_is : ∀ z ∈ ten, (Str.ofString (toString z)).cps.toList = digs z := by decide +kernel
theorem ag_is : ∀ z ∈ ten, (agentText z).cps.toList = agL z := by decide +kernel
theorem ag_star : ∀ z ∈ ten, (agentText z != Str.ofString "*") = true := by decide +kernel
theorem agL_ok : ∀ z ∈ ten, ∀ c ∈ agL z, c ∈ plainCs := by decide +kernel
theorem agL_47 : ∀ z ∈ ten, 47 ∉ agL z := by decide +kernel
theorem all10 {P : Int → Prop} (h1 : P 1) (h2 : P 2) (h3 : P 3) (h4 : P 4) (h5 : P 5) (h6 : P 6) (h7 : P 7) (h8 : P 8) (h9 : P 9) (h10 : P 10) : ∀ z ∈ ten, P z := by
  intro z hz
  simp only [ten, List.mem_cons, List.not_mem_nil, or_false] at hz
  rcases hz with rfl | rfl | rfl | rfl | rfl | rfl | rfl | rfl | rfl | rfl <;> assumption
theorem block10 (z : Int) (hz : z ∈ ten) (x : Int) (hx : x ∈ ten) (l : List Nat) : hasInf (agL z) (agL x ++ l) = (decide (z = x) || hasInf (agL z) l) := by
  revert z x
  refine all10 ?_ ?_ ?_ ?_ ?_ ?_ ?_ ?_ ?_ ?_ <;> (refine all10 ?_ ?_ ?_ ?_ ?_ ?_ ?_ ?_ ?_ ?_ <;> rfl)
theorem blocks10 (z : Int) (hz : z ∈ ten) : ∀ c : List Int, (∀ x ∈ c, x ∈ ten) → hasInf (agL z) (c.flatMap agL) = decide (z ∈ c)
  | [], _ => by simp [hasInf, agL]
  | x :: r, h => by
    rw [List.flatMap_cons, block10 z hz x (h x (.head _)), blocks10 z hz r fun y hy => h y (.tail _ hy)]
    simp [List.mem_cons]
noncomputable def pre1 : List Nat := [97, 116, 32, 116, 97, 98, 32, 115, 105, 122, 101]
noncomputable def pre2 : List Nat := [97, 116, 32, 116, 97, 98, 32, 115, 105, 122, 101, 115]
theorem preInf (z : Int) (hz : z ∈ ten) (l : List Nat) : hasInf (agL z) (pre1 ++ l) = hasInf (agL z) l ∧ hasInf (agL z) (pre2 ++ l) = hasInf (agL z) l := by
  revert z
  refine all10 ?_ ?_ ?_ ?_ ?_ ?_ ?_ ?_ ?_ ?_ <;> exact ⟨rfl, rfl⟩
theorem fold_glue (g : Array Nat) : ∀ (rest : List Str) (acc : Array Nat), (rest.foldl (fun acc p => acc ++ g ++ p.cps) acc).toList = acc.toList ++ rest.flatMap fun p => g.toList ++ p.cps.toList
  | [], acc => by simp
  | p :: r, acc => by
    rw [List.foldl_cons, fold_glue g r]
    simp [List.append_assoc]
theorem shift_glue (x : Int) : ∀ (c : List Int), 32 :: digs x ++ (c.flatMap fun y => 44 :: 32 :: digs y) ++ [44] = (x :: c).flatMap agL
  | [] => by simp [agL]
  | y :: r => by
    have := shift_glue y r
    simp only [List.flatMap_cons, agL, List.cons_append, List.append_assoc, List.nil_append] at this ⊢
    rw [← this]
noncomputable def preOf (rows : List (Int × Int × Int)) : List Nat := if 1 < rows.length then pre2 else pre1
theorem words_list {rows : List (Int × Int × Int)} (hne : rows ≠ []) (h : ∀ r ∈ rows, r.1 ∈ ten) : ∃ B, (wordsOf rows).cps.toList = (preOf rows ++ (rows.map (·.1)).flatMap agL) ++ 47 :: B := by
  cases rows with
  | nil => exact absurd rfl hne
  | cons r0 rest =>
    have e1 : (Str.ofString "at tab sizes").cps.toList = pre2 := by decide +kernel
    have e2 : (Str.ofString "at tab size").cps.toList = pre1 := by decide +kernel
    have e3 : (Str.ofString " ").cps.toList = [32] := by decide +kernel
    have e4 : (Str.ofString ", ").cps.toList = [44, 32] := by decide +kernel
    have e5 : ∃ B, (Str.ofString ",/ 1, 2, 3, 4, 5, 6, 7, 8, 9, 10,").cps.toList = 44 :: 47 :: B := ⟨((Str.ofString ",/ 1, 2, 3, 4, 5, 6, 7, 8, 9, 10,").cps.toList.drop 2), by decide +kernel⟩
    obtain ⟨B, e5⟩ := e5
    have e6 : (Txt.join (Str.ofString ", ") (firstsOf (r0 :: rest))).cps.toList = digs r0.1 ++ (rest.map (·.1)).flatMap fun y => 44 :: 32 :: digs y := by
      show ((rest.map fun r => Str.ofString (toString r.1)).foldl (fun acc p => acc ++ (Str.ofString ", ").cps ++ p.cps) (Str.ofString (toString r0.1)).cps).toList = _
      rw [fold_glue, dig_is _ (h _ (.head _)), e4]
      congr 1
      have hr : ∀ r ∈ rest, r.1 ∈ ten := fun r hr => h r (.tail _ hr)
      clear e1 e2 e3 e4 e5 h hne
      induction rest with
      | nil => rfl
      | cons a t ih =>
        simp only [List.map_cons, List.flatMap_cons]
        rw [dig_is _ (hr a (.head _)), ih fun r hx => hr r (.tail _ hx)]
        simp
    have e7 : (if 1 < (r0 :: rest).length then Str.ofString "at tab sizes" else Str.ofString "at tab size").cps.toList = preOf (r0 :: rest) := by
      unfold preOf
      split
      · exact e1
      · exact e2
    refine ⟨B, ?_⟩
    unfold wordsOf fmtText
    simp only [Str.cps_append, Array.toList_append]
    rw [e7, e3, e6, e5, List.map_cons, ← shift_glue]
    simp
theorem mem_ten {z : Int} (h : 1 ≤ z ∧ z ≤ 10) : z ∈ ten := fin_mem (m := 10) (by decide) h
/-- the sizes that a reader finds in the words of rows -/
theorem applies_is {rows : List (Int × Int × Int)} (hne : rows ≠ []) (h : ∀ r ∈ rows, r.1 ∈ ten) {z : Int} (hz : z ∈ ten) : applies [agentText z] (wordsOf rows) = decide (z ∈ rows.map (·.1)) := by
  obtain ⟨B, e⟩ := words_list hne h
  have hc : ∀ x ∈ rows.map (·.1), x ∈ ten := fun x hx => by obtain ⟨r, hr, rfl⟩ := List.mem_map.mp hx; exact h r hr
  generalize hA : preOf rows ++ (rows.map (·.1)).flatMap agL = A at e
  have hpl : ∀ c ∈ A, c ∈ plainCs := by
    rw [← hA]
    intro c hx
    rcases List.mem_append.mp hx with hx | hx
    · have : ∀ c ∈ pre1 ++ pre2, c ∈ plainCs := by decide
      refine this c ?_
      unfold preOf at hx
      split at hx
      · exact List.mem_append.mpr (.inr hx)
      · exact List.mem_append.mpr (.inl hx)
    · obtain ⟨x, hx1, hx2⟩ := List.mem_flatMap.mp hx
      exact agL_ok x (hc x hx1) c hx2
  have h47 : 47 ∉ A := fun hm => absurd (hpl 47 hm) (by decide)
  have hs : Str.ofString "/" = ⟨#[47]⟩ := by decide +kernel
  have h1 : (firstPart (wordsOf rows)).cps.toList = A := by
    unfold firstPart
    rw [hs]
    exact first_of e h47
  have h2 : Txt.lower (firstPart (wordsOf rows)) = firstPart (wordsOf rows) := lower_ok _ fun c hx => plain_ok c (hpl c (by rw [← h1]; exact hx))
  have h3 : Txt.lower (agentText z) = agentText z := lower_ok _ fun c hx => plain_ok c (agL_ok z hz c (by rw [← ag_is z hz]; exact hx))
  unfold applies
  rw [h2, List.any_cons, List.any_nil, Bool.or_false]
  unfold agentHits
  rw [ag_star z hz, h3, Bool.true_and, found_inf, h1, ag_is z hz, ← hA]
  have := preInf z hz ((rows.map (·.1)).flatMap agL)
  unfold preOf
  split
  · rw [this.2, blocks10 z hz _ hc]
  · rw [this.1, blocks10 z hz _ hc]
end Mine
end

section
open PySem PySem.W PyProof.Rows
namespace Mine
theorem sec_PC {M : Model} {A : Around} {E : Value → Shared → Prop} {s : Shared} {env : Env} {p : Pos} {Q : Flow → Shared → Prop} (h : Q .next s) : wpAny M A (exec (.Pass p) env) Q E s := by
  w_top off
  k_with_none
  walk1
  exact h
end Mine
end
section
open PySem PySem.W PyProof.Rows
set_option maxRecDepth 100000
set_option maxHeartbeats 1000000
namespace Mine
/-! the text of rows -/
noncomputable def zten : List Int := [0, 1, 2, 3, 4, 5, 6, 7, 8, 9, 10]
theorem mem_zten {z : Int} (h : 0 ≤ z ∧ z ≤ 10) : z ∈ zten := fin_mem0 (m := 10) (by decide) h
theorem row_is : ∀ r ∈ zten, (textRow r).cps.toList = List.replicate r.toNat 32 ++ [9] := by decide +kernel
theorem behind_is : ∀ b ∈ [(0 : Int), 1, 2], (behindOf b).cps.toList = List.replicate b.toNat 32 ++ 120 :: [32, 9] := by decide +kernel
theorem white_is {rows : List Int} {beh : Str} (hne : rows ≠ []) (h : ∀ r ∈ rows, r ∈ zten) : (whiteText rows beh).cps.toList = (rows.flatMap fun r => List.replicate r.toNat 32 ++ [9]) ++ beh.cps.toList := by
  cases rows with
  | nil => exact absurd rfl hne
  | cons r0 rest =>
    unfold whiteText
    rw [Str.cps_append, Array.toList_append]
    congr 1
    show ((rest.map textRow).foldl (fun acc p => acc ++ (Str.ofString "").cps ++ p.cps) (textRow r0).cps).toList = _
    rw [fold_glue, row_is _ (h _ (.head _))]
    have e : (Str.ofString "").cps.toList = [] := by decide +kernel
    rw [e, List.flatMap_cons]
    congr 1
    have hr : ∀ r ∈ rest, r ∈ zten := fun r hr => h r (.tail _ hr)
    clear e h hne
    induction rest with
    | nil => rfl
    | cons a t ih =>
      simp only [List.map_cons, List.flatMap_cons]
      rw [row_is _ (hr a (.head _)), ih fun r hx => hr r (.tail _ hx)]
      simp
/-! the machine that reads rows -/
theorem run_row (l : List Nat) : ∀ (k : Nat) (st : Ws), wsRun (List.replicate k 32 ++ 9 :: l) st = wsRun l ⟨bump st.cs (st.b + k), 0, st.n + k + 1, st.nt + 1⟩
  | 0, st => by simp [wsRun]
  | k + 1, st => by
    rw [List.replicate_succ, List.cons_append, wsRun, if_pos rfl, run_row l k]
    simp only [Ws.mk.injEq, true_and, and_true]
    have e1 : st.b + 1 + (k : Int) = st.b + ((k + 1 : Nat) : Int) := by omega
    have e2 : st.n + 1 + (k : Int) + 1 = st.n + ((k + 1 : Nat) : Int) + 1 := by omega
    rw [e1, e2]
theorem run_end (l : List Nat) : ∀ (k : Nat) (st : Ws), wsRun (List.replicate k 32 ++ 120 :: l) st = ⟨st.cs, st.b + k, st.n + k, st.nt⟩
  | 0, st => by simp [wsRun]
  | k + 1, st => by
    rw [List.replicate_succ, List.cons_append, wsRun, if_pos rfl, run_end l k]
    simp only [Ws.mk.injEq, true_and, and_true]
    omega
theorem run_rows (tail : List Nat) : ∀ (rows : List Int) (cs : List Int) (n nt : Int), (∀ r ∈ rows, 0 ≤ r) → ∃ n', wsRun ((rows.flatMap fun r => List.replicate r.toNat 32 ++ [9]) ++ tail) ⟨cs, 0, n, nt⟩ = wsRun tail ⟨rows.foldl bump cs, 0, n', nt + rows.length⟩
  | [], cs, n, nt, _ => ⟨n, by simp⟩
  | r :: rest, cs, n, nt, h => by
    obtain ⟨n', e⟩ := run_rows tail rest (bump cs r) (n + r.toNat + 1) (nt + 1) fun x hx => h x (.tail _ hx)
    refine ⟨n', ?_⟩
    have h0 := h r (.head _)
    rw [List.flatMap_cons, List.append_assoc, List.append_assoc, List.singleton_append, run_row]
    have e1 : (0 : Int) + (r.toNat : Int) = r := by omega
    simp only [e1]
    rw [List.foldl_cons, e]
    congr 2
    simp
    omega
theorem wsOf_is {rows : List Int} {b : Int} (hb : 0 ≤ b ∧ b ≤ 2) (hne : rows ≠ []) (h : ∀ r ∈ rows, 0 ≤ r ∧ r ≤ 10) : ∃ n, wsOf rows b = ⟨rows.foldl bump [], b, n, rows.length⟩ := by
  unfold wsOf
  rw [white_is hne fun r hr => mem_zten (h r hr), behind_is b (in3 hb)]
  obtain ⟨n', e⟩ := run_rows (List.replicate b.toNat 32 ++ 120 :: [32, 9]) rows [] 0 0 fun r hr => (h r hr).1
  rw [e, run_end]
  refine ⟨n' + b.toNat, ?_⟩
  simp only [Ws.mk.injEq, true_and, and_true]
  omega
/-! the sum of a column -/
noncomputable def wSum (ts : Int) : Nat → List Int → Int
  | _, [] => 0
  | k, c :: r => Int.fdiv k ts * c + wSum ts (k + 1) r
theorem wSum_append (ts : Int) : ∀ (a b : List Int) (k : Nat), wSum ts k (a ++ b) = wSum ts k a + wSum ts (k + a.length) b
  | [], b, k => by simp [wSum]
  | c :: r, b, k => by
    rw [List.cons_append, wSum, wSum, wSum_append ts r b (k + 1), List.length_cons, show k + 1 + r.length = k + (r.length + 1) by omega]
    omega
theorem wSum_zeros (ts : Int) : ∀ (n k : Nat), wSum ts k (List.replicate n 0) = 0
  | 0, _ => rfl
  | n + 1, k => by rw [List.replicate_succ, wSum, wSum_zeros ts n]; simp
theorem wSum_set (ts : Int) : ∀ (l : List Int) (i k : Nat), i < l.length → wSum ts k (l.set i (l.getD i 0 + 1)) = wSum ts k l + Int.fdiv ((k + i : Nat) : Int) ts
  | [], _, _, h => by simp at h
  | c :: r, 0, k, _ => by
    simp only [List.set_cons_zero, List.getD_cons_zero, wSum, Nat.add_zero]
    rw [Int.mul_add]; omega
  | c :: r, i + 1, k, h => by
    have ih := wSum_set ts r i (k + 1) (by simpa using h)
    simp only [List.set_cons_succ, List.getD_cons_succ, wSum]
    rw [ih, show k + 1 + i = k + (i + 1) by omega]
    omega
theorem flat_zeros : ∀ n : Nat, (List.replicate n [(0 : Int)]).flatten = List.replicate n 0
  | 0 => rfl
  | n + 1 => by rw [List.replicate_succ, List.flatten_cons, flat_zeros n]; rfl
theorem grown_sum (ts : Int) (cs : List Int) (b : Int) : wSum ts 0 (grown cs b) = wSum ts 0 cs := by
  unfold grown
  split
  · rw [flat_zeros, wSum_append, wSum_zeros]; omega
  · rfl
theorem grown_len {cs : List Int} {b : Int} (h : 0 ≤ b) : b.toNat < (grown cs b).length := by
  unfold grown
  split
  · rw [flat_zeros]; simp; omega
  · omega
theorem bump_sum {ts : Int} {cs : List Int} {r : Int} (h : 0 ≤ r) : wSum ts 0 (bump cs r) = wSum ts 0 cs + Int.fdiv r ts := by
  unfold bump
  rw [wSum_set ts _ _ _ (grown_len h), grown_sum, Nat.zero_add, Int.toNat_of_nonneg h]
theorem bumps_sum {ts : Int} : ∀ (rows cs : List Int), (∀ r ∈ rows, 0 ≤ r) → wSum ts 0 (rows.foldl bump cs) = wSum ts 0 cs + (rows.map fun r => Int.fdiv r ts).sum
  | [], cs, _ => by simp
  | r :: rest, cs, h => by
    rw [List.foldl_cons, bumps_sum rest _ fun x hx => h x (.tail _ hx), bump_sum (h r (.head _)), List.map_cons, List.sum_cons]
    omega
theorem bump_len_is {cs : List Int} {r : Int} (h : 0 ≤ r) : ((bump cs r).length : Int) = max (cs.length : Int) (r + 1) := by
  unfold bump grown
  rw [List.length_set]
  split
  · rw [flat_zeros]; simp; omega
  · omega
/-- the sum over the whole list is the sum from ts on -/
theorem wSum_range (ts : Int) : ∀ (l : List Int) (k : Nat), wSum ts k l = ((List.range l.length).map fun j => Int.fdiv ((k + j : Nat) : Int) ts * l.getD j 0).sum
  | [], _ => rfl
  | c :: r, k => by
    rw [wSum, wSum_range ts r (k + 1), List.length_cons, List.range_succ_eq_map, List.map_cons, List.sum_cons, List.map_map]
    congr 2
    refine List.map_congr_left fun j _ => ?_
    simp only [Function.comp, Nat.succ_eq_add_one, List.getD_cons_succ]
    rw [show k + 1 + j = k + (j + 1) by omega]
theorem fdiv_small {i ts : Int} (h0 : 0 ≤ i) (h : i < ts) : Int.fdiv i ts = 0 := by
  rw [Int.fdiv_eq_ediv_of_nonneg _ (by omega)]; exact Int.ediv_eq_zero_of_lt h0 h
theorem sum_zeros {l : List Nat} {f : Nat → Int} (h : ∀ j ∈ l, f j = 0) : (l.map f).sum = 0 := by
  induction l with
  | nil => rfl
  | cons a t ih => rw [List.map_cons, List.sum_cons, h a (.head _), ih fun j hj => h j (.tail _ hj)]; rfl
theorem ilSum_is {cs : List Int} {ts : Int} (h1 : 1 ≤ ts) : ilSum cs ts = wSum ts 0 cs := by
  rw [wSum_range]
  unfold ilSum
  simp only [Nat.zero_add]
  by_cases hl : (cs.length : Int) ≤ ts
  · rw [show ((cs.length : Int) - ts).toNat = 0 by omega]
    rw [sum_zeros fun j hj => by rw [fdiv_small (by omega) (by have := List.mem_range.mp hj; omega), Int.zero_mul]]
    rfl
  · obtain ⟨t, rfl⟩ := Int.eq_ofNat_of_zero_le (show 0 ≤ ts by omega)
    obtain ⟨m, hm⟩ : ∃ m, cs.length = t + m := ⟨cs.length - t, by omega⟩
    rw [hm, show (((t + m : Nat) : Int) - (t : Int)).toNat = m by omega, List.range_add, List.map_append, List.sum_append, sum_zeros (l := List.range t) fun j hj => by rw [fdiv_small (by omega) (by have := List.mem_range.mp hj; omega), Int.zero_mul]]
    rw [Int.zero_add, List.map_map]
    unfold rangeKs
    rw [List.map_map]
    congr 1
theorem indent_is {rows : List Int} {b ts : Int} (hb : 0 ≤ b ∧ b ≤ 2) (hne : rows ≠ []) (h : ∀ r ∈ rows, 0 ≤ r ∧ r ≤ 10) (h1 : 1 ≤ ts) : indentOf (wsOf rows b) ts = b + ts * ((rows.map fun r => Int.fdiv r ts).sum + rows.length) := by
  obtain ⟨n, e⟩ := wsOf_is hb hne h
  rw [e]
  unfold indentOf
  simp only
  rw [ilSum_is h1, bumps_sum rows [] fun r hr => (h r hr).1]
  simp [wSum]
theorem cs_len {rows : List Int} {b : Int} (hb : 0 ≤ b ∧ b ≤ 2) (hne : rows ≠ []) (h : ∀ r ∈ rows, 0 ≤ r ∧ r ≤ 10) : (wsOf rows b).cs = rows.foldl bump [] ∧ (wsOf rows b).b = b := by
  obtain ⟨n, e⟩ := wsOf_is hb hne h
  rw [e]; exact ⟨rfl, rfl⟩
/-! the rows of a witness -/
theorem newRows_is (st st' : Ws) : ∀ n, newRows st st' n = ((rangeKs 1 n).filter fun ts => decide (indentOf st ts ≠ indentOf st' ts)).map fun ts => (ts, indentOf st ts, indentOf st' ts)
  | 0 => rfl
  | n + 1 => by
    have e : rangeKs 1 (n + 1) = rangeKs 1 n ++ [1 + (n : Int)] := by simp [rangeKs, List.range_succ]
    rw [newRows_succ, newStep, newRows_is st st' n, e, List.filter_append, List.map_append]
    split
    · rename_i hh
      simp [List.filter, hh]
    · rename_i hh
      simp [List.filter, hh]
end Mine
end

section
open PySem PySem.W PyProof.Rows
namespace Mine
theorem sec_PL {M : Model} {A : Around} {E : Value → Shared → Prop} {s : Shared} {env : Env} {p : Pos} {Q : Flow → Shared → Prop} (h : Q .next s) : wpAny M A (exec (.Pass p) env) Q E s := by
  w_top off
  k_with_none
  walk1
  exact h
end Mine
end
section
open PySem PySem.W PyProof.Rows
set_option maxRecDepth 100000
set_option maxHeartbeats 1000000
namespace Mine
noncomputable def szDown : List Int := [10, 9, 8, 7, 6, 5, 4, 3, 2, 1]
noncomputable def szUp : List Int := [1, 2, 3, 4, 5, 6, 7, 8, 9, 10]
noncomputable def divs (n : Int) (sz : List Int) : List Int := sz.filter fun z => decide (Int.fmod n z = 0)
noncomputable def meet (a b : List Int) : List Int := a.filter fun z => decide (z ∈ b)
noncomputable def gcdI (a b : Int) : Int := (Nat.gcd a.toNat b.toNat : Nat)
noncomputable def zsOf (n1 n2 n3 : Int) : Nat → List Int
  | 0 => divs n1 szDown
  | 1 => divs n2 szUp
  | 2 => divs n3 szUp
  | 3 => meet (divs n3 szUp) (divs n1 szDown)
  | 4 => meet (divs n1 szDown) (divs n2 szUp)
  | 5 => meet (divs n2 szUp) (divs n3 szUp)
  | _ => meet (meet (divs n1 szDown) (divs n2 szUp)) (divs n3 szUp)
noncomputable def moOf (n1 n2 n3 : Int) : Nat → Int
  | 0 => n1
  | 1 => n2
  | 2 => n3
  | 3 => gcdI n3 n1
  | 4 => gcdI n1 n2
  | 5 => gcdI n2 n3
  | _ => gcdI (gcdI n1 n2) n3
noncomputable def prul (n : Int) : List (Int × Int) := powers.filter fun p => decide (Int.fmod n p.1 = 0)
noncomputable def rul3 (n1 n2 n3 : Int) : List (Int × Int) := (prul n1 ++ prul n2) ++ prul n3
noncomputable def rulU (n1 n2 n3 : Int) : List (Int × Int) := powers.filter fun p => decide (Int.fmod n1 p.1 = 0 ∨ Int.fmod n2 p.1 = 0 ∨ Int.fmod n3 p.1 = 0)
noncomputable def cnt3 (n1 n2 n3 : Int) : List Int := (rangeKs 1 10).map fun z => ((([(divs n1 szDown).map strN, (divs n2 szUp).map strN, (divs n3 szUp).map strN].filter fun a => hasS a (Str.ofString (toString z))).length : Nat) : Int)
noncomputable def rows3 (n1 n2 n3 b : Int) : List (Int × Int × Int) := witOf (wsOf [n1 - 1, n2 - 1, n3 - 1] b) (wsOf [n1, n2, n3] b)
theorem divs_in (n : Int) {sz : List Int} (h : ∀ z ∈ sz, 1 ≤ z ∧ z ≤ 10) : ∀ z ∈ divs n sz, 1 ≤ z ∧ z ≤ 10 := fun z hz => h z (List.mem_filter.mp hz).1
theorem up_in : ∀ z ∈ szUp, 1 ≤ z ∧ z ≤ 10 := by decide
theorem down_in : ∀ z ∈ szDown, 1 ≤ z ∧ z ≤ 10 := by decide
theorem up_mem {z : Int} (h : 1 ≤ z ∧ z ≤ 10) : z ∈ szUp := fin_mem (m := 10) (by decide) h
theorem down_mem {z : Int} (h : 1 ≤ z ∧ z ≤ 10) : z ∈ szDown := fin_mem (m := 10) (by decide) h
theorem mem_divs {n z : Int} {sz : List Int} (hz : z ∈ sz) : z ∈ divs n sz ↔ Int.fmod n z = 0 := by simp [divs, hz]
/-! names of sizes -/
theorem strN_inj {a b : Int} (ha : 1 ≤ a ∧ a ≤ 10) (hb : 1 ≤ b ∧ b ≤ 10) (h : strN a = strN b) : a = b := by
  have e1 := KIN.num_reads (n := a) (by omega) (by omega)
  have e2 := KIN.num_reads (n := b) (by omega) (by omega)
  unfold strN at h
  rw [h, e2] at e1
  exact (Option.some.inj e1).symm
theorem hasS_map {m : List Int} (hm : ∀ z ∈ m, 1 ≤ z ∧ z ≤ 10) {z : Int} (hz : 1 ≤ z ∧ z ≤ 10) : hasS (m.map strN) (strN z) = decide (z ∈ m) := by
  rw [Bool.eq_iff_iff]
  simp only [hasS, List.any_map, List.any_eq_true, Function.comp, decide_eq_true_eq]
  constructor
  · rintro ⟨y, hy, e⟩
    rw [strN_inj hz (hm y hy) e]; exact hy
  · exact fun h => ⟨z, h, rfl⟩
theorem meet_strs {l m : List Int} (hl : ∀ z ∈ l, 1 ≤ z ∧ z ≤ 10) (hm : ∀ z ∈ m, 1 ≤ z ∧ z ≤ 10) : (l.map strN).filter (hasS (m.map strN)) = (meet l m).map strN := by
  rw [List.filter_map]
  unfold meet
  congr 1
  exact List.filter_congr fun z hz => hasS_map hm (hl z hz)
theorem rules_map {l : List Int} (hl : ∀ z ∈ l, 1 ≤ z ∧ z ≤ 10) {P : Int → Prop} [DecidablePred P] (h : ∀ z, 1 ≤ z ∧ z ≤ 10 → (z ∈ l ↔ P z)) : rulesOf (l.map strN) = powers.filter fun p => decide (P p.1) := by
  unfold rulesOf
  refine List.filter_congr fun p hp => ?_
  have hp1 : 1 ≤ p.1 ∧ p.1 ≤ 10 := by
    have : ∀ p ∈ powers, 1 ≤ p.1 ∧ p.1 ≤ 10 := by decide
    exact this p hp
  show hasS (l.map strN) (strN p.1) = _
  rw [hasS_map hl hp1, Bool.eq_iff_iff, decide_eq_true_eq, decide_eq_true_eq]
  exact h _ hp1
theorem rul_up {n : Int} (hn : 1 ≤ n ∧ n ≤ 10) : rulesOf ((divs n szUp).map strN) = prul n := rules_map (P := fun z => Int.fmod n z = 0) (divs_in n up_in) fun z hz => mem_divs (up_mem hz)
theorem rul_down {n : Int} (hn : 1 ≤ n ∧ n ≤ 10) : rulesOf ((divs n szDown).map strN) = prul n := rules_map (P := fun z => Int.fmod n z = 0) (divs_in n down_in) fun z hz => mem_divs (down_mem hz)
theorem prul_small {n : Int} : ∀ r ∈ prul n, 1 ≤ r.1 ∧ r.1 ≤ 1000 ∧ 0 ≤ r.2 ∧ r.2 ≤ 1000 := by
  intro r hr
  have : ∀ p ∈ powers, 1 ≤ p.1 ∧ p.1 ≤ 1000 ∧ 0 ≤ p.2 ∧ p.2 ≤ 1000 := by decide
  exact this r (List.mem_filter.mp hr).1
theorem told_all : ∀ n ∈ ten, toldOf (prul n) = n := by decide +kernel
theorem told_prul {n : Int} (hn : 1 ≤ n ∧ n ≤ 10) : toldOf (prul n) = n := told_all n (mem_ten hn)
/-! the greatest -/
theorem gcd_all : ∀ a ∈ ten, ∀ b ∈ ten, (1 ≤ gcdI a b ∧ gcdI a b ≤ 10) ∧ ∀ z ∈ ten, Int.fmod (gcdI a b) z = 0 ↔ (Int.fmod a z = 0 ∧ Int.fmod b z = 0) := by decide +kernel
theorem divs_all : ∀ n ∈ ten, n ∈ divs n szDown ∧ n ∈ divs n szUp ∧ (∀ z ∈ divs n szDown, z ≤ n) ∧ ∀ z ∈ divs n szUp, z ≤ n := by decide +kernel
theorem gcd_small {a b : Int} (ha : 1 ≤ a ∧ a ≤ 10) (hb : 1 ≤ b ∧ b ≤ 10) : 1 ≤ gcdI a b ∧ gcdI a b ≤ 10 := (gcd_all a (mem_ten ha) b (mem_ten hb)).1
theorem meet_divs {a b : Int} {s1 s2 : List Int} (ha : 1 ≤ a ∧ a ≤ 10) (hb : 1 ≤ b ∧ b ≤ 10) (h1 : ∀ z ∈ s1, 1 ≤ z ∧ z ≤ 10) (h2 : ∀ z, 1 ≤ z ∧ z ≤ 10 → z ∈ s2) : meet (divs a s1) (divs b s2) = divs (gcdI a b) s1 := by
  show ((s1.filter fun z => decide (Int.fmod a z = 0)).filter fun z => decide (z ∈ divs b s2)) = s1.filter fun z => decide (Int.fmod (gcdI a b) z = 0)
  rw [List.filter_filter]
  refine List.filter_congr fun z hz => ?_
  have g := (gcd_all a (mem_ten ha) b (mem_ten hb)).2 z (mem_ten (h1 z hz))
  rw [Bool.eq_iff_iff, Bool.and_eq_true, decide_eq_true_eq, decide_eq_true_eq, decide_eq_true_eq, mem_divs (h2 z (h1 z hz)), g]
  exact And.comm
noncomputable def ordOf : Nat → List Int
  | 0 => szDown
  | 1 => szUp
  | 2 => szUp
  | 3 => szUp
  | 4 => szDown
  | 5 => szUp
  | _ => szDown
theorem ord_in : ∀ i, ∀ z ∈ ordOf i, 1 ≤ z ∧ z ≤ 10
  | 0 | 4 | (_ + 6) => down_in
  | 1 | 2 | 3 | 5 => up_in
theorem ord_len : ∀ i, (ordOf i).length ≤ 10
  | 0 | 4 | 1 | 2 | 3 | 5 => by decide
  | _ + 6 => show szDown.length ≤ 10 by decide
section
variable {n1 n2 n3 : Int}
theorem mo_all (hn1 : 1 ≤ n1 ∧ n1 ≤ 10) (hn2 : 1 ≤ n2 ∧ n2 ≤ 10) (hn3 : 1 ≤ n3 ∧ n3 ≤ 10) : ∀ i, 1 ≤ moOf n1 n2 n3 i ∧ moOf n1 n2 n3 i ≤ 10
  | 0 => hn1
  | 1 => hn2
  | 2 => hn3
  | 3 => gcd_small hn3 hn1
  | 4 => gcd_small hn1 hn2
  | 5 => gcd_small hn2 hn3
  | _ + 6 => gcd_small (gcd_small hn1 hn2) hn3
theorem zs_is (hn1 : 1 ≤ n1 ∧ n1 ≤ 10) (hn2 : 1 ≤ n2 ∧ n2 ≤ 10) (hn3 : 1 ≤ n3 ∧ n3 ≤ 10) : ∀ i, zsOf n1 n2 n3 i = divs (moOf n1 n2 n3 i) (ordOf i)
  | 0 => rfl
  | 1 => rfl
  | 2 => rfl
  | 3 => meet_divs hn3 hn1 up_in fun _ => down_mem
  | 4 => meet_divs hn1 hn2 down_in fun _ => up_mem
  | 5 => meet_divs hn2 hn3 up_in fun _ => up_mem
  | _ + 6 => by
    show meet (meet (divs n1 szDown) (divs n2 szUp)) (divs n3 szUp) = divs (gcdI (gcdI n1 n2) n3) szDown
    rw [meet_divs hn1 hn2 down_in fun _ => up_mem, meet_divs (gcd_small hn1 hn2) hn3 down_in fun _ => up_mem]
theorem mo_small (hn1 : 1 ≤ n1 ∧ n1 ≤ 10) (hn2 : 1 ≤ n2 ∧ n2 ≤ 10) (hn3 : 1 ≤ n3 ∧ n3 ≤ 10) : ∀ i < 7, 1 ≤ moOf n1 n2 n3 i ∧ moOf n1 n2 n3 i ≤ 10 := fun i _ => mo_all hn1 hn2 hn3 i
theorem zs_small (hn1 : 1 ≤ n1 ∧ n1 ≤ 10) (hn2 : 1 ≤ n2 ∧ n2 ≤ 10) (hn3 : 1 ≤ n3 ∧ n3 ≤ 10) : ∀ i < 7, (zsOf n1 n2 n3 i).length ≤ 10 ∧ ∀ z ∈ zsOf n1 n2 n3 i, 1 ≤ z ∧ z ≤ 10 := fun i _ => by
  rw [zs_is hn1 hn2 hn3]
  exact ⟨Nat.le_trans (List.length_filter_le _ _) (ord_len i), divs_in _ (ord_in i)⟩
theorem zs_max (hn1 : 1 ≤ n1 ∧ n1 ≤ 10) (hn2 : 1 ≤ n2 ∧ n2 ≤ 10) (hn3 : 1 ≤ n3 ∧ n3 ≤ 10) : ∀ i < 7, moOf n1 n2 n3 i ∈ zsOf n1 n2 n3 i ∧ ∀ z ∈ zsOf n1 n2 n3 i, z ≤ moOf n1 n2 n3 i := fun i _ => by
  rw [zs_is hn1 hn2 hn3]
  have h := divs_all _ (mem_ten (mo_all hn1 hn2 hn3 i))
  have e : ordOf i = szDown ∨ ordOf i = szUp := by
    match i with
    | 0 | 4 | (_ + 6) => exact .inl rfl
    | 1 | 2 | 3 | 5 => exact .inr rfl
  rcases e with e | e
  · rw [e]; exact ⟨h.1, h.2.2.1⟩
  · rw [e]; exact ⟨h.2.1, h.2.2.2⟩
theorem zs_div (hn1 : 1 ≤ n1 ∧ n1 ≤ 10) (hn2 : 1 ≤ n2 ∧ n2 ≤ 10) (hn3 : 1 ≤ n3 ∧ n3 ≤ 10) : ∀ i f sz, fts[i]? = some f → [szDown, szUp, szUp][f.toNat]? = some sz → (sz.filter fun z => decide (Int.fmod (moOf n1 n2 n3 i) z = 0)) = zsOf n1 n2 n3 i := by
  intro i f sz h1 h2
  have e : sz = ordOf i := by
    rcases i with _ | _ | _ | _ | _ | _ | _ | i
    all_goals first
      | (cases h1; exact (Option.some.inj h2).symm)
      | (simp [fts] at h1)
  rw [e, zs_is hn1 hn2 hn3]
  rfl
theorem three_all : ∀ x ∈ ten, ∀ y ∈ ten, ∀ z ∈ ten, 1 ≤ x * y * z ∧ x * y * z ≤ 1000 := by decide +kernel
theorem shared_small (hn1 : 1 ≤ n1 ∧ n1 ≤ 10) (hn2 : 1 ≤ n2 ∧ n2 ≤ 10) (hn3 : 1 ≤ n3 ∧ n3 ≤ 10) : 1 ≤ moOf n1 n2 n3 3 * moOf n1 n2 n3 4 * moOf n1 n2 n3 5 ∧ moOf n1 n2 n3 3 * moOf n1 n2 n3 4 * moOf n1 n2 n3 5 ≤ 1000 :=
  three_all _ (mem_ten (mo_all hn1 hn2 hn3 3)) _ (mem_ten (mo_all hn1 hn2 hn3 4)) _ (mem_ten (mo_all hn1 hn2 hn3 5))
/-- what the rules of all three tell -/
noncomputable def lawOk (n1 n2 n3 : Int) : Bool :=
  let t := toldOf (rul3 n1 n2 n3)
  decide (0 ≤ t ∧ t ≤ 100000) && decide (t * (gcdI n3 n1 * gcdI n1 n2 * gcdI n2 n3) = n1 * n2 * n3 * gcdI (gcdI n1 n2) n3) && decide (toldOf (rulU n1 n2 n3) = t)
theorem law_all : ∀ a ∈ ten, ∀ b ∈ ten, ∀ c ∈ ten, lawOk a b c = true := by decide +kernel
theorem law_ok (hn1 : 1 ≤ n1 ∧ n1 ≤ 10) (hn2 : 1 ≤ n2 ∧ n2 ≤ 10) (hn3 : 1 ≤ n3 ∧ n3 ≤ 10) : (0 ≤ toldOf (rul3 n1 n2 n3) ∧ toldOf (rul3 n1 n2 n3) ≤ 100000) ∧ toldOf (rul3 n1 n2 n3) * (gcdI n3 n1 * gcdI n1 n2 * gcdI n2 n3) = n1 * n2 * n3 * gcdI (gcdI n1 n2) n3 ∧ toldOf (rulU n1 n2 n3) = toldOf (rul3 n1 n2 n3) := by
  have h := law_all _ (mem_ten hn1) _ (mem_ten hn2) _ (mem_ten hn3)
  unfold lawOk at h
  simp only [Bool.and_eq_true, decide_eq_true_eq] at h
  exact ⟨h.1.1, h.1.2, h.2⟩
theorem told_small (hn1 : 1 ≤ n1 ∧ n1 ≤ 10) (hn2 : 1 ≤ n2 ∧ n2 ≤ 10) (hn3 : 1 ≤ n3 ∧ n3 ≤ 10) : 0 ≤ toldOf (rul3 n1 n2 n3) ∧ toldOf (rul3 n1 n2 n3) ≤ 100000 := (law_ok hn1 hn2 hn3).1
theorem last_eq (hn1 : 1 ≤ n1 ∧ n1 ≤ 10) (hn2 : 1 ≤ n2 ∧ n2 ≤ 10) (hn3 : 1 ≤ n3 ∧ n3 ≤ 10) : toldOf (rul3 n1 n2 n3) * (moOf n1 n2 n3 3 * moOf n1 n2 n3 4 * moOf n1 n2 n3 5) = n1 * n2 * n3 * moOf n1 n2 n3 6 := (law_ok hn1 hn2 hn3).2.1
end
/-! columns -/
noncomputable def c1 (n z : Int) : Int := if Int.fmod n z = 0 then 1 else 0
theorem c1_two (n z : Int) : c1 n z = 0 ∨ c1 n z = 1 := by unfold c1; split <;> simp
theorem c1_iff (n z : Int) : Int.fmod n z = 0 ↔ c1 n z = 1 := by unfold c1; split <;> simp_all
noncomputable def eleven : List Int := [1, 2, 3, 4, 5, 6, 7, 8, 9, 10, 11]
theorem mem_eleven {z : Int} (h : 1 ≤ z ∧ z ≤ 11) : z ∈ eleven := fin_mem (m := 11) (by decide) h
theorem fd_all : ∀ n ∈ ten, ∀ z ∈ eleven, Int.fdiv n z = Int.fdiv (n - 1) z + c1 n z ∧ (Int.fmod n z = 0 → z ≤ n) := by decide +kernel
theorem all11 {P : Int → Prop} (h1 : P 1) (h2 : P 2) (h3 : P 3) (h4 : P 4) (h5 : P 5) (h6 : P 6) (h7 : P 7) (h8 : P 8) (h9 : P 9) (h10 : P 10) (h11 : P 11) : ∀ z ∈ eleven, P z := by
  intro z hz
  simp only [eleven, List.mem_cons, List.not_mem_nil, or_false] at hz
  rcases hz with rfl | rfl | rfl | rfl | rfl | rfl | rfl | rfl | rfl | rfl | rfl <;> assumption
theorem mul11 : ∀ z ∈ eleven, ∀ a c : Int, z * (a + c) = z * a + z * c ∧ (c = 0 ∨ c = 1 ∨ c = 2 ∨ c = 3 → (0 < z * c ↔ 0 < c) ∧ 0 ≤ z * c) := fun z hz a c => by
  refine ⟨Int.mul_add _ _ _, ?_⟩
  have h1 : 1 ≤ z := by
    have : ∀ z ∈ eleven, 1 ≤ z := by decide
    exact this z hz
  rintro (rfl | rfl | rfl | rfl) <;> omega
section
variable {b n n1 n2 n3 z : Int}
theorem one_cols (hb : 0 ≤ b ∧ b ≤ 2) (hn : 1 ≤ n ∧ n ≤ 10) (hz : 1 ≤ z ∧ z ≤ 11) : indentOf (wsOf [n] b) z = indentOf (wsOf [n - 1] b) z + z * c1 n z := by
  rw [indent_is hb (by simp) (by intro r hr; rw [List.mem_singleton.mp hr]; omega) hz.1, indent_is hb (by simp) (by intro r hr; rw [List.mem_singleton.mp hr]; omega) hz.1]
  have e := (fd_all n (mem_ten hn) z (mem_eleven hz)).1
  simp only [List.map_cons, List.map_nil, List.sum_cons, List.sum_nil, List.length_singleton]
  rw [e, show Int.fdiv (n - 1) z + c1 n z + 0 + ((1 : Nat) : Int) = (Int.fdiv (n - 1) z + 0 + ((1 : Nat) : Int)) + c1 n z by omega, Int.mul_add]
  omega
theorem three_cols (hb : 0 ≤ b ∧ b ≤ 2) (hn1 : 1 ≤ n1 ∧ n1 ≤ 10) (hn2 : 1 ≤ n2 ∧ n2 ≤ 10) (hn3 : 1 ≤ n3 ∧ n3 ≤ 10) (hz : 1 ≤ z ∧ z ≤ 11) : indentOf (wsOf [n1, n2, n3] b) z = indentOf (wsOf [n1 - 1, n2 - 1, n3 - 1] b) z + z * (c1 n1 z + c1 n2 z + c1 n3 z) := by
  rw [indent_is hb (by simp) (by intro r hr; simp only [List.mem_cons, List.not_mem_nil, or_false] at hr; omega) hz.1, indent_is hb (by simp) (by intro r hr; simp only [List.mem_cons, List.not_mem_nil, or_false] at hr; omega) hz.1]
  have e1 := (fd_all n1 (mem_ten hn1) z (mem_eleven hz)).1
  have e2 := (fd_all n2 (mem_ten hn2) z (mem_eleven hz)).1
  have e3 := (fd_all n3 (mem_ten hn3) z (mem_eleven hz)).1
  simp only [List.map_cons, List.map_nil, List.sum_cons, List.sum_nil, List.length_cons, List.length_nil]
  rw [e1, e2, e3]
  generalize Int.fdiv (n1 - 1) z = q1
  generalize Int.fdiv (n2 - 1) z = q2
  generalize Int.fdiv (n3 - 1) z = q3
  rw [← Int.add_assoc, Int.add_assoc b, ← Int.mul_add]
  congr 2
  omega
theorem mx1 (a b : Int) : max (a + 1) (b + 1) = max a b + 1 := by omega
theorem mx0 {a : Int} (h : 0 ≤ a) : max 0 (a + 1) = a + 1 := Int.max_eq_right (Int.le_trans h (Int.le_add_of_nonneg_right (by decide)))
theorem one_top_all : ∀ b ∈ [(0 : Int), 1, 2], ∀ n ∈ ten, topSize (wsOf [n] b) (wsOf [n - 1] b) = max n b + 1 := by decide +kernel
theorem mem_three {b : Int} (h : 0 ≤ b ∧ b ≤ 2) : b ∈ [(0 : Int), 1, 2] := by simp only [List.mem_cons, List.not_mem_nil, or_false]; omega
theorem one_top (hb : 0 ≤ b ∧ b ≤ 2) (hn : 1 ≤ n ∧ n ≤ 10) : topSize (wsOf [n] b) (wsOf [n - 1] b) = max n b + 1 := one_top_all b (mem_three hb) n (mem_ten hn)
theorem len3 {r1 r2 r3 : Int} (h1 : 0 ≤ r1) (h2 : 0 ≤ r2) (h3 : 0 ≤ r3) : (([r1, r2, r3].foldl bump []).length : Int) = max (max r1 r2) r3 + 1 := by
  simp only [List.foldl_cons, List.foldl_nil]
  rw [bump_len_is h3, bump_len_is h2, bump_len_is h1]
  simp only [List.length_nil]
  rw [Int.natCast_zero, mx0 h1, mx1, mx1]
theorem mxc (p q b : Int) : max (max p b) (max q b) = max (max p q) b := by
  rw [Int.max_assoc, ← Int.max_assoc b, Int.max_comm b q, Int.max_assoc q, Int.max_self, ← Int.max_assoc]
theorem top3 (c b : Int) : max (max (c - 1 + 1 - 1) b) (max (c + 1 - 1) b) + 1 = max c b + 1 := by
  rw [mxc, Int.add_sub_cancel, Int.add_sub_cancel, Int.max_eq_right (Int.sub_le_self c (by decide))]
theorem three_top (hb : 0 ≤ b ∧ b ≤ 2) (hn1 : 1 ≤ n1 ∧ n1 ≤ 10) (hn2 : 1 ≤ n2 ∧ n2 ≤ 10) (hn3 : 1 ≤ n3 ∧ n3 ≤ 10) : topSize (wsOf [n1 - 1, n2 - 1, n3 - 1] b) (wsOf [n1, n2, n3] b) = max (max (max n1 n2) n3) b + 1 := by
  have h1 := cs_len (rows := [n1, n2, n3]) hb (by simp) (by intro r hr; simp only [List.mem_cons, List.not_mem_nil, or_false] at hr; omega)
  have h2 := cs_len (rows := [n1 - 1, n2 - 1, n3 - 1]) hb (by simp) (by intro r hr; simp only [List.mem_cons, List.not_mem_nil, or_false] at hr; omega)
  have l1 := len3 (r1 := n1) (r2 := n2) (r3 := n3) (by omega) (by omega) (by omega)
  have l2 := len3 (r1 := n1 - 1) (r2 := n2 - 1) (r3 := n3 - 1) (by omega) (by omega) (by omega)
  unfold topSize
  rw [h1.1, h1.2, h2.1, h2.2, l1, l2, Int.sub_max_sub_right, Int.sub_max_sub_right, top3]
theorem mem_rangeKs' {n : Nat} : z ∈ rangeKs 1 n ↔ 1 ≤ z ∧ z ≤ (n : Int) := by
  constructor
  · intro h; have := mem_rangeKs h; omega
  · intro h
    exact List.mem_map.mpr ⟨(z - 1).toNat, List.mem_range.mpr (by omega), by omega⟩
theorem wit_mem {st st' : Ws} : z ∈ (witOf st st').map (·.1) ↔ (1 ≤ z ∧ z ≤ ((topSize st st').toNat : Int)) ∧ indentOf st z ≠ indentOf st' z := by
  unfold witOf
  rw [newRows_is, List.map_map]
  simp only [List.mem_map, List.mem_filter, Function.comp, decide_eq_true_eq, mem_rangeKs']
  constructor
  · rintro ⟨a, h, rfl⟩; exact h
  · exact fun h => ⟨z, h, rfl⟩
theorem one_firsts (hb : 0 ≤ b ∧ b ≤ 2) (hn : 1 ≤ n ∧ n ≤ 10) : z ∈ (witOf (wsOf [n] b) (wsOf [n - 1] b)).map (·.1) ↔ 1 ≤ z ∧ z ≤ 10 ∧ Int.fmod n z = 0 := by
  rw [wit_mem, one_top hb hn]
  constructor
  · rintro ⟨h1, h2⟩
    have hz : 1 ≤ z ∧ z ≤ 11 := by omega
    rw [one_cols hb hn hz] at h2
    have hm := (mul11 z (mem_eleven hz) 0 (c1 n z)).2
    have hc := c1_two n z
    have hf : Int.fmod n z = 0 := by
      rw [c1_iff]
      rcases hc with h | h
      · rw [h] at h2; simp at h2
      · exact h
    have := (fd_all n (mem_ten hn) z (mem_eleven hz)).2 hf
    exact ⟨h1.1, by omega, hf⟩
  · rintro ⟨h1, h2, h3⟩
    have hz : 1 ≤ z ∧ z ≤ 11 := by omega
    have := (fd_all n (mem_ten hn) z (mem_eleven hz)).2 h3
    refine ⟨by omega, ?_⟩
    rw [one_cols hb hn hz, (c1_iff n z).mp h3]
    omega
theorem three_firsts (hb : 0 ≤ b ∧ b ≤ 2) (hn1 : 1 ≤ n1 ∧ n1 ≤ 10) (hn2 : 1 ≤ n2 ∧ n2 ≤ 10) (hn3 : 1 ≤ n3 ∧ n3 ≤ 10) : z ∈ (rows3 n1 n2 n3 b).map (·.1) ↔ 1 ≤ z ∧ z ≤ 10 ∧ (Int.fmod n1 z = 0 ∨ Int.fmod n2 z = 0 ∨ Int.fmod n3 z = 0) := by
  unfold rows3
  rw [wit_mem, three_top hb hn1 hn2 hn3]
  constructor
  · rintro ⟨h1, h2⟩
    have hz : 1 ≤ z ∧ z ≤ 11 := by omega
    rw [three_cols hb hn1 hn2 hn3 hz] at h2
    have hf : Int.fmod n1 z = 0 ∨ Int.fmod n2 z = 0 ∨ Int.fmod n3 z = 0 := by
      rw [c1_iff, c1_iff, c1_iff]
      rcases c1_two n1 z with a | a
      · rcases c1_two n2 z with b' | b'
        · rcases c1_two n3 z with c | c
          · rw [a, b', c] at h2; simp at h2
          · exact .inr (.inr c)
        · exact .inr (.inl b')
      · exact .inl a
    have g1 := (fd_all n1 (mem_ten hn1) z (mem_eleven hz)).2
    have g2 := (fd_all n2 (mem_ten hn2) z (mem_eleven hz)).2
    have g3 := (fd_all n3 (mem_ten hn3) z (mem_eleven hz)).2
    refine ⟨h1.1, ?_, hf⟩
    rcases hf with h | h | h
    · have := g1 h; omega
    · have := g2 h; omega
    · have := g3 h; omega
  · rintro ⟨h1, h2, h3⟩
    have hz : 1 ≤ z ∧ z ≤ 11 := by omega
    have g1 := (fd_all n1 (mem_ten hn1) z (mem_eleven hz)).2
    have g2 := (fd_all n2 (mem_ten hn2) z (mem_eleven hz)).2
    have g3 := (fd_all n3 (mem_ten hn3) z (mem_eleven hz)).2
    refine ⟨⟨h1, ?_⟩, ?_⟩
    · rcases h3 with h | h | h
      · have := g1 h; omega
      · have := g2 h; omega
      · have := g3 h; omega
    · rw [three_cols hb hn1 hn2 hn3 hz]
      have d1 := c1_two n1 z
      have d2 := c1_two n2 z
      have d3 := c1_two n3 z
      have hs : 1 ≤ c1 n1 z + c1 n2 z + c1 n3 z := by
        rw [c1_iff, c1_iff, c1_iff] at h3
        omega
      have hm := ((mul11 z (mem_eleven hz) 0 (c1 n1 z + c1 n2 z + c1 n3 z)).2 (by omega)).1.mpr (by omega)
      omega
theorem agents_is {rows : List (Int × Int × Int)} {sz : List Int} {P : Int → Prop} [DecidablePred P] (h : ∀ z, z ∈ rows.map (·.1) ↔ 1 ≤ z ∧ z ≤ 10 ∧ P z) (h1 : P 1) (hs : ∀ z ∈ sz, 1 ≤ z ∧ z ≤ 10) : agentsOf rows sz = (sz.filter fun z => decide (P z)).map strN := by
  have hne : rows ≠ [] := by
    rintro rfl
    have := (h 1).mpr ⟨by decide, by decide, h1⟩
    simp at this
  have ht : ∀ r ∈ rows, r.1 ∈ ten := fun r hr => by
    have := (h r.1).mp (List.mem_map_of_mem hr)
    exact mem_ten ⟨this.1, this.2.1⟩
  unfold agentsOf
  congr 1
  refine List.filter_congr fun z hz => ?_
  rw [applies_is hne ht (mem_ten (hs z hz)), Bool.eq_iff_iff, decide_eq_true_eq, decide_eq_true_eq, h z]
  have := hs z hz
  exact ⟨fun x => x.2.2, fun x => ⟨this.1, this.2, x⟩⟩
theorem ag_up (hb : 0 ≤ b ∧ b ≤ 2) (hn : 1 ≤ n ∧ n ≤ 10) : agOf b n szUp = (divs n szUp).map strN := agents_is (P := fun z => Int.fmod n z = 0) (fun z => one_firsts hb hn) (by simp) up_in
theorem ag_down (hb : 0 ≤ b ∧ b ≤ 2) (hn : 1 ≤ n ∧ n ≤ 10) : agOf b n szDown = (divs n szDown).map strN := agents_is (P := fun z => Int.fmod n z = 0) (fun z => one_firsts hb hn) (by simp) down_in
theorem rows_small (hb : 0 ≤ b ∧ b ≤ 2) (hn1 : 1 ≤ n1 ∧ n1 ≤ 10) (hn2 : 1 ≤ n2 ∧ n2 ≤ 10) (hn3 : 1 ≤ n3 ∧ n3 ≤ 10) : (rows3 n1 n2 n3 b).length ≤ 1000 ∧ ∀ r ∈ rows3 n1 n2 n3 b, 0 ≤ r.1 ∧ r.1 ≤ 100000 := by
  refine ⟨?_, fun r hr => ?_⟩
  · refine Nat.le_trans (newRows_len _ _ _) ?_
    rw [three_top hb hn1 hn2 hn3]
    omega
  · have := (three_firsts hb hn1 hn2 hn3).mp (List.mem_map_of_mem (f := (·.1)) hr)
    omega
theorem rows_told (hb : 0 ≤ b ∧ b ≤ 2) (hn1 : 1 ≤ n1 ∧ n1 ≤ 10) (hn2 : 1 ≤ n2 ∧ n2 ≤ 10) (hn3 : 1 ≤ n3 ∧ n3 ≤ 10) : toldOf (rulesOf (agentsOf (rows3 n1 n2 n3 b) szUp)) = toldOf (rul3 n1 n2 n3) := by
  rw [agents_is (P := fun z => Int.fmod n1 z = 0 ∨ Int.fmod n2 z = 0 ∨ Int.fmod n3 z = 0) (fun z => three_firsts hb hn1 hn2 hn3) (by simp) up_in]
  rw [rules_map (P := fun z => Int.fmod n1 z = 0 ∨ Int.fmod n2 z = 0 ∨ Int.fmod n3 z = 0) (fun z hz => up_in z (List.mem_filter.mp hz).1) fun z hz => by simp [up_mem hz]]
  exact (law_ok hn1 hn2 hn3).2.2
/-! the counts -/
theorem cnt_at (hz : 1 ≤ z ∧ z ≤ 10) : ((([(divs n1 szDown).map strN, (divs n2 szUp).map strN, (divs n3 szUp).map strN].filter fun a => hasS a (Str.ofString (toString z))).length : Nat) : Int) = c1 n1 z + c1 n2 z + c1 n3 z := by
  have e1 : hasS ((divs n1 szDown).map strN) (Str.ofString (toString z)) = decide (Int.fmod n1 z = 0) := by
    show hasS _ (strN z) = _
    rw [hasS_map (divs_in n1 down_in) hz, Bool.eq_iff_iff, decide_eq_true_eq, decide_eq_true_eq, mem_divs (down_mem hz)]
  have e2 : ∀ n, hasS ((divs n szUp).map strN) (Str.ofString (toString z)) = decide (Int.fmod n z = 0) := by
    intro n
    show hasS _ (strN z) = _
    rw [hasS_map (divs_in n up_in) hz, Bool.eq_iff_iff, decide_eq_true_eq, decide_eq_true_eq, mem_divs (up_mem hz)]
  simp only [List.filter, e1, e2, c1]
  by_cases a1 : Int.fmod n1 z = 0 <;> by_cases a2 : Int.fmod n2 z = 0 <;> by_cases a3 : Int.fmod n3 z = 0 <;> simp [a1, a2, a3]
theorem cnt_get {j : Nat} (hj : j < 10) : (cnt3 n1 n2 n3).getD j 0 = c1 n1 (1 + (j : Int)) + c1 n2 (1 + (j : Int)) + c1 n3 (1 + (j : Int)) := by
  unfold cnt3 rangeKs
  rw [List.getD_eq_getElem?_getD, List.getElem?_map, List.getElem?_map, List.getElem?_range hj]
  exact cnt_at (z := 1 + (j : Int)) (by omega)
theorem cnt_small : (cnt3 n1 n2 n3).length = 10 ∧ ∀ c ∈ cnt3 n1 n2 n3, 0 ≤ c ∧ c ≤ 3 := by
  refine ⟨by simp [cnt3, rangeKs], fun c hc => ?_⟩
  obtain ⟨z, hz, rfl⟩ := List.mem_map.mp hc
  have hz' := mem_rangeKs'.mp hz
  rw [cnt_at (by omega)]
  have d1 := c1_two n1 z
  have d2 := c1_two n2 z
  have d3 := c1_two n3 z
  omega
theorem filter_cut {p : Nat → Bool} {m a : Nat} (h : m ≤ a) (hp : ∀ j, m ≤ j → j < a → p j = false) : (List.range a).filter p = (List.range m).filter p := by
  obtain ⟨k, rfl⟩ : ∃ k, a = m + k := ⟨a - m, by omega⟩
  rw [List.range_add, List.filter_append]
  have : (List.map (fun x => m + x) (List.range k)).filter p = [] := by
    rw [List.filter_eq_nil_iff]
    intro x hx
    obtain ⟨y, hy, rfl⟩ := List.mem_map.mp hx
    have := List.mem_range.mp hy
    rw [hp _ (by omega) (by omega)]; decide
  rw [this, List.append_nil]
theorem rows_due (hb : 0 ≤ b ∧ b ≤ 2) (hn1 : 1 ≤ n1 ∧ n1 ≤ 10) (hn2 : 1 ≤ n2 ∧ n2 ≤ 10) (hn3 : 1 ≤ n3 ∧ n3 ≤ 10) : dueOf (cnt3 n1 n2 n3) 10 = (rows3 n1 n2 n3 b).map rowPair := by
  have cz : ∀ z, 1 ≤ z ∧ z ≤ 11 → max (max n1 n2) n3 < z → c1 n1 z + c1 n2 z + c1 n3 z = 0 := by
    intro z hz hlt
    have g1 := (fd_all n1 (mem_ten hn1) z (mem_eleven hz)).2
    have g2 := (fd_all n2 (mem_ten hn2) z (mem_eleven hz)).2
    have g3 := (fd_all n3 (mem_ten hn3) z (mem_eleven hz)).2
    have l1 : n1 < z := Int.lt_of_le_of_lt (Int.le_trans (Int.le_max_left _ _) (Int.le_max_left _ _)) hlt
    have l2 : n2 < z := Int.lt_of_le_of_lt (Int.le_trans (Int.le_max_right _ _) (Int.le_max_left _ _)) hlt
    have l3 : n3 < z := Int.lt_of_le_of_lt (Int.le_max_right _ _) hlt
    unfold c1
    rw [if_neg fun e => Int.not_lt.mpr (g1 e) l1, if_neg fun e => Int.not_lt.mpr (g2 e) l2, if_neg fun e => Int.not_lt.mpr (g3 e) l3]
    rfl
  have M : ∃ M : Nat, (M : Int) = max (max n1 n2) n3 := ⟨(max (max n1 n2) n3).toNat, by omega⟩
  obtain ⟨M, hM⟩ := M
  have hM10 : M ≤ 10 := by omega
  have htop : ∃ t : Nat, (topSize (wsOf [n1 - 1, n2 - 1, n3 - 1] b) (wsOf [n1, n2, n3] b)).toNat = t ∧ M ≤ t ∧ t ≤ 11 := ⟨_, rfl, by rw [three_top hb hn1 hn2 hn3]; omega, by rw [three_top hb hn1 hn2 hn3]; omega⟩
  obtain ⟨t, et, hMt, ht11⟩ := htop
  have two : ∀ j : Nat, j < 11 → (indentOf (wsOf [n1 - 1, n2 - 1, n3 - 1] b) (1 + (j : Int)) ≠ indentOf (wsOf [n1, n2, n3] b) (1 + (j : Int)) ↔ 0 < c1 n1 (1 + (j : Int)) + c1 n2 (1 + (j : Int)) + c1 n3 (1 + (j : Int))) := by
    intro j hj
    have hz : 1 ≤ 1 + (j : Int) ∧ 1 + (j : Int) ≤ 11 := by omega
    rw [three_cols hb hn1 hn2 hn3 hz]
    have d1 := c1_two n1 (1 + (j : Int))
    have d2 := c1_two n2 (1 + (j : Int))
    have d3 := c1_two n3 (1 + (j : Int))
    have hm := (mul11 (1 + (j : Int)) (mem_eleven hz) 0 (c1 n1 (1 + (j : Int)) + c1 n2 (1 + (j : Int)) + c1 n3 (1 + (j : Int)))).2 (by omega)
    omega
  unfold rows3 witOf dueOf
  rw [et, newRows_is, List.map_map]
  unfold rangeKs
  rw [List.filter_map, List.map_map]
  rw [filter_cut (m := M) hM10 (fun j h1 h2 => by rw [cnt_get h2, cz (1 + (j : Int)) (by omega) (by omega)]; decide)]
  rw [filter_cut (m := M) hMt (fun j h1 h2 => by
    simp only [Function.comp]
    rw [decide_eq_false_iff_not, two j (by omega), cz (1 + (j : Int)) (by omega) (by omega)]
    decide)]
  have e : ((List.range M).filter fun j : Nat => decide (0 < (cnt3 n1 n2 n3).getD j 0)) = (List.range M).filter ((fun ts : Int => decide (indentOf (wsOf [n1 - 1, n2 - 1, n3 - 1] b) ts ≠ indentOf (wsOf [n1, n2, n3] b) ts)) ∘ fun (i : Nat) => 1 + (i : Int)) := by
    refine List.filter_congr fun j hj => ?_
    have := List.mem_range.mp hj
    simp only [Function.comp]
    rw [Bool.eq_iff_iff, decide_eq_true_eq, decide_eq_true_eq, two j (by omega), cnt_get (by omega)]
  rw [e]
  refine List.map_congr_left fun j hj => ?_
  have hj' := List.mem_range.mp (List.mem_filter.mp hj).1
  simp only [Function.comp, rowPair]
  rw [cnt_get (by omega), three_cols hb hn1 hn2 hn3 (by omega)]
  congr 1
  omega
/-! the unlike stops -/
theorem stop_is (hn : 1 ≤ n) (hz : 1 ≤ z) : stopOf n z = z * Int.fdiv n z + z := by
  unfold stopOf
  have := Int.mul_fdiv_add_fmod n z
  omega
theorem rows_un (hb : 0 ≤ b ∧ b ≤ 2) (hn1 : 1 ≤ n1 ∧ n1 ≤ 10) (hn2 : 1 ≤ n2 ∧ n2 ≤ 10) (hn3 : 1 ≤ n3 ∧ n3 ≤ 10) : unRows n1 n2 n3 b (unTop n1 n2 n3 b).toNat = witOf (wsOf [n1, n2] b) (wsOf [n3] b) := by
  have h1 := cs_len (rows := [n1, n2]) hb (by simp) (by intro r hr; simp only [List.mem_cons, List.not_mem_nil, or_false] at hr; omega)
  have h2 := cs_len (rows := [n3]) hb (by simp) (by intro r hr; rw [List.mem_singleton.mp hr]; omega)
  have l1 : (([n1, n2].foldl bump []).length : Int) = max n1 n2 + 1 := by
    simp only [List.foldl_cons, List.foldl_nil]
    rw [bump_len_is (Int.le_trans (by decide) hn2.1), bump_len_is (Int.le_trans (by decide) hn1.1)]
    simp only [List.length_nil]
    rw [Int.natCast_zero, mx0 (Int.le_trans (by decide) hn1.1), mx1]
  have l2 : (([n3].foldl bump []).length : Int) = n3 + 1 := by
    simp only [List.foldl_cons, List.foldl_nil]
    rw [bump_len_is (Int.le_trans (by decide) hn3.1)]
    simp only [List.length_nil]
    rw [Int.natCast_zero, mx0 (Int.le_trans (by decide) hn3.1)]
  have et : topSize (wsOf [n1, n2] b) (wsOf [n3] b) = unTop n1 n2 n3 b := by
    unfold topSize unTop
    rw [h1.1, h1.2, h2.1, h2.2, l1, l2]
    rw [Int.add_sub_cancel, Int.add_sub_cancel, mxc]
  unfold witOf
  rw [et]
  have i1 : ∀ z, 1 ≤ z → indentOf (wsOf [n1, n2] b) z = stopOf n1 z + stopOf n2 z + b := by
    intro z hz
    rw [indent_is hb (by simp) (by intro r hr; simp only [List.mem_cons, List.not_mem_nil, or_false] at hr; omega) hz, stop_is hn1.1 hz, stop_is hn2.1 hz]
    simp only [List.map_cons, List.map_nil, List.sum_cons, List.sum_nil, List.length_cons, List.length_nil]
    generalize Int.fdiv n1 z = q1
    generalize Int.fdiv n2 z = q2
    rw [show q1 + (q2 + 0) + ((0 + 1 + 1 : Nat) : Int) = q1 + q2 + 1 + 1 by omega, Int.mul_add, Int.mul_add, Int.mul_add]
    omega
  have i2 : ∀ z, 1 ≤ z → indentOf (wsOf [n3] b) z = stopOf n3 z + b := by
    intro z hz
    rw [indent_is hb (by simp) (by intro r hr; rw [List.mem_singleton.mp hr]; omega) hz, stop_is hn3.1 hz]
    simp only [List.map_cons, List.map_nil, List.sum_cons, List.sum_nil, List.length_cons, List.length_nil]
    generalize Int.fdiv n3 z = q3
    rw [show q3 + 0 + ((0 + 1 : Nat) : Int) = q3 + 1 by omega, Int.mul_add]
    omega
  generalize (unTop n1 n2 n3 b).toNat = k
  induction k with
  | zero => rfl
  | succ k ih =>
    rw [unRows_succ, newRows_succ, ih, unStep, newStep, i1 _ (by omega), i2 _ (by omega)]
    by_cases hh : stopOf n1 (1 + (k : Int)) + stopOf n2 (1 + (k : Int)) = stopOf n3 (1 + (k : Int))
    · rw [if_pos hh, if_pos (by omega)]
    · rw [if_neg hh, if_neg (by omega)]
end
end Mine
end

end
end
end
end
end
end
section
open PySem PySem.W PyProof.Rows
namespace Mine
theorem sec_J1 {M : Model} {A : Around} {E : Value → Shared → Prop} {s : Shared} {env : Env} {p : Pos} {Q : Flow → Shared → Prop} (h : Q .next s) : wpAny M A (exec (.Pass p) env) Q E s := by
  w_top off
  k_with_none
  walk1
  exact h
end Mine
end
section
open PySem PySem.W PyProof.Rows
set_option maxRecDepth 100000
set_option maxHeartbeats 1000000
namespace Mine
noncomputable def lawRest (k : Nat) : List Stmt := lawBody.drop k
theorem lawLen : lawBody.length = 23 := by rfl
theorem rest_step {k : Nat} (h : k < 23) : lawRest k = lawStmt k :: lawRest (k + 1) := by
  unfold lawRest lawStmt
  rw [← lawLen] at h
  rw [List.drop_eq_getElem_cons h, List.getElem?_eq_getElem h]
  rfl
theorem step {k : Nat} {M : Model} {A : Around} {env : Env} {Q : Flow → Shared → Prop} {E : Value → Shared → Prop} {s : Shared} (hk : k < 23) (h : wpAny M A (exec (lawStmt k) env) (fun f s' => match f with | .next => wpAny M A (execs (lawRest (k + 1)) env) Q E s' | f => Q f s') E s) : wpAny M A (execs (lawRest k) env) Q E s := by
  rw [rest_step hk]; exact wpAny_execs_cons h
theorem seven {gs : List Value} {g0 g1 g2 g3 g4 g5 g6 : Int} (h : IntsAre gs [g0, g1, g2, g3, g4, g5, g6]) : ∃ t0 t1 t2 t3 t4 t5 t6, gs = [.int g0 t0, .int g1 t1, .int g2 t2, .int g3 t3, .int g4 t4, .int g5 t5, .int g6 t6] := by
  cases h with | cons _ a h => cases h with | cons _ b h => cases h with | cons _ c h => cases h with | cons _ d h => cases h with | cons _ e h => cases h with | cons _ f h => cases h with | cons _ g h => cases h; exact ⟨a, b, c, d, e, f, g, rfl⟩
theorem sameOf {s s' : Shared} {h : Heap} {tk : Nat} (x : Same { s with heap := h, toks := tk } s') : Same s s' := ⟨x.1, x.2.1, x.2.2⟩
theorem neN {a b : Nat} (h : a ≠ b) : a ≠ b := h
theorem newsTabs {h₀ h : Heap} {L : Addr} {led : Led} {t1 t2 : Array Value} (N : News h₀ L h led) (h1 : tb1 t1 ∈ led) (h2 : tb2 t2 ∈ led) : News h₀ L h [tb1 t1, tb2 t2] := newsSub N (allCons h1 (allCons h2 allNil))
theorem rest19 (w : World) {dp un : Nat} {gd : Option (List Code)} {fa : Addr} {cd0 : Value} {outer : List Env} {A₀ : Around} {base h₀ : Heap} {L : Addr} {loose : List Str} {mean : ExcName → Option Value} {mg mb : Str → Option Value} {m : Str → Option Value} {s : Shared} {Q : Flow → Shared → Prop} {E : Value → Shared → Prop}
    (B : Below A₀ base outer h₀) (X : (hd.heap_39 w.params).In h₀) (T : Top topProg loose mean mg mb h₀) (hdp : dp + 8 < recursionLimit) (hu : un + 20 * 8 < cLine)
    {b : Int} (hb : 0 ≤ b ∧ b ≤ 2) {n1 n2 n3 : Int} (hn1 : 1 ≤ n1 ∧ n1 ≤ 10) (hn2 : 1 ≤ n2 ∧ n2 ≤ 10) (hn3 : 1 ≤ n3 ∧ n3 ≤ 10) {an : Addr} {u1 u2 u3 : Tok} {kn : Nat} {tb tbl um : Tok} {lg : Addr} {g0 g1 g2 g3 g4 g5 g6 mu : Int} {gs : List Value} {kg : Nat} {led : Led} {ta tt : Array Value}
    (hmN : m (Str.ofString "numbers") = some (.ref an)) (hmB : m (Str.ofString "behind") = some (.str (behindOf b) tb)) (hmL : m (Str.ofString "blanks") = some (.int b tbl)) (hmG : m (Str.ofString "greatest") = some (.ref lg)) (hmM : m (Str.ofString "multiple") = some (.int mu um))
    (kn1 : (an, W.listOf #[.int n1 u1, .int n2 u2, .int n3 u3] kn) ∈ led) (kg1 : (lg, W.listOf gs.toArray kg) ∈ led) (hgs : IntsAre gs [g0, g1, g2, g3, g4, g5, g6]) (b3 : 1 ≤ g3 ∧ g3 ≤ 10) (b4 : 1 ≤ g4 ∧ g4 ≤ 10) (b5 : 1 ≤ g5 ∧ g5 ≤ 10) (b6 : 1 ≤ g6 ∧ g6 ≤ 10) (bm : 0 ≤ mu ∧ mu ≤ 100000) (bs : 1 ≤ g3 * g4 * g5 ∧ g3 * g4 * g5 ≤ 1000)
    (heq : mu * (g3 * g4 * g5) = n1 * n2 * n3 * g6) (kt1 : tb1 ta ∈ led) (kt2 : tb2 tt ∈ led)
    (F : Fr h₀ L s.heap m) (N : News h₀ L s.heap led) (hQ : ∀ s' m' t1 t2, Fr h₀ L s'.heap m' → News h₀ L s'.heap [tb1 t1, tb2 t2] → Same s s' → Q (.ret (.bool true)) s') :
    wpAny (model PySem.Challenge.rw_rs0140_02.prog w) (ktrTop dp un gd (Str.ofString "law") lawSc L fa cd0 (lawCl L) outer) (execs (lawRest 19) (lawEnv L fa cd0)) Q E s := by
  obtain ⟨t0, t1, t2, t3, t4, t5, t6, rfl⟩ := seven hgs
  refine step (by decide) ?_
  refine seg19 w B X T hdp hu hb hmN hmB kn1 hn1 hn2 hn3 F N ?_
  intro a vs k9 tl nw h1 tk1 m1 F1 hS1 N1 ka hrows
  show wpAny _ _ (execs (lawRest 20) _) _ _ _
  have hmN1 := (hS1.off _ (by decide)).trans hmN
  have hmL1 := (hS1.off _ (by decide)).trans hmL
  have hmG1 := (hS1.off _ (by decide)).trans hmG
  have hmM1 := (hS1.off _ (by decide)).trans hmM
  have s1 : ∀ p ∈ led, p ∈ tl ++ (nw ++ led) := fun p hp => memR (memR hp)
  refine step (by decide) ?_
  refine seg20 w B X T hdp hu hb hmN1 hmL1 hS1.at_ (s1 _ kn1) hn1 hn2 hn3 (memL ka) hrows (fun p hp => memL hp) (rows_un hb hn1 hn2 hn3) F1 N1 ?_
  intro h2 tk2 F2 N2
  show wpAny _ _ (execs (lawRest 21) _) _ _ _
  refine step (by decide) ?_
  refine seg21 w B X T hdp hu hmG1 (s1 _ kg1) b3 b4 b5 F2 N2 ?_
  intro t9 h3 tk3 m3 F3 hS3 N3
  show wpAny _ _ (execs (lawRest 22) _) _ _ _
  have hmN3 := (hS3.off _ (by decide)).trans hmN1
  have hmG3 := (hS3.off _ (by decide)).trans hmG1
  have hmM3 := (hS3.off _ (by decide)).trans hmM1
  refine step (by decide) ?_
  refine seg22 w B X T hdp hu hmG3 hmN3 hmM3 hS3.at_ (s1 _ kg1) (s1 _ kn1) bm bs hn1 hn2 hn3 b6 heq F3 N3 ?_
  intro h4 tk4 F4 N4
  exact hQ _ _ _ _ F4 (newsTabs N4 (s1 _ kt1) (s1 _ kt2)) ⟨rfl, rfl, id⟩
theorem rest17 (w : World) {dp un : Nat} {gd : Option (List Code)} {fa : Addr} {cd0 : Value} {outer : List Env} {A₀ : Around} {base h₀ : Heap} {L : Addr} {loose : List Str} {mean : ExcName → Option Value} {mg mb : Str → Option Value} {m : Str → Option Value} {s : Shared} {Q : Flow → Shared → Prop} {E : Value → Shared → Prop}
    (B : Below A₀ base outer h₀) (X : (hd.heap_39 w.params).In h₀) (T : Top topProg loose mean mg mb h₀) (hdp : dp + 8 < recursionLimit) (hu : un + 20 * 8 < cLine)
    {b : Int} (hb : 0 ≤ b ∧ b ≤ 2) {n1 n2 n3 : Int} (hn1 : 1 ≤ n1 ∧ n1 ≤ 10) (hn2 : 1 ≤ n2 ∧ n2 ≤ 10) (hn3 : 1 ≤ n3 ∧ n3 ≤ 10) {an : Addr} {u1 u2 u3 : Tok} {kn : Nat} {tb tbl : Tok} {lg wz ar ao a d1 d2 d3 : Addr} {g0 g1 g2 g3 g4 g5 g6 : Int} {gs rvs vs us rvw : List Value} {agw : List Str} {kg kr ko k kd : Nat} {cd KK : Led} {t1 t2 : Array Value}
    (hmN : m (Str.ofString "numbers") = some (.ref an)) (hmB : m (Str.ofString "behind") = some (.str (behindOf b) tb)) (hmL : m (Str.ofString "blanks") = some (.int b tbl)) (hmG : m (Str.ofString "greatest") = some (.ref lg)) (hmWh : m (Str.ofString "whole") = some (.ref wz)) (hmR : m (Str.ofString "readers") = some (.ref ar)) (hmO : m (Str.ofString "orders") = some (.ref ao)) (hmW : m (Str.ofString "rows") = some (.ref a))
    (kn1 : (an, W.listOf #[.int n1 u1, .int n2 u2, .int n3 u3] kn) ∈ KK) (kg1 : (lg, W.listOf gs.toArray kg) ∈ KK) (hgs : IntsAre gs [g0, g1, g2, g3, g4, g5, g6]) (b3 : 1 ≤ g3 ∧ g3 ≤ 10) (b4 : 1 ≤ g4 ∧ g4 ≤ 10) (b5 : 1 ≤ g5 ∧ g5 ≤ 10) (b6 : 1 ≤ g6 ∧ g6 ≤ 10) (bs : 1 ≤ g3 * g4 * g5 ∧ g3 * g4 * g5 ≤ 1000)
    (heq : toldOf (rul3 n1 n2 n3) * (g3 * g4 * g5) = n1 * n2 * n3 * g6)
    (eW : EntAt KK wz agw rvw) (RW : RulesAt w (cd ++ KK) rvw (rul3 n1 n2 n3))
    (kO : (ao, W.listOf #[.ref d1, .ref d2, .ref d3] ko) ∈ KK) (kR : (ar, W.listOf rvs.toArray kr) ∈ KK) (hR : ReadersAt KK rvs) (kW : (a, W.listOf vs.toArray k) ∈ KK) (hW : RowsAt KK vs (rows3 n1 n2 n3 b)) (kD : (d2, W.listOf us.toArray kd) ∈ KK) (hI : IntsAre us szUp)
    (F : Fr h₀ L s.heap m) (N : News h₀ L s.heap (tb1 t1 :: tb2 t2 :: (cd ++ KK))) (ht1 : TriplesOk t1.toList) (ht2 : TabC lamQ t2 cd) (h157 : ∀ p ∈ cd ++ KK, @LT.lt Nat _ 157 p.1) (hQ : ∀ s' m' t1 t2, Fr h₀ L s'.heap m' → News h₀ L s'.heap [tb1 t1, tb2 t2] → Same s s' → Q (.ret (.bool true)) s') :
    wpAny (model PySem.Challenge.rw_rs0140_02.prog w) (ktrTop dp un gd (Str.ofString "law") lawSc L fa cd0 (lawCl L) outer) (execs (lawRest 17) (lawEnv L fa cd0)) Q E s := by
  have hrs : ∀ r ∈ rul3 n1 n2 n3, 1 ≤ r.1 ∧ r.1 ≤ 1000 ∧ 0 ≤ r.2 ∧ r.2 ≤ 1000 := by
    intro r hr
    rcases List.mem_append.mp hr with hr | hr
    · exact (List.mem_append.mp hr).elim (prul_small r) (prul_small r)
    · exact prul_small r hr
  have s0 : ∀ p ∈ KK, p ∈ tb1 t1 :: tb2 t2 :: (cd ++ KK) := fun p hp => .tail _ (.tail _ (memR hp))
  refine step (by decide) ?_
  refine seg17 w B X T hdp hu hmWh (eW.mono s0) (RW.mono fun p hp => .tail _ (.tail _ hp)) hrs F N ?_
  intro t9 h1 tk1 m1 F1 hS1 N1
  show wpAny _ _ (execs (lawRest 18) _) _ _ _
  have hmN1 := (hS1.off _ (by decide)).trans hmN
  have hmB1 := (hS1.off _ (by decide)).trans hmB
  have hmL1 := (hS1.off _ (by decide)).trans hmL
  have hmG1 := (hS1.off _ (by decide)).trans hmG
  have hmR1 := (hS1.off _ (by decide)).trans hmR
  have hmO1 := (hS1.off _ (by decide)).trans hmO
  have hmW1 := (hS1.off _ (by decide)).trans hmW
  have hsm := rows_small hb hn1 hn2 hn3
  refine step (by decide) ?_
  refine seg18 w B X T hdp hu hmR1 hmO1 hmW1 hS1.at_ kO kR hR kW hW hsm.1 hsm.2 kD hI up_in (by decide) (rows_told hb hn1 hn2 hn3) F1 N1 ht1 ht2 h157 ?_
  intro s2 t1' t2' F2 N2 hS2
  show wpAny _ _ (execs (lawRest 19) _) _ _ _
  have s1 : ∀ p ∈ KK, p ∈ tb1 t1' :: tb2 t2' :: KK := fun p hp => .tail _ (.tail _ hp)
  refine rest19 w B X T hdp hu hb hn1 hn2 hn3 hmN1 hmB1 hmL1 hmG1 hS1.at_ (s1 _ kn1) (s1 _ kg1) hgs b3 b4 b5 b6 (told_small hn1 hn2 hn3) bs heq (.head _) (.tail _ (.head _)) F2 N2 ?_
  intro s' m' ta tt F9 N9 hS9
  exact hQ s' m' ta tt F9 N9 (sameOf (hS2.trans hS9))
end Mine
end

section
open PySem PySem.W PyProof.Rows
namespace Mine
theorem sec_J2 {M : Model} {A : Around} {E : Value → Shared → Prop} {s : Shared} {env : Env} {p : Pos} {Q : Flow → Shared → Prop} (h : Q .next s) : wpAny M A (exec (.Pass p) env) Q E s := by
  w_top off
  k_with_none
  walk1
  exact h
end Mine
end
section
open PySem PySem.W PyProof.Rows
set_option maxRecDepth 100000
set_option maxHeartbeats 1000000
namespace Mine
theorem rest12 (w : World) {dp un : Nat} {gd : Option (List Code)} {fa : Addr} {cd0 : Value} {outer : List Env} {A₀ : Around} {base h₀ : Heap} {L : Addr} {loose : List Str} {mean : ExcName → Option Value} {mg mb : Str → Option Value} {m : Str → Option Value} {s : Shared} {Q : Flow → Shared → Prop} {E : Value → Shared → Prop}
    (B : Below A₀ base outer h₀) (X : (hd.heap_39 w.params).In h₀) (T : Top topProg loose mean mg mb h₀) (hdp : dp + 8 < recursionLimit) (hu : un + 20 * 8 < cLine)
    {b : Int} (hb : 0 ≤ b ∧ b ≤ 2) {n1 n2 n3 : Int} (hn1 : 1 ≤ n1 ∧ n1 ≤ 10) (hn2 : 1 ≤ n2 ∧ n2 ≤ 10) (hn3 : 1 ≤ n3 ∧ n3 ≤ 10) {an : Addr} {u1 u2 u3 : Tok} {kn : Nat} {tb tbl : Tok} {ar ao d1 d2 d3 lr x1 x2 x3 : Addr} {rvs us2 rv1 rv2 rv3 : List Value} {kr ko kd2 k : Nat} {cd KK : Led} {t1 t2 : Array Value} {c2 c4 : Obj}
    (hmN : m (Str.ofString "numbers") = some (.ref an)) (hmB : m (Str.ofString "behind") = some (.str (behindOf b) tb)) (hmL : m (Str.ofString "blanks") = some (.int b tbl)) (hmR : m (Str.ofString "readers") = some (.ref ar)) (hmO : m (Str.ofString "orders") = some (.ref ao))
    (hc2 : c2.data = .cell (some (.ref lr))) (hc4 : ∃ v, c4.data = .cell v) (k2 : (L + 1 + 1, c2) ∈ KK) (kr1 : (lr, W.listOf #[.ref x1, .ref x2, .ref x3] k) ∈ KK)
    (e1 : EntAt KK x1 ((divs n1 szDown).map strN) rv1) (e2 : EntAt KK x2 ((divs n2 szUp).map strN) rv2) (e3 : EntAt KK x3 ((divs n3 szUp).map strN) rv3)
    (kn1 : (an, W.listOf #[.int n1 u1, .int n2 u2, .int n3 u3] kn) ∈ KK) (kO : (ao, W.listOf #[.ref d1, .ref d2, .ref d3] ko) ∈ KK) (kR : (ar, W.listOf rvs.toArray kr) ∈ KK) (hR : ReadersAt KK rvs)
    (kD2 : (d2, W.listOf us2.toArray kd2) ∈ KK) (hI2 : IntsAre us2 szUp) (hL : @LT.lt Nat _ 157 L)
    (ht1 : TriplesOk t1.toList) (ht2 : TabC lamQ t2 cd) (h157 : ∀ p ∈ cd ++ KK, @LT.lt Nat _ 157 p.1) (h4 : ∀ p ∈ cd ++ KK, p.1 ≠ L + 1 + 1 + 1 + 1)
    {wz : Addr} {rvw : List Value} (hmWh : m (Str.ofString "whole") = some (.ref wz)) (eW : EntAt KK wz ((meet (meet (divs n1 szDown) (divs n2 szUp)) (divs n3 szUp)).map strN) rvw) (RW : RulesAt w (cd ++ KK) rvw (rul3 n1 n2 n3))
    {lg : Addr} {gs : List Value} {kg : Nat} (hmG : m (Str.ofString "greatest") = some (.ref lg)) (kg1 : (lg, W.listOf gs.toArray kg) ∈ KK) (hgs : IntsAre gs ((List.range 7).map (moOf n1 n2 n3)))
    (F : Fr h₀ L s.heap m) (N : News h₀ L s.heap ((L + 1 + 1 + 1 + 1, c4) :: tb1 t1 :: tb2 t2 :: (cd ++ KK))) (hQ : ∀ s' m' t1 t2, Fr h₀ L s'.heap m' → News h₀ L s'.heap [tb1 t1, tb2 t2] → Same s s' → Q (.ret (.bool true)) s') :
    wpAny (model PySem.Challenge.rw_rs0140_02.prog w) (ktrTop dp un gd (Str.ofString "law") lawSc L fa cd0 (lawCl L) outer) (execs (lawRest 12) (lawEnv L fa cd0)) Q E s := by
  have s0 : ∀ p ∈ KK, p ∈ (L + 1 + 1 + 1 + 1, c4) :: tb1 t1 :: tb2 t2 :: (cd ++ KK) := fun p hp => .tail _ (.tail _ (.tail _ (memR hp)))
  refine step (by decide) ?_
  refine seg12 w B X T hdp hu hb hmN hmB (s0 _ kn1) hn1 hn2 hn3 F N ?_
  intro x nw h1 tk1 m1 F1 hS1 N1 hnw W1
  show wpAny _ _ (execs (lawRest 13) _) _ _ _
  have hmN1 := (hS1.off _ (by decide)).trans hmN
  have hmB1 := (hS1.off _ (by decide)).trans hmB
  have hmL1 := (hS1.off _ (by decide)).trans hmL
  have hmR1 := (hS1.off _ (by decide)).trans hmR
  have hmO1 := (hS1.off _ (by decide)).trans hmO
  have hmG1 := (hS1.off _ (by decide)).trans hmG
  have hmWh1 := (hS1.off _ (by decide)).trans hmWh
  refine step (by decide) ?_
  refine seg13 w B X T hdp hu hb hmN1 hmB1 hS1.at_ (memR (s0 _ kn1)) hn1 hn2 hn3 W1 F1 N1 ?_
  intro a vs k9 tl nw2 h2 tk2 m2 F2 hS2 N2 htl hnw2 ka hrw
  show wpAny _ _ (execs (lawRest 14) _) _ _ _
  have hmN2 := (hS2.off _ (by decide)).trans hmN1
  have hmB2 := (hS2.off _ (by decide)).trans hmB1
  have hmL2 := (hS2.off _ (by decide)).trans hmL1
  have hmR2 := (hS2.off _ (by decide)).trans hmR1
  have hmO2 := (hS2.off _ (by decide)).trans hmO1
  have hmG2 := (hS2.off _ (by decide)).trans hmG1
  have hmWh2 := (hS2.off _ (by decide)).trans hmWh1
  have N3 : News h₀ L h2 ((L + 1 + 1 + 1 + 1, c4) :: tb1 t1 :: tb2 t2 :: (cd ++ (tl ++ KK))) := newsSub N2 (by intro p hp; simp only [List.mem_cons, List.mem_append] at hp ⊢; grind)
  have f4 : ∀ p ∈ tl, @LT.lt Nat _ (L + 1 + 1 + 1 + 1) p.1 := fun p hp => htl p hp (L + 1 + 1 + 1 + 1, c4) (memR (.head _))
  have f157 : ∀ p ∈ tl, @LT.lt Nat _ 157 p.1 := fun p hp => htl p hp (tb2 t2) (memR (.tail _ (.tail _ (.head _))))
  have g4 : ∀ p ∈ cd ++ (tl ++ KK), p.1 ≠ L + 1 + 1 + 1 + 1 := allApp (fun p hp => h4 p (memL hp)) (allApp (fun p hp => Nat.ne_of_gt (f4 p hp)) fun p hp => h4 p (memR hp))
  have g157 : ∀ p ∈ cd ++ (tl ++ KK), @LT.lt Nat _ 157 p.1 := allApp (fun p hp => h157 p (memL hp)) (allApp f157 fun p hp => h157 p (memR hp))
  have s3 : ∀ p ∈ KK, p ∈ tb1 t1 :: tb2 t2 :: (cd ++ (tl ++ KK)) := fun p hp => .tail _ (.tail _ (memR (memR hp)))
  clear N2 N1 N
  refine step (by decide) ?_
  refine seg14 w B X T hdp hu hc4 hc2 (s3 _ k2) (s3 _ kr1) (e1.mono s3) (e2.mono s3) (e3.mono s3) F2 N3 (allCons (by refine neN ?_; dsimp only; omega) (allCons (by refine neN ?_; dsimp only; omega) g4)) ?_
  intro D c4' us9 k10 h3 tk3 F3 hc4' hI9 N4 hD
  show wpAny _ _ (execs (lawRest 15) _) _ _ _
  refine step (by decide) ?_
  refine seg15 w B X T hdp hu (cnt := cnt3 n1 n2 n3) hc4' (.tail _ (.head _)) (.head _) hI9 cnt_small.1 cnt_small.2 F3 N4 ?_
  intro D2 ys k11 tl2 h5 tk5 m5 F5 hS5 N5 hdue
  show wpAny _ _ (execs (lawRest 16) _) _ _ _
  have hmN5 := (hS5.off _ (by decide)).trans hmN2
  have hmB5 := (hS5.off _ (by decide)).trans hmB2
  have hmL5 := (hS5.off _ (by decide)).trans hmL2
  have hmR5 := (hS5.off _ (by decide)).trans hmR2
  have hmO5 := (hS5.off _ (by decide)).trans hmO2
  have hmG5 := (hS5.off _ (by decide)).trans hmG2
  have hmWh5 := (hS5.off _ (by decide)).trans hmWh2
  have hmW5 := (hS5.off _ (by decide)).trans hS2.at_
  rw [rows_due hb hn1 hn2 hn3] at hdue
  have hsm := rows_small hb hn1 hn2 hn3
  have s5 : ∀ p ∈ tl, p ∈ (D2, W.listOf ys.toArray k11) :: (tl2 ++ (D, W.listOf us9.toArray k10) :: (L + 1 + 1 + 1 + 1, c4') :: tb1 t1 :: tb2 t2 :: (cd ++ (tl ++ KK))) := fun p hp => .tail _ (memR (.tail _ (.tail _ (.tail _ (.tail _ (memR (memL hp)))))))
  refine step (by decide) ?_
  refine seg16 w B X T hdp hu hmW5 hS5.at_ (s5 _ ka) (hrw.mono s5) hsm.1 (.head _) (hdue.mono fun p hp => .tail _ (memL hp)) F5 N5 ?_
  intro h6 tk6 F6 N6
  show wpAny _ _ (execs (lawRest 17) _) _ _ _
  have N7 : News h₀ L h6 (tb1 t1 :: tb2 t2 :: (cd ++ (tl ++ KK))) := newsSub N6 fun p hp => .tail _ (memR (.tail _ (.tail _ hp)))
  have mm := mo_small hn1 hn2 hn3
  refine rest17 w B X T hdp hu hb hn1 hn2 hn3 hmN5 hmB5 hmL5 hmG5 hmWh5 hmR5 hmO5 hmW5 (memR kn1) (memR kg1) hgs (mm 3 (by decide)) (mm 4 (by decide)) (mm 5 (by decide)) (mm 6 (by decide)) (shared_small hn1 hn2 hn3) (last_eq hn1 hn2 hn3)
    (eW.mono fun p hp => memR hp) (RW.mono fun p hp => (List.mem_append.mp hp).elim memL fun q => memR (memR q)) (memR kO) (memR kR) (hR.mono fun p hp => memR hp) (memL ka) (hrw.mono fun p hp => memL hp) (memR kD2) hI2 F6 N7 ht1 ht2 g157 ?_
  intro s' m' ta tt F9 N9 hS9
  exact hQ s' m' ta tt F9 N9 ⟨hS9.1, hS9.2.1, hS9.2.2⟩
theorem rest10 (w : World) {dp un : Nat} {gd : Option (List Code)} {fa : Addr} {cd0 : Value} {outer : List Env} {A₀ : Around} {base h₀ : Heap} {L : Addr} {loose : List Str} {mean : ExcName → Option Value} {mg mb : Str → Option Value} {m : Str → Option Value} {s : Shared} {Q : Flow → Shared → Prop} {E : Value → Shared → Prop}
    (B : Below A₀ base outer h₀) (X : (hd.heap_39 w.params).In h₀) (T : Top topProg loose mean mg mb h₀) (hdp : dp + 8 < recursionLimit) (hu : un + 20 * 8 < cLine)
    (hE : PassesOwn (model PySem.Challenge.rw_rs0140_02.prog w) (ktrTop dp un gd (Str.ofString "law") lawSc L fa cd0 (lawCl L) outer) (lawEnv L fa cd0) E)
    {b : Int} (hb : 0 ≤ b ∧ b ≤ 2) {n1 n2 n3 : Int} (hn1 : 1 ≤ n1 ∧ n1 ≤ 10) (hn2 : 1 ≤ n2 ∧ n2 ≤ 10) (hn3 : 1 ≤ n3 ∧ n3 ≤ 10) {an : Addr} {u1 u2 u3 : Tok} {kn : Nat} {tb tbl : Tok} {ar ao d1 d2 d3 lr x1 x2 x3 : Addr} {rvs us2 rv1 rv2 rv3 : List Value} {kr ko kd2 k : Nat} {cd KK : Led} {t1 t2 : Array Value} {c2 c4 : Obj}
    (hmN : m (Str.ofString "numbers") = some (.ref an)) (hmB : m (Str.ofString "behind") = some (.str (behindOf b) tb)) (hmL : m (Str.ofString "blanks") = some (.int b tbl)) (hmR : m (Str.ofString "readers") = some (.ref ar)) (hmO : m (Str.ofString "orders") = some (.ref ao))
    (hc2 : c2.data = .cell (some (.ref lr))) (hc4 : ∃ v, c4.data = .cell v) (k2 : (L + 1 + 1, c2) ∈ KK) (kr1 : (lr, W.listOf #[.ref x1, .ref x2, .ref x3] k) ∈ KK)
    (e1 : EntAt KK x1 ((divs n1 szDown).map strN) rv1) (e2 : EntAt KK x2 ((divs n2 szUp).map strN) rv2) (e3 : EntAt KK x3 ((divs n3 szUp).map strN) rv3)
    (kn1 : (an, W.listOf #[.int n1 u1, .int n2 u2, .int n3 u3] kn) ∈ KK) (kO : (ao, W.listOf #[.ref d1, .ref d2, .ref d3] ko) ∈ KK) (kR : (ar, W.listOf rvs.toArray kr) ∈ KK) (hR : ReadersAt KK rvs)
    (kD2 : (d2, W.listOf us2.toArray kd2) ∈ KK) (hI2 : IntsAre us2 szUp) (hL : @LT.lt Nat _ 157 L)
    (ht1 : TriplesOk t1.toList) (ht2 : TabC lamQ t2 cd) (h157 : ∀ p ∈ cd ++ KK, @LT.lt Nat _ 157 p.1) (h4 : ∀ p ∈ cd ++ KK, p.1 ≠ L + 1 + 1 + 1 + 1)
    {wz : Addr} {rvw : List Value} (hmWh : m (Str.ofString "whole") = some (.ref wz)) (eW : EntAt KK wz ((meet (meet (divs n1 szDown) (divs n2 szUp)) (divs n3 szUp)).map strN) rvw) (RW : RulesAt w (cd ++ KK) rvw (rul3 n1 n2 n3))
    {lp z1 z2 z3 : Addr} {sv1 sv2 sv3 : List Value} {kp : Nat} {c3 : Obj} (hmP : m (Str.ofString "pairs") = some (.ref lp)) (hc3 : ∃ v, c3.data = .cell v) (h3 : ∀ p ∈ cd ++ KK, p.1 ≠ L + 1 + 1 + 1) (kp1 : (lp, W.listOf #[.ref z1, .ref z2, .ref z3] kp) ∈ KK)
    (f1 : EntAt KK z1 ((meet (divs n3 szUp) (divs n1 szDown)).map strN) sv1) (f2 : EntAt KK z2 ((meet (divs n1 szDown) (divs n2 szUp)).map strN) sv2) (f3 : EntAt KK z3 ((meet (divs n2 szUp) (divs n3 szUp)).map strN) sv3)
    {us1 us3 : List Value} {kd1 kd3 : Nat} (kD1 : (d1, W.listOf us1.toArray kd1) ∈ KK) (hI1 : IntsAre us1 szDown) (kD3 : (d3, W.listOf us3.toArray kd3) ∈ KK) (hI3 : IntsAre us3 szUp)
    (F : Fr h₀ L s.heap m) (N : News h₀ L s.heap ((L + 1 + 1 + 1 + 1, c4) :: (L + 1 + 1 + 1, c3) :: tb1 t1 :: tb2 t2 :: (cd ++ KK))) (hQ : ∀ s' m' t1 t2, Fr h₀ L s'.heap m' → News h₀ L s'.heap [tb1 t1, tb2 t2] → Same s s' → Q (.ret (.bool true)) s') :
    wpAny (model PySem.Challenge.rw_rs0140_02.prog w) (ktrTop dp un gd (Str.ofString "law") lawSc L fa cd0 (lawCl L) outer) (execs (lawRest 10) (lawEnv L fa cd0)) Q E s := by
  refine step (by decide) ?_
  refine seg10 w B X T hdp hu F N ?_
  intro D h1 tk1 m1 F1 hS1 N1 hD
  show wpAny _ _ (execs (lawRest 11) _) _ _ _
  have hmN1 := (hS1.off _ (by decide)).trans hmN
  have hmB1 := (hS1.off _ (by decide)).trans hmB
  have hmL1 := (hS1.off _ (by decide)).trans hmL
  have hmR1 := (hS1.off _ (by decide)).trans hmR
  have hmO1 := (hS1.off _ (by decide)).trans hmO
  have hmP1 := (hS1.off _ (by decide)).trans hmP
  have hmWh1 := (hS1.off _ (by decide)).trans hmWh
  have N2 : News h₀ L h1 ((D, W.listOf #[] 0) :: (L + 1 + 1 + 1, c3) :: ((L + 1 + 1 + 1 + 1, c4) :: tb1 t1 :: tb2 t2 :: (cd ++ KK))) := newsSub N1 (by intro p hp; simp only [List.mem_cons, List.mem_append] at hp ⊢; grind)
  have s2 : ∀ p ∈ KK, p ∈ (L + 1 + 1 + 1 + 1, c4) :: tb1 t1 :: tb2 t2 :: (cd ++ KK) := fun p hp => .tail _ (.tail _ (.tail _ (memR hp)))
  have hD4 : @LT.lt Nat _ (L + 1 + 1 + 1 + 1) D := hD _ (.head _)
  refine step (by decide) ?_
  refine seg11 w B X T hdp hu hE (zs := zsOf n1 n2 n3) (mo := moOf n1 n2 n3) (ys := [.ref d1, .ref d2, .ref d3]) (szs := [szDown, szUp, szUp]) hmP1 hmO1 hmWh1 hS1.at_ hc2 hc3 (s2 _ k2) (s2 _ kr1) (s2 _ kp1) (s2 _ kO) ?ys rfl ?en (zs_small hn1 hn2 hn3) (zs_max hn1 hn2 hn3) (zs_div hn1 hn2 hn3) F1 N2 ?n1 ?n2 (Nat.lt_trans (Nat.lt_succ_self _) hD4) ?_
  case ys =>
    intro i y hy
    rcases i with _ | _ | _ | i
    · exact ⟨d1, us1, kd1, szDown, (Option.some.inj hy).symm, rfl, s2 _ kD1, hI1, down_in, by decide⟩
    · exact ⟨d2, us2, kd2, szUp, (Option.some.inj hy).symm, rfl, s2 _ kD2, hI2, up_in, by decide⟩
    · exact ⟨d3, us3, kd3, szUp, (Option.some.inj hy).symm, rfl, s2 _ kD3, hI3, up_in, by decide⟩
    · simp at hy
  case en =>
    intro i y hy
    rcases i with _ | _ | _ | _ | _ | _ | _ | i
    · exact ⟨x1, rv1, (Option.some.inj hy).symm, e1.mono s2⟩
    · exact ⟨x2, rv2, (Option.some.inj hy).symm, e2.mono s2⟩
    · exact ⟨x3, rv3, (Option.some.inj hy).symm, e3.mono s2⟩
    · exact ⟨z1, sv1, (Option.some.inj hy).symm, f1.mono s2⟩
    · exact ⟨z2, sv2, (Option.some.inj hy).symm, f2.mono s2⟩
    · exact ⟨z3, sv3, (Option.some.inj hy).symm, f3.mono s2⟩
    · exact ⟨wz, rvw, (Option.some.inj hy).symm, eW.mono s2⟩
    · simp at hy
  case n1 => exact fun p hp => Nat.ne_of_lt (hD p (by simp only [List.mem_cons, List.mem_append] at hp ⊢; grind))
  case n2 => exact allCons (by refine neN ?_; dsimp only; omega) (allCons (by refine neN ?_; dsimp only; omega) (allCons (by refine neN ?_; dsimp only; omega) h3))
  intro gs k9 co h2 tk2 m2 F2 hoff N3 hgs
  show wpAny _ _ (execs (lawRest 12) _) _ _ _
  have N4 : News h₀ L h2 ((L + 1 + 1 + 1 + 1, c4) :: tb1 t1 :: tb2 t2 :: (cd ++ ((D, W.listOf gs.toArray k9) :: KK))) := newsSub N3 (by intro p hp; simp only [List.mem_cons, List.mem_append] at hp ⊢; grind)
  have hD157 : @LT.lt Nat _ 157 D := hD (tb2 t2) (.tail _ (.tail _ (.tail _ (.head _))))
  have s4 : ∀ p ∈ KK, p ∈ (D, W.listOf gs.toArray k9) :: KK := fun p hp => .tail _ hp
  refine rest12 w B X T hdp hu hb hn1 hn2 hn3 ((hoff _ (by decide)).trans hmN1) ((hoff _ (by decide)).trans hmB1) ((hoff _ (by decide)).trans hmL1) ((hoff _ (by decide)).trans hmR1) ((hoff _ (by decide)).trans hmO1) hc2 hc4 (s4 _ k2) (s4 _ kr1) (e1.mono s4) (e2.mono s4) (e3.mono s4) (s4 _ kn1) (s4 _ kO) (s4 _ kR) (hR.mono s4) (s4 _ kD2) hI2 hL ht1 ht2
    (allApp (fun p hp => h157 p (memL hp)) (allCons hD157 fun p hp => h157 p (memR hp))) (allApp (fun p hp => h4 p (memL hp)) (allCons (Nat.ne_of_gt hD4) fun p hp => h4 p (memR hp))) ((hoff _ (by decide)).trans hmWh1) (eW.mono s4) (RW.mono fun p hp => (List.mem_append.mp hp).elim memL fun q => memR (s4 _ q)) ((hoff _ (by decide)).trans hS1.at_) (.head _) hgs F2 N4 ?_
  intro s' m' ta tt F9 N9 hS9
  exact hQ s' m' ta tt F9 N9 ⟨hS9.1, hS9.2.1, hS9.2.2⟩
end Mine
end

section
open PySem PySem.W PyProof.Rows
namespace Mine
theorem sec_J3 {M : Model} {A : Around} {E : Value → Shared → Prop} {s : Shared} {env : Env} {p : Pos} {Q : Flow → Shared → Prop} (h : Q .next s) : wpAny M A (exec (.Pass p) env) Q E s := by
  w_top off
  k_with_none
  walk1
  exact h
end Mine
end
section
open PySem PySem.W PyProof.Rows
set_option maxRecDepth 100000
set_option maxHeartbeats 1000000
namespace Mine
theorem RulesAt.app {w : World} {led : Led} {rv1 rv2 : List Value} {r1 r2 : List (Int × Int)} (h1 : RulesAt w led rv1 r1) (h2 : RulesAt w led rv2 r2) : RulesAt w led (rv1 ++ rv2) (r1 ++ r2) := by
  refine ⟨by simp [h1.1, h2.1], fun i v e => ?_⟩
  by_cases hi : i < rv1.length
  · rw [List.getElem?_append_left hi] at e
    obtain ⟨y, p, q, a, b, c⟩ := h1.2 i v e
    exact ⟨y, p, q, a, by rw [List.getElem?_append_left (by rw [← h1.1]; exact hi)]; exact b, c⟩
  · rw [List.getElem?_append_right (by omega)] at e
    obtain ⟨y, p, q, a, b, c⟩ := h2.2 _ v e
    exact ⟨y, p, q, a, by rw [List.getElem?_append_right (by rw [← h1.1]; omega), ← h1.1]; exact b, c⟩
theorem prul_len (n : Int) : (prul n).length ≤ 9 := List.length_filter_le _ _
theorem rest7 (w : World) {dp un : Nat} {gd : Option (List Code)} {fa : Addr} {cd0 : Value} {outer : List Env} {A₀ : Around} {base h₀ : Heap} {L : Addr} {loose : List Str} {mean : ExcName → Option Value} {mg mb : Str → Option Value} {m : Str → Option Value} {s : Shared} {Q : Flow → Shared → Prop} {E : Value → Shared → Prop}
    (B : Below A₀ base outer h₀) (X : (hd.heap_39 w.params).In h₀) (T : Top topProg loose mean mg mb h₀) (hdp : dp + 8 < recursionLimit) (hu : un + 20 * 8 < cLine)
    (hE : PassesOwn (model PySem.Challenge.rw_rs0140_02.prog w) (ktrTop dp un gd (Str.ofString "law") lawSc L fa cd0 (lawCl L) outer) (lawEnv L fa cd0) E)
    {b : Int} (hb : 0 ≤ b ∧ b ≤ 2) {n1 n2 n3 : Int} (hn1 : 1 ≤ n1 ∧ n1 ≤ 10) (hn2 : 1 ≤ n2 ∧ n2 ≤ 10) (hn3 : 1 ≤ n3 ∧ n3 ≤ 10) {an : Addr} {u1 u2 u3 : Tok} {kn : Nat} {tb tbl : Tok} {ar ao d1 d2 d3 lr x1 x2 x3 : Addr} {rvs us2 rv1 rv2 rv3 : List Value} {kr ko kd2 k : Nat} {cd KK : Led} {t1 t2 : Array Value} {c2 c4 : Obj}
    (hmN : m (Str.ofString "numbers") = some (.ref an)) (hmB : m (Str.ofString "behind") = some (.str (behindOf b) tb)) (hmL : m (Str.ofString "blanks") = some (.int b tbl)) (hmR : m (Str.ofString "readers") = some (.ref ar)) (hmO : m (Str.ofString "orders") = some (.ref ao))
    (hc2 : c2.data = .cell (some (.ref lr))) (hc4 : ∃ v, c4.data = .cell v) (k2 : (L + 1 + 1, c2) ∈ KK) (kr1 : (lr, W.listOf #[.ref x1, .ref x2, .ref x3] k) ∈ KK)
    (e1 : EntAt KK x1 ((divs n1 szDown).map strN) rv1) (e2 : EntAt KK x2 ((divs n2 szUp).map strN) rv2) (e3 : EntAt KK x3 ((divs n3 szUp).map strN) rv3)
    (kn1 : (an, W.listOf #[.int n1 u1, .int n2 u2, .int n3 u3] kn) ∈ KK) (kO : (ao, W.listOf #[.ref d1, .ref d2, .ref d3] ko) ∈ KK) (kR : (ar, W.listOf rvs.toArray kr) ∈ KK) (hR : ReadersAt KK rvs)
    (kD2 : (d2, W.listOf us2.toArray kd2) ∈ KK) (hI2 : IntsAre us2 szUp) (hL : @LT.lt Nat _ 157 L)
    (ht1 : TriplesOk t1.toList) (ht2 : TabC lamQ t2 cd) (h157 : ∀ p ∈ cd ++ KK, @LT.lt Nat _ 157 p.1) (h4 : ∀ p ∈ cd ++ KK, p.1 ≠ L + 1 + 1 + 1 + 1)
    {c3 : Obj} (hc3 : ∃ v, c3.data = .cell v) (h3 : ∀ p ∈ cd ++ KK, p.1 ≠ L + 1 + 1 + 1)
    (R1 : RulesAt w (cd ++ KK) rv1 (prul n1)) (R2 : RulesAt w (cd ++ KK) rv2 (prul n2)) (R3 : RulesAt w (cd ++ KK) rv3 (prul n3))
    {us1 us3 : List Value} {kd1 kd3 : Nat} (kD1 : (d1, W.listOf us1.toArray kd1) ∈ KK) (hI1 : IntsAre us1 szDown) (kD3 : (d3, W.listOf us3.toArray kd3) ∈ KK) (hI3 : IntsAre us3 szUp)
    (F : Fr h₀ L s.heap m) (N : News h₀ L s.heap ((L + 1 + 1 + 1 + 1, c4) :: (L + 1 + 1 + 1, c3) :: tb1 t1 :: tb2 t2 :: (cd ++ KK))) (hQ : ∀ s' m' t1 t2, Fr h₀ L s'.heap m' → News h₀ L s'.heap [tb1 t1, tb2 t2] → Same s s' → Q (.ret (.bool true)) s') :
    wpAny (model PySem.Challenge.rw_rs0140_02.prog w) (ktrTop dp un gd (Str.ofString "law") lawSc L fa cd0 (lawCl L) outer) (execs (lawRest 7) (lawEnv L fa cd0)) Q E s := by
  have zl := zs_small hn1 hn2 hn3
  have l1 : ((divs n1 szDown).map strN).length ≤ 1000 := by rw [List.length_map]; exact Nat.le_trans (zl 0 (by decide)).1 (by decide)
  have l2 : ((divs n2 szUp).map strN).length ≤ 1000 := by rw [List.length_map]; exact Nat.le_trans (zl 1 (by decide)).1 (by decide)
  have l3 : ((divs n3 szUp).map strN).length ≤ 1000 := by rw [List.length_map]; exact Nat.le_trans (zl 2 (by decide)).1 (by decide)
  have l4 : ((meet (divs n1 szDown) (divs n2 szUp)).map strN).length ≤ 1000 := by rw [List.length_map]; exact Nat.le_trans (zl 4 (by decide)).1 (by decide)
  have q1 : rv1.length ≤ 9 := by rw [R1.1]; exact prul_len _
  have q2 : rv2.length ≤ 9 := by rw [R2.1]; exact prul_len _
  have q3 : rv3.length ≤ 9 := by rw [R3.1]; exact prul_len _
  have s0 : ∀ p ∈ KK, p ∈ (L + 1 + 1 + 1 + 1, c4) :: (L + 1 + 1 + 1, c3) :: tb1 t1 :: tb2 t2 :: (cd ++ KK) := fun p hp => .tail _ (.tail _ (.tail _ (.tail _ (memR hp))))
  have i1 := divs_in n1 down_in
  have i2 := divs_in n2 up_in
  have i3 := divs_in n3 up_in
  refine step (by decide) ?_
  refine seg7 w B X T hdp hu hc2 (s0 _ k2) (s0 _ kr1) (e1.mono s0) (e2.mono s0) (e3.mono s0) l1 l2 l3 (by omega) (by omega) (by omega) F N ?_
  intro D z1 z2 z3 kp tl h1 tk1 m1 F1 hS1 N1 hD htl f1 f2 f3
  rw [meet_strs i3 i1] at f1
  rw [meet_strs i1 i2] at f2
  rw [meet_strs i2 i3] at f3
  show wpAny _ _ (execs (lawRest 8) _) _ _ _
  have hmN1 := (hS1.off _ (by decide)).trans hmN
  have hmB1 := (hS1.off _ (by decide)).trans hmB
  have hmL1 := (hS1.off _ (by decide)).trans hmL
  have hmR1 := (hS1.off _ (by decide)).trans hmR
  have hmO1 := (hS1.off _ (by decide)).trans hmO
  have s1 : ∀ p ∈ KK, p ∈ (D, W.listOf #[.ref z1, .ref z2, .ref z3] kp) :: (tl ++ (L + 1 + 1 + 1 + 1, c4) :: (L + 1 + 1 + 1, c3) :: tb1 t1 :: tb2 t2 :: (cd ++ KK)) := fun p hp => .tail _ (memR (s0 p hp))
  refine step (by decide) ?_
  refine seg8 w B X T hdp hu hc2 (s1 _ k2) (s1 _ kr1) (.head _) hS1.at_ (f2.mono fun p hp => .tail _ (memL hp)) (e3.mono s1) l4 l3 (by simp; omega) (by omega) F1 N1 ?_
  intro z tl2 h2 tk2 m2 F2 hS2 N2 htl2 eW
  rw [meet_strs (l := meet (divs n1 szDown) (divs n2 szUp)) (m := divs n3 szUp) (fun z hz => i1 z (List.mem_filter.mp hz).1) i3] at eW
  show wpAny _ _ (execs (lawRest 9) _) _ _ _
  have hmN2 := (hS2.off _ (by decide)).trans hmN1
  have hmB2 := (hS2.off _ (by decide)).trans hmB1
  have hmL2 := (hS2.off _ (by decide)).trans hmL1
  have hmR2 := (hS2.off _ (by decide)).trans hmR1
  have hmO2 := (hS2.off _ (by decide)).trans hmO1
  have hmP2 := (hS2.off _ (by decide)).trans hS1.at_
  have s2 : ∀ p ∈ KK, p ∈ tl2 ++ ((D, W.listOf #[.ref z1, .ref z2, .ref z3] kp) :: (tl ++ (L + 1 + 1 + 1 + 1, c4) :: (L + 1 + 1 + 1, c3) :: tb1 t1 :: tb2 t2 :: (cd ++ KK))) := fun p hp => memR (s1 p hp)
  have s2' : ∀ p ∈ cd ++ KK, p ∈ tl2 ++ ((D, W.listOf #[.ref z1, .ref z2, .ref z3] kp) :: (tl ++ (L + 1 + 1 + 1 + 1, c4) :: (L + 1 + 1 + 1, c3) :: tb1 t1 :: tb2 t2 :: (cd ++ KK))) := fun p hp => memR (.tail _ (memR (.tail _ (.tail _ (.tail _ (.tail _ hp))))))
  refine step (by decide) ?_
  refine seg9 w B X T hdp hu hc2 (s2 _ k2) (s2 _ kr1) (s2 _ kn1) hmN2 (e1.mono s2) (e2.mono s2) (e3.mono s2) (R1.mono s2') (R2.mono s2') (R3.mono s2') prul_small prul_small prul_small (told_prul hn1) (told_prul hn2) (told_prul hn3) F2 N2 ?_
  intro h3' tk3 F3 N3
  show wpAny _ _ (execs (lawRest 10) _) _ _ _
  have N4 : News h₀ L h3' ((L + 1 + 1 + 1 + 1, c4) :: (L + 1 + 1 + 1, c3) :: tb1 t1 :: tb2 t2 :: (cd ++ (tl2 ++ ((D, W.listOf #[.ref z1, .ref z2, .ref z3] kp) :: (tl ++ KK))))) := newsSub N3 (by intro p hp; simp only [List.mem_cons, List.mem_append] at hp ⊢; grind)
  have hD4 : @LT.lt Nat _ (L + 1 + 1 + 1 + 1) D := hD _ (.head _)
  have hD157 : @LT.lt Nat _ 157 D := hD (tb2 t2) (.tail _ (.tail _ (.tail _ (.head _))))
  have h2D : ∀ p ∈ tl2, @LT.lt Nat _ D p.1 := fun p hp => htl2 p hp _ (.head _)
  have hall : ∀ P : Addr × Obj → Prop, (∀ p, @LT.lt Nat _ (L + 1 + 1 + 1 + 1) p.1 → @LT.lt Nat _ 157 p.1 → P p) → (∀ p ∈ cd ++ KK, P p) → ∀ p ∈ cd ++ (tl2 ++ ((D, W.listOf #[.ref z1, .ref z2, .ref z3] kp) :: (tl ++ KK))), P p := fun P hP hK =>
    allApp (fun p hp => hK p (memL hp)) (allApp (fun p hp => hP p (Nat.lt_trans hD4 (h2D p hp)) (Nat.lt_trans hD157 (h2D p hp))) (allCons (hP _ hD4 hD157) (allApp (fun p hp => hP p (Nat.lt_trans hD4 (htl p hp)) (Nat.lt_trans hD157 (htl p hp))) fun p hp => hK p (memR hp))))
  have s4 : ∀ p ∈ KK, p ∈ tl2 ++ ((D, W.listOf #[.ref z1, .ref z2, .ref z3] kp) :: (tl ++ KK)) := fun p hp => memR (.tail _ (memR hp))
  have s4' : ∀ p ∈ cd ++ KK, p ∈ cd ++ (tl2 ++ ((D, W.listOf #[.ref z1, .ref z2, .ref z3] kp) :: (tl ++ KK))) := fun p hp => (List.mem_append.mp hp).elim memL fun q => memR (s4 p q)
  have s5 : ∀ p ∈ tl, p ∈ tl2 ++ ((D, W.listOf #[.ref z1, .ref z2, .ref z3] kp) :: (tl ++ KK)) := fun p hp => memR (.tail _ (memL hp))
  refine rest10 w B X T hdp hu hE hb hn1 hn2 hn3 hmN2 hmB2 hmL2 hmR2 hmO2 hc2 hc4 (s4 _ k2) (s4 _ kr1) (e1.mono s4) (e2.mono s4) (e3.mono s4) (s4 _ kn1) (s4 _ kO) (s4 _ kR) (hR.mono s4) (s4 _ kD2) hI2 hL ht1 ht2
    (hall _ (fun p _ h => h) h157) (hall _ (fun p h _ => Nat.ne_of_gt h) h4) hS2.at_ (eW.mono fun p hp => memL hp) (((R1.mono s4').app (R2.mono s4')).app (R3.mono s4')) hmP2 hc3 (hall _ (fun p h _ => Nat.ne_of_gt (Nat.lt_trans (Nat.lt_succ_self _) h)) h3) (memR (.head _)) (f1.mono s5) (f2.mono s5) (f3.mono s5) (s4 _ kD1) hI1 (s4 _ kD3) hI3 F3 N4 ?_
  intro s' m' ta tt F9 N9 hS9
  exact hQ s' m' ta tt F9 N9 ⟨hS9.1, hS9.2.1, hS9.2.2⟩
theorem rest6 (w : World) {dp un : Nat} {gd : Option (List Code)} {fa : Addr} {cd0 : Value} {outer : List Env} {A₀ : Around} {base h₀ : Heap} {L : Addr} {loose : List Str} {mean : ExcName → Option Value} {mg mb : Str → Option Value} {m : Str → Option Value} {s : Shared} {Q : Flow → Shared → Prop} {E : Value → Shared → Prop}
    (B : Below A₀ base outer h₀) (X : (hd.heap_39 w.params).In h₀) (T : Top topProg loose mean mg mb h₀) (hdp : dp + 8 < recursionLimit) (hu : un + 20 * 8 < cLine)
    (hE : PassesOwn (model PySem.Challenge.rw_rs0140_02.prog w) (ktrTop dp un gd (Str.ofString "law") lawSc L fa cd0 (lawCl L) outer) (lawEnv L fa cd0) E)
    {b : Int} (hb : 0 ≤ b ∧ b ≤ 2) {n1 n2 n3 : Int} (hn1 : 1 ≤ n1 ∧ n1 ≤ 10) (hn2 : 1 ≤ n2 ∧ n2 ≤ 10) (hn3 : 1 ≤ n3 ∧ n3 ≤ 10) {an : Addr} {u1 u2 u3 : Tok} {kn : Nat} {tb tbl : Tok} {ar ao d1 d2 d3 lr : Addr} {rvs us1 us2 us3 : List Value} {kr ko kd1 kd2 kd3 : Nat} {KK : Led} {c2 c3 c4 : Obj}
    (hmN : m (Str.ofString "numbers") = some (.ref an)) (hmB : m (Str.ofString "behind") = some (.str (behindOf b) tb)) (hmL : m (Str.ofString "blanks") = some (.int b tbl)) (hmR : m (Str.ofString "readers") = some (.ref ar)) (hmO : m (Str.ofString "orders") = some (.ref ao))
    (hc2 : c2.data = .cell (some (.ref lr))) (hc3 : ∃ v, c3.data = .cell v) (hc4 : ∃ v, c4.data = .cell v) (k2 : (L + 1 + 1, c2) ∈ KK)
    (kn1 : (an, W.listOf #[.int n1 u1, .int n2 u2, .int n3 u3] kn) ∈ KK) (kO : (ao, W.listOf #[.ref d1, .ref d2, .ref d3] ko) ∈ KK) (kR : (ar, W.listOf rvs.toArray kr) ∈ KK) (hR : ReadersAt KK rvs)
    (kD1 : (d1, W.listOf us1.toArray kd1) ∈ KK) (hI1 : IntsAre us1 szDown) (kD2 : (d2, W.listOf us2.toArray kd2) ∈ KK) (hI2 : IntsAre us2 szUp) (kD3 : (d3, W.listOf us3.toArray kd3) ∈ KK) (hI3 : IntsAre us3 szUp) (hL : @LT.lt Nat _ 157 L)
    (h157 : ∀ p ∈ KK, @LT.lt Nat _ 157 p.1) (h4 : ∀ p ∈ KK, p.1 ≠ L + 1 + 1 + 1 + 1) (h3 : ∀ p ∈ KK, p.1 ≠ L + 1 + 1 + 1) (hlr : @LT.lt Nat _ (L + 1 + 1 + 1 + 1) lr) (hne : ∀ p ∈ KK, p.1 ≠ lr)
    (F : Fr h₀ L s.heap m) (N : News h₀ L s.heap ((lr, W.listOf #[] 0) :: tb1 #[] :: tb2 #[] :: ((L + 1 + 1 + 1 + 1, c4) :: (L + 1 + 1 + 1, c3) :: KK))) (hQ : ∀ s' m' t1 t2, Fr h₀ L s'.heap m' → News h₀ L s'.heap [tb1 t1, tb2 t2] → Same s s' → Q (.ret (.bool true)) s') :
    wpAny (model PySem.Challenge.rw_rs0140_02.prog w) (ktrTop dp un gd (Str.ofString "law") lawSc L fa cd0 (lawCl L) outer) (execs (lawRest 6) (lawEnv L fa cd0)) Q E s := by
  have s0 : ∀ p ∈ KK, p ∈ (L + 1 + 1 + 1 + 1, c4) :: (L + 1 + 1 + 1, c3) :: KK := fun p hp => .tail _ (.tail _ hp)
  refine step (by decide) ?_
  refine seg6 w B X T hdp hu hE hb (t1 := #[]) (t2 := #[]) (cd := []) (KK := (L + 1 + 1 + 1 + 1, c4) :: (L + 1 + 1 + 1, c3) :: KK) (xs := [.int n1 u1, .int n2 u2, .int n3 u3]) (ys := [.ref d1, .ref d2, .ref d3]) (ns := [n1, n2, n3]) (szs := [szDown, szUp, szUp]) hmN hmO hmR hmB hc2 (s0 _ k2) (s0 _ kn1) (s0 _ kO) (s0 _ kR) (hR.mono s0) ?xs ?ys rfl rfl F N trivial .nil ?h157 ?hlr ?hne ?_
  case xs =>
    intro i y hy
    rcases i with _ | _ | _ | i
    · exact ⟨n1, u1, (Option.some.inj hy).symm, rfl, hn1⟩
    · exact ⟨n2, u2, (Option.some.inj hy).symm, rfl, hn2⟩
    · exact ⟨n3, u3, (Option.some.inj hy).symm, rfl, hn3⟩
    · simp at hy
  case ys =>
    intro i y hy
    rcases i with _ | _ | _ | i
    · exact ⟨d1, us1, kd1, szDown, (Option.some.inj hy).symm, rfl, s0 _ kD1, hI1, down_in, by decide⟩
    · exact ⟨d2, us2, kd2, szUp, (Option.some.inj hy).symm, rfl, s0 _ kD2, hI2, up_in, by decide⟩
    · exact ⟨d3, us3, kd3, szUp, (Option.some.inj hy).symm, rfl, s0 _ kD3, hI3, up_in, by decide⟩
    · simp at hy
  case h157 => exact allCons (by refine ltN ?_; dsimp only; omega) (allCons (by refine ltN ?_; dsimp only; omega) h157)
  case hlr => exact Nat.lt_trans (ltN (by omega)) hlr
  case hne => exact allCons (Nat.ne_of_lt hlr) (allCons (Nat.ne_of_lt (Nat.lt_trans (Nat.lt_succ_self _) hlr)) hne)
  intro rv k t1 t2 cd tl s1 m1 F1 hoff N1 hrv hrec ht1 ht2 hT hnl hnew hS
  show wpAny _ _ (execs (lawRest 7) _) _ _ _
  obtain ⟨x1, x2, x3, rfl⟩ : ∃ x1 x2 x3, rv = [.ref x1, .ref x2, .ref x3] := by
    rcases rv with _ | ⟨a, _ | ⟨b', _ | ⟨c, _ | ⟨d, r⟩⟩⟩⟩
    all_goals simp at hrv
    obtain ⟨y1, _, _, _, rfl, _⟩ := hrec 0 _ rfl
    obtain ⟨y2, _, _, _, rfl, _⟩ := hrec 1 _ rfl
    obtain ⟨y3, _, _, _, rfl, _⟩ := hrec 2 _ rfl
    exact ⟨_, _, _, rfl⟩
  obtain ⟨_, rv1, _, _, q1, q2, q3, e1, R1⟩ := hrec 0 _ rfl
  cases q1; cases q2; cases q3
  obtain ⟨_, rv2, _, _, q1, q2, q3, e2, R2⟩ := hrec 1 _ rfl
  cases q1; cases q2; cases q3
  obtain ⟨_, rv3, _, _, q1, q2, q3, e3, R3⟩ := hrec 2 _ rfl
  cases q1; cases q2; cases q3
  rw [ag_down hb hn1] at e1 R1
  rw [ag_up hb hn2] at e2 R2
  rw [ag_up hb hn3] at e3 R3
  rw [rul_down hn1] at R1
  rw [rul_up hn2] at R2
  rw [rul_up hn3] at R3
  have N2 : News h₀ L s1.heap ((L + 1 + 1 + 1 + 1, c4) :: (L + 1 + 1 + 1, c3) :: tb1 t1 :: tb2 t2 :: (cd ++ ((lr, W.listOf #[.ref x1, .ref x2, .ref x3] k) :: (tl ++ KK)))) := newsSub N1 (by intro p hp; simp only [List.mem_cons, List.mem_append] at hp ⊢; grind)
  have fr4 : ∀ p ∈ cd ++ tl, @LT.lt Nat _ (L + 1 + 1 + 1 + 1) p.1 := fun p hp => (hnew p hp).elim (fun h => nomatch h) fun h => h _ (.head _)
  have hall : ∀ P : Addr × Obj → Prop, (∀ p, @LT.lt Nat _ (L + 1 + 1 + 1 + 1) p.1 → @LT.lt Nat _ 157 p.1 → P p) → (∀ p ∈ KK, P p) → ∀ p ∈ cd ++ ((lr, W.listOf #[.ref x1, .ref x2, .ref x3] k) :: (tl ++ KK)), P p := fun P hP hK =>
    allApp (fun p hp => hP p (fr4 p (memL hp)) (hT p (memL hp))) (allCons (hP _ hlr (Nat.lt_trans (ltN (by omega)) hlr)) (allApp (fun p hp => hP p (fr4 p (memR hp)) (hT p (memR hp))) hK))
  have s4 : ∀ p ∈ KK, p ∈ (lr, W.listOf #[.ref x1, .ref x2, .ref x3] k) :: (tl ++ KK) := fun p hp => .tail _ (memR hp)
  have s5 : ∀ p ∈ tl, p ∈ (lr, W.listOf #[.ref x1, .ref x2, .ref x3] k) :: (tl ++ KK) := fun p hp => .tail _ (memL hp)
  have s6 : ∀ p ∈ tl ++ cd, p ∈ cd ++ ((lr, W.listOf #[.ref x1, .ref x2, .ref x3] k) :: (tl ++ KK)) := fun p hp => (List.mem_append.mp hp).elim (fun q => memR (s5 p q)) memL
  refine rest7 w B X T hdp hu hE hb hn1 hn2 hn3 ((hoff _ (by decide)).trans hmN) ((hoff _ (by decide)).trans hmB) ((hoff _ (by decide)).trans hmL) ((hoff _ (by decide)).trans hmR) ((hoff _ (by decide)).trans hmO) hc2 hc4 (s4 _ k2) (.head _) (e1.mono s5) (e2.mono s5) (e3.mono s5) (s4 _ kn1) (s4 _ kO) (s4 _ kR) (hR.mono s4) (s4 _ kD2) hI2 hL ht1 ht2
    (hall _ (fun p _ h => h) h157) (hall _ (fun p h _ => Nat.ne_of_gt h) h4) hc3 (hall _ (fun p h _ => Nat.ne_of_gt (Nat.lt_trans (Nat.lt_succ_self _) h)) h3) (R1.mono s6) (R2.mono s6) (R3.mono s6) (s4 _ kD1) hI1 (s4 _ kD3) hI3 F1 N2 ?_
  intro s' m' ta tt F9 N9 hS9
  exact hQ s' m' ta tt F9 N9 (hS.trans hS9)
theorem rest0 (w : World) {dp un : Nat} {gd : Option (List Code)} {fa : Addr} {cd0 : Value} {outer : List Env} {A₀ : Around} {base h₀ : Heap} {L : Addr} {loose : List Str} {mean : ExcName → Option Value} {mg mb : Str → Option Value} {m : Str → Option Value} {s : Shared} {Q : Flow → Shared → Prop} {E : Value → Shared → Prop}
    (B : Below A₀ base outer h₀) (X : (hd.heap_39 w.params).In h₀) (T : Top topProg loose mean mg mb h₀) (hdp : dp + 8 < recursionLimit) (hu : un + 20 * 8 < cLine)
    (hE : PassesOwn (model PySem.Challenge.rw_rs0140_02.prog w) (ktrTop dp un gd (Str.ofString "law") lawSc L fa cd0 (lawCl L) outer) (lawEnv L fa cd0) E)
    {c1 c2 c3 c4 : Obj} {ls : Addr} {vs : List Value} {ns : List Int} (hc1 : c1.data = .cell (some (.ref ls))) (hc2 : ∃ v, c2.data = .cell v) (hc3 : ∃ v, c3.data = .cell v) (hc4 : ∃ v, c4.data = .cell v) (hLs : h₀.IsList ls vs.toArray) (hI : IntsAre vs ns) (hn : ns.length ≤ 63) (hL : @LT.lt Nat _ 157 L)
    (F : Fr h₀ L s.heap m) (N : News h₀ L s.heap [(L + 1 + 1 + 1 + 1, c4), (L + 1 + 1 + 1, c3), (L + 1 + 1, c2), (L + 1, c1), tb1 #[], tb2 #[]]) (hQ : ∀ s' m' t1 t2, Fr h₀ L s'.heap m' → News h₀ L s'.heap [tb1 t1, tb2 t2] → Same s s' → Q (.ret (.bool true)) s') :
    wpAny (model PySem.Challenge.rw_rs0140_02.prog w) (ktrTop dp un gd (Str.ofString "law") lawSc L fa cd0 (lawCl L) outer) (execs (lawRest 0) (lawEnv L fa cd0)) Q E s := by
  have N0 : News h₀ L s.heap ((L + 1, c1) :: [(L + 1 + 1 + 1 + 1, c4), (L + 1 + 1 + 1, c3), (L + 1 + 1, c2), tb1 #[], tb2 #[]]) := newsSub N (by intro p hp; simp only [List.mem_cons, List.not_mem_nil, or_false] at hp ⊢; grind)
  refine step (by decide) ?_
  refine seg0 w B X T hdp hu hc1 hLs hI hn F N0 ?_
  intro an n1 n2 n3 u1 u2 u3 kn h1 tk1 hn1 hn2 hn3 F1 N1 ha
  show wpAny _ _ (execs (lawRest 1) _) _ _ _
  refine step (by decide) ?_
  refine seg1 w B X T hdp hu hc1 hLs hI hn (.tail _ (.head _)) F1 N1 ?_
  intro b tbl h2 tk2 m2 hb F2 hS2 N2
  show wpAny _ _ (execs (lawRest 2) _) _ _ _
  have hmN2 := (hS2.off (Str.ofString "numbers") (by decide)).trans (if_pos rfl)
  refine step (by decide) ?_
  refine seg2 w B X T hdp hu hb hS2.at_ F2 N2 ?_
  intro tb h3 tk3 m3 F3 hS3 N3
  show wpAny _ _ (execs (lawRest 3) _) _ _ _
  have hmN3 := (hS3.off (Str.ofString "numbers") (by decide)).trans hmN2
  have hmL3 := (hS3.off (Str.ofString "blanks") (by decide)).trans hS2.at_
  refine step (by decide) ?_
  refine seg3 w B X T hdp hu F3 N3 ?_
  intro ar rvs kr tl h4 tk4 m4 F4 hS4 N4 har htl hR
  show wpAny _ _ (execs (lawRest 4) _) _ _ _
  have hmN4 := (hS4.off (Str.ofString "numbers") (by decide)).trans hmN3
  have hmL4 := (hS4.off (Str.ofString "blanks") (by decide)).trans hmL3
  have hmB4 := (hS4.off (Str.ofString "behind") (by decide)).trans hS3.at_
  refine step (by decide) ?_
  refine seg4 w B X T hdp hu F4 N4 ?_
  intro d1 d2 d3 us1 us2 us3 kd1 kd2 kd3 ao ko h5 tk5 m5 hI1 hI2 hI3 F5 hS5 N5 hd1 hd12 hd23 hd3a
  show wpAny _ _ (execs (lawRest 5) _) _ _ _
  have hmN5 := (hS5.off (Str.ofString "numbers") (by decide)).trans hmN4
  have hmL5 := (hS5.off (Str.ofString "blanks") (by decide)).trans hmL4
  have hmB5 := (hS5.off (Str.ofString "behind") (by decide)).trans hmB4
  have hmR5 := (hS5.off (Str.ofString "readers") (by decide)).trans hS4.at_
  have ha4 : @LT.lt Nat _ (L + 1 + 1 + 1 + 1) an := ha _ (.tail _ (.head _))
  have har4 : @LT.lt Nat _ (L + 1 + 1 + 1 + 1) ar := Nat.lt_trans ha4 (har _ (.head _))
  have hd14 : @LT.lt Nat _ (L + 1 + 1 + 1 + 1) d1 := Nat.lt_trans har4 (hd1 _ (.head _))
  have hd24 := Nat.lt_trans hd14 hd12
  have hd34 := Nat.lt_trans hd24 hd23
  have hao4 := Nat.lt_trans hd34 hd3a
  obtain ⟨KX, eKX⟩ : ∃ KX, KX = (ao, W.listOf #[.ref d1, .ref d2, .ref d3] ko) :: (d3, W.listOf us3.toArray kd3) :: (d2, W.listOf us2.toArray kd2) :: (d1, W.listOf us1.toArray kd1) :: (ar, W.listOf rvs.toArray kr) :: (tl ++ [(an, W.listOf #[.int n1 u1, .int n2 u2, .int n3 u3] kn)]) := ⟨_, rfl⟩
  have hKX : ∀ p ∈ KX, @LT.lt Nat _ (L + 1 + 1 + 1 + 1) p.1 := by
    rw [eKX]
    exact allCons hao4 (allCons hd34 (allCons hd24 (allCons hd14 (allCons har4 (allApp (fun p hp => Nat.lt_trans har4 (htl p hp)) (allCons ha4 allNil))))))
  have N6 : News h₀ L h5 ((L + 1 + 1, c2) :: ((L + 1 + 1 + 1 + 1, c4) :: (L + 1 + 1 + 1, c3) :: tb1 #[] :: tb2 #[] :: KX)) := newsSub N5 (by rw [eKX]; intro p hp; simp only [List.mem_cons, List.mem_append, List.not_mem_nil, or_false] at hp ⊢; grind)
  have m1 : (an, W.listOf #[.int n1 u1, .int n2 u2, .int n3 u3] kn) ∈ KX := by rw [eKX]; exact .tail _ (.tail _ (.tail _ (.tail _ (.tail _ (memR (.head _))))))
  have m2 : (ao, W.listOf #[.ref d1, .ref d2, .ref d3] ko) ∈ KX := by rw [eKX]; exact .head _
  have m3 : (d3, W.listOf us3.toArray kd3) ∈ KX := by rw [eKX]; exact .tail _ (.head _)
  have m4 : (d2, W.listOf us2.toArray kd2) ∈ KX := by rw [eKX]; exact .tail _ (.tail _ (.head _))
  have m5 : (d1, W.listOf us1.toArray kd1) ∈ KX := by rw [eKX]; exact .tail _ (.tail _ (.tail _ (.head _)))
  have m6 : (ar, W.listOf rvs.toArray kr) ∈ KX := by rw [eKX]; exact .tail _ (.tail _ (.tail _ (.tail _ (.head _))))
  have m7 : ReadersAt KX rvs := hR.mono fun p hp => by rw [eKX]; exact .tail _ (.tail _ (.tail _ (.tail _ (.tail _ (memL hp)))))
  clear eKX N5 N4 N3 N2 N1 N0 N
  refine step (by decide) ?_
  refine seg5 w B X T hdp hu hc2 F5 N6 ?ne ?_
  case ne => exact allCons (by refine neN ?_; dsimp only; omega) (allCons (by refine neN ?_; dsimp only; omega) (allCons (by refine neN ?_; dsimp only; omega) (allCons (by refine neN ?_; dsimp only; omega) fun p hp => Nat.ne_of_gt (Nat.lt_trans (ltN (by omega)) (hKX p hp)))))
  intro lr c2' h6 tk6 F6 hc2' N7 hlr hlr2
  show wpAny _ _ (execs (lawRest 6) _) _ _ _
  have N8 : News h₀ L h6 ((lr, W.listOf #[] 0) :: tb1 #[] :: tb2 #[] :: ((L + 1 + 1 + 1 + 1, c4) :: (L + 1 + 1 + 1, c3) :: ((L + 1 + 1, c2') :: KX))) := newsSub N7 (by intro p hp; simp only [List.mem_cons] at hp ⊢; grind)
  refine rest6 w B X T hdp hu hE hb hn1 hn2 hn3 hmN5 hmB5 hmL5 hmR5 hS5.at_ hc2' hc3 hc4 (.head _) (.tail _ m1) (.tail _ m2) (.tail _ m6) (m7.mono fun p hp => .tail _ hp) (.tail _ m5) hI1 (.tail _ m4) hI2 (.tail _ m3) hI3 hL ?a ?b ?c (hlr _ (.head _)) ?d F6 N8 ?_
  case a => exact allCons (by refine ltN ?_; dsimp only; omega) fun p hp => Nat.lt_trans (ltN (by omega)) (hKX p hp)
  case b => exact allCons (by refine neN ?_; dsimp only; omega) fun p hp => Nat.ne_of_gt (hKX p hp)
  case c => exact allCons (by refine neN ?_; dsimp only; omega) fun p hp => Nat.ne_of_gt (Nat.lt_trans (ltN (by omega)) (hKX p hp))
  case d => exact allCons (Nat.ne_of_lt hlr2) fun p hp => Nat.ne_of_lt (hlr p (.tail _ (.tail _ (.tail _ (.tail _ hp)))))
  intro s' m' ta tt F9 N9 hS9
  exact hQ s' m' ta tt F9 N9 ⟨hS9.1, hS9.2.1, hS9.2.2⟩
end Mine
end

section
open PySem PySem.W PyProof.Rows
namespace Mine
theorem sec_J0 {M : Model} {A : Around} {E : Value → Shared → Prop} {s : Shared} {env : Env} {p : Pos} {Q : Flow → Shared → Prop} (h : Q .next s) : wpAny M A (exec (.Pass p) env) Q E s := by
  w_top off
  k_with_none
  walk1
  exact h
end Mine
end
section
open PySem PySem.W PyProof.Rows
set_option maxRecDepth 100000
set_option maxHeartbeats 4000000
namespace Mine
/-- what a law's way must show at its end, the tables laid aside -/
noncomputable def EndG (tabs : List (Addr × Addr)) (s₁ : Shared) (r : Result) (s' : Shared) : Prop :=
  r = .ok (.ret (.bool true)) ∧ (∀ b o, (ghostOf s₁.heap tabs).get? b = some o → s'.heap.get? b = some o) ∧ s'.os = s₁.os ∧ AllBare s'.gens ∧ GrownAll tabs s'.heap
theorem end_of {cw : ClaimW} {cl : Str → Option Addr} {mean : ExcName → Option Value} {args : List WData} {s₁ : Shared} {tabs : List (Addr × Addr)} (hT : TabsAt tabs s₁.heap) (hr : ∀ cls, cw.raises args cls = false) (hp : cw.post args (.bool true) args = true)
    {r : Result} {s' : Shared} (h : EndG tabs s₁ r s') : GoodWG cw cl mean args s₁ r s' := by
  obtain ⟨rfl, hk, hos, hg, hgr⟩ := h
  have tabs_are : ∀ b o, b ∈ tabs.map (·.2) → s₁.heap.get? b = some o → isCodeTable s₁.heap b ∧ o = tabObj #[] ∧ ∃ ps, s'.heap.get? b = some (tabObj ps) := by
    intro b o hb e
    obtain ⟨q, hq, rfl⟩ := List.mem_map.mp hb
    have h2 := hT q hq
    have e3 : some o = some (tabObj #[]) := e.symm.trans h2.2
    exact ⟨(h2.1.tab h2.2).isCodeTable, Option.some.inj e3, hgr.get q hq⟩
  refine ⟨.inl ⟨.bool true, .bool true, [], rfl, hr, .bool true, hp, fun _ => ⟨.nil, fun _ h => nomatch h⟩⟩, ⟨fun b o e => ?_, fun b o e => ?_⟩, hos, hg⟩
  · by_cases hb : b ∈ tabs.map (·.2)
    · obtain ⟨ht, rfl, ps, hP⟩ := tabs_are b o hb e
      exact .inr (.inl ⟨ht, rfl, #[], ps, rfl, by rw [hP, Array.empty_append]⟩)
    · exact .inl (hk b o (ghost_ne e hb))
  · by_cases hb : b ∈ tabs.map (·.2)
    · obtain ⟨_, _, ps, hP⟩ := tabs_are b o hb e
      exact ⟨_, hP⟩
    · exact ⟨o, hk b o (ghost_ne e hb)⟩
end Mine
open Mine in
theorem PySem.Challenge.cw_rs0140_02_holds : PySem.Challenge.rw_rs0140_02.Holds := by
  w_on
  refine holds_law (by kernel_rfl) fun said => ?_
  refine holds_open (q := hd.view_39) (loose := [Str.ofString "Whitespace"]) (Xt := fun s => xlAt hd.view_39 [] s && recOk (RowW.records PySem.Challenge.rw_rs0140_02.row.toRowW) s) (XP := XL hd.view_39 []) (Yf := Hook.obs hd.hook) (Ya := Hook.val hd.hook) (YP := Hook.says hd.hook) (N := 2398) hd.left (Hook.of hd.hook) (Hook.keeps hd.hook) (fun s e => xl_of s (Bool.and_eq_true_iff.mp e).1) XL.keeps (by rfl) (by rfl) (by rfl) (fun s e => recFacts_of (Bool.and_eq_true_iff.mp e).2) (by rfl) said (by kernel_rfl) ⟨rfl, rfl, rfl, rfl, rfl, by kernel_rfl⟩ ?hw ?hc
  case hw => w_witness2
  k_fill
  intro w s₀ s₁ mg mb G Y fa o pm cd doc dV kV ho hdd hcd hD hmg hg args vals as hpre hlay hrd hwl hlo
  have KX := km_in_of Y
  have hT8 := km_tabs_of Y
  have X := (Ground.X G).1
  have V := (Ground.X G).2
  refine Ground.open G ?_
  intro T B D TE TW
  try (refine guard_noD D (by decide +kernel) ?_; clear D)
  have hT9 : TabsAt [(93, 89), (161, 157)] _ := List.forall_mem_cons.mpr ⟨tab_of (x := Str.ofString "format_witnesses") (c := 93) (P := 89) T KX rfl (by kernel_rfl), List.forall_mem_cons.mpr ⟨⟨codeHd_of_K (c := 161) (P := 157) KX (by kernel_rfl), hT8 157 (.head _)⟩, fun _ h => nomatch h⟩⟩
  clear hmg
  wrow_args hpre hlay hrd hwl hlo
  all_goals (first | refine callC_kw (enter_call ?_) | refine enter_call ?_)
  all_goals w_top on
  all_goals refine codeAny_mono ?_ (fun r s' (hq : EndG [(93, 89), (161, 157)] s₁ r s') => end_of hT9 ?hr9 ?hp9 hq)
  case hr9 => exact fun _ => rfl
  case hp9 => wrow_post
  all_goals w_call any ho hdd hcd hD T F
  all_goals clear hdd
  all_goals kn_ghosts F T
  all_goals k_drop
  (all_goals try k_fold)
  rename Fr _ _ _ _ => F9
  rename News _ _ _ _ => N9
  rename Below _ _ _ _ => B9
  rename Top _ _ _ _ _ _ => T9
  rename Frag.In _ _ => X9
  rename IntsAre _ _ => I9
  rename Heap.IsList (ghostOf _ _) _ _ => L9
  rename_i w7 w6 o4 o3 o2 o1 q4 q3 q2 q1 q0 l6 l5
  refine rest0 w (s := { heap := _, gens := s₁.gens, drawn := s₁.drawn, toks := _, os := s₁.os }) (L := s₁.heap.objs.size) (fa := fa) (cd0 := cd) (outer := []) (c1 := o1) (c2 := o2) (c3 := o3) (c4 := o4) B9 X9 T9 ?p1 ?p2 ?p3 ?c1 ⟨_, q2⟩ ⟨_, q3⟩ ⟨_, q4⟩ L9 I9 ?p4 l5.2 F9 N9 ?p6
  case p1 => decide
  case p2 => decide
  case p3 => exact PySem.PassesOwn.leaving
  case c1 => exact q1
  case p4 => omega
  case p6 =>
    intro s' m' t1 t2 F N S
    exact ⟨rfl, F.keep, S.1, S.2.2 (AllBare.of_eq hg), GrownAt.of N (.head _), GrownAt.of N (.tail _ (.head _)), trivial⟩
end

end
end
end
end
end
end
end
end
end
end
end