import PyProof.Rows.All
import Wide.All
import OpenK.AllK
import Wide.FinOn
import Lean
import PySem.Challenge.RW_rs0140_01
set_option Elab.async false
set_option compiler.extract_closed false

section
open PySem PySem.W PyProof.Rows
set_option maxRecDepth 100000
set_option maxHeartbeats 8000000
namespace Mine
noncomputable def topS (i : Nat) : Stmt := (PySem.Challenge.rw_rs0140_01.prog.main.body[i]?).getD (.Pass ⟨0, 0, 0, 0⟩)
def inC (s : Stmt) (i : Nat) : Stmt := match s with | .ClassDef _ _ _ b _ _ _ _ _ _ _ => (b[i]?).getD (.Pass ⟨0, 0, 0, 0⟩) | _ => .Pass ⟨0, 0, 0, 0⟩
def fP (s : Stmt) : Arguments := match s with | .FunctionDef _ a _ _ _ _ _ _ _ _ => a | _ => default
def fB (s : Stmt) : List Stmt := match s with | .FunctionDef _ _ b _ _ _ _ _ _ _ => b | _ => []
def fS (s : Stmt) : Scope := match s with | .FunctionDef _ _ _ _ _ _ sc _ _ _ => sc | _ => default
noncomputable def sT0 : {s : Stmt // s = topS 0} := ⟨_, by conv => rhs; whnf⟩
noncomputable def sT2 : {s : Stmt // s = topS 2} := ⟨_, by conv => rhs; whnf⟩
noncomputable def sT3 : {s : Stmt // s = topS 3} := ⟨_, by conv => rhs; whnf⟩
noncomputable def sT5 : {s : Stmt // s = topS 5} := ⟨_, by conv => rhs; whnf⟩
noncomputable def sT6 : {s : Stmt // s = topS 6} := ⟨_, by conv => rhs; whnf⟩
noncomputable def sT8 : {s : Stmt // s = topS 8} := ⟨_, by conv => rhs; whnf⟩
noncomputable def sT9 : {s : Stmt // s = topS 9} := ⟨_, by conv => rhs; whnf⟩
noncomputable def sT10 : {s : Stmt // s = topS 10} := ⟨_, by conv => rhs; whnf⟩
noncomputable def sT11 : {s : Stmt // s = topS 11} := ⟨_, by conv => rhs; whnf⟩
noncomputable def sT12 : {s : Stmt // s = topS 12} := ⟨_, by conv => rhs; whnf⟩
noncomputable def sT13 : {s : Stmt // s = topS 13} := ⟨_, by conv => rhs; whnf⟩
noncomputable def sT14 : {s : Stmt // s = topS 14} := ⟨_, by conv => rhs; whnf⟩
noncomputable def sT15 : {s : Stmt // s = topS 15} := ⟨_, by conv => rhs; whnf⟩
noncomputable def sT16 : {s : Stmt // s = topS 16} := ⟨_, by conv => rhs; whnf⟩
noncomputable def fnS21 : {s : Stmt // s = sT0.1} := ⟨_, by conv => rhs; whnf⟩
noncomputable def fnS35 : {s : Stmt // s = inC sT2.1 0} := ⟨_, by conv => rhs; whnf⟩
noncomputable def fnS42 : {s : Stmt // s = inC sT2.1 1} := ⟨_, by conv => rhs; whnf⟩
noncomputable def fnS49 : {s : Stmt // s = inC sT2.1 2} := ⟨_, by conv => rhs; whnf⟩
noncomputable def fnS56 : {s : Stmt // s = inC sT2.1 3} := ⟨_, by conv => rhs; whnf⟩
noncomputable def fnS70 : {s : Stmt // s = sT3.1} := ⟨_, by conv => rhs; whnf⟩
noncomputable def fnS87 : {s : Stmt // s = inC sT5.1 1} := ⟨_, by conv => rhs; whnf⟩
noncomputable def fnS94 : {s : Stmt // s = inC sT5.1 2} := ⟨_, by conv => rhs; whnf⟩
noncomputable def fnS101 : {s : Stmt // s = inC sT5.1 3} := ⟨_, by conv => rhs; whnf⟩
noncomputable def fnS108 : {s : Stmt // s = inC sT5.1 4} := ⟨_, by conv => rhs; whnf⟩
noncomputable def fnS115 : {s : Stmt // s = inC sT5.1 5} := ⟨_, by conv => rhs; whnf⟩
noncomputable def fnS122 : {s : Stmt // s = inC sT5.1 6} := ⟨_, by conv => rhs; whnf⟩
noncomputable def fnS129 : {s : Stmt // s = inC sT5.1 7} := ⟨_, by conv => rhs; whnf⟩
noncomputable def fnS143 : {s : Stmt // s = sT6.1} := ⟨_, by conv => rhs; whnf⟩
noncomputable def fnS148 : {s : Stmt // s = sT8.1} := ⟨_, by conv => rhs; whnf⟩
noncomputable def fnS153 : {s : Stmt // s = sT9.1} := ⟨_, by conv => rhs; whnf⟩
noncomputable def fnS160 : {s : Stmt // s = sT10.1} := ⟨_, by conv => rhs; whnf⟩
noncomputable def fnS167 : {s : Stmt // s = sT11.1} := ⟨_, by conv => rhs; whnf⟩
noncomputable def fnS172 : {s : Stmt // s = sT12.1} := ⟨_, by conv => rhs; whnf⟩
noncomputable def fnS179 : {s : Stmt // s = sT13.1} := ⟨_, by conv => rhs; whnf⟩
noncomputable def fnS186 : {s : Stmt // s = sT14.1} := ⟨_, by conv => rhs; whnf⟩
noncomputable def fnS191 : {s : Stmt // s = sT15.1} := ⟨_, by conv => rhs; whnf⟩
noncomputable def fnS196 : {s : Stmt // s = sT16.1} := ⟨_, by conv => rhs; whnf⟩
noncomputable def hd.heap_39 : Params → Frag := by
  refine' (_ : (p21 : Arguments) → (b21 : List Stmt) → (s21 : Scope) → (p35 : Arguments) → (b35 : List Stmt) → (s35 : Scope) → (p42 : Arguments) → (b42 : List Stmt) → (s42 : Scope) → (p49 : Arguments) → (b49 : List Stmt) → (s49 : Scope) → (p56 : Arguments) → (b56 : List Stmt) → (s56 : Scope) → (p70 : Arguments) → (b70 : List Stmt) → (s70 : Scope) → (p87 : Arguments) → (b87 : List Stmt) → (s87 : Scope) → (p94 : Arguments) → (b94 : List Stmt) → (s94 : Scope) → (p101 : Arguments) → (b101 : List Stmt) → (s101 : Scope) → (p108 : Arguments) → (b108 : List Stmt) → (s108 : Scope) → (p115 : Arguments) → (b115 : List Stmt) → (s115 : Scope) → (p122 : Arguments) → (b122 : List Stmt) → (s122 : Scope) → (p129 : Arguments) → (b129 : List Stmt) → (s129 : Scope) → (p143 : Arguments) → (b143 : List Stmt) → (s143 : Scope) → (p148 : Arguments) → (b148 : List Stmt) → (s148 : Scope) → (p153 : Arguments) → (b153 : List Stmt) → (s153 : Scope) → (p160 : Arguments) → (b160 : List Stmt) → (s160 : Scope) → (p167 : Arguments) → (b167 : List Stmt) → (s167 : Scope) → (p172 : Arguments) → (b172 : List Stmt) → (s172 : Scope) → (p179 : Arguments) → (b179 : List Stmt) → (s179 : Scope) → (p186 : Arguments) → (b186 : List Stmt) → (s186 : Scope) → (p191 : Arguments) → (b191 : List Stmt) → (s191 : Scope) → (p196 : Arguments) → (b196 : List Stmt) → (s196 : Scope) → p21 = fP (fnS21).1 → b21 = fB (fnS21).1 → s21 = fS (fnS21).1 → p35 = fP (fnS35).1 → b35 = fB (fnS35).1 → s35 = fS (fnS35).1 → p42 = fP (fnS42).1 → b42 = fB (fnS42).1 → s42 = fS (fnS42).1 → p49 = fP (fnS49).1 → b49 = fB (fnS49).1 → s49 = fS (fnS49).1 → p56 = fP (fnS56).1 → b56 = fB (fnS56).1 → s56 = fS (fnS56).1 → p70 = fP (fnS70).1 → b70 = fB (fnS70).1 → s70 = fS (fnS70).1 → p87 = fP (fnS87).1 → b87 = fB (fnS87).1 → s87 = fS (fnS87).1 → p94 = fP (fnS94).1 → b94 = fB (fnS94).1 → s94 = fS (fnS94).1 → p101 = fP (fnS101).1 → b101 = fB (fnS101).1 → s101 = fS (fnS101).1 → p108 = fP (fnS108).1 → b108 = fB (fnS108).1 → s108 = fS (fnS108).1 → p115 = fP (fnS115).1 → b115 = fB (fnS115).1 → s115 = fS (fnS115).1 → p122 = fP (fnS122).1 → b122 = fB (fnS122).1 → s122 = fS (fnS122).1 → p129 = fP (fnS129).1 → b129 = fB (fnS129).1 → s129 = fS (fnS129).1 → p143 = fP (fnS143).1 → b143 = fB (fnS143).1 → s143 = fS (fnS143).1 → p148 = fP (fnS148).1 → b148 = fB (fnS148).1 → s148 = fS (fnS148).1 → p153 = fP (fnS153).1 → b153 = fB (fnS153).1 → s153 = fS (fnS153).1 → p160 = fP (fnS160).1 → b160 = fB (fnS160).1 → s160 = fS (fnS160).1 → p167 = fP (fnS167).1 → b167 = fB (fnS167).1 → s167 = fS (fnS167).1 → p172 = fP (fnS172).1 → b172 = fB (fnS172).1 → s172 = fS (fnS172).1 → p179 = fP (fnS179).1 → b179 = fB (fnS179).1 → s179 = fS (fnS179).1 → p186 = fP (fnS186).1 → b186 = fB (fnS186).1 → s186 = fS (fnS186).1 → p191 = fP (fnS191).1 → b191 = fB (fnS191).1 → s191 = fS (fnS191).1 → p196 = fP (fnS196).1 → b196 = fB (fnS196).1 → s196 = fS (fnS196).1 → Params → Frag) _ _ _ _ _ _ _ _ _ _ _ _ _ _ _ _ _ _ _ _ _ _ _ _ _ _ _ _ _ _ _ _ _ _ _ _ _ _ _ _ _ _ _ _ _ _ _ _ _ _ _ _ _ _ _ _ _ _ _ _ _ _ _ _ _ _ _ _ _ (by conv => rhs; whnf) (by conv => rhs; whnf) (by conv => rhs; whnf) (by conv => rhs; whnf) (by conv => rhs; whnf) (by conv => rhs; whnf) (by conv => rhs; whnf) (by conv => rhs; whnf) (by conv => rhs; whnf) (by conv => rhs; whnf) (by conv => rhs; whnf) (by conv => rhs; whnf) (by conv => rhs; whnf) (by conv => rhs; whnf) (by conv => rhs; whnf) (by conv => rhs; whnf) (by conv => rhs; whnf) (by conv => rhs; whnf) (by conv => rhs; whnf) (by conv => rhs; whnf) (by conv => rhs; whnf) (by conv => rhs; whnf) (by conv => rhs; whnf) (by conv => rhs; whnf) (by conv => rhs; whnf) (by conv => rhs; whnf) (by conv => rhs; whnf) (by conv => rhs; whnf) (by conv => rhs; whnf) (by conv => rhs; whnf) (by conv => rhs; whnf) (by conv => rhs; whnf) (by conv => rhs; whnf) (by conv => rhs; whnf) (by conv => rhs; whnf) (by conv => rhs; whnf) (by conv => rhs; whnf) (by conv => rhs; whnf) (by conv => rhs; whnf) (by conv => rhs; whnf) (by conv => rhs; whnf) (by conv => rhs; whnf) (by conv => rhs; whnf) (by conv => rhs; whnf) (by conv => rhs; whnf) (by conv => rhs; whnf) (by conv => rhs; whnf) (by conv => rhs; whnf) (by conv => rhs; whnf) (by conv => rhs; whnf) (by conv => rhs; whnf) (by conv => rhs; whnf) (by conv => rhs; whnf) (by conv => rhs; whnf) (by conv => rhs; whnf) (by conv => rhs; whnf) (by conv => rhs; whnf) (by conv => rhs; whnf) (by conv => rhs; whnf) (by conv => rhs; whnf) (by conv => rhs; whnf) (by conv => rhs; whnf) (by conv => rhs; whnf) (by conv => rhs; whnf) (by conv => rhs; whnf) (by conv => rhs; whnf) (by conv => rhs; whnf) (by conv => rhs; whnf) (by conv => rhs; whnf) 
  exact fun p21 b21 s21 p35 b35 s35 p42 b42 s42 p49 b49 s49 p56 b56 s56 p70 b70 s70 p87 b87 s87 p94 b94 s94 p101 b101 s101 p108 b108 s108 p115 b115 s115 p122 b122 s122 p129 b129 s129 p143 b143 s143 p148 b148 s148 p153 b153 s153 p160 b160 s160 p167 b167 s167 p172 b172 s172 p179 b179 s179 p186 b186 s186 p191 b191 s191 p196 b196 s196 _ _ _ _ _ _ _ _ _ _ _ _ _ _ _ _ _ _ _ _ _ _ _ _ _ _ _ _ _ _ _ _ _ _ _ _ _ _ _ _ _ _ _ _ _ _ _ _ _ _ _ _ _ _ _ _ _ _ _ _ _ _ _ _ _ _ _ _ _ P => (nat_lit 2, { cls := Value.none, data := Data.dict #[] }) :: (nat_lit 3, { cls := Value.type "dict", data := Data.dict #[{ hash := PyData.keyHash P (Str.ofString "__name__"), key := Value.str (Str.ofString "__name__") 165, val := Value.str (Str.ofString "law_rs0140_01") 381 }, { hash := PyData.keyHash P (Str.ofString "__doc__"), key := Value.str (Str.ofString "__doc__") 166, val := Value.none }, { hash := PyData.keyHash P (Str.ofString "__package__"), key := Value.str (Str.ofString "__package__") 167, val := Value.none }, { hash := PyData.keyHash P (Str.ofString "__loader__"), key := Value.str (Str.ofString "__loader__") 168, val := Value.builtin "__main__.__loader__#opaque" }, { hash := PyData.keyHash P (Str.ofString "__spec__"), key := Value.str (Str.ofString "__spec__") 169, val := Value.none }, { hash := PyData.keyHash P (Str.ofString "__annotations__"), key := Value.str (Str.ofString "__annotations__") 170, val := Value.ref 6 }, { hash := PyData.keyHash P (Str.ofString "__builtins__"), key := Value.str (Str.ofString "__builtins__") 171, val := Value.ref 4 }, { hash := PyData.keyHash P (Str.ofString "__file__"), key := Value.str (Str.ofString "__file__") 173, val := Value.str (Str.ofString "/claim/cut.py") 172 }, { hash := PyData.keyHash P (Str.ofString "__cached__"), key := Value.str (Str.ofString "__cached__") 174, val := Value.none }, { hash := PyData.keyHash P (Str.ofString "_wall"), key := Value.str (Str.ofString "_wall") 193, val := Value.ref 21 }, { hash := PyData.keyHash P (Str.ofString "Entry"), key := Value.str (Str.ofString "Entry") 257, val := Value.ref 59 }, { hash := PyData.keyHash P (Str.ofString "merge_entries"), key := Value.str (Str.ofString "merge_entries") 266, val := Value.ref 70 }, { hash := PyData.keyHash P (Str.ofString "Whitespace"), key := Value.str (Str.ofString "Whitespace") 371, val := Value.ref 132 }, { hash := PyData.keyHash P (Str.ofString "format_witnesses"), key := Value.str (Str.ofString "format_witnesses") 380, val := Value.ref 143 }, { hash := PyData.keyHash P (Str.ofString "_law_lead"), key := Value.str (Str.ofString "_law_lead") 388, val := Value.ref 148 }, { hash := PyData.keyHash P (Str.ofString "_law_draw"), key := Value.str (Str.ofString "_law_draw") 394, val := Value.ref 153 }, { hash := PyData.keyHash P (Str.ofString "_law_column"), key := Value.str (Str.ofString "_law_column") 404, val := Value.ref 160 }, { hash := PyData.keyHash P (Str.ofString "_law_named"), key := Value.str (Str.ofString "_law_named") 412, val := Value.ref 167 }, { hash := PyData.keyHash P (Str.ofString "_law_agents"), key := Value.str (Str.ofString "_law_agents") 418, val := Value.ref 172 }, { hash := PyData.keyHash P (Str.ofString "_law_rule"), key := Value.str (Str.ofString "_law_rule") 427, val := Value.ref 179 }, { hash := PyData.keyHash P (Str.ofString "_law_record"), key := Value.str (Str.ofString "_law_record") 442, val := Value.ref 186 }, { hash := PyData.keyHash P (Str.ofString "_law_keeps"), key := Value.str (Str.ofString "_law_keeps") 448, val := Value.ref 191 }, { hash := PyData.keyHash P (Str.ofString "law"), key := Value.str (Str.ofString "law") 454, val := Value.ref 196 }] 23 }) :: (nat_lit 15, { cls := Value.type "tuple", data := Data.seq #[] }) :: (nat_lit 17, { cls := Value.type "tuple", data := Data.seq #[Value.str (Str.ofString "k") 190] }) :: (nat_lit 18, { cls := Value.type "tuple", data := Data.seq #[] }) :: (nat_lit 20, { cls := Value.type "code", data := Data.fields #[Value.str (Str.ofString "_wall") 187, Value.str (Str.ofString "_wall") 188, Value.str (Str.ofString "/claim/cut.py") 189, Value.int 1 0, Value.int 1 0, Value.int 0 0, Value.int 0 0, Value.int 3 0, Value.ref 15, Value.bool Bool.true, Value.int 181 0, Value.ref 16, Value.none, Value.ref 17, Value.ref 18, Value.ref 19, Value.int 191 0, Value.int 1 0, Value.str (Str.ofString "/claim/cut.py") 192] }) :: (nat_lit 21, { cls := Value.type "function", data := Data.func { name := Str.ofString "_wall", qualname := Str.ofString "_wall", globals := 3, closure := [], defaults := Value.none, kwdefaults := Value.none, pyModule := Value.str (Str.ofString "__main__") 164, code := Value.ref 20, params := p21, body := FuncBody.stmts (b21), scope := s21 } }) :: (nat_lit 29, { cls := Value.type "tuple", data := Data.seq #[] }) :: (nat_lit 31, { cls := Value.type "tuple", data := Data.seq #[Value.str (Str.ofString "self") 211] }) :: (nat_lit 32, { cls := Value.type "tuple", data := Data.seq #[] }) :: (nat_lit 34, { cls := Value.type "code", data := Data.fields #[Value.str (Str.ofString "__init__") 208, Value.str (Str.ofString "Entry.__init__") 209, Value.str (Str.ofString "/claim/cut.py") 210, Value.int 7 0, Value.int 1 0, Value.int 0 0, Value.int 0 0, Value.int 3 0, Value.ref 29, Value.bool Bool.true, Value.int 181 0, Value.ref 30, Value.none, Value.ref 31, Value.ref 32, Value.ref 33, Value.int 212 0, Value.int 7 0, Value.str (Str.ofString "/claim/cut.py") 213] }) :: (nat_lit 35, { cls := Value.type "function", data := Data.func { name := Str.ofString "__init__", qualname := Str.ofString "Entry.__init__", globals := 3, closure := [], defaults := Value.none, kwdefaults := Value.none, pyModule := Value.str (Str.ofString "cpy313.urllib.robotparser") 194, code := Value.ref 34, params := p35, body := FuncBody.stmts (b35), scope := s35 } }) :: (nat_lit 36, { cls := Value.type "tuple", data := Data.seq #[] }) :: (nat_lit 38, { cls := Value.type "tuple", data := Data.seq #[Value.str (Str.ofString "self") 218, Value.str (Str.ofString "ret") 219, Value.str (Str.ofString "agent") 220, Value.str (Str.ofString "rate") 221] }) :: (nat_lit 39, { cls := Value.type "tuple", data := Data.seq #[] }) :: (nat_lit 41, { cls := Value.type "code", data := Data.fields #[Value.str (Str.ofString "__str__") 215, Value.str (Str.ofString "Entry.__str__") 216, Value.str (Str.ofString "/claim/cut.py") 217, Value.int 13 0, Value.int 1 0, Value.int 0 0, Value.int 0 0, Value.int 3 0, Value.ref 36, Value.bool Bool.true, Value.int 181 0, Value.ref 37, Value.none, Value.ref 38, Value.ref 39, Value.ref 40, Value.int 222 0, Value.int 13 0, Value.str (Str.ofString "/claim/cut.py") 223] }) :: (nat_lit 42, { cls := Value.type "function", data := Data.func { name := Str.ofString "__str__", qualname := Str.ofString "Entry.__str__", globals := 3, closure := [], defaults := Value.none, kwdefaults := Value.none, pyModule := Value.str (Str.ofString "cpy313.urllib.robotparser") 194, code := Value.ref 41, params := p42, body := FuncBody.stmts (b42), scope := s42 } }) :: (nat_lit 43, { cls := Value.type "tuple", data := Data.seq #[] }) :: (nat_lit 45, { cls := Value.type "tuple", data := Data.seq #[Value.str (Str.ofString "self") 228, Value.str (Str.ofString "useragent") 229, Value.str (Str.ofString "agent") 230] }) :: (nat_lit 46, { cls := Value.type "tuple", data := Data.seq #[] }) :: (nat_lit 48, { cls := Value.type "code", data := Data.fields #[Value.str (Str.ofString "applies_to") 225, Value.str (Str.ofString "Entry.applies_to") 226, Value.str (Str.ofString "/claim/cut.py") 227, Value.int 30 0, Value.int 2 0, Value.int 0 0, Value.int 0 0, Value.int 3 0, Value.ref 43, Value.bool Bool.true, Value.int 181 0, Value.ref 44, Value.none, Value.ref 45, Value.ref 46, Value.ref 47, Value.int 231 0, Value.int 30 0, Value.str (Str.ofString "/claim/cut.py") 232] }) :: (nat_lit 49, { cls := Value.type "function", data := Data.func { name := Str.ofString "applies_to", qualname := Str.ofString "Entry.applies_to", globals := 3, closure := [], defaults := Value.none, kwdefaults := Value.none, pyModule := Value.str (Str.ofString "cpy313.urllib.robotparser") 194, code := Value.ref 48, params := p49, body := FuncBody.stmts (b49), scope := s49 } }) :: (nat_lit 50, { cls := Value.type "tuple", data := Data.seq #[] }) :: (nat_lit 52, { cls := Value.type "tuple", data := Data.seq #[Value.str (Str.ofString "self") 237, Value.str (Str.ofString "filename") 238, Value.str (Str.ofString "best_match") 239, Value.str (Str.ofString "allowance") 240, Value.str (Str.ofString "line") 241, Value.str (Str.ofString "m") 242] }) :: (nat_lit 53, { cls := Value.type "tuple", data := Data.seq #[] }) :: (nat_lit 55, { cls := Value.type "code", data := Data.fields #[Value.str (Str.ofString "allowance") 234, Value.str (Str.ofString "Entry.allowance") 235, Value.str (Str.ofString "/claim/cut.py") 236, Value.int 41 0, Value.int 2 0, Value.int 0 0, Value.int 0 0, Value.int 3 0, Value.ref 50, Value.bool Bool.true, Value.int 181 0, Value.ref 51, Value.none, Value.ref 52, Value.ref 53, Value.ref 54, Value.int 243 0, Value.int 41 0, Value.str (Str.ofString "/claim/cut.py") 244] }) :: (nat_lit 56, { cls := Value.type "function", data := Data.func { name := Str.ofString "allowance", qualname := Str.ofString "Entry.allowance", globals := 3, closure := [], defaults := Value.none, kwdefaults := Value.none, pyModule := Value.str (Str.ofString "cpy313.urllib.robotparser") 194, code := Value.ref 55, params := p56, body := FuncBody.stmts (b56), scope := s56 } }) :: (nat_lit 57, { cls := Value.type "tuple", data := Data.seq #[Value.str (Str.ofString "delay") 246, Value.str (Str.ofString "req_rate") 247, Value.str (Str.ofString "rulelines") 248, Value.str (Str.ofString "useragents") 249] }) :: (nat_lit 58, { cls := Value.type "dict", data := Data.dict #[{ hash := PyData.keyHash P (Str.ofString "__module__"), key := Value.str (Str.ofString "__module__") 203, val := Value.str (Str.ofString "cpy313.urllib.robotparser") 194 }, { hash := PyData.keyHash P (Str.ofString "__firstlineno__"), key := Value.str (Str.ofString "__firstlineno__") 207, val := Value.int 5 206 }, { hash := PyData.keyHash P (Str.ofString "__init__"), key := Value.str (Str.ofString "__init__") 214, val := Value.ref 35 }, { hash := PyData.keyHash P (Str.ofString "__str__"), key := Value.str (Str.ofString "__str__") 224, val := Value.ref 42 }, { hash := PyData.keyHash P (Str.ofString "applies_to"), key := Value.str (Str.ofString "applies_to") 233, val := Value.ref 49 }, { hash := PyData.keyHash P (Str.ofString "allowance"), key := Value.str (Str.ofString "allowance") 245, val := Value.ref 56 }, { hash := PyData.keyHash P (Str.ofString "__static_attributes__"), key := Value.str (Str.ofString "__static_attributes__") 250, val := Value.ref 57 }, { hash := PyData.keyHash P (Str.ofString "__dict__"), key := Value.str (Str.ofString "__dict__") 252, val := Value.ref 60 }, { hash := PyData.keyHash P (Str.ofString "__weakref__"), key := Value.str (Str.ofString "__weakref__") 254, val := Value.ref 61 }, { hash := PyData.keyHash P (Str.ofString "__doc__"), key := Value.str (Str.ofString "__doc__") 255, val := Value.none }] 4 }) :: (nat_lit 59, { cls := Value.type "type", data := Data.cls { name := Str.ofString "Entry", bases := [Value.type "object"], mro := [Value.ref 59, Value.type "object"], ns := 58, qualname := Str.ofString "Entry" }, slots := #[Option.none, Option.none, Option.some (Value.str (Str.ofString "Entry") 196), Option.some (Value.str (Str.ofString "Entry") 204), Option.some (Value.builtin "object.__new__"), Option.some (Value.bool Bool.true)] }) :: (nat_lit 60, { cls := Value.type "getset_descriptor", data := Data.fields #[Value.str (Str.ofString "__dict__") 251, Value.ref 59, Value.builtin "function.__dict__", Value.builtin "function.__dict__#set"] }) :: (nat_lit 61, { cls := Value.type "getset_descriptor", data := Data.fields #[Value.str (Str.ofString "__weakref__") 253, Value.ref 59, Value.builtin "ExceptionGroup.__weakref__", Value.none] }) :: (nat_lit 64, { cls := Value.type "tuple", data := Data.seq #[] }) :: (nat_lit 66, { cls := Value.type "tuple", data := Data.seq #[Value.str (Str.ofString "e1") 261, Value.str (Str.ofString "e2") 262, Value.str (Str.ofString "entry") 263] }) :: (nat_lit 67, { cls := Value.type "tuple", data := Data.seq #[] }) :: (nat_lit 69, { cls := Value.type "code", data := Data.fields #[Value.str (Str.ofString "merge_entries") 258, Value.str (Str.ofString "merge_entries") 259, Value.str (Str.ofString "/claim/cut.py") 260, Value.int 53 0, Value.int 2 0, Value.int 0 0, Value.int 0 0, Value.int 3 0, Value.ref 64, Value.bool Bool.true, Value.int 181 0, Value.ref 65, Value.none, Value.ref 66, Value.ref 67, Value.ref 68, Value.int 264 0, Value.int 53 0, Value.str (Str.ofString "/claim/cut.py") 265] }) :: (nat_lit 70, { cls := Value.type "function", data := Data.func { name := Str.ofString "merge_entries", qualname := Str.ofString "merge_entries", globals := 3, closure := [], defaults := Value.none, kwdefaults := Value.none, pyModule := Value.str (Str.ofString "cpy313.urllib.robotparser") 194, code := Value.ref 69, params := p70, body := FuncBody.stmts (b70), scope := s70 } }) :: (nat_lit 81, { cls := Value.type "tuple", data := Data.seq #[] }) :: (nat_lit 83, { cls := Value.type "tuple", data := Data.seq #[Value.str (Str.ofString "self") 289, Value.str (Str.ofString "ws") 290, Value.str (Str.ofString "S") 291, Value.str (Str.ofString "T") 292, Value.str (Str.ofString "count") 293, Value.str (Str.ofString "b") 294, Value.str (Str.ofString "n") 295, Value.str (Str.ofString "nt") 296, Value.str (Str.ofString "ch") 297] }) :: (nat_lit 84, { cls := Value.type "tuple", data := Data.seq #[] }) :: (nat_lit 86, { cls := Value.type "code", data := Data.fields #[Value.str (Str.ofString "__init__") 286, Value.str (Str.ofString "Whitespace.__init__") 287, Value.str (Str.ofString "/claim/cut.py") 288, Value.int 64 0, Value.int 2 0, Value.int 0 0, Value.int 0 0, Value.int 3 0, Value.ref 81, Value.bool Bool.true, Value.int 181 0, Value.ref 82, Value.none, Value.ref 83, Value.ref 84, Value.ref 85, Value.int 298 0, Value.int 64 0, Value.str (Str.ofString "/claim/cut.py") 299] }) :: (nat_lit 87, { cls := Value.type "function", data := Data.func { name := Str.ofString "__init__", qualname := Str.ofString "Whitespace.__init__", globals := 3, closure := [], defaults := Value.none, kwdefaults := Value.none, pyModule := Value.str (Str.ofString "cpy313.tabnanny") 267, code := Value.ref 86, params := p87, body := FuncBody.stmts (b87), scope := s87 } }) :: (nat_lit 88, { cls := Value.type "tuple", data := Data.seq #[] }) :: (nat_lit 90, { cls := Value.type "tuple", data := Data.seq #[Value.str (Str.ofString "self") 304, Value.str (Str.ofString "count") 305, Value.str (Str.ofString "trailing") 306] }) :: (nat_lit 91, { cls := Value.type "tuple", data := Data.seq #[] }) :: (nat_lit 93, { cls := Value.type "code", data := Data.fields #[Value.str (Str.ofString "longest_run_of_spaces") 301, Value.str (Str.ofString "Whitespace.longest_run_of_spaces") 302, Value.str (Str.ofString "/claim/cut.py") 303, Value.int 87 0, Value.int 1 0, Value.int 0 0, Value.int 0 0, Value.int 3 0, Value.ref 88, Value.bool Bool.true, Value.int 181 0, Value.ref 89, Value.none, Value.ref 90, Value.ref 91, Value.ref 92, Value.int 307 0, Value.int 87 0, Value.str (Str.ofString "/claim/cut.py") 308] }) :: (nat_lit 94, { cls := Value.type "function", data := Data.func { name := Str.ofString "longest_run_of_spaces", qualname := Str.ofString "Whitespace.longest_run_of_spaces", globals := 3, closure := [], defaults := Value.none, kwdefaults := Value.none, pyModule := Value.str (Str.ofString "cpy313.tabnanny") 267, code := Value.ref 93, params := p94, body := FuncBody.stmts (b94), scope := s94 } }) :: (nat_lit 95, { cls := Value.type "tuple", data := Data.seq #[] }) :: (nat_lit 97, { cls := Value.type "tuple", data := Data.seq #[Value.str (Str.ofString "self") 313, Value.str (Str.ofString "tabsize") 314, Value.str (Str.ofString "count") 315, Value.str (Str.ofString "trailing") 316, Value.str (Str.ofString "il") 317, Value.str (Str.ofString "i") 318] }) :: (nat_lit 98, { cls := Value.type "tuple", data := Data.seq #[] }) :: (nat_lit 100, { cls := Value.type "code", data := Data.fields #[Value.str (Str.ofString "indent_level") 310, Value.str (Str.ofString "Whitespace.indent_level") 311, Value.str (Str.ofString "/claim/cut.py") 312, Value.int 91 0, Value.int 2 0, Value.int 0 0, Value.int 0 0, Value.int 3 0, Value.ref 95, Value.bool Bool.true, Value.int 181 0, Value.ref 96, Value.none, Value.ref 97, Value.ref 98, Value.ref 99, Value.int 319 0, Value.int 91 0, Value.str (Str.ofString "/claim/cut.py") 320] }) :: (nat_lit 101, { cls := Value.type "function", data := Data.func { name := Str.ofString "indent_level", qualname := Str.ofString "Whitespace.indent_level", globals := 3, closure := [], defaults := Value.none, kwdefaults := Value.none, pyModule := Value.str (Str.ofString "cpy313.tabnanny") 267, code := Value.ref 100, params := p101, body := FuncBody.stmts (b101), scope := s101 } }) :: (nat_lit 102, { cls := Value.type "tuple", data := Data.seq #[] }) :: (nat_lit 104, { cls := Value.type "tuple", data := Data.seq #[Value.str (Str.ofString "self") 325, Value.str (Str.ofString "other") 326] }) :: (nat_lit 105, { cls := Value.type "tuple", data := Data.seq #[] }) :: (nat_lit 107, { cls := Value.type "code", data := Data.fields #[Value.str (Str.ofString "equal") 322, Value.str (Str.ofString "Whitespace.equal") 323, Value.str (Str.ofString "/claim/cut.py") 324, Value.int 98 0, Value.int 2 0, Value.int 0 0, Value.int 0 0, Value.int 3 0, Value.ref 102, Value.bool Bool.true, Value.int 181 0, Value.ref 103, Value.none, Value.ref 104, Value.ref 105, Value.ref 106, Value.int 327 0, Value.int 98 0, Value.str (Str.ofString "/claim/cut.py") 328] }) :: (nat_lit 108, { cls := Value.type "function", data := Data.func { name := Str.ofString "equal", qualname := Str.ofString "Whitespace.equal", globals := 3, closure := [], defaults := Value.none, kwdefaults := Value.none, pyModule := Value.str (Str.ofString "cpy313.tabnanny") 267, code := Value.ref 107, params := p108, body := FuncBody.stmts (b108), scope := s108 } }) :: (nat_lit 109, { cls := Value.type "tuple", data := Data.seq #[] }) :: (nat_lit 111, { cls := Value.type "tuple", data := Data.seq #[Value.str (Str.ofString "self") 333, Value.str (Str.ofString "other") 334] }) :: (nat_lit 112, { cls := Value.type "tuple", data := Data.seq #[] }) :: (nat_lit 114, { cls := Value.type "code", data := Data.fields #[Value.str (Str.ofString "not_equal_witness") 330, Value.str (Str.ofString "Whitespace.not_equal_witness") 331, Value.str (Str.ofString "/claim/cut.py") 332, Value.int 101 0, Value.int 2 0, Value.int 0 0, Value.int 0 0, Value.int 3 0, Value.ref 109, Value.bool Bool.true, Value.int 181 0, Value.ref 110, Value.none, Value.ref 111, Value.ref 112, Value.ref 113, Value.int 335 0, Value.int 101 0, Value.str (Str.ofString "/claim/cut.py") 336] }) :: (nat_lit 115, { cls := Value.type "function", data := Data.func { name := Str.ofString "not_equal_witness", qualname := Str.ofString "Whitespace.not_equal_witness", globals := 3, closure := [], defaults := Value.none, kwdefaults := Value.none, pyModule := Value.str (Str.ofString "cpy313.tabnanny") 267, code := Value.ref 114, params := p115, body := FuncBody.stmts (b115), scope := s115 } }) :: (nat_lit 116, { cls := Value.type "tuple", data := Data.seq #[] }) :: (nat_lit 118, { cls := Value.type "tuple", data := Data.seq #[Value.str (Str.ofString "self") 341, Value.str (Str.ofString "other") 342, Value.str (Str.ofString "n") 343, Value.str (Str.ofString "ts") 344] }) :: (nat_lit 119, { cls := Value.type "tuple", data := Data.seq #[] }) :: (nat_lit 121, { cls := Value.type "code", data := Data.fields #[Value.str (Str.ofString "less") 338, Value.str (Str.ofString "Whitespace.less") 339, Value.str (Str.ofString "/claim/cut.py") 340, Value.int 104 0, Value.int 2 0, Value.int 0 0, Value.int 0 0, Value.int 3 0, Value.ref 116, Value.bool Bool.true, Value.int 181 0, Value.ref 117, Value.none, Value.ref 118, Value.ref 119, Value.ref 120, Value.int 345 0, Value.int 104 0, Value.str (Str.ofString "/claim/cut.py") 346] }) :: (nat_lit 122, { cls := Value.type "function", data := Data.func { name := Str.ofString "less", qualname := Str.ofString "Whitespace.less", globals := 3, closure := [], defaults := Value.none, kwdefaults := Value.none, pyModule := Value.str (Str.ofString "cpy313.tabnanny") 267, code := Value.ref 121, params := p122, body := FuncBody.stmts (b122), scope := s122 } }) :: (nat_lit 123, { cls := Value.type "tuple", data := Data.seq #[] }) :: (nat_lit 125, { cls := Value.type "tuple", data := Data.seq #[Value.str (Str.ofString "self") 351, Value.str (Str.ofString "other") 352, Value.str (Str.ofString "n") 353, Value.str (Str.ofString "a") 354, Value.str (Str.ofString "ts") 355] }) :: (nat_lit 126, { cls := Value.type "tuple", data := Data.seq #[] }) :: (nat_lit 128, { cls := Value.type "code", data := Data.fields #[Value.str (Str.ofString "not_less_witness") 348, Value.str (Str.ofString "Whitespace.not_less_witness") 349, Value.str (Str.ofString "/claim/cut.py") 350, Value.int 115 0, Value.int 2 0, Value.int 0 0, Value.int 0 0, Value.int 3 0, Value.ref 123, Value.bool Bool.true, Value.int 181 0, Value.ref 124, Value.none, Value.ref 125, Value.ref 126, Value.ref 127, Value.int 356 0, Value.int 115 0, Value.str (Str.ofString "/claim/cut.py") 357] }) :: (nat_lit 129, { cls := Value.type "function", data := Data.func { name := Str.ofString "not_less_witness", qualname := Str.ofString "Whitespace.not_less_witness", globals := 3, closure := [], defaults := Value.none, kwdefaults := Value.none, pyModule := Value.str (Str.ofString "cpy313.tabnanny") 267, code := Value.ref 128, params := p129, body := FuncBody.stmts (b129), scope := s129 } }) :: (nat_lit 130, { cls := Value.type "tuple", data := Data.seq #[Value.str (Str.ofString "is_simple") 359, Value.str (Str.ofString "n") 360, Value.str (Str.ofString "norm") 361, Value.str (Str.ofString "nt") 362, Value.str (Str.ofString "raw") 363] }) :: (nat_lit 131, { cls := Value.type "dict", data := Data.dict #[{ hash := PyData.keyHash P (Str.ofString "__module__"), key := Value.str (Str.ofString "__module__") 276, val := Value.str (Str.ofString "cpy313.tabnanny") 267 }, { hash := PyData.keyHash P (Str.ofString "__firstlineno__"), key := Value.str (Str.ofString "__firstlineno__") 280, val := Value.int 61 279 }, { hash := PyData.keyHash P (Str.ofString "S"), key := Value.str (Str.ofString "S") 284, val := Value.str (Str.ofString " ") 282 }, { hash := PyData.keyHash P (Str.ofString "T"), key := Value.str (Str.ofString "T") 285, val := Value.str (Str.ofString "\t") 283 }, { hash := PyData.keyHash P (Str.ofString "__init__"), key := Value.str (Str.ofString "__init__") 300, val := Value.ref 87 }, { hash := PyData.keyHash P (Str.ofString "longest_run_of_spaces"), key := Value.str (Str.ofString "longest_run_of_spaces") 309, val := Value.ref 94 }, { hash := PyData.keyHash P (Str.ofString "indent_level"), key := Value.str (Str.ofString "indent_level") 321, val := Value.ref 101 }, { hash := PyData.keyHash P (Str.ofString "equal"), key := Value.str (Str.ofString "equal") 329, val := Value.ref 108 }, { hash := PyData.keyHash P (Str.ofString "not_equal_witness"), key := Value.str (Str.ofString "not_equal_witness") 337, val := Value.ref 115 }, { hash := PyData.keyHash P (Str.ofString "less"), key := Value.str (Str.ofString "less") 347, val := Value.ref 122 }, { hash := PyData.keyHash P (Str.ofString "not_less_witness"), key := Value.str (Str.ofString "not_less_witness") 358, val := Value.ref 129 }, { hash := PyData.keyHash P (Str.ofString "__static_attributes__"), key := Value.str (Str.ofString "__static_attributes__") 364, val := Value.ref 130 }, { hash := PyData.keyHash P (Str.ofString "__dict__"), key := Value.str (Str.ofString "__dict__") 366, val := Value.ref 133 }, { hash := PyData.keyHash P (Str.ofString "__weakref__"), key := Value.str (Str.ofString "__weakref__") 368, val := Value.ref 134 }, { hash := PyData.keyHash P (Str.ofString "__doc__"), key := Value.str (Str.ofString "__doc__") 369, val := Value.none }] 4 }) :: (nat_lit 132, { cls := Value.type "type", data := Data.cls { name := Str.ofString "Whitespace", bases := [Value.type "object"], mro := [Value.ref 132, Value.type "object"], ns := 131, qualname := Str.ofString "Whitespace" }, slots := #[Option.none, Option.none, Option.some (Value.str (Str.ofString "Whitespace") 269), Option.some (Value.str (Str.ofString "Whitespace") 277), Option.some (Value.builtin "object.__new__"), Option.some (Value.bool Bool.true)] }) :: (nat_lit 133, { cls := Value.type "getset_descriptor", data := Data.fields #[Value.str (Str.ofString "__dict__") 365, Value.ref 132, Value.builtin "function.__dict__", Value.builtin "function.__dict__#set"] }) :: (nat_lit 134, { cls := Value.type "getset_descriptor", data := Data.fields #[Value.str (Str.ofString "__weakref__") 367, Value.ref 132, Value.builtin "ExceptionGroup.__weakref__", Value.none] }) :: (nat_lit 137, { cls := Value.type "tuple", data := Data.seq #[] }) :: (nat_lit 139, { cls := Value.type "tuple", data := Data.seq #[Value.str (Str.ofString "w") 375, Value.str (Str.ofString "firsts") 376, Value.str (Str.ofString "prefix") 377] }) :: (nat_lit 140, { cls := Value.type "tuple", data := Data.seq #[] }) :: (nat_lit 142, { cls := Value.type "code", data := Data.fields #[Value.str (Str.ofString "format_witnesses") 372, Value.str (Str.ofString "format_witnesses") 373, Value.str (Str.ofString "/claim/cut.py") 374, Value.int 122 0, Value.int 1 0, Value.int 0 0, Value.int 0 0, Value.int 3 0, Value.ref 137, Value.bool Bool.true, Value.int 181 0, Value.ref 138, Value.none, Value.ref 139, Value.ref 140, Value.ref 141, Value.int 378 0, Value.int 122 0, Value.str (Str.ofString "/claim/cut.py") 379] }) :: (nat_lit 143, { cls := Value.type "function", data := Data.func { name := Str.ofString "format_witnesses", qualname := Str.ofString "format_witnesses", globals := 3, closure := [], defaults := Value.none, kwdefaults := Value.none, pyModule := Value.str (Str.ofString "cpy313.tabnanny") 267, code := Value.ref 142, params := p143, body := FuncBody.stmts (b143), scope := s143 } }) :: (nat_lit 144, { cls := Value.type "tuple", data := Data.seq #[] }) :: (nat_lit 147, { cls := Value.type "code", data := Data.fields #[Value.str (Str.ofString "_law_lead") 383, Value.str (Str.ofString "_law_lead") 384, Value.str (Str.ofString "/claim/cut.py") 385, Value.int 129 0, Value.int 2 0, Value.int 0 0, Value.int 0 0, Value.int 3 0, Value.ref 144, Value.bool Bool.true, Value.int 181 0, Value.ref 145, Value.none, Value.none, Value.none, Value.ref 146, Value.int 386 0, Value.int 129 0, Value.str (Str.ofString "/claim/cut.py") 387] }) :: (nat_lit 148, { cls := Value.type "function", data := Data.func { name := Str.ofString "_law_lead", qualname := Str.ofString "_law_lead", globals := 3, closure := [], defaults := Value.none, kwdefaults := Value.none, pyModule := Value.str (Str.ofString "law_rs0140_01") 381, code := Value.ref 147, params := p148, body := FuncBody.stmts (b148), scope := s148 } }) :: (nat_lit 149, { cls := Value.type "tuple", data := Data.seq #[] }) :: (nat_lit 152, { cls := Value.type "code", data := Data.fields #[Value.str (Str.ofString "_law_draw") 389, Value.str (Str.ofString "_law_draw") 390, Value.str (Str.ofString "/claim/cut.py") 391, Value.int 131 0, Value.int 1 0, Value.int 0 0, Value.int 0 0, Value.int 3 0, Value.ref 149, Value.bool Bool.true, Value.int 181 0, Value.ref 150, Value.none, Value.none, Value.none, Value.ref 151, Value.int 392 0, Value.int 131 0, Value.str (Str.ofString "/claim/cut.py") 393] }) :: (nat_lit 153, { cls := Value.type "function", data := Data.func { name := Str.ofString "_law_draw", qualname := Str.ofString "_law_draw", globals := 3, closure := [], defaults := Value.none, kwdefaults := Value.none, pyModule := Value.str (Str.ofString "law_rs0140_01") 381, code := Value.ref 152, params := p153, body := FuncBody.stmts (b153), scope := s153 } }) :: (nat_lit 154, { cls := Value.type "tuple", data := Data.seq #[] }) :: (nat_lit 156, { cls := Value.type "tuple", data := Data.seq #[Value.str (Str.ofString "lead") 398, Value.str (Str.ofString "size") 399, Value.str (Str.ofString "column") 400, Value.str (Str.ofString "sign") 401] }) :: (nat_lit 157, { cls := Value.type "tuple", data := Data.seq #[] }) :: (nat_lit 159, { cls := Value.type "code", data := Data.fields #[Value.str (Str.ofString "_law_column") 395, Value.str (Str.ofString "_law_column") 396, Value.str (Str.ofString "/claim/cut.py") 397, Value.int 141 0, Value.int 2 0, Value.int 0 0, Value.int 0 0, Value.int 3 0, Value.ref 154, Value.bool Bool.true, Value.int 181 0, Value.ref 155, Value.none, Value.ref 156, Value.ref 157, Value.ref 158, Value.int 402 0, Value.int 141 0, Value.str (Str.ofString "/claim/cut.py") 403] }) :: (nat_lit 160, { cls := Value.type "function", data := Data.func { name := Str.ofString "_law_column", qualname := Str.ofString "_law_column", globals := 3, closure := [], defaults := Value.none, kwdefaults := Value.none, pyModule := Value.str (Str.ofString "law_rs0140_01") 381, code := Value.ref 159, params := p160, body := FuncBody.stmts (b160), scope := s160 } }) :: (nat_lit 161, { cls := Value.type "tuple", data := Data.seq #[] }) :: (nat_lit 163, { cls := Value.type "tuple", data := Data.seq #[Value.str (Str.ofString "words") 408, Value.str (Str.ofString "opening") 409] }) :: (nat_lit 164, { cls := Value.type "tuple", data := Data.seq #[] }) :: (nat_lit 166, { cls := Value.type "code", data := Data.fields #[Value.str (Str.ofString "_law_named") 405, Value.str (Str.ofString "_law_named") 406, Value.str (Str.ofString "/claim/cut.py") 407, Value.int 149 0, Value.int 1 0, Value.int 0 0, Value.int 0 0, Value.int 3 0, Value.ref 161, Value.bool Bool.true, Value.int 181 0, Value.ref 162, Value.none, Value.ref 163, Value.ref 164, Value.ref 165, Value.int 410 0, Value.int 149 0, Value.str (Str.ofString "/claim/cut.py") 411] }) :: (nat_lit 167, { cls := Value.type "function", data := Data.func { name := Str.ofString "_law_named", qualname := Str.ofString "_law_named", globals := 3, closure := [], defaults := Value.none, kwdefaults := Value.none, pyModule := Value.str (Str.ofString "law_rs0140_01") 381, code := Value.ref 166, params := p167, body := FuncBody.stmts (b167), scope := s167 } }) :: (nat_lit 168, { cls := Value.type "tuple", data := Data.seq #[] }) :: (nat_lit 171, { cls := Value.type "code", data := Data.fields #[Value.str (Str.ofString "_law_agents") 413, Value.str (Str.ofString "_law_agents") 414, Value.str (Str.ofString "/claim/cut.py") 415, Value.int 154 0, Value.int 3 0, Value.int 0 0, Value.int 0 0, Value.int 3 0, Value.ref 168, Value.bool Bool.true, Value.int 181 0, Value.ref 169, Value.none, Value.none, Value.none, Value.ref 170, Value.int 416 0, Value.int 154 0, Value.str (Str.ofString "/claim/cut.py") 417] }) :: (nat_lit 172, { cls := Value.type "function", data := Data.func { name := Str.ofString "_law_agents", qualname := Str.ofString "_law_agents", globals := 3, closure := [], defaults := Value.none, kwdefaults := Value.none, pyModule := Value.str (Str.ofString "law_rs0140_01") 381, code := Value.ref 171, params := p172, body := FuncBody.stmts (b172), scope := s172 } }) :: (nat_lit 173, { cls := Value.type "tuple", data := Data.seq #[] }) :: (nat_lit 175, { cls := Value.type "tuple", data := Data.seq #[Value.str (Str.ofString "reach") 422, Value.str (Str.ofString "verdict") 423, Value.str (Str.ofString "rule") 424] }) :: (nat_lit 176, { cls := Value.type "tuple", data := Data.seq #[] }) :: (nat_lit 178, { cls := Value.type "code", data := Data.fields #[Value.str (Str.ofString "_law_rule") 419, Value.str (Str.ofString "_law_rule") 420, Value.str (Str.ofString "/claim/cut.py") 421, Value.int 157 0, Value.int 2 0, Value.int 0 0, Value.int 0 0, Value.int 3 0, Value.ref 173, Value.bool Bool.true, Value.int 181 0, Value.ref 174, Value.none, Value.ref 175, Value.ref 176, Value.ref 177, Value.int 425 0, Value.int 157 0, Value.str (Str.ofString "/claim/cut.py") 426] }) :: (nat_lit 179, { cls := Value.type "function", data := Data.func { name := Str.ofString "_law_rule", qualname := Str.ofString "_law_rule", globals := 3, closure := [], defaults := Value.none, kwdefaults := Value.none, pyModule := Value.str (Str.ofString "law_rs0140_01") 381, code := Value.ref 178, params := p179, body := FuncBody.stmts (b179), scope := s179 } }) :: (nat_lit 180, { cls := Value.type "tuple", data := Data.seq #[] }) :: (nat_lit 182, { cls := Value.type "tuple", data := Data.seq #[Value.str (Str.ofString "top") 431, Value.str (Str.ofString "low") 432, Value.str (Str.ofString "walked") 433, Value.str (Str.ofString "letter") 434, Value.str (Str.ofString "starred") 435, Value.str (Str.ofString "record") 436, Value.str (Str.ofString "words") 437] }) :: (nat_lit 183, { cls := Value.type "tuple", data := Data.seq #[Value.str (Str.ofString "low") 438, Value.str (Str.ofString "walked") 439] }) :: (nat_lit 185, { cls := Value.type "code", data := Data.fields #[Value.str (Str.ofString "_law_record") 428, Value.str (Str.ofString "_law_record") 429, Value.str (Str.ofString "/claim/cut.py") 430, Value.int 162 0, Value.int 5 0, Value.int 0 0, Value.int 0 0, Value.int 3 0, Value.ref 180, Value.bool Bool.true, Value.int 181 0, Value.ref 181, Value.none, Value.ref 182, Value.ref 183, Value.ref 184, Value.int 440 0, Value.int 162 0, Value.str (Str.ofString "/claim/cut.py") 441] }) :: (nat_lit 186, { cls := Value.type "function", data := Data.func { name := Str.ofString "_law_record", qualname := Str.ofString "_law_record", globals := 3, closure := [], defaults := Value.none, kwdefaults := Value.none, pyModule := Value.str (Str.ofString "law_rs0140_01") 381, code := Value.ref 185, params := p186, body := FuncBody.stmts (b186), scope := s186 } }) :: (nat_lit 187, { cls := Value.type "tuple", data := Data.seq #[] }) :: (nat_lit 190, { cls := Value.type "code", data := Data.fields #[Value.str (Str.ofString "_law_keeps") 443, Value.str (Str.ofString "_law_keeps") 444, Value.str (Str.ofString "/claim/cut.py") 445, Value.int 169 0, Value.int 4 0, Value.int 0 0, Value.int 0 0, Value.int 3 0, Value.ref 187, Value.bool Bool.true, Value.int 181 0, Value.ref 188, Value.none, Value.none, Value.none, Value.ref 189, Value.int 446 0, Value.int 169 0, Value.str (Str.ofString "/claim/cut.py") 447] }) :: (nat_lit 191, { cls := Value.type "function", data := Data.func { name := Str.ofString "_law_keeps", qualname := Str.ofString "_law_keeps", globals := 3, closure := [], defaults := Value.none, kwdefaults := Value.none, pyModule := Value.str (Str.ofString "law_rs0140_01") 381, code := Value.ref 190, params := p191, body := FuncBody.stmts (b191), scope := s191 } }) :: (nat_lit 192, { cls := Value.type "tuple", data := Data.seq #[] }) :: (nat_lit 195, { cls := Value.type "code", data := Data.fields #[Value.str (Str.ofString "law") 449, Value.str (Str.ofString "law") 450, Value.str (Str.ofString "/claim/cut.py") 451, Value.int 182 0, Value.int 1 0, Value.int 0 0, Value.int 0 0, Value.int 3 0, Value.ref 192, Value.bool Bool.true, Value.int 181 0, Value.ref 193, Value.none, Value.none, Value.none, Value.ref 194, Value.int 452 0, Value.int 182 0, Value.str (Str.ofString "/claim/cut.py") 453] }) :: (nat_lit 196, { cls := Value.type "function", data := Data.func { name := Str.ofString "law", qualname := Str.ofString "law", globals := 3, closure := [], defaults := Value.none, kwdefaults := Value.none, pyModule := Value.str (Str.ofString "law_rs0140_01") 381, code := Value.ref 195, params := p196, body := FuncBody.stmts (b196), scope := s196 } }) :: []
noncomputable def hd.view_39 : Program := { PySem.Challenge.rw_rs0140_01.row.toRowW.prog with main := { (PySem.Challenge.rw_rs0140_01.row.toRowW.prog).main with body := [sT0.1, sT2.1, sT3.1, sT5.1, sT6.1, sT8.1, sT9.1, sT10.1, sT11.1, sT12.1, sT13.1, sT14.1, sT15.1, sT16.1] } }
theorem hd.as (P : Params) : [2, 3, 15, 17, 18, 20, 21, 29, 31, 32, 34, 35, 36, 38, 39, 41, 42, 43, 45, 46, 48, 49, 50, 52, 53, 55, 56, 57, 58, 59, 60, 61, 64, 66, 67, 69, 70, 81, 83, 84, 86, 87, 88, 90, 91, 93, 94, 95, 97, 98, 100, 101, 102, 104, 105, 107, 108, 109, 111, 112, 114, 115, 116, 118, 119, 121, 122, 123, 125, 126, 128, 129, 130, 131, 132, 133, 134, 137, 139, 140, 142, 143, 144, 147, 148, 149, 152, 153, 154, 156, 157, 159, 160, 161, 163, 164, 166, 167, 168, 171, 172, 173, 175, 176, 178, 179, 180, 182, 183, 185, 186, 187, 190, 191, 192, 195, 196] = (hd.heap_39 P).map (·.1) := by kernel_rfl
noncomputable abbrev hd.hook := kmHook hd.heap_39 [2, 3, 15, 17, 18, 20, 21, 29, 31, 32, 34, 35, 36, 38, 39, 41, 42, 43, 45, 46, 48, 49, 50, 52, 53, 55, 56, 57, 58, 59, 60, 61, 64, 66, 67, 69, 70, 81, 83, 84, 86, 87, 88, 90, 91, 93, 94, 95, 97, 98, 100, 101, 102, 104, 105, 107, 108, 109, 111, 112, 114, 115, 116, 118, 119, 121, 122, 123, 125, 126, 128, 129, 130, 131, 132, 133, 134, 137, 139, 140, 142, 143, 144, 147, 148, 149, 152, 153, 154, 156, 157, 159, 160, 161, 163, 164, 166, 167, 168, 171, 172, 173, 175, 176, 178, 179, 180, 182, 183, 185, 186, 187, 190, 191, 192, 195, 196] hd.as [181]
theorem hd.left0 (w : World) : Option.map (fun s => (openSeen hd.view_39 [Str.ofString "Whitespace"] (importedModules PySem.Challenge.rw_rs0140_01.row.prog.main.body) (fun s => xlAt hd.view_39 [] s && recOk (RowW.records PySem.Challenge.rw_rs0140_01.row.toRowW) s) true s, Hook.obs hd.hook s)) (openEnds treeTable PySem.Challenge.rw_rs0140_01.row.prog (w.withFollow "special-get-raises" false) 2526) = some (openGood hd.view_39 [Str.ofString "Whitespace"], Hook.val hd.hook (w.withFollow "special-get-raises" false)) := by
  kernel_rfl
theorem hd.left1 (w : World) : Option.map (fun s => (openSeen hd.view_39 [Str.ofString "Whitespace"] (importedModules PySem.Challenge.rw_rs0140_01.row.prog.main.body) (fun s => xlAt hd.view_39 [] s && recOk (RowW.records PySem.Challenge.rw_rs0140_01.row.toRowW) s) true s, Hook.obs hd.hook s)) (openEnds treeTable PySem.Challenge.rw_rs0140_01.row.prog (w.withFollow "special-get-raises" true) 2526) = some (openGood hd.view_39 [Str.ofString "Whitespace"], Hook.val hd.hook (w.withFollow "special-get-raises" true)) := by
  kernel_rfl
theorem hd.left : LeftO PySem.Challenge.rw_rs0140_01.row.prog hd.view_39 [Str.ofString "Whitespace"] (fun s => xlAt hd.view_39 [] s && recOk (RowW.records PySem.Challenge.rw_rs0140_01.row.toRowW) s) (Hook.obs hd.hook) (Hook.val hd.hook) 2526 := by
  refine byRow2 "special-get-raises" ?_ ?_
  · exact hd.left0
  · exact hd.left1
end Mine
end

section
open PySem PySem.W PyProof.Rows
namespace Mine
theorem sec_QB02 {M : Model} {A : Around} {E : Value → Shared → Prop} {s : Shared} {env : Env} {p : Pos} {Q : Flow → Shared → Prop} (h : Q .next s) : wpAny M A (exec (.Pass p) env) Q E s := by
  w_top off
  k_with_none
  walk1
  exact h
end Mine
end
section
open PySem PySem.W PyProof.Rows
set_option maxRecDepth 100000
namespace Mine
abbrev Led := List (Addr × Obj)
def Same (s s' : Shared) : Prop := s'.os = s.os ∧ s'.drawn = s.drawn ∧ (AllBare s.gens → AllBare s'.gens)
theorem Same.rfl {s : Shared} {h : Heap} {t : Nat} : Same s { s with heap := h, toks := t } := ⟨Eq.refl _, Eq.refl _, id⟩
theorem Same.trans {s s' s'' : Shared} (a : Same s s') (b : Same s' s'') : Same s s'' := ⟨b.1.trans a.1, b.2.1.trans a.2.1, fun x => b.2.2 (a.2.2 x)⟩
/-- the contract of a def of the text; the state changes in heap and tokens alone -/
def Spec (lv : Nat) (w : World) (f : Addr) (vs : List Value) (news : Led) (Post : Value → Led → Prop) : Prop :=
  ∀ (loose : List Str) (mean : ExcName → Option Value) (mg mb : Str → Option Value) (dp un : Nat) (gd : Option (List Code)) (cn : Str) (cs : Scope) (a : Addr) (ccd : Value) (cl : List (Str × Addr)) (outer : List Env) (A₀ : Around) (base h₀ : Heap) (L : Addr) (m : Str → Option Value) (s : Shared) (Q E : Value → Shared → Prop),
    Below A₀ base outer h₀ → Fr h₀ L s.heap m → (hd.heap_39 w.params).In h₀ → News h₀ L s.heap news → Top topProg loose mean mg mb h₀ → cs.kind = .function →
    dp + lv < recursionLimit → un + 20 * lv < cLine →
    (∀ r news' h' tk', Fr h₀ L h' m → News h₀ L h' news' → Post r news' → Q r { s with heap := h', toks := tk' }) →
    wpAny (model PySem.Challenge.rw_rs0140_01.prog w) (ktrTop dp un gd cn cs L a ccd cl outer) (call (.ref f) vs) Q E s
/-- the code tables that the text's calls fill: format_witnesses' (a generator) and the lambda's maker's -/
abbrev tb1 (t : Array Value) : Addr × Obj := (138, tabObj t)
abbrev tb2 (t : Array Value) : Addr × Obj := (181, tabObj t)
/-- a table of made functions' codes: each code lies in the ledger and bears its name -/
def TabC (qual : Str) (t : Array Value) (news : Led) : Prop :=
  TriplesOk t.toList ∧ ∀ pos cv, codeAmong pos t.toList = some cv → ∃ c' oc vs tk, cv = .ref c' ∧ (c', oc) ∈ news ∧ oc.data = .fields vs ∧ vs[1]? = some (.str qual tk)
abbrev lamQ : Str := Str.ofString "_law_record" ++ Str.ofString ".<locals>." ++ Str.ofString "<lambda>"
theorem TabC.mono {q : Str} {t : Array Value} {news news' : Led} (h : TabC q t news) (hs : ∀ p ∈ news, p ∈ news') : TabC q t news' :=
  ⟨h.1, fun pos cv e => let ⟨c', oc, vs, tk, e1, e2, e3⟩ := h.2 pos cv e; ⟨c', oc, vs, tk, e1, hs _ e2, e3⟩⟩
theorem TabC.nil {q : Str} {news : Led} : TabC q #[] news := ⟨trivial, fun _ _ e => by cases e⟩
theorem among_snoc {pos : Pos} {a b : Int} {c cv : Value} : ∀ {l : List Value}, TriplesOk l → codeAmong pos (l ++ [rawInt a, rawInt b, c]) = some cv → codeAmong pos l = some cv ∨ cv = c := by
  intro l h
  fun_induction TriplesOk l with
  | case1 =>
    intro e
    simp only [List.nil_append, codeAmong, rawInt] at e
    split at e
    · exact .inr (Option.some.inj e).symm
    · cases e
  | case2 x t y u z rest ih =>
    intro e
    simp only [List.cons_append, codeAmong] at e ⊢
    split at e
    · rename_i hc; rw [if_pos hc]; exact .inl e
    · rename_i hc; rw [if_neg hc]; exact ih h e
  | case3 l h1 h2 => exact h.elim
theorem TabC.snoc {q : Str} {t : Array Value} {news : Led} {a b : Int} {c' : Addr} {oc : Obj} {vs : Array Value} {tk : Tok} (h : TabC q t news) (hm : (c', oc) ∈ news) (hd : oc.data = .fields vs) (hv : vs[1]? = some (.str q tk)) : TabC q (t ++ #[rawInt a, rawInt b, .ref c']) news := by
  have hl : (t ++ #[rawInt a, rawInt b, Value.ref c']).toList = t.toList ++ [rawInt a, rawInt b, .ref c'] := by simp
  refine ⟨by rw [hl]; exact TriplesOk_snoc _ _ _ _ h.1, fun pos cv e => ?_⟩
  rw [hl] at e
  rcases among_snoc h.1 e with e | rfl
  · exact h.2 pos cv e
  · exact ⟨c', oc, vs, tk, rfl, hm, hd, hv⟩
/-- the same where generators and functions are made: the two tables lie ahead in the ledger, then the codes cd; Post speaks of what is new alone -/
def SpecX (R : Shared → Shared → Prop) (lv : Nat) (w : World) (f : Addr) (vs : List Value) (news : Led) (Post : Value → Led → Led → Prop) : Prop :=
  ∀ (loose : List Str) (mean : ExcName → Option Value) (mg mb : Str → Option Value) (dp un : Nat) (gd : Option (List Code)) (cn : Str) (cs : Scope) (a : Addr) (ccd : Value) (cl : List (Str × Addr)) (outer : List Env) (A₀ : Around) (base h₀ : Heap) (L : Addr) (m : Str → Option Value) (s : Shared) (Q E : Value → Shared → Prop) (t1 t2 : Array Value) (cd : Led),
    Below A₀ base outer h₀ → Fr h₀ L s.heap m → (hd.heap_39 w.params).In h₀ → News h₀ L s.heap (tb1 t1 :: tb2 t2 :: (cd ++ news)) → TriplesOk t1.toList → TabC lamQ t2 cd → (∀ p ∈ cd ++ news, @LT.lt Nat _ 181 p.1) → Top topProg loose mean mg mb h₀ → cs.kind = .function →
    dp + lv < recursionLimit → un + 20 * lv < cLine →
    (∀ r tl t1' t2' cd' s', Fr h₀ L s'.heap m → News h₀ L s'.heap (tb1 t1' :: tb2 t2' :: (cd' ++ (tl ++ news))) → TriplesOk t1'.toList → TabC lamQ t2' cd' → (∀ p ∈ cd' ++ (tl ++ news), @LT.lt Nat _ 181 p.1) →
      (∀ p ∈ cd, p ∈ cd') → (∀ p ∈ cd', p ∈ cd ∨ ∀ q ∈ cd ++ news, q.1 < p.1) → (∀ p ∈ tl, ∀ q ∈ cd ++ news, q.1 < p.1) → Post r tl cd' → R s s' → Q r s') →
    wpAny (model PySem.Challenge.rw_rs0140_01.prog w) (ktrTop dp un gd cn cs L a ccd cl outer) (call (.ref f) vs) Q E s
abbrev SpecG := SpecX Same
/-- the state has changed in heap and tokens alone -/
def HT (s s' : Shared) : Prop := ∃ h tk, s' = { s with heap := h, toks := tk }
theorem HT.rfl {s : Shared} : HT s s := ⟨_, _, Eq.refl _⟩
theorem HT.move {s : Shared} (s' : Shared) (h : Heap) (tk : Nat) (x : HT s s') : HT s { s' with heap := h, toks := tk } := let ⟨_, _, e⟩ := x; ⟨h, tk, by rw [e]⟩
theorem HT.mk {s : Shared} {h : Heap} {tk : Nat} : HT s { s with heap := h, toks := tk } := ⟨h, tk, Eq.refl _⟩
theorem Same.move {s : Shared} (s' : Shared) (h : Heap) (tk : Nat) (x : Same s s') : Same s { s' with heap := h, toks := tk } := ⟨x.1, x.2.1, x.2.2⟩
theorem HT.same {s s' : Shared} (x : HT s s') : Same s s' := by obtain ⟨h, tk, rfl⟩ := x; exact Same.rfl
abbrev SpecR := SpecX HT
/-- what the ledger gained is younger than what it held -/
theorem News.sub {h₀ h : Heap} {L : Addr} {a b : Led} (N : News h₀ L h a) (hs : ∀ p ∈ b, p ∈ a) : News h₀ L h b := fun p hp => N p (hs p hp)
theorem Spec.use {lv : Nat} {w : World} {f : Addr} {vs : List Value} {news : Led} {Post : Value → Led → Prop} (S : Spec lv w f vs news Post)
    {loose : List Str} {mean : ExcName → Option Value} {mg mb : Str → Option Value} {dp un : Nat} {gd : Option (List Code)} {cn : Str} {cs : Scope} {a : Addr} {ccd : Value} {cl : List (Str × Addr)} {outer : List Env} {A₀ : Around} {base h₀ : Heap} {L : Addr} {m : Str → Option Value} {s : Shared} {Q E : Value → Shared → Prop}
    (B : Below A₀ base outer h₀) (F : Fr h₀ L s.heap m) (X : (hd.heap_39 w.params).In h₀) (N : News h₀ L s.heap news) (T : Top topProg loose mean mg mb h₀) (hk : cs.kind = .function)
    (hd : dp + lv < recursionLimit) (hu : un + 20 * lv < cLine)
    (ret : ∀ r news' h' tk', Fr h₀ L h' m → News h₀ L h' news' → Post r news' → Q r { s with heap := h', toks := tk' }) :
    wpAny (model PySem.Challenge.rw_rs0140_01.prog w) (ktrTop dp un gd cn cs L a ccd cl outer) (call (.ref f) vs) Q E s := S _ _ _ _ _ _ _ _ _ _ _ _ _ _ _ _ _ _ _ _ _ B F X N T hk hd hu ret
abbrev tupObj (vs : Array Value) (n : Nat) : Obj := { cls := .type "tuple", data := .seq vs n }
end Mine
end

section
open PySem PySem.W PyProof.Rows
namespace Mine
theorem sec_QMA {M : Model} {A : Around} {E : Value → Shared → Prop} {s : Shared} {env : Env} {p : Pos} {Q : Flow → Shared → Prop} (h : Q .next s) : wpAny M A (exec (.Pass p) env) Q E s := by
  w_top off
  k_with_none
  walk1
  exact h
end Mine
end
section
open PySem PySem.W PyProof.Rows PySem.Calls PySem.Spec
set_option maxRecDepth 100000
namespace Mine
theorem lenT {prog : Program} {w : World} {A : Around} {E : Value → Shared → Prop} {s : Shared} {h₀ : Heap} {L t : Addr} {news : Led} {vs : List Value} {n : Nat} {Q : Value → Shared → Prop}
    (N : News h₀ L s.heap news) (hm : (t, tupObj vs.toArray n) ∈ news) (hfit : vs.length ≤ 1000000) (h : Q (.int vs.length (s.toks + 1)) { s with toks := s.toks + 1 + 1 }) :
    wpAny (model prog w) A (call (.builtin "len") [.ref t]) Q E s := len_tuple (N.isTup hm) (by simp; omega) (by simpa using h)

theorem lenL {prog : Program} {w : World} {A : Around} {E : Value → Shared → Prop} {s : Shared} {h₀ : Heap} {L t : Addr} {news : Led} {vs : List Value} {n : Nat} {Q : Value → Shared → Prop}
    (N : News h₀ L s.heap news) (hm : (t, W.listOf vs.toArray n) ∈ news) (hfit : vs.length ≤ 1000000) (h : Q (.int vs.length (s.toks + 1)) { s with toks := s.toks + 1 + 1 }) :
    wpAny (model prog w) A (call (.builtin "len") [.ref t]) Q E s := len_list (N.isList hm) (by simp; omega) (by simpa using h)
theorem allNe {news : Led} {B a : Nat} (h : ∀ p ∈ news, p.1 < B) (hb : B ≤ a) : ∀ p ∈ news, p.1 ≠ a := fun p hp => Nat.ne_of_lt (Nat.lt_of_lt_of_le (h p hp) hb)
theorem leN {a b : Nat} (h : a ≤ b) : a ≤ b := h
theorem mulOk_fdiv {a b c : Int} (h0 : 0 ≤ a) (h1 : a ≤ 1000000) (hb : 1 ≤ b) : IntMulOk (Int.fdiv a b) c := by
  refine IntMulOk.of_left (intBits_le_64 ?_ ?_)
  · have : 0 ≤ Int.fdiv a b := Int.fdiv_nonneg h0 (by omega)
    omega
  · have : Int.fdiv a b ≤ a := by rw [Int.fdiv_eq_ediv_of_nonneg _ (by omega)]; exact Int.ediv_le_self _ h0
    omega
theorem max2 {prog : Program} {w : World} {A : Around} {E : Value → Shared → Prop} {s : Shared} {h₀ : Heap} {L : Addr} {m : Str → Option Value} {news : Led} {a b : Int} {t u : Tok} {Q : Value → Shared → Prop} (hh : A.handled = none) (F : Fr h₀ L s.heap m) (N : News h₀ L s.heap news)
    (h : ∀ v h' tk, Fr h₀ L h' m → News h₀ L h' news → Q (.int (max a b) v) { s with heap := h', toks := tk }) :
    wpAny (model prog w) A (call (.builtin "max") [.int a t, .int b u]) Q E s :=
  max_two_N hh F N fun h' tk F' N' => by
    have e : (if b > a then b else a) = max a b := by omega
    rw [e]; exact h _ h' tk F' N'
def Hold (P : Prop) : Prop := P
theorem holdIt {P : Prop} (h : Hold P) : P := h
/-- a list's items are refs to tuples of three ints, in the ledger -/
inductive RowsAt (led : Led) : List Value → List (Int × Int × Int) → Prop where
  | nil : RowsAt led [] []
  | cons {a : Addr} {i j k : Int} {t1 t2 t3 : Tok} {n : Nat} {vs : List Value} {rs : List (Int × Int × Int)} : (a, tupObj #[.int i t1, .int j t2, .int k t3] n) ∈ led → RowsAt led vs rs → RowsAt led (.ref a :: vs) ((i, j, k) :: rs)
theorem RowsAt.mono {led led' : Led} {vs : List Value} {rs : List (Int × Int × Int)} (h : RowsAt led vs rs) (hs : ∀ p ∈ led, p ∈ led') : RowsAt led' vs rs := by
  induction h with
  | nil => exact .nil
  | cons hm _ ih => exact .cons (hs _ hm) ih
theorem RowsAt.snoc {led : Led} {vs : List Value} {rs : List (Int × Int × Int)} {a : Addr} {i j k : Int} {t1 t2 t3 : Tok} {n : Nat} (h : RowsAt led vs rs) (hm : (a, tupObj #[.int i t1, .int j t2, .int k t3] n) ∈ led) : RowsAt led (vs ++ [.ref a]) (rs ++ [(i, j, k)]) := by
  induction h with
  | nil => exact .cons hm .nil
  | cons h1 _ ih => exact .cons h1 ih
theorem RowsAt.length {led : Led} {vs : List Value} {rs : List (Int × Int × Int)} (h : RowsAt led vs rs) : vs.length = rs.length := by
  induction h with
  | nil => rfl
  | cons _ _ ih => simp [ih]
theorem intEq {a b : Int} {t : Tok} (h : a = b) : ∃ t', Value.int a t = Value.int b t' := ⟨t, by rw [h]⟩
/-- the ledger has grown by younger objects alone -/
def Ext (news news' : Led) : Prop := ∃ tl, news' = tl ++ news ∧ ∀ p ∈ tl, ∀ q ∈ news, q.1 < p.1
theorem Ext.refl (news : Led) : Ext news news := ⟨[], rfl, fun _ h => nomatch h⟩
theorem Ext.sub {news news' : Led} (h : Ext news news') : ∀ p ∈ news, p ∈ news' := by
  obtain ⟨tl, rfl, _⟩ := h; exact fun p hp => List.mem_append.mpr (.inr hp)
theorem Ext.trans {a b c : Led} (h : Ext a b) (k : Ext b c) : Ext a c := by
  obtain ⟨t1, rfl, h1⟩ := h; obtain ⟨t2, rfl, h2⟩ := k
  refine ⟨t2 ++ t1, (List.append_assoc ..).symm, fun p hp q hq => ?_⟩
  rcases List.mem_append.mp hp with hp | hp
  · exact h2 p hp q (List.mem_append.mpr (.inr hq))
  · exact h1 p hp q hq
theorem Ext.of {news : Led} {B : Nat} (tl : Led) (h : ∀ q ∈ news, q.1 < B) (hb : ∀ p ∈ tl, B ≤ p.1) : Ext news (tl ++ news) :=
  ⟨tl, rfl, fun p hp q hq => Nat.lt_of_lt_of_le (h q hq) (hb p hp)⟩
/-- what is new in the ledger, and what holds of it -/
def ExtT (news news' : Led) (P : Led → Prop) : Prop := ∃ tl, news' = tl ++ news ∧ (∀ p ∈ tl, ∀ q ∈ news, q.1 < p.1) ∧ P tl
theorem ExtT.of {news : Led} {B : Nat} {P : Led → Prop} (tl : Led) (h : ∀ q ∈ news, q.1 < B) (hb : ∀ p ∈ tl, B ≤ p.1) (hp : P tl) : ExtT news (tl ++ news) P :=
  ⟨tl, rfl, fun p hp q hq => Nat.lt_of_lt_of_le (h q hq) (hb p hp), hp⟩
section loops
variable {prog : Program} {w : World} {A : Around} {E : Value → Shared → Prop} {s : Shared} {env : Env} {h₀ : Heap} {x : Str} {body : List Stmt} {Q : Flow → Shared → Prop}
/-- what a turn leaves: the letters' state c, in the frame and in the ledger -/
inductive Left {σ : Type} (h₀ : Heap) (L : Addr) (x : Str) (m₀ : Str → Option Value) (stored : List Str) (Ld : σ → Led) (ps : σ → List (Str × Value)) (I : Addr) (o : Obj) (s₁ : Shared) (P : σ → Prop) (s₂ : Shared) : Prop
  | intro (c : σ) (h' : Heap) (tk : Nat) (m' : Str → Option Value) (nw : Led) (h0 : s₂ = { s₁ with heap := h', toks := tk }) (h1 : Fr h₀ L h' m') (h2 : News h₀ L h' nw) (h3 : (I, o) ∈ nw) (h4 : (∀ p ∈ Ld c, p ∈ nw)) (h5 : (∀ p ∈ Ld c, p.1 ≠ I)) (h6 : (∀ p ∈ ps c, m' p.1 = some p.2)) (h7 : (∀ z, z ≠ x → (∀ p ∈ ps c, z ≠ p.1) → stored.contains z = false → m' z = m₀ z)) (h8 : P c) : Left h₀ L x m₀ stored Ld ps I o s₁ P s₂
def Turn {σ : Type} (h₀ : Heap) (L : Addr) (x : Str) (m₀ : Str → Option Value) (stored : List Str) (Ld : σ → Led) (ps : σ → List (Str × Value)) (I : Addr) (o : Obj) (s₁ : Shared) (P Fin : σ → Prop) (Q : Flow → Shared → Prop) (f : Flow) (s₂ : Shared) : Prop :=
  match f with
  | .ret v => Q (.ret v) s₂
  | .brk => Left h₀ L x m₀ stored Ld ps I o s₁ Fin s₂
  | _ => Left h₀ L x m₀ stored Ld ps I o s₁ P s₂
theorem loop1 {σ : Type} {I : Addr} {n : Nat} {Pit : Nat → Value → Prop} {St : Nat → Heap → Prop} {m₀ : Str → Option Value} (Ld : σ → Led) (ps : σ → List (Str × Value)) (stored : List Str) (P : Nat → σ → Prop) (Fin : σ → Prop) (c₀ : σ)
    (W : Walks prog w A I [I] [I] n Pit St) (hSt : ∀ i h, St i h → ∃ o, h.get? I = some o) (hst : St 0 s.heap) (hI0 : h₀.get? I = none) (hIL : env.locals ≠ I)
    (F : Fr h₀ env.locals s.heap m₀) (N : News h₀ env.locals s.heap (Ld c₀)) (hN : ∀ p ∈ Ld c₀, p.1 ≠ I) (hk : ∀ p ∈ ps c₀, m₀ p.1 = some p.2) (hp : P 0 c₀)
    (turn : ∀ (c : σ) i v (u : Str → Option Value) h tk o, i < n → Pit i v → P i c → (∀ p ∈ Ld c, p.1 ≠ I) →
      Fr h₀ env.locals h (fun y => if y = x then some v else kstB (fun z => if stored.contains z then u z else m₀ z) (ps c) y) → News h₀ env.locals h ((I, o) :: Ld c) →
      wpAny (model prog w) A (execs body env) (Turn h₀ env.locals x m₀ stored Ld ps I o { s with heap := h, toks := tk } (P (i + 1)) Fin Q) E { s with heap := h, toks := tk })
    (done : ∀ c, P n c → Fin c)
    (fin : ∀ (c : σ) (u : Str → Option Value) h tk, Fin c → Fr h₀ env.locals h (fun y => if y = x then u y else kstB (fun z => if stored.contains z then u z else m₀ z) (ps c) y) → News h₀ env.locals h (Ld c) → Q .next { s with heap := h, toks := tk }) :
    LoopAtV prog w A h₀ env x body Q E (.ref I) s := by
  let J : Nat → (Str → Option Value) → Led → Prop := fun i m nx => ∃ c : σ, nx = Ld c ∧ (∀ p ∈ ps c, m p.1 = some p.2) ∧ (∀ z, z ≠ x → (∀ p ∈ ps c, z ≠ p.1) → stored.contains z = false → m z = m₀ z) ∧ P i c
  refine ⟨I, [I], [I], n, Pit, St, m₀, Ld c₀, J, rfl, W, ?_, ?_, ?_, hst, F, N, ⟨c₀, rfl, hk, fun _ _ _ _ => rfl, hp⟩, ?_, ?_⟩
  · intro hm; exact hIL (List.mem_singleton.mp hm)
  · intro b hb; rw [List.mem_singleton.mp hb]; exact hI0
  · intro p hp hI; exact hN p hp (List.mem_singleton.mp hI)
  · rintro i v m₁ news₁ s₁ own ⟨hh, tk, rfl⟩ hi hP ⟨c, rfl, h1, h2, hPc⟩ hoff hown hget hall hst' F₁ N₁
    have hne : ∀ p ∈ Ld c, p.1 ≠ I := fun p hp e => hoff p hp (by rw [e]; exact .head _)
    obtain ⟨o, ho⟩ := hSt _ _ hst'
    have hmem : (I, o) ∈ own := hall I (.head _) hI0 o ho
    have hown' : ∀ p ∈ own, p = (I, o) := fun p hp => by
      have e1 : p.1 = I := List.mem_singleton.mp (hown p hp)
      have e2 := hget p hp
      rw [e1] at e2
      have e3 : some o = some p.2 := ho.symm.trans e2
      exact Prod.ext e1 (Option.some.inj e3).symm
    have N₂ : News h₀ env.locals hh ((I, o) :: Ld c) := fun p hp => by
      rcases List.mem_cons.mp hp with rfl | hp
      · exact N₁ _ (List.mem_append.mpr (.inl hmem))
      · exact N₁ _ (List.mem_append.mpr (.inr hp))
    refine wpAny_mono (turn c i v m₁ hh tk o hi hP hPc hne (kst_fr h1 h2 F₁) N₂) (fun f s₂ p => ?_) fun _ _ e => e
    have go : Left h₀ env.locals x m₀ stored Ld ps I o { s with heap := hh, toks := tk } (P (i + 1)) s₂ → LoopStepU h₀ env.locals [I] own (J (i + 1)) { s with heap := hh, toks := tk } .next s₂ := by
      rintro ⟨c', h', tk', m', nw, rfl, F', N', hmI, hsub, hne', hps, hrest, hP'⟩
      refine ⟨rfl, h', tk', m', Ld c', rfl, F', fun p hp => ?_, fun p hp hI => hne' p hp (List.mem_singleton.mp hI), ⟨c', rfl, hps, hrest, hP'⟩⟩
      rcases List.mem_append.mp hp with hp | hp
      · rw [hown' p hp]; exact N' _ hmI
      · exact N' _ (hsub p hp)
    cases f with
    | ret v => exact .ret p
    | brk =>
      obtain ⟨c', h', tk', m', nw, rfl, F', N', hmI, hsub, hne', hps, hrest, hP'⟩ := p
      exact .brk (fin c' m' h' tk' hP' (kst_frOut hps hrest F') (fun p hp => N' _ (hsub p hp)))
    | next => exact .next (go p)
    | cont => exact .cont (go p)
  · rintro h' tk m' news' F' N' _ ⟨c, rfl, hps, hrest, hP'⟩
    exact fin c m' h' tk (done c hP') (kst_frOut hps hrest F') N'

theorem loopText {σ : Type} {xt : Str} {tx : Tok} {m₀ : Str → Option Value} (Ld : σ → Led) (ps : σ → List (Str × Value)) (stored : List Str) (P : Addr → Nat → σ → Prop) (Fin : σ → Prop) (c₀ : σ)
    (hh : A.handled = none) (F : Fr h₀ env.locals s.heap m₀) (N : News h₀ env.locals s.heap (Ld c₀)) (hk : ∀ p ∈ ps c₀, m₀ p.1 = some p.2)
    (hp : ∀ I, (∀ p ∈ Ld c₀, p.1 < I) → P I 0 c₀)
    (turn : ∀ I, (∀ p ∈ Ld c₀, p.1 < I) → ∀ (c : σ) i n t (u : Str → Option Value) h tk o, xt.cps[i]? = some n → P I i c → (∀ p ∈ Ld c, p.1 ≠ I) →
      Fr h₀ env.locals h (fun y => if y = x then some (.str ⟨#[n]⟩ t) else kstB (fun z => if stored.contains z then u z else m₀ z) (ps c) y) → News h₀ env.locals h ((I, o) :: Ld c) →
      ∀ s₁ : Shared, s₁ = { s with heap := h, toks := tk } → wpAny (model prog w) A (execs body env) (Turn h₀ env.locals x m₀ stored Ld ps I o s₁ (P I (i + 1)) Fin Q) E s₁)
    (done : ∀ I c, P I xt.cps.size c → Fin c)
    (fin : ∀ (c : σ) (u : Str → Option Value) h tk, Fin c → Fr h₀ env.locals h (fun y => if y = x then u y else kstB (fun z => if stored.contains z then u z else m₀ z) (ps c) y) → News h₀ env.locals h (Ld c) → Q .next { s with heap := h, toks := tk }) :
    wpAny (model prog w) A (pyIter (.str xt tx)) (fun it s₂ => LoopAtV prog w A h₀ env x body Q E it s₂) E s := by
  have hlt : ∀ p ∈ Ld c₀, p.1 < s.heap.objs.size := fun p hp => Heap.lt_size (N p hp).1
  have key : ∀ (o : Obj) (St : Nat → Heap → Prop), (Walks prog w A s.heap.objs.size [s.heap.objs.size] [s.heap.objs.size] xt.cps.size (SignAt xt) St) → (∀ i h, St i h → ∃ o, h.get? s.heap.objs.size = some o) → St 0 (s.heap.push o) →
      LoopAtV prog w A h₀ env x body Q E (.ref s.heap.objs.size) { s with heap := s.heap.push o } := by
    intro o St W hSt hst
    refine loop1 Ld ps stored (P s.heap.objs.size) Fin c₀ W hSt hst (next_is_new F) (fun e => absurd F.ns.lt (e ▸ Nat.lt_irrefl _)) (F.push _) (fun p hp => ⟨Heap.get?_push_of_some _ (N p hp).1, (N p hp).2⟩) (fun p hp => Nat.ne_of_lt (hlt p hp)) hk (hp _ hlt) ?_ (done _) (fun c u h tk a b d => fin c u h tk a b d)
    rintro c i v u h tk o' hi ⟨n, t, hn, rfl⟩ hP hne F₁ N₁
    exact turn _ hlt c i n t u h tk o' hn hP hne F₁ N₁ _ rfl
  cases ha : xt.cps.all (· < 128)
  · exact wpAny_pyIter_wide ha (key _ _ (Walks.strWide hh _ xt tx) (fun _ _ st => let ⟨o, ho, _⟩ := st; ⟨o, ho⟩) ⟨_, Heap.get?_push_size _ rfl, rfl, rfl⟩)
  · exact wpAny_pyIter_ascii ha (key _ _ (Walks.strAscii hh _ xt tx) (fun _ _ st => let ⟨o, ho, _⟩ := st; ⟨o, ho⟩) ⟨_, Heap.get?_push_size _ rfl, rfl, rfl⟩)

theorem loopRange {σ : Type} {r : Addr} {a₀ b₀ : Int} {t₀ u₀ v₀ : Tok} {n : Nat} {m₀ : Str → Option Value} (Ld : σ → Led) (ps : σ → List (Str × Value)) (stored : List Str) (P : Addr → Nat → σ → Prop) (Fin : σ → Prop) (c₀ : σ)
    (hh : A.handled = none) (hr : IsRange s.heap r a₀ b₀ 1 t₀ u₀ v₀) (hsmall : Builtin.Range.small a₀ b₀ 1 = true) (hn : Builtin.Range.rangeSize a₀ b₀ 1 = (n : Int)) (F : Fr h₀ env.locals s.heap m₀) (N : News h₀ env.locals s.heap (Ld c₀)) (hk : ∀ p ∈ ps c₀, m₀ p.1 = some p.2)
    (hp : ∀ I, (∀ p ∈ Ld c₀, p.1 < I) → P I 0 c₀)
    (turn : ∀ I, (∀ p ∈ Ld c₀, p.1 < I) → ∀ (c : σ) i t (u : Str → Option Value) h tk o, i < n → P I i c → (∀ p ∈ Ld c, p.1 ≠ I) →
      Fr h₀ env.locals h (fun y => if y = x then some (.int (a₀ + (i : Int)) t) else kstB (fun z => if stored.contains z then u z else m₀ z) (ps c) y) → News h₀ env.locals h ((I, o) :: Ld c) →
      ∀ s₁ : Shared, s₁ = { s with heap := h, toks := tk } → wpAny (model prog w) A (execs body env) (Turn h₀ env.locals x m₀ stored Ld ps I o s₁ (P I (i + 1)) Fin Q) E s₁)
    (done : ∀ I c, P I n c → Fin c)
    (fin : ∀ (c : σ) (u : Str → Option Value) h tk, Fin c → Fr h₀ env.locals h (fun y => if y = x then u y else kstB (fun z => if stored.contains z then u z else m₀ z) (ps c) y) → News h₀ env.locals h (Ld c) → Q .next { s with heap := h, toks := tk }) :
    wpAny (model prog w) A (pyIter (.ref r)) (fun it s₂ => LoopAtV prog w A h₀ env x body Q E it s₂) E s := by
  have hlt : ∀ p ∈ Ld c₀, p.1 < s.heap.objs.size := fun p hp => Heap.lt_size (N p hp).1
  refine wpAny_pyIter_range hr hsmall ?_
  have W := (Walks.range (prog := prog) (w := w) hh s.heap.objs.size a₀ 1 n)
  refine loop1 Ld ps stored (P s.heap.objs.size) Fin c₀ W (fun _ _ st => ⟨_, st⟩) (by show IsRangeIter _ _ _ _ _; rw [hn]; simpa using Heap.get?_push_size _ rfl) (next_is_new F) (fun e => absurd F.ns.lt (e ▸ Nat.lt_irrefl _)) (F.push _) (fun p hp => ⟨Heap.get?_push_of_some _ (N p hp).1, (N p hp).2⟩) (fun p hp => Nat.ne_of_lt (hlt p hp)) hk (hp _ hlt) ?_ (done _) (fun c u h tk a b d => fin c u h tk a b d)
  rintro c i v u h tk o' hi ⟨t, rfl⟩ hP hne F₁ N₁
  have e1 : a₀ + (i : Int) * 1 = a₀ + (i : Int) := by omega
  rw [e1] at F₁
  exact turn _ hlt c i t u h tk o' hi hP hne F₁ N₁ _ rfl

theorem loopTextH {σ : Type} {xt : Str} {tx : Tok} {m₀ : Str → Option Value} {rest : Led} (hdl : σ → Addr × Obj) (ps : σ → List (Str × Value)) (stored : List Str) (P : Addr → Nat → σ → Prop) (Fin : σ → Prop) (c₀ : σ)
    (hh : A.handled = none) (F : Fr h₀ env.locals s.heap m₀) (N : News h₀ env.locals s.heap (hdl c₀ :: rest)) (hk : ∀ p ∈ ps c₀, m₀ p.1 = some p.2)
    (hp : ∀ I, (∀ p ∈ hdl c₀ :: rest, p.1 < I) → P I 0 c₀)
    (turn : ∀ I, (∀ p ∈ hdl c₀ :: rest, p.1 < I) → ∀ (c : σ) i n t (u : Str → Option Value) h tk o, xt.cps[i]? = some n → P I i c → (∀ p ∈ hdl c :: rest, p.1 ≠ I) →
      Fr h₀ env.locals h (fun y => if y = x then some (.str ⟨#[n]⟩ t) else kstB (fun z => if stored.contains z then u z else m₀ z) (ps c) y) → News h₀ env.locals h ((I, o) :: hdl c :: rest) →
      ∀ s₁ : Shared, s₁ = { s with heap := h, toks := tk } → wpAny (model prog w) A (execs body env) (Turn h₀ env.locals x m₀ stored (fun c => hdl c :: rest) ps I o s₁ (P I (i + 1)) Fin Q) E s₁)
    (done : ∀ I c, P I xt.cps.size c → Fin c)
    (fin : ∀ (c : σ) (u : Str → Option Value) h tk, Fin c → Fr h₀ env.locals h (fun y => if y = x then u y else kstB (fun z => if stored.contains z then u z else m₀ z) (ps c) y) → News h₀ env.locals h (hdl c :: rest) → Q .next { s with heap := h, toks := tk }) :
    wpAny (model prog w) A (pyIter (.str xt tx)) (fun it s₂ => LoopAtV prog w A h₀ env x body Q E it s₂) E s :=
  loopText (fun c => hdl c :: rest) ps stored P Fin c₀ hh F N hk hp turn done fin
end loops
theorem cons_cut {M : Model} {A : Around} {E : Value → Shared → Prop} {s0 : Shared} {H : Heap} {T : Nat} {env : Env} {st : Stmt} {rest : List Stmt} {Q : Flow → Shared → Prop} {h₀ : Heap} {L : Addr} {H' : Heap} {m : Str → Option Value} (F : Fr h₀ L H' m)
    (h : let Q' : Flow → Shared → Prop := (fun f s' => match f with | .next => wpAny M A (execs rest env) Q E s' | f => Q f s'); ∀ tk, let m' := m; Fr h₀ L H' m' → wpAny M A (exec st env) Q' E { s0 with heap := H, toks := tk }) : wpAny M A (execs (st :: rest) env) Q E { s0 with heap := H, toks := T } := wpAny_execs_cons (h T F)
theorem fin_mem {l : List Int} {m : Nat} (hl : ∀ k : Nat, k < m + 1 → 1 ≤ k → (k : Int) ∈ l) {z : Int} (h : 1 ≤ z ∧ z ≤ (m : Int)) : z ∈ l := by
  have e : ((z.toNat : Nat) : Int) = z := Int.toNat_of_nonneg (Int.le_trans (by decide) h.1)
  rw [← e] at h ⊢
  exact hl _ (Nat.lt_succ_of_le (Int.ofNat_le.mp h.2)) (Int.ofNat_le.mp h.1)
theorem fin_mem0 {l : List Int} {m : Nat} (hl : ∀ k : Nat, k < m + 1 → (k : Int) ∈ l) {z : Int} (h : 0 ≤ z ∧ z ≤ (m : Int)) : z ∈ l := by
  have e : ((z.toNat : Nat) : Int) = z := Int.toNat_of_nonneg h.1
  rw [← e] at h ⊢
  exact hl _ (Nat.lt_succ_of_le (Int.ofNat_le.mp h.2))
end Mine
end

section
open PySem PySem.W PyProof.Rows
open Mine
local macro_rules | `(tactic| omega) => `(tactic| first
  | (refine Nat.ne_of_lt ?_; (simp (maxSteps := 300) only [*]); done)
  | (refine Nat.ne_of_gt ?_; (simp (maxSteps := 300) only [*]); done)
  | (refine Nat.le_of_lt ?_; (simp (maxSteps := 300) only [*]); done)
  | (refine Nat.lt_of_lt_of_le ?_ (Nat.le_refl _); (simp (maxSteps := 300) only [*]); done)
  | lia)
section
local macro_rules | `(tactic| k_all) => `(tactic| first | assumption | (refine' allNe ?hA9 ?hB9; (case hA9 => assumption); (case hB9 => (refine leN ?_; (try dsimp only); omega))))
section
local macro_rules | `(tactic| walk_at "mine enter") => `(tactic| first
  | (refine' code_def ?k1 ?k2 ?k3 ?k4 ?k5 ?kA ?kF ?kK ?k6 ?k7 ?k8 ?k9 ?kB ?_ ?c2 ?c3 ?c4 ?c5; (case kA => exact rfl); (case kF => exact rfl); (case kK => first | exact rfl | assumption); (case k1 => k_asm); (case k2 => k_asm); (case k3 => k_asm); (case k4 => k_asm); (case k5 => k_asm); (case k6 => k_is); (case k7 => k_is); (case k8 => ktr_room); (case k9 => first | exact BindsTo.of_eq rfl | exact binds_K (by k_in) rfl (by k_is) rfl rfl rfl); (case c5 => decide); (case kB => exact locs rfl); (case c2 => exact rfl); (case c3 => exact rfl); (case c4 => exact rfl); k_whole; intro g' L' h' FG' F' N' B' X' T'; (try dsimp only); (try k_lift B'); (try k_fold))
  | (refine' code_defC ?k1 ?k2 ?k3 ?k4 ?k5 ?kA ?kF ?kK ?k6 ?k7 ?k8 ?k9 ?kB ?kD ?_ ?c2 ?c3 ?c4; (case kA => exact rfl); (case kF => exact rfl); (case kK => first | exact rfl | assumption); (case k1 => k_asm); (case k2 => k_asm); (case k3 => k_asm); (case k4 => k_asm); (case k5 => k_asm); (case k6 => k_is); (case k7 => k_is); (case k8 => ktr_room); (case k9 => first | exact BindsTo.of_eq rfl | exact binds_K (by k_in) rfl (by k_is) rfl rfl rfl); (case kB => exact rfl); (case kD => decide +kernel); (case c2 => exact rfl); (case c3 => exact rfl); (case c4 => exact rfl); k_whole; intro g' L' h' tk' cells' FG' F' N' Y' B' X' T' l1; (try k_lt l1); k_cells Y'; (try simp only [List.cons_append, List.nil_append] at N'); (try dsimp only); (try k_lift B'); (try k_fold)))
section
local macro_rules | `(tactic| walk_at "call builtin:len") => `(tactic| (k_here; (with_reducible show wpAny _ _ (call (Value.builtin "len") [Value.ref _]) _ _ _); k_dflt (refine' lenT ?k1 ?k2 ?k3 ?_; (case k1 => k_asm); (case k2 => first | assumption | k_mem); (case k3 => omega); k_whole)))
section
local macro_rules | `(tactic| walk_at "mine left") => `(tactic| ((case a1 => k_asm); (case a2 => k_asm); (case a3 => k_mem); (case a6 => kst_all); (case a4 => kst_in); (case a7 => kst_same)))
section
local macro_rules | `(tactic| walk_at "call type:tuple") => `(tactic| (k_here; (with_reducible show wpAny _ _ (call (Value.type _) [Value.ref _]) _ _ _); k_dflt (refine' kde_tupleOf ?k1 ?k2 ?k3 ?k4 ?k5 ?_; (case k1 => k_asm); (case k2 => k_asm); (case k3 => exact News.isList (by k_asm) (by k_mem)); (case k4 => (simp only [List.size_toArray]; omega)); (case k5 => exact rfl); k_whole); intro D' h' F' N' l1; (try k_lt l1)))
section
local macro_rules | `(tactic| walk_at "binaryOp Mult int int") => `(tactic| ((with_reducible show wpAny _ _ (binaryOp Operator.Mult (Value.int (Int.fdiv _ _) _) (Value.int _ _)) _ _ _); refine mul_int ?_ (mulOk_fdiv (by omega) (by omega) (by omega))))
section
local macro_rules | `(tactic| walk_at "call builtin:max") => `(tactic| (k_here; (with_reducible show wpAny _ _ (call (Value.builtin _) [Value.int _ _, Value.int _ _]) _ _ _); k_dflt (refine' max2 ?k1 ?k2 ?k3 ?_; (case k1 => with_unfolding_all rfl); (case k2 => k_asm); (case k3 => k_asm); k_whole); intro v' h' tk' F' N'))
section
local macro_rules | `(tactic| walk_at "mine leftb") => `(tactic| ((case b1 => k_asm); (case b2 => k_asm); (case b3 => k_mem); (case b6 => kst_all); (case b4 => kst_in); (case b7 => kst_same)))
section
local macro_rules | `(tactic| kst_same) => `(tactic| ((dsimp +zetaDelta only); kst_same))
section
local macro_rules | `(tactic| walk_at "execs cons") => `(tactic| ((rename Shared => s9); (rename Fr _ _ _ _ => F9); (with_reducible refine cons_cut (s0 := s9) F9 ?_); (try clear F9); intro qx tk9 m9 F9))
section
open PySem PySem.W PyProof.Rows
namespace Mine
theorem sec_QW1 {M : Model} {A : Around} {E : Value → Shared → Prop} {s : Shared} {env : Env} {p : Pos} {Q : Flow → Shared → Prop} (h : Q .next s) : wpAny M A (exec (.Pass p) env) Q E s := by
  w_top off
  k_with_none
  walk1
  exact h
end Mine
end
section

open PySem PySem.W PyProof.Rows
set_option maxRecDepth 100000
set_option maxHeartbeats 2000000
namespace Mine
structure Ws where
  cs : List Int
  b : Int
  n : Int
  nt : Int
def grown (cs : List Int) (b : Int) : List Int := if (cs.length : Int) ≤ b then cs ++ (List.replicate (b - cs.length + 1).toNat [0]).flatten else cs
def bump (cs : List Int) (b : Int) : List Int := (grown cs b).set b.toNat ((grown cs b).getD b.toNat 0 + 1)
def wsRun : List Nat → Ws → Ws
  | [], st => st
  | c :: r, st => if c = 32 then wsRun r ⟨st.cs, st.b + 1, st.n + 1, st.nt⟩ else if c = 9 then wsRun r ⟨bump st.cs st.b, 0, st.n + 1, st.nt + 1⟩ else st
structure WsC where
  ca : Addr
  k : Nat
  vs : List Value
  st : Ws
  tb : Tok
  tn : Tok
  tt : Tok
theorem one_eq {n : Nat} {c : Nat} {x : Str} (hx : x = ⟨#[c]⟩) {b : Bool} (h : (Str.mk #[n] == x) = b) : b = decide (n = c) := by
  subst hx
  rw [← h]
  by_cases e : n = c
  · subst e; simp
  · have : ¬ (Str.mk #[n] = Str.mk #[c]) := fun q => e (by injection q with q; injection q with q; injection q)
    rw [decide_eq_false e, beq_eq_false_iff_ne]; exact this
theorem drop_at {l : Array Nat} {i n : Nat} (h : l[i]? = some n) : l.toList.drop i = n :: l.toList.drop (i + 1) := by
  obtain ⟨hi, e⟩ := Array.getElem?_eq_some_iff.mp h
  have : i < l.toList.length := by simpa using hi
  rw [List.drop_eq_getElem_cons this]
  simp [← e]
theorem lt_of_at {l : Array Nat} {i n : Nat} (h : l[i]? = some n) : i < l.size := (Array.getElem?_eq_some_iff.mp h).1
theorem ws1 {l : Array Nat} {i n : Nat} {st R : Ws} (hn : l[i]? = some n) (a : (Str.mk #[n] == Str.ofString " ") = true) (h : wsRun (l.toList.drop i) st = R) : wsRun (l.toList.drop (i + 1)) ⟨st.cs, st.b + 1, st.n + 1, st.nt⟩ = R := by
  have e := one_eq (c := 32) (by decide +kernel) a
  rw [drop_at hn, wsRun, if_pos (of_decide_eq_true e.symm)] at h; exact h
theorem ws2 {l : Array Nat} {i n : Nat} {st R : Ws} (hn : l[i]? = some n) (a : (Str.mk #[n] == Str.ofString " ") = false) (b : (Str.mk #[n] == Str.ofString "\t") = true) (h : wsRun (l.toList.drop i) st = R) : wsRun (l.toList.drop (i + 1)) ⟨bump st.cs st.b, 0, st.n + 1, st.nt + 1⟩ = R := by
  have e := one_eq (c := 32) (by decide +kernel) a
  have e' := one_eq (c := 9) (by decide +kernel) b
  rw [drop_at hn, wsRun, if_neg (of_decide_eq_false e.symm), if_pos (of_decide_eq_true e'.symm)] at h; exact h
theorem ws3 {l : Array Nat} {i n : Nat} {st R : Ws} (hn : l[i]? = some n) (a : (Str.mk #[n] == Str.ofString " ") = false) (b : (Str.mk #[n] == Str.ofString "\t") = false) (h : wsRun (l.toList.drop i) st = R) : st = R := by
  have e := one_eq (c := 32) (by decide +kernel) a
  have e' := one_eq (c := 9) (by decide +kernel) b
  rw [drop_at hn, wsRun, if_neg (of_decide_eq_false e.symm), if_neg (of_decide_eq_false e'.symm)] at h; exact h
theorem bump_len {cs : List Int} {b : Int} (h0 : 0 ≤ b) : ((bump cs b).length : Int) ≤ max (cs.length : Int) (b + 1) := by
  unfold bump grown; rw [List.length_set]; split
  · simp; omega
  · omega
theorem bump_pos {cs : List Int} {b : Int} (h : (cs.length : Int) ≤ b) : bump cs b = (cs ++ (List.replicate (b - cs.length + 1).toNat [0]).flatten).set b.toNat ((cs ++ (List.replicate (b - cs.length + 1).toNat [0]).flatten).getD b.toNat 0 + 1) := by
  unfold bump grown; rw [if_pos h]
theorem bump_neg {cs : List Int} {b : Int} (h : ¬ (cs.length : Int) ≤ b) : bump cs b = cs.set b.toNat (cs.getD b.toNat 0 + 1) := by
  unfold bump grown; rw [if_neg h]
inductive WhiteAt (news : Led) (x : Addr) (st : Ws) : Prop
  | intro {d nr ct : Addr} {vs : List Value} {raw : Str} {a1 a2 a3 a4 a5 : Int} {b1 b2 b3 b4 b5 c1 c2 c3 c6 : Tok} {k1 k2 k3 : Nat} (h1 : (x, instObj 132 d) ∈ news) (h2 : (d, dictOf [⟨a1, .str (Str.ofString "raw") b1, .str raw c1⟩, ⟨a2, .str (Str.ofString "n") b2, .int st.n c2⟩, ⟨a3, .str (Str.ofString "nt") b3, .int st.nt c3⟩, ⟨a4, .str (Str.ofString "norm") b4, .ref nr⟩, ⟨a5, .str (Str.ofString "is_simple") b5, .bool (decide ((st.cs.length : Int) ≤ 1))⟩] k1) ∈ news) (h3 : (nr, tupObj #[.ref ct, .int st.b c6] k2) ∈ news) (h4 : (ct, tupObj vs.toArray k3) ∈ news) (h5 : IntsAre vs st.cs) (h6 : st.cs.length ≤ 1001) (h7 : 0 ≤ st.b) (h8 : st.b ≤ 1000) : WhiteAt news x st
theorem WhiteAt.el {news : Led} {x : Addr} {st : Ws} {C : Prop} (h : WhiteAt news x st) (k : ∀ (d nr ct : Addr) (vs : List Value) (raw : Str) (a1 a2 a3 a4 a5 : Int) (b1 b2 b3 b4 b5 c1 c2 c3 c6 : Tok) (k1 k2 k3 : Nat), ((x, instObj 132 d) ∈ news) → ((d, dictOf [⟨a1, .str (Str.ofString "raw") b1, .str raw c1⟩, ⟨a2, .str (Str.ofString "n") b2, .int st.n c2⟩, ⟨a3, .str (Str.ofString "nt") b3, .int st.nt c3⟩, ⟨a4, .str (Str.ofString "norm") b4, .ref nr⟩, ⟨a5, .str (Str.ofString "is_simple") b5, .bool (decide ((st.cs.length : Int) ≤ 1))⟩] k1) ∈ news) → ((nr, tupObj #[.ref ct, .int st.b c6] k2) ∈ news) → ((ct, tupObj vs.toArray k3) ∈ news) → (IntsAre vs st.cs) → (st.cs.length ≤ 1001) → (0 ≤ st.b) → (st.b ≤ 1000) → C) : C := by
  cases h with
  | intro h0 h1 h2 h3 h4 h5 h6 h7 => exact k _ _ _ _ _ _ _ _ _ _ _ _ _ _ _ _ _ _ _ _ _ _ h0 h1 h2 h3 h4 h5 h6 h7
theorem WhiteAt.mono {news news' : Led} {x : Addr} {st : Ws} (h : WhiteAt news x st) (hs : ∀ p ∈ news, p ∈ news') : WhiteAt news' x st :=
  h.el fun _ _ _ _ _ _ _ _ _ _ _ _ _ _ _ _ _ _ _ _ _ _ h1 h2 h3 h4 h5 h6 h7 h8 => .intro (hs _ h1) (hs _ h2) (hs _ h3) (hs _ h4) h5 h6 h7 h8
theorem mk (w : World) (ws : Str) (t1 : Tok) (news : Led) (hl : ws.cps.size ≤ 1000) :
   Spec 3 w 132 [.str ws t1] news (fun r news' => ExtT news news' fun tl => ∃ x, r = .ref x ∧ WhiteAt tl x (wsRun ws.cps.toList ⟨[], 0, 0, 0⟩)) := by
  unfold Spec
  k_fill
  intros; rename_i hret
  (repeat' (first | (k_unfold; (try dsimp only)) | (k_end; wrow_close) | (first | ((with_reducible show wpAny _ _ (call (Value.ref _) _) _ _ _); (k_here; k_dflt (first | (refine' call_cls0 ?k1 ?k2 ?k3 ?k4 ?k5 ?_; (case k1 => k_asm); (case k2 => k_asm); (case k3 => k_asm); (case k4 => k_is); (case k5 => k_is); k_whole; intro x' d' h' F' N' l1 l2; (try k_lt l1); (try k_lt2 l2); (try k_sweep)) | (refine' call_cls ?k1 ?k2 ?k3 ?k4 ?k5 ?k6 ?_; (case k1 => k_asm); (case k2 => k_asm); (case k3 => k_asm); (case k4 => k_is); (case k5 => k_is); (case k6 => k_is); k_whole; intro x' d' h' F' N' l1 l2; (try k_lt l1); (try k_lt2 l2); (try k_sweep); walk_at "mine enter") | (refine' call_meth ?k1 ?k2 ?_; (case k1 => k_asm); (case k2 => k_mem); k_whole; walk_at "mine enter") | (refine wpAny_call ?_; walk_at "mine enter")))) | walk1) | (dsimp only; (first | ((with_reducible show wpAny _ _ (call (Value.ref _) _) _ _ _); (k_here; k_dflt (first | (refine' call_cls0 ?k1 ?k2 ?k3 ?k4 ?k5 ?_; (case k1 => k_asm); (case k2 => k_asm); (case k3 => k_asm); (case k4 => k_is); (case k5 => k_is); k_whole; intro x' d' h' F' N' l1 l2; (try k_lt l1); (try k_lt2 l2); (try k_sweep)) | (refine' call_cls ?k1 ?k2 ?k3 ?k4 ?k5 ?k6 ?_; (case k1 => k_asm); (case k2 => k_asm); (case k3 => k_asm); (case k4 => k_is); (case k5 => k_is); (case k6 => k_is); k_whole; intro x' d' h' F' N' l1 l2; (try k_lt l1); (try k_lt2 l2); (try k_sweep); walk_at "mine enter") | (refine' call_meth ?k1 ?k2 ?_; (case k1 => k_asm); (case k2 => k_mem); k_whole; walk_at "mine enter") | (refine wpAny_call ?_; walk_at "mine enter")))) | walk1)) | (leave1; walk_say "STEP leave1"; try dsimp only) | fail "no step"))
  rename Fr _ _ _ _ => lF
  rename News _ _ _ _ => NN
  rename_i l' _ l1 _ _ _ _ _ _ _ _ _ _
  refine' loopTextH (σ := WsC) (fun c => (c.ca, W.listOf c.vs.toArray c.k)) (fun c => [(Str.ofString "count", .ref c.ca), (Str.ofString "b", .int c.st.b c.tb), (Str.ofString "n", .int c.st.n c.tn), (Str.ofString "nt", .int c.st.nt c.tt)]) []
    (fun I i c => @LE.le Nat _ l' c.ca ∧ wsRun (ws.cps.toList.drop i) c.st = wsRun ws.cps.toList ⟨[], 0, 0, 0⟩ ∧ IntsAre c.vs c.st.cs ∧ c.st.cs.length ≤ i + 1 ∧ 0 ≤ c.st.b ∧ c.st.b ≤ i ∧ i ≤ ws.cps.size)
    (fun c => @LE.le Nat _ l' c.ca ∧ c.st = wsRun ws.cps.toList ⟨[], 0, 0, 0⟩ ∧ IntsAre c.vs c.st.cs ∧ c.st.cs.length ≤ 1001 ∧ 0 ≤ c.st.b ∧ c.st.b ≤ 1000) ⟨_, 0, [], ⟨[], 0, 0, 0⟩, _, _, _⟩ rfl (by k_asm) (by k_asm) ?hk ?hp ?turn ?done ?fin
  case hk => kst_all
  case hp => intro I hI; exact ⟨Nat.le_refl _, rfl, .nil, by simp, by simp, by simp, by simp⟩
  case done => rintro I c ⟨h0, h1, h2, h3, h4, h5, h6⟩; exact ⟨h0, by have e : ws.cps.toList.drop ws.cps.size = [] := (by simp); rw [e] at h1; exact h1, h2, by omega, h4, by omega⟩
  case turn =>
    rintro I hI c i n t u h tk o hn ⟨h0, h1, h2, h3, h4, h5, h6⟩ hne F N s₁ rfl
    dsimp only [kstB] at F
    have hcI : @Ne Nat c.ca I := hne _ (.head _)
    have hIr := fun p hp => Nat.ne_of_lt (hI p (.tail _ hp))
    have hi := lt_of_at hn
    (repeat' (first | (k_unfold; (try dsimp only)) | (k_end; wrow_close) | walk1 | (dsimp only; walk1) | (leave1; walk_say "STEP leave1"; try dsimp only) | fail "no step"))
    · refine' ⟨⟨c.ca, c.k, c.vs, ⟨c.st.cs, c.st.b + 1, c.st.n + 1, c.st.nt⟩, _, _, _⟩, _, _, _, _, rfl, ?a1, ?a2, ?a3, ?a4, ?a5, ?a6, ?a7, ?a8⟩
      walk_at "mine left"
      case a5 => exact List.forall_mem_cons.mpr ⟨hcI, hIr⟩
      case a8 => dsimp only; exact ⟨h0, ws1 hn (by assumption) h1, h2, by omega, by omega, by omega, by omega⟩
    · have hb := bump_len (cs := c.st.cs) h4
      refine' ⟨⟨_, _, _, ⟨bump c.st.cs c.st.b, 0, c.st.n + 1, c.st.nt + 1⟩, _, _, _⟩, _, _, _, _, rfl, ?a1, ?a2, ?a3, ?a4, ?a5, ?a6, ?a7, ?a8⟩
      walk_at "mine left"
      case a5 => refine List.forall_mem_cons.mpr ⟨by k_ne, hIr⟩
      case a8 => dsimp only; exact ⟨by omega, ws2 hn (by assumption) (by assumption) h1, by rw [bump_pos (by assumption)]; assumption, by omega, by omega, by omega, by omega⟩
    · have hb := bump_len (cs := c.st.cs) h4
      refine' ⟨⟨_, _, _, ⟨bump c.st.cs c.st.b, 0, c.st.n + 1, c.st.nt + 1⟩, _, _, _⟩, _, _, _, _, rfl, ?a1, ?a2, ?a3, ?a4, ?a5, ?a6, ?a7, ?a8⟩
      walk_at "mine left"
      case a5 => refine List.forall_mem_cons.mpr ⟨by k_ne, hIr⟩
      case a8 => dsimp only; exact ⟨by omega, ws2 hn (by assumption) (by assumption) h1, by rw [bump_neg (by assumption)]; assumption, by omega, by omega, by omega, by omega⟩
    · try dsimp only
      refine' ⟨⟨c.ca, c.k, c.vs, c.st, _, _, _⟩, _, _, _, _, rfl, ?a1, ?a2, ?a3, ?a4, ?a5, ?a6, ?a7, ?a8⟩
      walk_at "mine left"
      case a5 => exact List.forall_mem_cons.mpr ⟨hcI, hIr⟩
      case a8 => dsimp only; exact ⟨h0, ws3 hn (by assumption) (by assumption) h1, h2, by omega, by omega, by omega⟩
  case fin =>
    rintro c u h tk ⟨h0, h1, h2, h3, h4, h5⟩ F N
    dsimp only [kstB] at F
    have hv := h2.length
    clear lF NN
    dsimp only
    (repeat' (first | (k_unfold; (try dsimp only)) | (k_end; wrow_close) | walk1 | (dsimp only; walk1) | (leave1; walk_say "STEP leave1"; try dsimp only) | fail "no step"))
    refine hret _ _ _ _ (by k_asm) (by k_asm) (ExtT.of [_, _, _, _, _, _] (by assumption) ?_ ⟨_, rfl, ?_⟩)
    · simp only [List.forall_mem_cons, List.not_mem_nil, false_implies, implies_true, and_true]
      refine ⟨?_, ?_, ?_, ?_, ?_, ?_⟩ <;> (refine leN ?_; omega)
    · rw [← h1]
      exact WhiteAt.intro (by k_mem) (by k_mem) (by k_mem) (by k_mem) (by simpa using h2) h3 h4 h5
end Mine
end

section
open PySem PySem.W PyProof.Rows
namespace Mine
theorem sec_QW2 {M : Model} {A : Around} {E : Value → Shared → Prop} {s : Shared} {env : Env} {p : Pos} {Q : Flow → Shared → Prop} (h : Q .next s) : wpAny M A (exec (.Pass p) env) Q E s := by
  w_top off
  k_with_none
  walk1
  exact h
end Mine
end
section
open PySem PySem.W PyProof.Rows
set_option maxRecDepth 100000
set_option maxHeartbeats 2000000
namespace Mine
theorem lrs_ok (w : World) (x : Addr) (st : Ws) (news : Led) (hW : WhiteAt news x st) :
   Spec 3 w 94 [.ref x] news (fun r news' => news' = news ∧ ∃ t, r = .int (max ((st.cs.length : Int) - 1) st.b) t) := by
  refine hW.el fun d nr ct vs raw a1 a2 a3 a4 a5 b1 b2 b3 b4 b5 c1 c2 c3 c6 k1 k2 k3 h1 h2 h3 h4 h5 h6 h7 h8 => ?_
  have hl := h5.length
  unfold Spec
  k_fill
  intros; rename_i hret
  refine wpAny_call ?_
  k_dflt (walk_at "mine enter")
  k_steps
  refine hret _ _ _ _ (by k_asm) (by k_asm) ⟨rfl, intEq (by omega)⟩
def ilSum (cs : List Int) (ts : Int) : Int := ((rangeKs ts (cs.length - ts).toNat).map (fun i => Int.fdiv i ts * cs.getD i.toNat 0)).sum
def indentOf (st : Ws) (ts : Int) : Int := st.b + ts * (ilSum st.cs ts + st.nt)
theorem ind_ok (w : World) (x : Addr) (st : Ws) (news : Led) (ts : Int) (t5 : Tok) (hW : WhiteAt news x st) (hts : 1 ≤ ts) (hts2 : ts ≤ 2000) :
   Spec 3 w 101 [.ref x, .int ts t5] news (fun r news' => news' = news ∧ ∃ t, r = .int (indentOf st ts) t) := by
  refine hW.el fun d nr ct vs raw a1 a2 a3 a4 a5 b1 b2 b3 b4 b5 c1 c2 c3 c6 k1 k2 k3 h1 h2 h3 h4 h5 h6 h7 h8 => ?_
  have hl := h5.length
  unfold Spec
  k_fill
  intros; rename_i hret
  refine wpAny_call ?_
  k_dflt (walk_at "mine enter")
  (k_with "pyIter ref" => k_state (fun pre il => il = (pre.map (fun i => Int.fdiv i ts * st.cs.getD i.toNat 0)).sum) "il")
  k_steps
  k_with_none
  · refine hret _ _ _ _ (by k_asm) (by k_asm) ⟨rfl, intEq ?_⟩
    subst kInv
    rfl
end Mine
end

section
open PySem PySem.W PyProof.Rows
namespace Mine
theorem sec_QGA {M : Model} {A : Around} {E : Value → Shared → Prop} {s : Shared} {env : Env} {p : Pos} {Q : Flow → Shared → Prop} (h : Q .next s) : wpAny M A (exec (.Pass p) env) Q E s := by
  w_top off
  k_with_none
  walk1
  exact h
end Mine
end
section
open PySem PySem.W PyProof.Rows PySem.Calls PySem.Spec
set_option maxRecDepth 100000
namespace Mine
section
variable {M : Model} {A : Around} {E : Value → Shared → Prop} {s : Shared}
theorem size_of_keep {h h' : Heap} {n : Nat} (hn : n < h.objs.size → ∃ o, h.get? n = some o) (hk : ∀ b o, h.get? b = some o → h'.get? b = some o) (hl : n < h.objs.size) : n < h'.objs.size := by
  obtain ⟨o, ho⟩ := hn hl; exact Heap.lt_size (hk _ _ ho)
/-- a generator's code, its maker's table at hand -/
theorem genCodeT {env : Env} {c P : Addr} {ps : Array Value} {pos : Pos} {qualname : Str} {scope : Scope} {Q : Value → Shared → Prop} (hc : env.code = .ref c) (C : CodeHd s.heap c P) (hP : s.heap.get? P = some (tabObj ps)) (ht : TriplesOk ps.toList)
    (hQ : ∀ code h' tk ps', Heap.ExtBut P s.heap h' → h'.get? P = some (tabObj ps') → TriplesOk ps'.toList → Q code { s with heap := h', toks := tk }) :
    wpAny M A (genexprCode env pos qualname scope) Q E s := by
  obtain ⟨o, vs, file, tf, flags, tg, inF, text, tt, ho, _, hd, _, h11, h2, h7, h9, h10, hne⟩ := C
  unfold genexprCode codeAt
  rw [hc, if_neg (show ¬ ((Value.ref c == Value.none) = true) from Bool.false_ne_true)]
  refine wpAny_bind (wpAny_fieldsOf ho hd ?_)
  rw [h11]
  refine wpAny_bind (wpAny_fieldsOf hP rfl ?_)
  cases hnf : codeAmong pos ps.toList with
  | some cv => exact wpAny_pure (hQ cv s.heap s.toks ps (Heap.ExtBut.refl _ _) hP ht)
  | none =>
    rw [h2, h7, h9, h10]
    refine wpAny_bind (wpAny_newCode fun c' P' h' tk hk hc' hP' hcode' hrec' => ?_)
    have hop' := hk _ _ hP
    refine wpAny_bind (wpAny_updateFieldsOfTheText hop' rfl ?_)
    have hnew : Obj.mapFields (fun vs => if (codeAmong pos vs.toList).isSome = true then vs else vs ++ #[rawInt pos.line, rawInt pos.col, .ref c']) (tabObj ps) = tabObj (ps ++ #[rawInt pos.line, rawInt pos.col, .ref c']) := by
      show tabObj (if (codeAmong pos ps.toList).isSome = true then ps else ps ++ #[rawInt pos.line, rawInt pos.col, .ref c']) = _
      rw [hnf]; rfl
    have hget : (h'.update P (Obj.mapFields fun vs => if (codeAmong pos vs.toList).isSome = true then vs else vs ++ #[rawInt pos.line, rawInt pos.col, .ref c'])).get? P = some (tabObj (ps ++ #[rawInt pos.line, rawInt pos.col, .ref c'])) := by
      have := Heap.get?_update_self (h := h') (Obj.mapFields fun vs => if (codeAmong pos vs.toList).isSome = true then vs else vs ++ #[rawInt pos.line, rawInt pos.col, .ref c']) hop' (by rw [hnew]; rfl)
      rw [hnew] at this; exact this
    refine wpAny_bind (wpAny_fieldsOf hget rfl ?_)
    have hl : (ps ++ #[rawInt pos.line, rawInt pos.col, Value.ref c']).toList = ps.toList ++ [rawInt pos.line, rawInt pos.col, .ref c'] := by simp
    rw [hl, codeAmong_snoc _ ht hnf]
    refine wpAny_pure (hQ _ _ _ (ps ++ #[rawInt pos.line, rawInt pos.col, .ref c']) (fun b o' hb e => ((Heap.SameBut.update ..).extBut b o' hb (hk b o' e))) hget ?_)
    rw [hl]; exact TriplesOk_snoc _ _ _ _ ht
end
theorem frExt {g h h' : Heap} {L P : Addr} {m : Str → Option Value} (F : Fr g L h m) (hx : Heap.ExtBut P h h') (hg : g.get? P = none) (hL : L ≠ P) : Fr g L h' m :=
  ⟨F.ns.extBut hx hL, fun b o e => hx b o (fun q => by rw [q, hg] at e; cases e) (F.keep b o e), F.above⟩
theorem newsExt {g h h' : Heap} {L P : Addr} {news : Led} (N : News g L h news) (hx : Heap.ExtBut P h h') (hn : ∀ p ∈ news, p.1 ≠ P) : News g L h' news :=
  fun p hp => ⟨hx _ _ (hn p hp) (N p hp).1, (N p hp).2⟩
theorem newsKeep {g h h' : Heap} {L : Addr} {news : Led} (N : News g L h news) (hk : ∀ b o, h.get? b = some o → h'.get? b = some o) : News g L h' news :=
  fun p hp => ⟨hk _ _ (N p hp).1, (N p hp).2⟩
theorem newsCons {g h : Heap} {L a : Addr} {o : Obj} {m : Str → Option Value} {news : Led} (F : Fr g L h m) (N : News g L h news) (ho : h.get? a = some o) (hl : @LT.lt Nat _ L a) : News g L h ((a, o) :: news) :=
  List.forall_mem_cons.mpr ⟨⟨ho, Nat.ne_of_gt hl, by
    cases q : g.get? a with
    | none => rfl
    | some o' => exact absurd (Nat.lt_of_lt_of_le (Heap.lt_size q) F.above) (Nat.not_lt.mpr (Nat.le_of_lt hl))⟩, N⟩
theorem ns_some {h : Heap} {L : Addr} {m : Str → Option Value} (x : h.Ns L m) : ∃ o, h.get? L = some o := let ⟨o, _, _, ho, _⟩ := x; ⟨o, ho⟩
theorem RowsAt.at {led : Led} {vs : List Value} {rs : List (Int × Int × Int)} (h : RowsAt led vs rs) : ∀ {i : Nat} {v : Value}, vs[i]? = some v → ∃ a t1 t2 t3 n r, v = .ref a ∧ rs[i]? = some r ∧ (a, tupObj #[.int r.1 t1, .int r.2.1 t2, .int r.2.2 t3] n) ∈ led := by
  induction h with
  | nil => intro i v e; simp at e
  | cons hm _ ih =>
    intro i v e
    cases i with
    | zero => simp at e; exact ⟨_, _, _, _, _, _, e.symm, rfl, hm⟩
    | succ i => exact ih (by simpa using e)
section
variable {prog : Program} {w : World} {A : Around} {E : Value → Shared → Prop} {s : Shared}
/-- a generator expression over a walk; the objects that it leans on are fpx -/
theorem genWalks {env : Env} {elt iter : Expr} {x : Str} {px : Pos} {ifs : List Expr} {scope : Scope} {cl : List (Str × Addr)} {pos : Pos} {Q : Value → Shared → Prop}
    (hh : A.handled = none) (hco : scope.isCoroutine = false) (hclos : closureFor scope env = pure cl) (hcell : ∀ y ∈ scope.names, y.2 ≠ .cell) (h0 : scope.names.lookup (".0" : Str) = some NameKind.local)
    (hx : scope.names.lookup x = some .local) (hkind : scope.kind = .function) (hroom : A.depth < recursionLimit)
    (h : wpAny (model prog w) A (eval iter env) (fun xv s₁ => wpAny (model prog w) A (pyIter xv) (fun it s₂ => s₂.heap.NoLimit ∧
      wpAny (model prog w) A (genexprCode env pos (env.qual ++ "<genexpr>") scope) (fun code s₃ => wpAny (model prog w) A (builtinsFor env.globals env.builtins) (fun bi s₄ =>
        ∃ I fp wr n₀ P St₀ pz F fpx, it = .ref I ∧ (∀ A' : Around, A'.handled = none → Walks prog w A' I fp wr n₀ P St₀) ∧ St₀ 0 s₄.heap ∧ (∀ b ∈ fp, b ∈ fpx) ∧ (∀ b ∈ fpx, b < s₄.heap.objs.size) ∧ s₄.heap.NoLimit ∧ cStatics ∉ wr ∧ cStatics ∈ fpx ∧
          (∀ href : Heap, (∀ b o, s₄.heap.get? b = some o → href.get? b = some o) →
            QuietGenD prog w (genEnv scope cl s₄.heap.objs.size code bi env) x ifs elt fpx wr P pz F href (A.depth + 1) (A.units + 8)) ∧
          (∀ a h₅ tk gs oC, gs.bare = true → s₄.heap.objs.size < a → h₅.objs.size = a + 1 → (∀ b o, s₄.heap.get? b = some o → h₅.get? b = some o) → (∃ oa, h₅.get? a = some oa) → h₅.get? s₄.heap.objs.size = some oC →
            WalksS prog w A.in4 a (a :: s₄.heap.objs.size :: fpx) (s₄.heap.objs.size :: wr) (GenOnlyQ s₄.gens.size) (passing pz n₀ 0).length
              (fun j y => ∃ i, (passing pz n₀ 0)[j]? = some i ∧ F i y) (GenAt prog w A.in4 a s₄.gens.size s₄.heap.objs.size fpx wr pz n₀ F) →
            GenAt prog w A.in4 a s₄.gens.size s₄.heap.objs.size fpx wr pz n₀ F 0 { s₄ with gens := s₄.gens.push gs, toks := tk, heap := h₅ } →
            Q (.ref a) { s₄ with gens := s₄.gens.push gs, toks := tk, heap := h₅ })) E s₃) E s₂) E s₁) E s)
    (hs : ∀ x, genFold iter env x = pure x) :
    wpAny (model prog w) A (eval (.GeneratorExp elt [⟨.Name x px, iter, ifs, 0⟩] scope pos) env) Q E s := by
  refine wpAny_GeneratorExp_make hco hclos hcell h0 hkind hroom (wpAny_mono h (fun xv s₁ h₁ => wpAny_mono h₁ (fun it s₂ h₂ => ⟨h₂.1, wpAny_mono h₂.2 (fun code s₃ h₃ => wpAny_mono h₃ (fun bi s₄ h₄ => ?_)
    fun _ _ e => e) fun _ _ e => e⟩) fun _ _ e => e) fun _ _ e => e) hs
  obtain ⟨I, fp, wr, n₀, P, St₀, pz, F, fpx, rfl, W₀, hst, hfp, hfx, hl₄, hcw, hcf, hq, hQ⟩ := h₄
  have hclt : cStatics < s₄.heap.objs.size := let ⟨_, hn, _⟩ := hl₄; hn.lt
  intro h' hn' hs'
  have hsz : h'.objs.size = s₄.heap.objs.size + 1 := by rw [hs'.1, Heap.size_push]
  have keep' : ∀ b o, s₄.heap.get? b = some o → h'.get? b = some o := fun b o e => hs'.extBut b o (Nat.ne_of_lt (Heap.lt_size e)) (Heap.get?_push_of_some _ e)
  have hsub : ∀ b ∈ wr, b ∈ fpx := fun b hb => hfp b ((W₀ A hh).sub b hb)
  have haC : h'.objs.size ≠ s₄.heap.objs.size := by rw [hsz]; exact Nat.succ_ne_self _
  have haf : h'.objs.size ∉ fpx := fun hm => by have := hfx _ hm; omega
  have keep₅ : ∀ b o, s₄.heap.get? b = some o → (h'.push { cls := .type "generator", data := .fields #[.int s₄.gens.size 0, .str "<genexpr>" (s₄.toks + 1), .str (env.qual ++ "<genexpr>") (s₄.toks + 1 + 1)] }).get? b = some o :=
    fun b o e => Heap.get?_push_of_some _ (keep' b o e)
  obtain ⟨oC, _, _, hoC, _⟩ := id hn'
  refine hQ _ _ _ _ oC rfl (by omega) (by rw [Heap.size_push]) keep₅ ⟨_, Heap.get?_push_size _ rfl⟩ (Heap.get?_push_of_some _ hoC) (WalksS.genexpQ (A := A.in4) hh _ _ _ _ wr pz n₀ F haC haf hsub hroom hcf (Nat.ne_of_lt hclt) hcw) ?_
  refine GenAt.freshD (A := A.in4) (cenv := genEnv scope cl s₄.heap.objs.size code bi env) (m := fun y => if y = ".0" then some (.ref I) else none) hh
    (fun A' hA => (W₀ A' hA).mono_fp hfp) pz F hx (by simp [genEnv, hkind]) hco
    (fun hm => Nat.lt_irrefl _ (hfx _ hm)) (hq _ keep₅) ⟨_, _, _, Heap.get?_push_size _ rfl, rfl, rfl, rfl⟩ (Array.getElem?_push_size ..) ((W₀ A hh).frame _ _ _ hst fun b _ o e => keep₅ b o e) (hn'.push _) (hl₄.keeps keep₅)
end

theorem genAt_move {prog : Program} {w : World} {A : Around} {a : Addr} {g : Nat} {C : Addr} {fp wr : List Addr} {pz : Nat → Bool} {n₀ : Nat} {F : Nat → Value → Prop} {j : Nat} {s s' : Shared} (x : GenAt prog w A a g C fp wr pz n₀ F j s)
    (hg : s'.gens = s.gens) (hk : ∀ b ∈ a :: C :: fp, ∀ o, s.heap.get? b = some o → s'.heap.get? b = some o) (hc : cStatics ∈ fp) : GenAt prog w A a g C fp wr pz n₀ F j s' := by
  obtain ⟨⟨o, p, q, ho, r⟩, ⟨mc, hn, hz⟩, gs, hgs, h⟩ := x
  exact ⟨⟨o, p, q, hk _ (.head _) _ ho, r⟩, ⟨mc, hn.at' (hk _ (.tail _ (.tail _ hc))), hz⟩, gs, by rw [hg]; exact hgs, fun s'' hal => h s'' fun b hb o e => hal b hb o (hk b (.tail _ hb) o e)⟩
theorem passing_all (n : Nat) : passing (fun _ => true) n 0 = List.range n := by
  unfold passing; simp
theorem ext_at {α : Type} {l l' : List α} (h : l.length = l'.length) (e : ∀ (j : Nat) a b, l[j]? = some a → l'[j]? = some b → a = b) : l = l' := by
  apply List.ext_getElem h
  intro n h1 h2
  exact e n _ _ (List.getElem?_eq_getElem h1) (List.getElem?_eq_getElem h2)
/-- the texts that the generator gives -/
def firstsOf (rows : List (Int × Int × Int)) : List Str := rows.map fun r => Str.ofString (toString r.1)
theorem items_eq {rows : List (Int × Int × Int)} {l : List (Str × Tok)} {n : Nat} (hn : n = rows.length)
    (h : ItemsOf (fun j y => ∃ i, (passing (fun _ => true) n 0)[j]? = some i ∧ (fun i y => ∃ r t, rows[i]? = some r ∧ y = Value.str (Str.ofString (toString r.1)) t) i y) (strValues l).toArray (passing (fun _ => true) n 0).length) : l.map (·.1) = firstsOf rows := by
  obtain ⟨h1, h2⟩ := h
  rw [passing_all] at h1
  have hl : l.length = rows.length := by simpa [strValues, hn] using h1
  refine ext_at (by simp [firstsOf, hl]) fun j x y hx hy => ?_
  obtain ⟨p, hp, rfl⟩ : ∃ p, l[j]? = some p ∧ p.1 = x := by simpa using hx
  obtain ⟨r, hr, rfl⟩ : ∃ r, rows[j]? = some r ∧ Str.ofString (toString r.1) = y := by simpa [firstsOf] using hy
  obtain ⟨i, hi, r', t, hr', e⟩ := h2 j (.str p.1 p.2) (by simp [strValues, hp])
  rw [passing_all] at hi
  obtain ⟨hj, hi⟩ := List.getElem?_eq_some_iff.mp hi
  simp at hi
  subst hi
  rw [hr] at hr'; cases hr'
  injection e
theorem text_short {n : Int} (h0 : 0 ≤ n) (h1 : n ≤ 100000) : (Str.ofString (toString n)).length ≤ 7 := by
  rw [PySem.ofString_length]
  have e : (10 : Nat) ^ 6 = 1000000 := by decide
  exact int_text_length_le10 (k := 6) (by decide) (by omega)
theorem firsts_sum {rows : List (Int × Int × Int)} (hb : ∀ r ∈ rows, 0 ≤ r.1 ∧ r.1 ≤ 100000) : ((firstsOf rows).map (·.length)).sum ≤ 7 * rows.length := by
  induction rows with
  | nil => simp [firstsOf]
  | cons r rs ih =>
    have h1 := text_short (hb r (.head _)).1 (hb r (.head _)).2
    have h2 := ih fun q hq => hb q (.tail _ hq)
    simp only [firstsOf, List.map_cons, List.sum_cons, List.length_cons] at h2 ⊢
    omega
theorem firsts_ok {rows : List (Int × Int × Int)} (hb : ∀ r ∈ rows, 0 ≤ r.1 ∧ r.1 ≤ 100000) (hn : rows.length ≤ 1000) : JoinOk (Str.ofString ", ") (firstsOf rows) = true := by
  have h := firsts_sum hb
  have h2 : (firstsOf rows).length = rows.length := by simp [firstsOf]
  exact joinOk_of_weight (by omega) (by decide +kernel)
theorem firsts_len {rows : List (Int × Int × Int)} (hb : ∀ r ∈ rows, 0 ≤ r.1 ∧ r.1 ≤ 100000) (hn : rows.length ≤ 1000) : (Txt.join (Str.ofString ", ") (firstsOf rows)).length ≤ 9000 := by
  have h := firsts_sum hb
  have h2 : (firstsOf rows).length = rows.length := by simp [firstsOf]
  show (Builtin.Str.glued (Str.ofString ", ") (firstsOf rows)).length ≤ 9000
  rw [StrLaws.glued_eq_join]
  refine Nat.le_trans (StrLaws.join_length_le _ _) ?_
  have h3 : (Str.ofString ", ").length = 2 := by decide +kernel
  rw [h3]; omega
end Mine
end

section
open PySem PySem.W PyProof.Rows
namespace Mine
theorem sec_QG1 {M : Model} {A : Around} {E : Value → Shared → Prop} {s : Shared} {env : Env} {p : Pos} {Q : Flow → Shared → Prop} (h : Q .next s) : wpAny M A (exec (.Pass p) env) Q E s := by
  w_top off
  k_with_none
  walk1
  exact h
end Mine
end
section
open PySem PySem.W PyProof.Rows PySem.Calls
set_option maxRecDepth 100000
set_option maxHeartbeats 400000
namespace Mine
theorem eltStr (w : World) {A : Around} {E : Value → Shared → Prop} {s : Shared} {cenv : Env} {m mg mb : Str → Option Value} {ta : Addr} {i j k : Int} {t1 t2 t3 : Tok} {p1 p2 p3 p4 p5 : Pos}
    (hk : cenv.scope.kind = .function) (hl : cenv.kindOf (Str.ofString "tup") = some .local) (hs : cenv.kindOf (Str.ofString "str") = some .globalImplicit)
    (ns : s.heap.Ns cenv.locals m) (hv : m (Str.ofString "tup") = some (.ref ta)) (ht : IsTup s.heap ta #[.int i t1, .int j t2, .int k t3]) (hi : 0 ≤ i ∧ i ≤ 100000)
    (gl : s.heap.Ns cenv.globals mg) (hm : mg (Str.ofString "str") = none) (bl : s.heap.Ns cenv.builtins mb) (hb : mb (Str.ofString "str") = some (.type "str")) :
    wpAny (model PySem.Challenge.rw_rs0140_01.prog w) A (eval (.Call (.Name (Str.ofString "str") p1) [.Subscript (.Name (Str.ofString "tup") p2) (.Constant (.int 0) 0 p3) p4] [] p5) cenv) (fun y s' => (∃ t, y = .str (Str.ofString (toString i)) t) ∧ Keeps s s') E s := by
  walk1
  refine wpAny_Name ?_
  rw [loadName_read hk hs]
  refine loadGlobal_builtin gl hm bl hb ?_
  walk1
  walk1
  walk1
  refine wpAny_Name (wpAny_loadName_local hk hl ns hv ?_)
  walk1
  refine item_tupleT (l := [.int i t1, .int j t2, .int k t3]) ht (by decide) (by decide) rfl rfl ?_
  walk1
  refine str_of_int_fit (N := 1000000) (by split <;> omega) (by decide) ?_
  intro tt
  exact ⟨⟨_, rfl⟩, ⟨s.heap, _, rfl, fun _ _ e => e⟩⟩
end Mine
end

section
open PySem PySem.W PyProof.Rows
namespace Mine
theorem sec_QLA {M : Model} {A : Around} {E : Value → Shared → Prop} {s : Shared} {env : Env} {p : Pos} {Q : Flow → Shared → Prop} (h : Q .next s) : wpAny M A (exec (.Pass p) env) Q E s := by
  w_top off
  k_with_none
  walk1
  exact h
end Mine
end
section
open PySem PySem.W PyProof.Rows PySem.Calls PySem.Spec
set_option maxRecDepth 100000
namespace Mine
section loops
variable {prog : Program} {w : World} {A : Around} {E : Value → Shared → Prop} {s : Shared} {env : Env} {h₀ : Heap} {x : Str} {body : List Stmt} {Q : Flow → Shared → Prop}
/-- a loop over a list of the ledger's -/
theorem loopList {σ : Type} {ax : Addr} {vs : List Value} {k : Nat} {m₀ : Str → Option Value} (Ld : σ → Led) (ps : σ → List (Str × Value)) (stored : List Str) (P : Addr → Nat → σ → Prop) (Fin : σ → Prop) (c₀ : σ)
    (hh : A.handled = none) (hin : ∀ c, (ax, W.listOf vs.toArray k) ∈ Ld c) (F : Fr h₀ env.locals s.heap m₀) (N : News h₀ env.locals s.heap (Ld c₀)) (hk : ∀ p ∈ ps c₀, m₀ p.1 = some p.2)
    (hp : ∀ I, (∀ p ∈ Ld c₀, p.1 < I) → P I 0 c₀)
    (turn : ∀ I, (∀ p ∈ Ld c₀, p.1 < I) → ∀ (c : σ) i v (u : Str → Option Value) h tk o, vs[i]? = some v → P I i c → (∀ p ∈ Ld c, p.1 ≠ I) →
      Fr h₀ env.locals h (fun y => if y = x then some v else kstB (fun z => if stored.contains z then u z else m₀ z) (ps c) y) → News h₀ env.locals h ((I, o) :: Ld c) →
      ∀ s₁ : Shared, s₁ = { s with heap := h, toks := tk } → wpAny (model prog w) A (execs body env) (Turn h₀ env.locals x m₀ stored Ld ps I o s₁ (P I (i + 1)) Fin Q) E s₁)
    (done : ∀ I c, P I vs.length c → Fin c)
    (fin : ∀ (c : σ) (u : Str → Option Value) h tk, Fin c → Fr h₀ env.locals h (fun y => if y = x then u y else kstB (fun z => if stored.contains z then u z else m₀ z) (ps c) y) → News h₀ env.locals h (Ld c) → Q .next { s with heap := h, toks := tk }) :
    wpAny (model prog w) A (pyIter (.ref ax)) (fun it s₂ => LoopAtV prog w A h₀ env x body Q E it s₂) E s := by
  have hlt : ∀ p ∈ Ld c₀, p.1 < s.heap.objs.size := fun p hp => Heap.lt_size (N p hp).1
  have hax := N _ (hin c₀)
  have hne : ax ≠ s.heap.objs.size := Nat.ne_of_lt (Heap.lt_size hax.1)
  refine wpAny_pyIter_list (N.isList (hin c₀)) ?_
  have Wk := Walks.list (prog := prog) (w := w) hh s.heap.objs.size ax hne vs.toArray
  have hIL : env.locals ≠ s.heap.objs.size := fun e => absurd F.ns.lt (e ▸ Nat.lt_irrefl _)
  have hI0 : h₀.get? s.heap.objs.size = none := next_is_new F
  generalize hI : s.heap.objs.size = I at *
  let J : Nat → (Str → Option Value) → Led → Prop := fun i m nx => ∃ c : σ, nx = Ld c ∧ (∀ p ∈ ps c, m p.1 = some p.2) ∧ (∀ z, z ≠ x → (∀ p ∈ ps c, z ≠ p.1) → stored.contains z = false → m z = m₀ z) ∧ P I i c
  have hN' : News h₀ env.locals (s.heap.push { cls := .type "list_iterator", data := .fields #[.ref ax, .int 0 0] }) (Ld c₀) := fun p hp => ⟨Heap.get?_push_of_some _ (N p hp).1, (N p hp).2⟩
  have hget : (s.heap.push { cls := .type "list_iterator", data := .fields #[.ref ax, .int 0 0] }).get? I = some { cls := .type "list_iterator", data := .fields #[.ref ax, .int 0 0] } := hI ▸ Heap.get?_push_size _ rfl
  refine ⟨I, [I, ax], [I], vs.toArray.size, _, _, m₀, Ld c₀, J, rfl, Wk, ?_, ?_, ?_, ⟨⟨_, hget, rfl, rfl⟩, hN'.isList (hin c₀)⟩, F.push _, hN', ⟨c₀, rfl, hk, fun _ _ _ _ => rfl, hp I hlt⟩, ?_, ?_⟩
  · intro hm
    rcases List.mem_cons.mp hm with e | hm
    · exact hIL e
    · exact hax.2.1 (List.mem_singleton.mp hm).symm
  · intro b hb; rw [List.mem_singleton.mp hb]; exact hI0
  · intro p hp hm; exact absurd (hlt p hp) (by rw [List.mem_singleton.mp hm]; exact Nat.lt_irrefl _)
  · rintro i v m₁ news₁ s₁ own ⟨hh1, tk, rfl⟩ hi hP ⟨c, rfl, h1, h2, hPc⟩ hoff hown hget1 hall hst' F₁ N₁
    have hne1 : ∀ p ∈ Ld c, p.1 ≠ I := fun p hp e => hoff p hp (by rw [e]; exact .head _)
    obtain ⟨o, ho, _⟩ := hst'.1
    have hmem : (I, o) ∈ own := hall I (.head _) hI0 o ho
    have hown' : ∀ p ∈ own, p = (I, o) ∨ p = (ax, W.listOf vs.toArray k) := fun p hp => by
      have e2 := hget1 p hp
      rcases List.mem_cons.mp (hown p hp) with e1 | e1
      · rw [e1] at e2
        exact .inl (Prod.ext e1 (Option.some.inj (ho.symm.trans e2)).symm)
      · have e1 := List.mem_singleton.mp e1
        rw [e1] at e2
        have e3 := (N₁ _ (List.mem_append.mpr (.inr (hin c)))).1
        exact .inr (Prod.ext e1 (Option.some.inj (e3.symm.trans e2)).symm)
    have N₂ : News h₀ env.locals hh1 ((I, o) :: Ld c) := fun p hp => by
      rcases List.mem_cons.mp hp with rfl | hp
      · exact N₁ _ (List.mem_append.mpr (.inl hmem))
      · exact N₁ _ (List.mem_append.mpr (.inr hp))
    refine wpAny_mono (turn I hlt c i v m₁ hh1 tk o (by simpa using hP) hPc hne1 (kst_fr h1 h2 F₁) N₂ _ rfl) (fun f s₂ p => ?_) fun _ _ e => e
    have go : Left h₀ env.locals x m₀ stored Ld ps I o { s with heap := hh1, toks := tk } (P I (i + 1)) s₂ → LoopStepU h₀ env.locals [I] own (J (i + 1)) { s with heap := hh1, toks := tk } .next s₂ := by
      rintro ⟨c', h', tk', m', nw, rfl, F', N', hmI, hsub, hne', hps, hrest, hP'⟩
      refine ⟨rfl, h', tk', m', Ld c', rfl, F', fun p hp => ?_, fun p hp hm => hne' p hp (List.mem_singleton.mp hm), ⟨c', rfl, hps, hrest, hP'⟩⟩
      rcases List.mem_append.mp hp with hp | hp
      · rcases hown' p hp with e | e
        · rw [e]; exact N' _ hmI
        · rw [e]; exact N' _ (hsub _ (hin c'))
      · exact N' _ (hsub p hp)
    cases f with
    | ret v => exact .ret p
    | brk =>
      obtain ⟨c', h', tk', m', nw, rfl, F', N', hmI, hsub, hne', hps, hrest, hP'⟩ := p
      exact .brk (fin c' m' h' tk' hP' (kst_frOut hps hrest F') (fun p hp => N' _ (hsub p hp)))
    | next => exact .next (go p)
    | cont => exact .cont (go p)
  · rintro h' tk m' news' F' N' _ ⟨c, rfl, hps, hrest, hP'⟩
    exact fin c m' h' tk (done I c (by simpa using hP')) (kst_frOut hps hrest F') N'
end loops
end Mine
end

section
open PySem PySem.W PyProof.Rows
namespace Mine
theorem sec_QF1 {M : Model} {A : Around} {E : Value → Shared → Prop} {s : Shared} {env : Env} {p : Pos} {Q : Flow → Shared → Prop} (h : Q .next s) : wpAny M A (exec (.Pass p) env) Q E s := by
  w_top off
  k_with_none
  walk1
  exact h
end Mine
end
section
open PySem PySem.W PyProof.Rows
set_option maxRecDepth 100000
set_option maxHeartbeats 2000000
namespace Mine
def fmtText (rows : List (Int × Int × Int)) : Str := (if 1 < rows.length then Str.ofString "at tab sizes" else Str.ofString "at tab size") ++ Str.ofString " " ++ Txt.join (Str.ofString ", ") (firstsOf rows)
theorem fmt_many {rows : List (Int × Int × Int)} {n : Nat} {t : Tok} (hn : n = rows.length) (h : 1 < (n : Int)) : ∃ t', Value.str (Str.ofString "at tab sizes" ++ Str.ofString " " ++ Txt.join (Str.ofString ", ") (firstsOf rows)) t = Value.str (fmtText rows) t' := by
  refine ⟨t, ?_⟩; unfold fmtText; rw [if_pos (by omega)]
theorem fmt_one {rows : List (Int × Int × Int)} {n : Nat} {t : Tok} (hn : n = rows.length) (h : ¬ 1 < (n : Int)) : ∃ t', Value.str (Str.ofString "at tab size" ++ Str.ofString " " ++ Txt.join (Str.ofString ", ") (firstsOf rows)) t = Value.str (fmtText rows) t' := by
  refine ⟨t, ?_⟩; unfold fmtText; rw [if_neg (by omega)]
theorem fmt_ok (w : World) (a : Addr) (vs : List Value) (k : Nat) (rows : List (Int × Int × Int)) (news : Led) (hl : (a, W.listOf vs.toArray k) ∈ news) (hr : RowsAt news vs rows) (hn : rows.length ≤ 1000) (hb : ∀ r ∈ rows, 0 ≤ r.1 ∧ r.1 ≤ 100000) :
   SpecG 4 w 143 [.ref a] news (fun r tl _ => tl = [] ∧ ∃ t, r = .str (fmtText rows) t) := by
  unfold SpecG SpecX
  k_fill
  intro loose mean mg mb dp un gd cn cs a₁ ccd cl outer A₀ base h₀ L m s Q E t1 t2 cd B F X N ht1 ht2 hT T hk hd hu hret
  replace hl := List.mem_append.mpr (Or.inr hl : _ ∈ cd ∨ _ ∈ news)
  replace hr := hr.mono fun p hp => List.mem_append.mpr (Or.inr hp : p ∈ cd ∨ p ∈ news)
  replace hret := fun r t1' s' F' N' h1 e R => hret r [] t1' t2 cd s' F' N' h1 ht2 hT (fun _ h => h) (fun _ h => .inl h) (fun _ h => (nomatch h)) ⟨rfl, e⟩ R
  dsimp only [List.nil_append] at hret
  generalize cd ++ news = nn at *
  refine wpAny_call ?_
  k_dflt (walk_at "mine enter")
  (repeat' (first | (k_unfold; (try dsimp only)) | (k_end; wrow_close) | (first | ((with_reducible show wpAny _ _ (eval (Expr.GeneratorExp _ _ _ _) _) _ _ _); (with_reducible refine holdIt ?_)) | walk1) | (dsimp only; (first | ((with_reducible show wpAny _ _ (eval (Expr.GeneratorExp _ _ _ _) _) _ _ _); (with_reducible refine holdIt ?_)) | walk1)) | (leave1; walk_say "STEP leave1"; try dsimp only) | fail "no step"))
  rename_i g L' h' FG' N' B' X' T' _ _ _ F'
  unfold Hold
  refine genWalks rfl rfl rfl (by decide) rfl rfl rfl (by ktr_room) ?_ (by intro _; rfl)
  walk1
  refine wpAny_pyIter_list (N'.isList (List.Mem.tail _ (List.Mem.tail _ hl))) ?_
  refine ⟨(T'.nolimit.keeps F'.keep).keeps fun b o e => Heap.get?_push_of_some _ e, ?_⟩
  have hI : L' < h'.objs.size := F'.ns.lt
  have hm89 := N' (tb1 t1) (.head _)
  have Fp := F'.push { cls := Value.type "list_iterator", data := Data.fields #[Value.ref a, Value.int 0 0] }
  have Np : News g L' (h'.push { cls := Value.type "list_iterator", data := Data.fields #[Value.ref a, Value.int 0 0] }) ((h'.objs.size, { cls := Value.type "list_iterator", data := Data.fields #[Value.ref a, Value.int 0 0] }) :: tb1 t1 :: tb2 t2 :: nn) := N'.push F' _
  refine genCodeT (c := 142) (P := 138) (ps := t1) rfl (codeHd_of_K (X'.keeps Fp.keep) (by kernel_rfl)) (Np (tb1 t1) (.tail _ (.head _))).1 ht1 ?_
  intro code h2 tk2 ps' hx hP' ht'
  have h89 : @LT.lt Nat _ 138 h'.objs.size := Heap.lt_size hm89.1
  have hL89 : L' ≠ 138 := fun q => hm89.2.1 q.symm
  have F2 := frExt Fp hx hm89.2.2 hL89
  have N2a : News g L' h2 ((h'.objs.size, { cls := Value.type "list_iterator", data := Data.fields #[Value.ref a, Value.int 0 0] }) :: tb2 t2 :: nn) := newsExt (P := 138) (fun p hp => by rcases List.mem_cons.mp hp with rfl | hp; exact Np _ (.head _); exact Np _ (.tail _ (.tail _ hp))) hx
    (List.forall_mem_cons.mpr ⟨Nat.ne_of_gt h89, List.forall_mem_cons.mpr ⟨(by decide : (181 : Nat) ≠ 138), fun p hp => Nat.ne_of_gt (Nat.lt_trans (by decide) (hT p hp))⟩⟩)
  have N2 : News g L' h2 ((h'.objs.size, { cls := Value.type "list_iterator", data := Data.fields #[Value.ref a, Value.int 0 0] }) :: tb1 ps' :: tb2 t2 :: nn) := fun p hp => by
    rcases List.mem_cons.mp hp with rfl | hp
    · exact N2a _ (.head _)
    · rcases List.mem_cons.mp hp with rfl | hp
      · exact ⟨hP', hm89.2⟩
      · exact N2a _ (.tail _ hp)
  obtain ⟨bm, ob, hbm, hne, hbo, hcls, hdict, hdata⟩ := T'.bmain
  refine wpAny_builtinsFor (T'.g.keeps F2.keep) hbm hne (F2.keep _ _ hbo) hcls hdict hdata ?_
  obtain ⟨mc, hmc, _⟩ := T'.nolimit
  obtain ⟨oc, hoc⟩ := ns_some hmc
  have hal : a ≠ h'.objs.size := Nat.ne_of_lt (Heap.lt_size (N' _ (.tail _ (.tail _ hl))).1)
  have hcs : cStatics ∈ (List.range h2.objs.size).filter (fun b => (g.get? b).isSome) ++ (h'.objs.size :: nn.map (·.1)) := List.mem_append.mpr (.inl (List.mem_filter.mpr ⟨List.mem_range.mpr (Heap.lt_size (F2.keep _ _ hoc)), by rw [hoc]; rfl⟩))
  refine ⟨h'.objs.size, [h'.objs.size, a], [h'.objs.size], vs.toArray.size, fun i v => vs.toArray[i]? = some v, _, fun _ => true, fun i y => ∃ r t, rows[i]? = some r ∧ y = .str (Str.ofString (toString r.1)) t,
    (List.range h2.objs.size).filter (fun b => (g.get? b).isSome) ++ (h'.objs.size :: nn.map (·.1)), rfl, fun A' hA => Walks.list hA _ a hal vs.toArray, ?w1, ?w2, ?w3, T'.nolimit.keeps F2.keep, ?w4, ?w5, ?w6, ?w7⟩
  case w1 => exact ⟨⟨_, (N2 _ (.head _)).1, rfl, rfl⟩, N2.isList (.tail _ (.tail _ (.tail _ hl)))⟩
  case w2 =>
    intro b hb
    rcases List.mem_cons.mp hb with rfl | hb
    · exact List.mem_append.mpr (.inr (.head _))
    · rw [List.mem_singleton.mp hb]; exact List.mem_append.mpr (.inr (.tail _ (List.mem_map.mpr ⟨_, hl, rfl⟩)))
  case w3 =>
    intro b hb
    rcases List.mem_append.mp hb with hb | hb
    · exact List.mem_range.mp (List.mem_filter.mp hb).1
    · rcases List.mem_cons.mp hb with rfl | hb
      · exact Heap.lt_size (N2 _ (.head _)).1
      · obtain ⟨q, hq, rfl⟩ := List.mem_map.mp hb
        exact Heap.lt_size (N2 _ (.tail _ (.tail _ (.tail _ hq)))).1
  case w4 => intro hm; have e := List.mem_singleton.mp hm; exact absurd (Nat.lt_of_lt_of_le (Heap.lt_size hoc) F'.above) (by rw [e]; exact Nat.not_lt.mpr (Nat.le_of_lt hI))
  case w5 => exact hcs
  case w6 =>
    intro href hk6
    refine ⟨?_, ?_⟩
    · intro A' E' i v s₂ m₂ _ _ _ _ _ _ _
      exact wpAny_pure ⟨rfl, ⟨s₂.heap, s₂.toks, rfl, fun _ _ e => e⟩⟩
    · intro A' E' i v s₂ m₂ hh' hd' hu' hv _ hns hmv hkb
      obtain ⟨ta, q1, q2, q3, qn, r, rfl, hri, hmem⟩ := hr.at (by simpa using hv)
      have hgk : ∀ b o, g.get? b = some o → s₂.heap.get? b = some o := by
        intro b o e
        have e1 : @LT.lt Nat _ b L' := Nat.lt_of_lt_of_le (Heap.lt_size e) F'.above
        refine hkb b (List.mem_append.mpr (.inl (List.mem_filter.mpr ⟨List.mem_range.mpr (Heap.lt_size (F2.keep _ _ e)), by rw [e]; rfl⟩))) (fun hm => ?_) o (hk6 _ _ (F2.keep _ _ e))
        exact absurd (Nat.lt_trans e1 hI) (by rw [List.mem_singleton.mp hm]; exact Nat.lt_irrefl _)
      have hta := N2 _ (.tail _ (.tail _ (.tail _ hmem)))
      have hti : IsTup s₂.heap ta #[.int r.1 q1, .int r.2.1 q2, .int r.2.2 q3] := by
        refine ⟨_, hkb ta (List.mem_append.mpr (.inr (.tail _ (List.mem_map.mpr ⟨_, hmem, rfl⟩)))) (fun hm => ?_) _ (hk6 _ _ hta.1), rfl, _, rfl⟩
        have := Heap.lt_size (N' _ (.tail _ (.tail _ hmem))).1
        exact absurd this (by rw [List.mem_singleton.mp hm]; exact Nat.lt_irrefl _)
      have hrb := hb r (List.mem_of_getElem? hri)
      refine wpAny_mono (eltStr w (cenv := genEnv _ _ _ _ _ _) rfl rfl rfl hns hmv hti hrb (T'.g.keeps hgk) ?_ (T'.b.keeps hgk) ?_) (fun y s3 hy => ?_) (fun _ _ e => e)
      · exact mg_none_of X' T'.g (by k_is)
      · exact (T'.builtins _ (by decide)).trans boot_str
      · obtain ⟨⟨t, rfl⟩, hk3⟩ := hy
        exact ⟨⟨r, t, hri, rfl⟩, hk3⟩
  case w7 =>
    intro a' h5 tk5 gs oC hbare hsz hsz5 keep5 hoa hoC Wk Gk
    obtain ⟨oa, hoa⟩ := hoa
    have F5 := F2.keeps keep5
    have hI2 : L' < h2.objs.size := F2.ns.lt
    have N5 := newsCons F5 (newsCons F5 (newsKeep N2 keep5) hoC hI2) hoa (Nat.lt_trans hI2 hsz)
    have key : ∀ h m', Fr g L' h m' → News g L' h ((a', oa) :: (h2.objs.size, oC) :: (h'.objs.size, { cls := Value.type "list_iterator", data := Data.fields #[Value.ref a, Value.int 0 0] }) :: tb1 ps' :: tb2 t2 :: nn) → ∀ b ∈ a' :: h2.objs.size :: ((List.range h2.objs.size).filter (fun b => (g.get? b).isSome) ++ (h'.objs.size :: nn.map (·.1))), ∀ o, h5.get? b = some o → h.get? b = some o := by
      intro h m' Fh Nh b hb o ho
      have byN : ∀ q : Addr × Obj, q ∈ ((a', oa) :: (h2.objs.size, oC) :: (h'.objs.size, { cls := Value.type "list_iterator", data := Data.fields #[Value.ref a, Value.int 0 0] }) :: tb1 ps' :: tb2 t2 :: nn) → q.1 = b → h.get? b = some o := by
        intro q hq e
        subst e
        have e1 := (N5 q hq).1
        rw [e1] at ho
        rw [← ho]; exact (Nh q hq).1
      rcases List.mem_cons.mp hb with rfl | hb
      · exact byN _ (.head _) rfl
      · rcases List.mem_cons.mp hb with rfl | hb
        · exact byN _ (.tail _ (.head _)) rfl
        · rcases List.mem_append.mp hb with hb | hb
          · obtain ⟨og, hog⟩ := Option.isSome_iff_exists.mp (List.mem_filter.mp hb).2
            have e1 := F5.keep _ _ hog
            rw [e1] at ho
            rw [← ho]; exact Fh.keep _ _ hog
          · rcases List.mem_cons.mp hb with rfl | hb
            · exact byN _ (.tail _ (.tail _ (.head _))) rfl
            · obtain ⟨q, hq, e⟩ := List.mem_map.mp hb
              exact byN q (.tail _ (.tail _ (.tail _ (.tail _ (.tail _ hq))))) e
    have has5 : ∀ b ∈ a' :: h2.objs.size :: ((List.range h2.objs.size).filter (fun b => (g.get? b).isSome) ++ (h'.objs.size :: nn.map (·.1))), ∃ o, h5.get? b = some o := by
      intro b hb
      rcases List.mem_cons.mp hb with rfl | hb
      · exact ⟨_, hoa⟩
      · rcases List.mem_cons.mp hb with rfl | hb
        · exact ⟨_, hoC⟩
        · rcases List.mem_append.mp hb with hb | hb
          · obtain ⟨og, hog⟩ := Option.isSome_iff_exists.mp (List.mem_filter.mp hb).2
            exact ⟨_, F5.keep _ _ hog⟩
          · rcases List.mem_cons.mp hb with rfl | hb
            · exact ⟨_, (N5 _ (.tail _ (.tail _ (.head _)))).1⟩
            · obtain ⟨q, hq, rfl⟩ := List.mem_map.mp hb
              exact ⟨_, (N5 q (.tail _ (.tail _ (.tail _ (.tail _ (.tail _ hq)))))).1⟩
    have hll := hr.length
    have hwr : ∀ p ∈ tb1 ps' :: tb2 t2 :: nn, p.1 ∉ [h2.objs.size, h'.objs.size] := by
      intro p hp hm
      have e1 : @LT.lt Nat _ p.1 h2.objs.size := Heap.lt_size (N2 p (.tail _ hp)).1
      have e2 : @LT.lt Nat _ p.1 h'.objs.size := by
        rcases List.mem_cons.mp hp with rfl | hp
        · exact h89
        · exact Heap.lt_size (N' p (.tail _ hp)).1
      rcases List.mem_cons.mp hm with q | hm
      · exact absurd e1 (by rw [q]; exact Nat.lt_irrefl _)
      · exact absurd e2 (by rw [List.mem_singleton.mp hm]; exact Nat.lt_irrefl _)
    have hLwr : L' ∉ [h2.objs.size, h'.objs.size] := by
      intro hm
      rcases List.mem_cons.mp hm with q | hm
      · exact absurd hI2 (by rw [← q]; exact Nat.lt_irrefl _)
      · exact absurd hI (by rw [← List.mem_singleton.mp hm]; exact Nat.lt_irrefl _)
    have hgwr : ∀ b o, g.get? b = some o → b ∉ [h2.objs.size, h'.objs.size] := by
      intro b o e hm
      have e1 : @LT.lt Nat _ b L' := Nat.lt_of_lt_of_le (Heap.lt_size e) F5.above
      rcases List.mem_cons.mp hm with q | hm
      · exact absurd (Nat.lt_trans e1 hI2) (by rw [q]; exact Nat.lt_irrefl _)
      · exact absurd (Nat.lt_trans e1 hI) (by rw [List.mem_singleton.mp hm]; exact Nat.lt_irrefl _)
    have hlz : (a, W.listOf vs.toArray k) ∈ ((a', oa) :: (h2.objs.size, oC) :: (h'.objs.size, { cls := Value.type "list_iterator", data := Data.fields #[Value.ref a, Value.int 0 0] }) :: tb1 ps' :: tb2 t2 :: nn) := .tail _ (.tail _ (.tail _ (.tail _ (.tail _ hl))))
    clear F' N' Fp Np F2 N2a N2
    (repeat' (first | (k_unfold; (try dsimp only)) | (k_end; wrow_close) | (first | (k_here; (with_reducible show wpAny _ _ (call (Value.builtin "len") [Value.ref _]) _ _ _); k_dflt (refine' lenL ?k1 ?k2 ?k3 ?_; (case k1 => k_asm); (case k2 => first | assumption | k_mem); (case k3 => omega); k_whole)) | walk1) | (dsimp only; (first | (k_here; (with_reducible show wpAny _ _ (call (Value.builtin "len") [Value.ref _]) _ _ _); k_dflt (refine' lenL ?k1 ?k2 ?k3 ?_; (case k1 => k_asm); (case k2 => first | assumption | k_mem); (case k3 => omega); k_whole)) | walk1)) | (leave1; walk_say "STEP leave1"; try dsimp only) | fail "no step"))
    all_goals (
      rename Fr _ _ _ _ => Fz
      rename News _ _ _ _ => Nz
      refine SC.joinGen (WalksS.in4_2 Wk) (fun i s st => st.1.typeIs) (genAt_move Gk rfl (key _ _ Fz Nz) hcs) (fun b hb => let ⟨o, ho⟩ := has5 b hb; Heap.lt_size (key _ _ Fz Nz b hb o ho)) (.head _) ?_ ?_ ?_
      · rintro i v ⟨i', _, r, t, _, rfl⟩; exact ⟨_, _, rfl⟩
      · intro s' l hm hi
        have e := items_eq (by simp [hll]) hi
        rw [e]
        refine ⟨firsts_ok hb hn, fun t' k => ?_⟩
        have Fs : Fr g L' s'.heap _ := ⟨Fz.ns.at' fun o e => hm.heap _ _ hLwr e, fun b o e => hm.heap _ _ (hgwr b o e) (Fz.keep b o e), Fz.above⟩
        have Ns : News g L' s'.heap (tb1 ps' :: tb2 t2 :: nn) := fun p hp => ⟨hm.heap _ _ (hwr p hp) (Nz p (.tail _ (.tail _ (.tail _ hp)))).1, (Nz p (.tail _ (.tail _ (.tail _ hp)))).2⟩
        have hJ := firsts_len hb hn
        clear Fz Nz
        (repeat' (first | (k_unfold; (try dsimp only)) | (k_end; wrow_close) | walk1 | (dsimp only; walk1) | (leave1; walk_say "STEP leave1"; try dsimp only) | fail "no step"))
        exact hret _ ps' _ (by k_asm) (by k_asm) ht' (by first | exact fmt_many hll (by assumption) | exact fmt_one hll (by assumption)) ⟨hm.os, hm.drawn, fun hB => hm.gens.bare (AllBare.push hB hbare)⟩
      · rw [passing_all]; simp [sizeLine_eq]; omega)
end Mine
end

section
open PySem PySem.W PyProof.Rows
namespace Mine
theorem sec_QE1 {M : Model} {A : Around} {E : Value → Shared → Prop} {s : Shared} {env : Env} {p : Pos} {Q : Flow → Shared → Prop} (h : Q .next s) : wpAny M A (exec (.Pass p) env) Q E s := by
  w_top off
  k_with_none
  walk1
  exact h
end Mine
end
section
open PySem PySem.W PyProof.Rows
set_option maxRecDepth 100000
set_option maxHeartbeats 1000000
namespace Mine
/-- an Entry: its agents' texts, its rules' values -/
inductive EntAt (news : Led) (x : Addr) (ags : List Str) (rv : List Value) : Prop
  | intro {d la lr : Addr} {us : List Value} {a1 a2 a3 a4 : Int} {b1 b2 b3 b4 : Tok} {k1 k2 k3 : Nat} (h1 : (x, instObj 59 d) ∈ news) (h2 : (d, dictOf [⟨a1, .str (Str.ofString "useragents") b1, .ref la⟩, ⟨a2, .str (Str.ofString "rulelines") b2, .ref lr⟩, ⟨a3, .str (Str.ofString "delay") b3, .none⟩, ⟨a4, .str (Str.ofString "req_rate") b4, .none⟩] k1) ∈ news) (h3 : (la, W.listOf us.toArray k2) ∈ news) (h4 : (lr, W.listOf rv.toArray k3) ∈ news) (h5 : StrsAre us ags) : EntAt news x ags rv
theorem EntAt.el {news : Led} {x : Addr} {ags : List Str} {rv : List Value} {C : Prop} (h : EntAt news x ags rv) (k : ∀ (d la lr : Addr) (us : List Value) (a1 a2 a3 a4 : Int) (b1 b2 b3 b4 : Tok) (k1 k2 k3 : Nat), ((x, instObj 59 d) ∈ news) → ((d, dictOf [⟨a1, .str (Str.ofString "useragents") b1, .ref la⟩, ⟨a2, .str (Str.ofString "rulelines") b2, .ref lr⟩, ⟨a3, .str (Str.ofString "delay") b3, .none⟩, ⟨a4, .str (Str.ofString "req_rate") b4, .none⟩] k1) ∈ news) → ((la, W.listOf us.toArray k2) ∈ news) → ((lr, W.listOf rv.toArray k3) ∈ news) → (StrsAre us ags) → C) : C := by
  cases h with
  | intro h0 h1 h2 h3 h4 => exact k _ _ _ _ _ _ _ _ _ _ _ _ _ _ _ h0 h1 h2 h3 h4
theorem EntAt.mono {news news' : Led} {x : Addr} {ags : List Str} {rv : List Value} (h : EntAt news x ags rv) (hs : ∀ p ∈ news, p ∈ news') : EntAt news' x ags rv :=
  h.el fun _ _ _ _ _ _ _ _ _ _ _ _ _ _ _ h1 h2 h3 h4 h5 => .intro (hs _ h1) (hs _ h2) (hs _ h3) (hs _ h4) h5
theorem strs_at : ∀ {us : List Value} {ws : List Str}, StrsAre us ws → ∀ {i : Nat} {v : Value}, us[i]? = some v → ∃ g t, v = .str g t ∧ ws[i]? = some g := by
  intro us ws h
  induction h with
  | nil => intro i v e; simp at e
  | cons x t _ ih =>
    intro i v e
    cases i with
    | zero => simp at e; exact ⟨_, _, e.symm, rfl⟩
    | succ i => exact ih (by simpa using e)
def agentHits (g y : Str) : Bool := (g != Str.ofString "*") && !(Builtin.Str.occurrences y (Txt.lower g) 0 y.length 1).isEmpty
def firstPart (words : Str) : Str := ((Txt.split words (Str.ofString "/"))[0]?).getD Str.empty
def applies (ags : List Str) (words : Str) : Bool := ags.any fun g => agentHits g (Txt.lower (firstPart words))
theorem take_more {α : Type} {l : List α} {i : Nat} {g : α} (hg : l[i]? = some g) {P : α → Prop} (h : ∀ x ∈ l.take i, P x) (hp : P g) : ∀ x ∈ l.take (i + 1), P x := by
  intro x hx
  rw [List.take_add_one, hg] at hx
  rcases List.mem_append.mp hx with hx | hx
  · exact h x hx
  · simp at hx; rw [hx]; exact hp
theorem boolEq {a b : Bool} (h : a = b) : Value.bool a = Value.bool b := by rw [h]
theorem app_ok (w : World) (x : Addr) (ags : List Str) (rv : List Value) (words : Str) (t5 : Tok) (news : Led) (hW : EntAt news x ags rv) (hw : words.length ≤ 100000) (ha : ∀ g ∈ ags, g.length ≤ 1000) :
   Spec 3 w 49 [.ref x, .str words t5] news (fun r news' => news' = news ∧ r = .bool (applies ags words)) := by
  refine hW.el fun d la lr us a1 a2 a3 a4 b1 b2 b3 b4 k1 k2 k3 h1 h2 h3 h4 h5 => ?_
  unfold Spec
  k_fill
  intro loose mean mg mb dp un gd cn cs a₁ ccd cl outer A₀ base h₀ L m s Q E B F X N T hk hd hu hret
  refine wpAny_call ?_
  k_dflt (walk_at "mine enter")
  (repeat' (first | (k_unfold; (try dsimp only)) | (k_end; wrow_close) | walk1 | (dsimp only; walk1) | (leave1; walk_say "STEP leave1"; try dsimp only) | fail "no step"))
  rename_i l _ _ hsp _ hle _ _ _ y _ hy
  have hyl := hle _ (List.mem_of_getElem? hy)
  rw [hsp] at hy
  have h5l := h5.length
  have hfp : firstPart words = y := by unfold firstPart; rw [show (0 : Nat) = Int.toNat 0 from rfl, hy]; rfl
  (repeat' (first | (k_unfold; (try dsimp only)) | (k_end; wrow_close) | walk1 | (dsimp only; walk1) | (leave1; walk_say "STEP leave1"; try dsimp only) | fail "no step"))

  rename News _ _ _ _ => N9
  replace N9 : News _ _ _ news := fun p hp => N9 p (.tail _ hp)
  (repeat' (first | (k_unfold; (try dsimp only)) | (k_end; wrow_close) | (first | ((with_reducible show wpAny _ _ (pyIter (Value.ref _)) _ _ _); (with_reducible refine holdIt ?_)) | walk1) | (dsimp only; (first | ((with_reducible show wpAny _ _ (pyIter (Value.ref _)) _ _ _); (with_reducible refine holdIt ?_)) | walk1)) | (leave1; walk_say "STEP leave1"; try dsimp only) | fail "no step"))
  unfold Hold
  refine' loopList (σ := Unit) (fun _ => news) (fun _ => []) [Str.ofString "agent"] (fun I i _ => ∀ g ∈ ags.take i, agentHits g (Txt.lower y) = false) (fun _ => ∀ g ∈ ags, agentHits g (Txt.lower y) = false) () rfl (fun _ => h3) (by k_asm) (by k_asm) ?hk ?hp ?turn ?done ?fin
  case hk => kst_all
  case hp => intro I hI g hg; simp at hg
  case done => intro I c h g hg; rw [h5l, List.take_length] at h; exact h g hg
  case turn =>
    rintro I hI c i v u h tk o hv hP hne F' N' s₁ rfl
    obtain ⟨g, tg, rfl, hg⟩ := strs_at h5 hv
    have hgl := ha g (List.mem_of_getElem? hg)
    dsimp only [kstB] at F'
    (repeat' (first | (k_unfold; (try dsimp only)) | (k_end; wrow_close) | walk1 | (dsimp only; walk1) | (leave1; walk_say "STEP leave1"; try dsimp only) | fail "no step"))
    · refine' ⟨(), _, _, _, _, rfl, ?a1, ?a2, ?a3, ?a4, ?a5, ?a6, ?a7, ?a8⟩
      (case a1 => k_asm); (case a2 => k_asm); (case a3 => k_mem); (case a6 => kst_all); (case a4 => exact fun p hp => .tail _ hp); (case a7 => kst_same)
      case a5 => exact hne
      case a8 => exact take_more hg hP (by unfold agentHits; simp_all)
    · dsimp only [Turn]
      (repeat' (first | (k_unfold; (try dsimp only)) | (k_end; wrow_close) | walk1 | (dsimp only; walk1) | (leave1; walk_say "STEP leave1"; try dsimp only) | fail "no step"))
      refine hret _ _ _ _ (by k_asm) (fun p hp => (by k_asm : News h₀ L _ ((I, o) :: news)) p (.tail _ hp)) ⟨rfl, boolEq ?_⟩
      exact (List.any_eq_true.mpr ⟨g, List.mem_of_getElem? hg, by unfold agentHits; rw [hfp]; simp_all⟩).symm
    · refine' ⟨(), _, _, _, _, rfl, ?b1, ?b2, ?b3, ?b4, ?b5, ?b6, ?b7, ?b8⟩
      (case b1 => k_asm); (case b2 => k_asm); (case b3 => k_mem); (case b6 => kst_all); (case b4 => exact fun p hp => .tail _ hp); (case b7 => kst_same)
      case b5 => exact hne
      case b8 => exact take_more hg hP (by unfold agentHits; simp_all)
  case fin =>
    rintro c u h tk hF F' N'
    dsimp only [kstB] at F'
    dsimp only
    (repeat' (first | (k_unfold; (try dsimp only)) | (k_end; wrow_close) | walk1 | (dsimp only; walk1) | (leave1; walk_say "STEP leave1"; try dsimp only) | fail "no step"))
    refine hret _ _ _ _ (by k_asm) (by k_asm) ⟨rfl, boolEq ?_⟩
    unfold applies
    rw [hfp]
    exact (List.any_eq_false.mpr fun g hg => by rw [hF g hg]; decide).symm
end Mine
end

section
open PySem PySem.W PyProof.Rows
namespace Mine
theorem sec_QCA {M : Model} {A : Around} {E : Value → Shared → Prop} {s : Shared} {env : Env} {p : Pos} {Q : Flow → Shared → Prop} (h : Q .next s) : wpAny M A (exec (.Pass p) env) Q E s := by
  w_top off
  k_with_none
  walk1
  exact h
end Mine
end
section
open PySem PySem.W PyProof.Rows PySem.Calls PySem.Spec
set_option maxRecDepth 100000
namespace Mine
theorem strs_snoc {y : Str} {t : Tok} : ∀ {vs : List Value} {ys : List Str}, StrsAre vs ys → StrsAre (vs ++ [.str y t]) (ys ++ [y])
  | _, _, .nil => .cons y t .nil
  | _, _, .cons z u r => .cons z u (strs_snoc r)
theorem strs_values : ∀ {vs : List Value} {ys : List Str}, StrsAre vs ys → ∃ l, strValues l = vs ∧ l.map (·.1) = ys
  | _, _, .nil => ⟨[], rfl, rfl⟩
  | _, _, .cons z u r => by
    obtain ⟨l, e1, e2⟩ := strs_values r
    exact ⟨(z, u) :: l, by simp only [strValues, List.map_cons] at e1 ⊢; rw [e1], by simp only [List.map_cons]; rw [e2]⟩
theorem joinS {prog : Program} {w : World} {A : Around} {E : Value → Shared → Prop} {s : Shared} {x : Str} {t : Tok} {Q : Value → Shared → Prop} {D : Addr} {us : List Value} {ys : List Str} {h₀ : Heap} {L : Addr} {news : Led} {k : Nat} (N : News h₀ L s.heap news) (hm : (D, W.listOf us.toArray k) ∈ news) (hs : StrsAre us ys)
    (hok : JoinOk x ys = true) (hq : ∀ t' k, Q (.str (Txt.join x ys) t') { s with toks := k }) : wpAny (model prog w) A (call (.builtin "str.join") [.str x t, .ref D]) Q E s := by
  obtain ⟨l, e1, e2⟩ := strs_values hs
  exact SC.join (l := l) (by rw [e1]; exact N.isList hm) e2 hok hq
theorem take_succ_of {α : Type} {l : List α} {i : Nat} {a : α} (h : l[i]? = some a) : l.take (i + 1) = l.take i ++ [a] := by rw [List.take_add_one, h]; rfl
section
variable {prog : Program} {w : World} {A : Around} {h₀ : Heap} {L : Addr} {m : Str → Option Value} {env : Env} {elt : Expr} {x : Str} {scope : Scope} {cl : List (Str × Addr)} {s : Shared} {S : Led → Prop} {P : Nat → Value → Prop} {Fin : List Value → Led → Prop}
/-- a comprehension's turns by what holds of the items made so far -/
theorem compBy {n : Nat} (R : Nat → List Value → Led → Prop) {news : Led} (h0 : R 0 [] news)
    (turn : ∀ i v I oI C oC D m₂ ys nw h tk (E' : Value → Shared → Prop), i < n → P i v → R i ys nw → LCg.NsObj oC m₂ → m₂ x = some v → Fr h₀ L h m → News h₀ L h ((I, oI) :: (C, oC) :: (D, LCg.lst ys) :: nw) → LCg.Off3 I C D nw → ((@Ne Nat I C) ∧ (@Ne Nat I D) ∧ (@Ne Nat C D)) →
      wpAny (model prog w) A (eval elt (compEnvC scope cl C env)) (LCg.CompEnd h₀ L m { s with heap := h, toks := tk } I oI C oC D (LCg.lst ys) S (fun y nw' => R (i + 1) (ys ++ [y]) nw')) E' { s with heap := h, toks := tk })
    (fin : ∀ ys nw, R n ys nw → Fin ys nw) : LCg.CompRest prog w A h₀ L m env elt x scope cl s S P Fin n 0 [] news := by
  have key : ∀ (j i : Nat) (ys : List Value) (nw : Led), i + j = n → R i ys nw → LCg.CompRest prog w A h₀ L m env elt x scope cl s S P Fin j i ys nw := by
    intro j
    induction j with
    | zero =>
      intro i ys nw hi hy
      have e : i = n := by omega
      subst e
      exact LCg.CompRest.zero (fin ys nw hy)
    | succ j ih =>
      intro i ys nw hi hy
      refine LCg.CompRest.succ ?_
      intro v I oI C oC D m₂ h tk E' hv hC hx F N off ne
      refine wpAny_mono (turn i v I oI C oC D m₂ ys nw h tk E' (by omega) hv hy hC hx F N off ne) (fun y s₂ hq => ?_) fun _ _ e => e
      obtain ⟨h', tk', nw', e, F', N', off', hS, hR⟩ := hq
      exact ⟨h', tk', nw', e, F', N', off', hS, ih (i + 1) _ nw' (by omega) hR⟩
  exact key n 0 [] news (by omega) h0
/-- the same with a test -/
theorem compTBy {ct : Expr} {n : Nat} (R : Nat → List Value → Led → Prop) {news : Led} (h0 : R 0 [] news)
    (turn : ∀ i v I oI C oC D m₂ ys nw h tk (E' : Value → Shared → Prop), i < n → P i v → R i ys nw → LCg.NsObj oC m₂ → m₂ x = some v → Fr h₀ L h m → News h₀ L h ((I, oI) :: (C, oC) :: (D, LCg.lst ys) :: nw) → LCg.Off3 I C D nw → ((@Ne Nat I C) ∧ (@Ne Nat I D) ∧ (@Ne Nat C D)) →
      wpAny (model prog w) A (isTrue ct (compEnvC scope cl C env) (eval ct (compEnvC scope cl C env))) (fun ok s' => if ok = true then
        wpAny (model prog w) A (eval elt (compEnvC scope cl C env)) (LCg.CompEnd h₀ L m { s with heap := h, toks := tk } I oI C oC D (LCg.lst ys) S (fun y nw' => R (i + 1) (ys ++ [y]) nw')) E' s'
        else LCg.CompEnd h₀ L m { s with heap := h, toks := tk } I oI C oC D (LCg.lst ys) S (fun _ nw' => R (i + 1) ys nw') Value.none s') E' { s with heap := h, toks := tk })
    (fin : ∀ ys nw, R n ys nw → Fin ys nw) : LCt.CompRestT prog w A h₀ L m env ct elt x scope cl s S P Fin n 0 [] news := by
  have key : ∀ (j i : Nat) (ys : List Value) (nw : Led), i + j = n → R i ys nw → LCt.CompRestT prog w A h₀ L m env ct elt x scope cl s S P Fin j i ys nw := by
    intro j
    induction j with
    | zero =>
      intro i ys nw hi hy
      have e : i = n := by omega
      subst e
      exact LCt.CompRestT.zero (fin ys nw hy)
    | succ j ih =>
      intro i ys nw hi hy
      refine LCt.CompRestT.succ ?_
      intro v I oI C oC D m₂ h tk E' hv hC hx F N off ne
      refine wpAny_mono (turn i v I oI C oC D m₂ ys nw h tk E' (by omega) hv hy hC hx F N off ne) (fun ok s₂ hq => ?_) fun _ _ e => e
      cases ok with
      | true =>
        rw [if_pos rfl] at hq ⊢
        refine wpAny_mono hq (fun y s₃ hq => ?_) fun _ _ e => e
        obtain ⟨h', tk', nw', e, F', N', off', hS, hR⟩ := hq
        exact ⟨h', tk', nw', e, F', N', off', hS, ih (i + 1) _ nw' (by omega) hR⟩
      | false =>
        rw [if_neg Bool.false_ne_true] at hq ⊢
        obtain ⟨h', tk', nw', e, F', N', off', hS, hR⟩ := hq
        exact ⟨h', tk', nw', e, F', N', off', hS, ih (i + 1) _ nw' (by omega) hR⟩
  exact key n 0 [] news (by omega) h0
end
end Mine
end

section
open PySem PySem.W PyProof.Rows
namespace Mine
theorem sec_QW3 {M : Model} {A : Around} {E : Value → Shared → Prop} {s : Shared} {env : Env} {p : Pos} {Q : Flow → Shared → Prop} (h : Q .next s) : wpAny M A (exec (.Pass p) env) Q E s := by
  w_top off
  k_with_none
  walk1
  exact h
end Mine
end
section
open PySem PySem.W PyProof.Rows
set_option maxRecDepth 100000
set_option maxHeartbeats 2000000
namespace Mine
structure WiC where
  vs : List Value
  k : Nat
  tl : Led
def notStep (st st' : Ws) (rs : List (Int × Int × Int)) (ts : Int) : List (Int × Int × Int) := if indentOf st' ts ≤ indentOf st ts then rs ++ [(ts, indentOf st ts, indentOf st' ts)] else rs
def topSize (st st' : Ws) : Int := max (max ((st.cs.length : Int) - 1) st.b) (max ((st'.cs.length : Int) - 1) st'.b) + 1
def notRows (st st' : Ws) (n : Nat) : List (Int × Int × Int) := (rangeKs 1 n).foldl (notStep st st') []
theorem notRows_succ (st st' : Ws) (i : Nat) : notRows st st' (i + 1) = notStep st st' (notRows st st' i) (1 + (i : Int)) := by
  unfold notRows
  have : rangeKs 1 (i + 1) = rangeKs 1 i ++ [1 + (i : Int)] := by simp [rangeKs, List.range_succ]
  rw [this, List.foldl_append]; rfl
theorem not_ok (w : World) (x y : Addr) (st st' : Ws) (news : Led) (hW : WhiteAt news x st) (hW' : WhiteAt news y st') :
   Spec 5 w 129 [.ref x, .ref y] news (fun r news' => ExtT news news' fun tl => ∃ a vs k, r = .ref a ∧ (a, W.listOf vs.toArray k) ∈ tl ∧ RowsAt tl vs (notRows st st' (topSize st st').toNat)) := by
  refine (hW).el fun d nr ct vs raw a1 a2 a3 a4 a5 b1 b2 b3 b4 b5 c1 c2 c3 c6 k1 k2 k3 h1 h2 h3 h4 h5 h6 h7 h8 => ?_
  refine (hW').el fun d' nr' ct' vs' raw' a1' a2' a3' a4' a5' b1' b2' b3' b4' b5' c1' c2' c3' c6' k1' k2' k3' h1' h2' h3' h4' h5' h6' h7' h8' => ?_
  unfold Spec
  k_fill
  intros; rename_i hret
  refine wpAny_call ?_
  k_dflt (walk_at "mine enter")
  (repeat' (first | (k_unfold; (try dsimp only)) | (k_end; wrow_close) | (first | ((with_reducible show wpAny _ _ (pyIter (Value.ref _)) _ _ _); (with_reducible refine holdIt ?_)) | ((with_reducible show wpAny _ _ (call (Value.ref _) _) _ _ _); (k_here; k_dflt (refine' Spec.use (lrs_ok _ _ _ _ ?kW) ?k1 ?k2 ?k3 ?k4 ?k5 ?kK ?kd ?ku ?_; (((case k4 => k_asm); (case k1 => k_asm); (case k2 => k_asm); (case k3 => k_asm); (case k5 => k_asm); (case kK => first | exact rfl | assumption); (case kd => ktr_room); (case ku => ktr_units))); (case kW => assumption)); intro r9 n9 h9 tk9 F9 N9 P9; obtain ⟨e9, t9, e8⟩ := P9; rw [e9] at N9; clear e9; subst e8; (try dsimp only); (try k_fold))) | walk1) | (dsimp only; (first | ((with_reducible show wpAny _ _ (pyIter (Value.ref _)) _ _ _); (with_reducible refine holdIt ?_)) | ((with_reducible show wpAny _ _ (call (Value.ref _) _) _ _ _); (k_here; k_dflt (refine' Spec.use (lrs_ok _ _ _ _ ?kW) ?k1 ?k2 ?k3 ?k4 ?k5 ?kK ?kd ?ku ?_; (((case k4 => k_asm); (case k1 => k_asm); (case k2 => k_asm); (case k3 => k_asm); (case k5 => k_asm); (case kK => first | exact rfl | assumption); (case kd => ktr_room); (case ku => ktr_units))); (case kW => assumption)); intro r9 n9 h9 tk9 F9 N9 P9; obtain ⟨e9, t9, e8⟩ := P9; rw [e9] at N9; clear e9; subst e8; (try dsimp only); (try k_fold))) | walk1)) | (leave1; walk_say "STEP leave1"; try dsimp only) | fail "no step"))
  first
    | (rename_i l' _ hB _ _ _ _ _ _ hp tk1 ta tb tc rg F N keep; have hB9 := (hB : ∀ p ∈ news, @LT.lt Nat _ p.1 l'); clear hB9)
    | (rename_i l' _ hB _ _ _ _ _ _ _ hp tk1 ta tb tc rg F N keep; have hB9 := (hB : ∀ p ∈ news, @LT.lt Nat _ p.1 l'); clear hB9)
  unfold Hold
  refine' loopRange (σ := WiC) (fun c => (l', W.listOf c.vs.toArray c.k) :: (c.tl ++ news)) (fun _ => []) []
    (fun I i c => (∀ p ∈ c.tl, @LT.lt Nat _ l' p.1) ∧ RowsAt c.tl c.vs (notRows st st' i) ∧ c.vs.length ≤ i) (fun c => (∀ p ∈ c.tl, @LT.lt Nat _ l' p.1) ∧ RowsAt c.tl c.vs (notRows st st' (topSize st st').toNat)) ⟨[], 0, []⟩ rfl rg (small_one (by omega) (by omega) (by omega) (by omega)) (rangeSize_nat _ _) (by k_asm) (by k_asm) ?hk ?hp ?turn ?done ?fin
  case hk => kst_all
  case hp => intro I hI; exact ⟨fun _ h => (nomatch h), .nil, Nat.le_refl _⟩
  case done =>
    rintro I c ⟨h1, h2, h3⟩
    refine ⟨h1, ?_⟩
    have e : (max (max ((st.cs.length : Int) - 1) st.b) (max ((st'.cs.length : Int) - 1) st'.b) + 1 + 1 - 1).toNat = (topSize st st').toNat := by unfold topSize; omega
    rw [← e]; exact h2
  case turn =>
    rintro I hI c i t u h tk o hn ⟨g1, g2, g3⟩ hne F' N' s₁ rfl
    dsimp only [kstB] at F'
    have hcI : @Ne Nat l' I := hne _ (.head _)
    have hIr : ∀ p ∈ c.tl ++ news, p.1 ≠ I := fun p hp => hne p (.tail _ hp)
    have hNe : ∀ p ∈ c.tl ++ news, p.1 ≠ l' := fun p hp => (List.mem_append.mp hp).elim (fun h => Nat.ne_of_gt (g1 p h)) (fun h => Nat.ne_of_lt (hB p h))
    have sub : ∀ p ∈ news, p ∈ (I, o) :: (l', W.listOf c.vs.toArray c.k) :: (c.tl ++ news) := fun p hp => .tail _ (.tail _ (List.mem_append.mpr (.inr hp)))
    have hWc := hW.mono sub
    have hWc' := hW'.mono sub
    have m1 := sub _ h1
    have m2 := sub _ h2
    have m3 := sub _ h1'
    have m4 := sub _ h2'
    (repeat' (first | (k_unfold; (try dsimp only)) | (k_end; wrow_close) | (first | ((with_reducible show wpAny _ _ (call (Value.ref _) _) _ _ _); (k_here; k_dflt (refine' Spec.use (ind_ok _ _ _ _ _ _ ?kW ?kA ?kB) ?k1 ?k2 ?k3 ?k4 ?k5 ?kK ?kd ?ku ?_; (((case k4 => k_asm); (case k1 => k_asm); (case k2 => k_asm); (case k3 => k_asm); (case k5 => k_asm); (case kK => first | exact rfl | assumption); (case kd => ktr_room); (case ku => ktr_units))); (case kW => assumption); (case kA => omega); (case kB => omega)); intro r9 n9 h9 tk9 F9 N9 P9; obtain ⟨e9, t9, e8⟩ := P9; rw [e9] at N9; clear e9; subst e8; (try dsimp only); (try k_fold))) | walk1) | (dsimp only; (first | ((with_reducible show wpAny _ _ (call (Value.ref _) _) _ _ _); (k_here; k_dflt (refine' Spec.use (ind_ok _ _ _ _ _ _ ?kW ?kA ?kB) ?k1 ?k2 ?k3 ?k4 ?k5 ?kK ?kd ?ku ?_; (((case k4 => k_asm); (case k1 => k_asm); (case k2 => k_asm); (case k3 => k_asm); (case k5 => k_asm); (case kK => first | exact rfl | assumption); (case kd => ktr_room); (case ku => ktr_units))); (case kW => assumption); (case kA => omega); (case kB => omega)); intro r9 n9 h9 tk9 F9 N9 P9; obtain ⟨e9, t9, e8⟩ := P9; rw [e9] at N9; clear e9; subst e8; (try dsimp only); (try k_fold))) | walk1)) | (leave1; walk_say "STEP leave1"; try dsimp only) | fail "no step"))
    · rename News _ _ _ _ => N8
      rename Fr _ _ _ _ => F8
      simp only [List.push_toArray] at N8
      rename _ ≤ _ => hd9
      rename_i D' _ l9 _
      refine' ⟨⟨c.vs ++ [.ref D'], c.k + 1, (D', tupObj #[.int (1 + (i : Int)) _, .int (indentOf st (1 + (i : Int))) _, .int (indentOf st' (1 + (i : Int))) _] 0) :: c.tl⟩, _, _, _, _, rfl, F8, N8, ?a3, ?a4, ?a5, ?a6, ?a7, ?a8⟩
      case a3 => k_mem
      case a4 => exact List.forall_mem_cons.mpr ⟨by k_mem, List.forall_mem_cons.mpr ⟨by k_mem, fun p hp => .tail _ (.tail _ (.tail _ hp))⟩⟩
      case a5 => exact List.forall_mem_cons.mpr ⟨hcI, List.forall_mem_cons.mpr ⟨by k_ne, hIr⟩⟩
      case a6 => kst_all
      case a7 => kst_same
      case a8 =>
        refine ⟨List.forall_mem_cons.mpr ⟨by dsimp only; omega, g1⟩, ?_, by simp; omega⟩
        rw [notRows_succ, notStep, if_pos hd9]
        exact (g2.mono fun p hp => .tail _ hp).snoc (.head _)
    · refine' ⟨c, _, _, _, _, rfl, ?b1, ?b2, ?b3, ?b4, ?b5, ?b6, ?b7, ?b8⟩
      walk_at "mine leftb"
      case b5 => exact List.forall_mem_cons.mpr ⟨hcI, hIr⟩
      case b8 =>
        refine ⟨g1, ?_, by omega⟩
        rw [notRows_succ, notStep, if_neg (by omega)]; exact g2
  case fin =>
    rintro c u h tk ⟨g1, g2⟩ F' N'
    dsimp only [kstB] at F'
    dsimp only
    (repeat' (first | (k_unfold; (try dsimp only)) | (k_end; wrow_close) | walk1 | (dsimp only; walk1) | (leave1; walk_say "STEP leave1"; try dsimp only) | fail "no step"))
    refine hret _ _ _ _ (by k_asm) (by k_asm) (ExtT.of ((l', _) :: c.tl) hB (List.forall_mem_cons.mpr ⟨Nat.le_refl _, fun p hp => Nat.le_of_lt (g1 p hp)⟩) ⟨_, _, _, rfl, .head _, g2.mono fun p hp => .tail _ hp⟩)
end Mine
end

section
open PySem PySem.W PyProof.Rows
namespace Mine
theorem sec_QW4 {M : Model} {A : Around} {E : Value → Shared → Prop} {s : Shared} {env : Env} {p : Pos} {Q : Flow → Shared → Prop} (h : Q .next s) : wpAny M A (exec (.Pass p) env) Q E s := by
  w_top off
  k_with_none
  walk1
  exact h
end Mine
end
section
open PySem PySem.W PyProof.Rows
set_option maxRecDepth 100000
set_option maxHeartbeats 2000000
namespace Mine
def lessOf (st st' : Ws) : Bool := if st'.n ≤ st.n then false else if (st.cs.length : Int) ≤ 1 ∧ (st'.cs.length : Int) ≤ 1 then decide (st.nt ≤ st'.nt) else (rangeKs 2 (topSize st st' - 1).toNat).all fun ts => decide (indentOf st ts < indentOf st' ts)
theorem newsSub9 {h₀ h : Heap} {L : Addr} {a : Addr × Obj} {b : Led} (N : News h₀ L h (a :: b)) : News h₀ L h b := fun p hp => N p (.tail _ hp)
theorem less_ok (w : World) (x y : Addr) (st st' : Ws) (news : Led) (hW : WhiteAt news x st) (hW' : WhiteAt news y st') :
   Spec 5 w 122 [.ref x, .ref y] news (fun r news' => news' = news ∧ r = .bool (lessOf st st')) := by
  refine (hW).el fun d nr ct vs raw a1 a2 a3 a4 a5 b1 b2 b3 b4 b5 c1 c2 c3 c6 k1 k2 k3 h1 h2 h3 h4 h5 h6 h7 h8 => ?_
  refine (hW').el fun d' nr' ct' vs' raw' a1' a2' a3' a4' a5' b1' b2' b3' b4' b5' c1' c2' c3' c6' k1' k2' k3' h1' h2' h3' h4' h5' h6' h7' h8' => ?_
  unfold Spec
  k_fill
  intros; rename_i hret
  refine wpAny_call ?_
  k_dflt (walk_at "mine enter")
  (repeat' (first | (k_unfold; (try dsimp only)) | (k_end; wrow_close) | (first | ((with_reducible show wpAny _ _ (pyIter (Value.ref _)) _ _ _); (with_reducible refine holdIt ?_)) | ((with_reducible show wpAny _ _ (call (Value.ref _) _) _ _ _); (k_here; k_dflt (refine' Spec.use (lrs_ok _ _ _ _ ?kW) ?k1 ?k2 ?k3 ?k4 ?k5 ?kK ?kd ?ku ?_; (((case k4 => k_asm); (case k1 => k_asm); (case k2 => k_asm); (case k3 => k_asm); (case k5 => k_asm); (case kK => first | exact rfl | assumption); (case kd => ktr_room); (case ku => ktr_units))); (case kW => assumption)); intro r9 n9 h9 tk9 F9 N9 P9; obtain ⟨e9, t9, e8⟩ := P9; rw [e9] at N9; clear e9; subst e8; (try dsimp only); (try k_fold))) | walk1) | (dsimp only; (first | ((with_reducible show wpAny _ _ (pyIter (Value.ref _)) _ _ _); (with_reducible refine holdIt ?_)) | ((with_reducible show wpAny _ _ (call (Value.ref _) _) _ _ _); (k_here; k_dflt (refine' Spec.use (lrs_ok _ _ _ _ ?kW) ?k1 ?k2 ?k3 ?k4 ?k5 ?kK ?kd ?ku ?_; (((case k4 => k_asm); (case k1 => k_asm); (case k2 => k_asm); (case k3 => k_asm); (case k5 => k_asm); (case kK => first | exact rfl | assumption); (case kd => ktr_room); (case ku => ktr_units))); (case kW => assumption)); intro r9 n9 h9 tk9 F9 N9 P9; obtain ⟨e9, t9, e8⟩ := P9; rw [e9] at N9; clear e9; subst e8; (try dsimp only); (try k_fold))) | walk1)) | (leave1; walk_say "STEP leave1"; try dsimp only) | fail "no step"))
  · refine hret _ _ _ _ (by k_asm) (by k_asm) ⟨rfl, by unfold lessOf; rw [if_pos (by assumption)]⟩
  · refine hret _ _ _ _ (by k_asm) (by k_asm) ⟨rfl, by unfold lessOf; rw [if_neg (by assumption), if_pos (by constructor <;> omega)]⟩
  · unfold Hold
    rename IsRange _ _ _ _ _ _ _ _ => rg
    have hns : lessOf st st' = (rangeKs 2 (topSize st st' - 1).toNat).all fun ts => decide (indentOf st ts < indentOf st' ts) := by
      unfold lessOf
      rw [if_neg (by omega), if_neg (by omega)]
    refine' loopRange (σ := Unit) (fun _ => news) (fun _ => []) [] (fun I i _ => ∀ ts ∈ rangeKs 2 i, indentOf st ts < indentOf st' ts) (fun _ => ∀ ts ∈ rangeKs 2 (topSize st st' - 1).toNat, indentOf st ts < indentOf st' ts) () rfl rg (small_one (by omega) (by omega) (by omega) (by omega)) (rangeSize_nat _ _) (by k_asm) (by k_asm) ?hk ?hp ?turn ?done ?fin
    case hk => kst_all
    case hp => intro I hI ts h; simp [rangeKs] at h
    case done =>
      intro I c h
      have e : (max (max ((st.cs.length : Int) - 1) st.b) (max ((st'.cs.length : Int) - 1) st'.b) + 1 + 1 - 2).toNat = (topSize st st' - 1).toNat := by unfold topSize; omega
      rw [← e]; exact h
    case turn =>
      rintro I hI c i t u h tk o hn hP hne F' N' s₁ rfl
      dsimp only [kstB] at F'
      have sub : ∀ p ∈ news, p ∈ (I, o) :: news := fun p hp => .tail _ hp
      have hWc := hW.mono sub
      have hWc' := hW'.mono sub
      have m1 := sub _ h1
      have m2 := sub _ h2
      have m3 := sub _ h1'
      have m4 := sub _ h2'
      (repeat' (first | (k_unfold; (try dsimp only)) | (k_end; wrow_close) | (first | ((with_reducible show wpAny _ _ (call (Value.ref _) _) _ _ _); (k_here; k_dflt (refine' Spec.use (ind_ok _ _ _ _ _ _ ?kW ?kA ?kB) ?k1 ?k2 ?k3 ?k4 ?k5 ?kK ?kd ?ku ?_; (((case k4 => k_asm); (case k1 => k_asm); (case k2 => k_asm); (case k3 => k_asm); (case k5 => k_asm); (case kK => first | exact rfl | assumption); (case kd => ktr_room); (case ku => ktr_units))); (case kW => assumption); (case kA => omega); (case kB => omega)); intro r9 n9 h9 tk9 F9 N9 P9; obtain ⟨e9, t9, e8⟩ := P9; rw [e9] at N9; clear e9; subst e8; (try dsimp only); (try k_fold))) | walk1) | (dsimp only; (first | ((with_reducible show wpAny _ _ (call (Value.ref _) _) _ _ _); (k_here; k_dflt (refine' Spec.use (ind_ok _ _ _ _ _ _ ?kW ?kA ?kB) ?k1 ?k2 ?k3 ?k4 ?k5 ?kK ?kd ?ku ?_; (((case k4 => k_asm); (case k1 => k_asm); (case k2 => k_asm); (case k3 => k_asm); (case k5 => k_asm); (case kK => first | exact rfl | assumption); (case kd => ktr_room); (case ku => ktr_units))); (case kW => assumption); (case kA => omega); (case kB => omega)); intro r9 n9 h9 tk9 F9 N9 P9; obtain ⟨e9, t9, e8⟩ := P9; rw [e9] at N9; clear e9; subst e8; (try dsimp only); (try k_fold))) | walk1)) | (leave1; walk_say "STEP leave1"; try dsimp only) | fail "no step"))
      · dsimp only [Turn]
        (repeat' (first | (k_unfold; (try dsimp only)) | (k_end; wrow_close) | walk1 | (dsimp only; walk1) | (leave1; walk_say "STEP leave1"; try dsimp only) | fail "no step"))
        have hf : lessOf st st' = false := by
          rw [hns, Bool.eq_false_iff]
          intro ha
          rw [List.all_eq_true] at ha
          have hmem : (2 + (i : Int)) ∈ rangeKs 2 (topSize st st' - 1).toNat := List.mem_map.mpr ⟨i, List.mem_range.mpr (by unfold topSize; omega), rfl⟩
          have := of_decide_eq_true (ha _ hmem)
          omega
        refine hret _ _ _ _ (by k_asm) (newsSub9 (by k_asm : News _ _ _ ((I, o) :: news))) ⟨rfl, by rw [hf]⟩
      · refine' ⟨c, _, _, _, _, rfl, ?b1, ?b2, ?b3, ?b4, ?b5, ?b6, ?b7, ?b8⟩
        walk_at "mine leftb"
        case b5 => exact hne
        case b8 =>
          intro ts hts
          have e : rangeKs 2 (i + 1) = rangeKs 2 i ++ [2 + (i : Int)] := by simp [rangeKs, List.range_succ]
          rw [e] at hts
          rcases List.mem_append.mp hts with h | h
          · exact hP ts h
          · rw [List.mem_singleton.mp h]; omega
    case fin =>
      rintro c u h tk g1 F' N'
      dsimp only [kstB] at F'
      dsimp only
      (repeat' (first | (k_unfold; (try dsimp only)) | (k_end; wrow_close) | walk1 | (dsimp only; walk1) | (leave1; walk_say "STEP leave1"; try dsimp only) | fail "no step"))
      have ht : lessOf st st' = true := by
        rw [hns, List.all_eq_true]
        exact fun ts h => decide_eq_true (g1 ts h)
      refine hret _ _ _ _ (by k_asm) (by k_asm) ⟨rfl, by rw [ht]⟩
  · unfold Hold
    rename IsRange _ _ _ _ _ _ _ _ => rg
    have hns : lessOf st st' = (rangeKs 2 (topSize st st' - 1).toNat).all fun ts => decide (indentOf st ts < indentOf st' ts) := by
      unfold lessOf
      rw [if_neg (by omega), if_neg (by omega)]
    refine' loopRange (σ := Unit) (fun _ => news) (fun _ => []) [] (fun I i _ => ∀ ts ∈ rangeKs 2 i, indentOf st ts < indentOf st' ts) (fun _ => ∀ ts ∈ rangeKs 2 (topSize st st' - 1).toNat, indentOf st ts < indentOf st' ts) () rfl rg (small_one (by omega) (by omega) (by omega) (by omega)) (rangeSize_nat _ _) (by k_asm) (by k_asm) ?hk ?hp ?turn ?done ?fin
    case hk => kst_all
    case hp => intro I hI ts h; simp [rangeKs] at h
    case done =>
      intro I c h
      have e : (max (max ((st.cs.length : Int) - 1) st.b) (max ((st'.cs.length : Int) - 1) st'.b) + 1 + 1 - 2).toNat = (topSize st st' - 1).toNat := by unfold topSize; omega
      rw [← e]; exact h
    case turn =>
      rintro I hI c i t u h tk o hn hP hne F' N' s₁ rfl
      dsimp only [kstB] at F'
      have sub : ∀ p ∈ news, p ∈ (I, o) :: news := fun p hp => .tail _ hp
      have hWc := hW.mono sub
      have hWc' := hW'.mono sub
      have m1 := sub _ h1
      have m2 := sub _ h2
      have m3 := sub _ h1'
      have m4 := sub _ h2'
      (repeat' (first | (k_unfold; (try dsimp only)) | (k_end; wrow_close) | (first | ((with_reducible show wpAny _ _ (call (Value.ref _) _) _ _ _); (k_here; k_dflt (refine' Spec.use (ind_ok _ _ _ _ _ _ ?kW ?kA ?kB) ?k1 ?k2 ?k3 ?k4 ?k5 ?kK ?kd ?ku ?_; (((case k4 => k_asm); (case k1 => k_asm); (case k2 => k_asm); (case k3 => k_asm); (case k5 => k_asm); (case kK => first | exact rfl | assumption); (case kd => ktr_room); (case ku => ktr_units))); (case kW => assumption); (case kA => omega); (case kB => omega)); intro r9 n9 h9 tk9 F9 N9 P9; obtain ⟨e9, t9, e8⟩ := P9; rw [e9] at N9; clear e9; subst e8; (try dsimp only); (try k_fold))) | walk1) | (dsimp only; (first | ((with_reducible show wpAny _ _ (call (Value.ref _) _) _ _ _); (k_here; k_dflt (refine' Spec.use (ind_ok _ _ _ _ _ _ ?kW ?kA ?kB) ?k1 ?k2 ?k3 ?k4 ?k5 ?kK ?kd ?ku ?_; (((case k4 => k_asm); (case k1 => k_asm); (case k2 => k_asm); (case k3 => k_asm); (case k5 => k_asm); (case kK => first | exact rfl | assumption); (case kd => ktr_room); (case ku => ktr_units))); (case kW => assumption); (case kA => omega); (case kB => omega)); intro r9 n9 h9 tk9 F9 N9 P9; obtain ⟨e9, t9, e8⟩ := P9; rw [e9] at N9; clear e9; subst e8; (try dsimp only); (try k_fold))) | walk1)) | (leave1; walk_say "STEP leave1"; try dsimp only) | fail "no step"))
      · dsimp only [Turn]
        (repeat' (first | (k_unfold; (try dsimp only)) | (k_end; wrow_close) | walk1 | (dsimp only; walk1) | (leave1; walk_say "STEP leave1"; try dsimp only) | fail "no step"))
        have hf : lessOf st st' = false := by
          rw [hns, Bool.eq_false_iff]
          intro ha
          rw [List.all_eq_true] at ha
          have hmem : (2 + (i : Int)) ∈ rangeKs 2 (topSize st st' - 1).toNat := List.mem_map.mpr ⟨i, List.mem_range.mpr (by unfold topSize; omega), rfl⟩
          have := of_decide_eq_true (ha _ hmem)
          omega
        refine hret _ _ _ _ (by k_asm) (newsSub9 (by k_asm : News _ _ _ ((I, o) :: news))) ⟨rfl, by rw [hf]⟩
      · refine' ⟨c, _, _, _, _, rfl, ?b1, ?b2, ?b3, ?b4, ?b5, ?b6, ?b7, ?b8⟩
        walk_at "mine leftb"
        case b5 => exact hne
        case b8 =>
          intro ts hts
          have e : rangeKs 2 (i + 1) = rangeKs 2 i ++ [2 + (i : Int)] := by simp [rangeKs, List.range_succ]
          rw [e] at hts
          rcases List.mem_append.mp hts with h | h
          · exact hP ts h
          · rw [List.mem_singleton.mp h]; omega
    case fin =>
      rintro c u h tk g1 F' N'
      dsimp only [kstB] at F'
      dsimp only
      (repeat' (first | (k_unfold; (try dsimp only)) | (k_end; wrow_close) | walk1 | (dsimp only; walk1) | (leave1; walk_say "STEP leave1"; try dsimp only) | fail "no step"))
      have ht : lessOf st st' = true := by
        rw [hns, List.all_eq_true]
        exact fun ts h => decide_eq_true (g1 ts h)
      refine hret _ _ _ _ (by k_asm) (by k_asm) ⟨rfl, by rw [ht]⟩
end Mine
end

section
open PySem PySem.W PyProof.Rows
namespace Mine
theorem sec_QL1 {M : Model} {A : Around} {E : Value → Shared → Prop} {s : Shared} {env : Env} {p : Pos} {Q : Flow → Shared → Prop} (h : Q .next s) : wpAny M A (exec (.Pass p) env) Q E s := by
  w_top off
  k_with_none
  walk1
  exact h
end Mine
end
section
open PySem PySem.W PyProof.Rows
set_option maxRecDepth 100000
set_option maxHeartbeats 1000000
namespace Mine
def textRow (r : Int) : Str := Txt.mul (Str.ofString " ") r ++ Str.ofString "\t"
def whiteText (rows : List Int) (behind : Str) : Str := Txt.join (Str.ofString "") (rows.map textRow) ++ behind
def leadText (rows : List Int) (b : Int) : Str := Txt.join (Str.ofString "") (rows.map textRow) ++ Txt.mul (Str.ofString " ") b
theorem textRow_len {r : Int} (h0 : 0 ≤ r) (h1 : r ≤ 10) : (textRow r).length ≤ 11 := by
  unfold textRow; rw [Str.length_append]
  have e := len_mul (Str.ofString " ") r
  have e1 : (Str.ofString " ").length = 1 := by decide +kernel
  have e2 : (Str.ofString "\t").length = 1 := by decide +kernel
  rw [if_neg (fun c => absurd (of_decide_eq_true c) (by omega)), e1] at e
  rw [e2]; omega
theorem rows_sum {rows : List Int} (hr : ∀ r ∈ rows, 0 ≤ r ∧ r ≤ 10) : ((rows.map textRow).map (·.length)).sum ≤ 11 * rows.length := by
  induction rows with
  | nil => simp
  | cons r rs ih =>
    have h1 := textRow_len (hr r (.head _)).1 (hr r (.head _)).2
    have h2 := ih fun q hq => hr q (.tail _ hq)
    simp only [List.map_cons, List.sum_cons, List.length_cons] at h2 ⊢
    omega
theorem rows_len {rows : List Int} (hr : ∀ r ∈ rows, 0 ≤ r ∧ r ≤ 10) (hn : rows.length ≤ 3) : (Txt.join (Str.ofString "") (rows.map textRow)).length ≤ 33 := by
  have h := rows_sum hr
  show (Builtin.Str.glued (Str.ofString "") (rows.map textRow)).length ≤ 33
  rw [StrLaws.glued_eq_join]
  refine Nat.le_trans (StrLaws.join_length_le _ _) ?_
  have h3 : (Str.ofString "").length = 0 := by decide +kernel
  rw [h3]; omega
theorem rows_ok {rows : List Int} (hr : ∀ r ∈ rows, 0 ≤ r ∧ r ≤ 10) (hn : rows.length ≤ 3) : JoinOk (Str.ofString "") (rows.map textRow) = true := by
  have h := rows_sum hr
  exact joinOk_of_weight (by rw [List.length_map]; omega) (by decide +kernel)
theorem lead_ok (w : World) (lr : Addr) (vs : List Value) (rows : List Int) (k : Nat) (b : Int) (t5 : Tok) (news : Led) (hl : (lr, W.listOf vs.toArray k) ∈ news) (hi : IntsAre vs rows) (hn : rows.length ≤ 3) (hr : ∀ r ∈ rows, 0 ≤ r ∧ r ≤ 10) (hb : 0 ≤ b ∧ b ≤ 10) :
   Spec 5 w 148 [.ref lr, .int b t5] news (fun r news' => news' = news ∧ ∃ t, r = .str (leadText rows b) t) := by
  unfold Spec
  k_fill
  intro loose mean mg mb dp un gd cn cs a₁ ccd cl outer A₀ base h₀ L m s Q E B F X N T hk hd hu hret
  refine wpAny_call ?_
  k_dflt (walk_at "mine enter")
  (repeat' (first | (k_unfold; (try dsimp only)) | (k_end; wrow_close) | (first | ((with_reducible show wpAny _ _ (eval (Expr.ListComp _ _ _ _) _) _ _ _); (with_reducible refine holdIt ?_)) | walk1) | (dsimp only; (first | ((with_reducible show wpAny _ _ (eval (Expr.ListComp _ _ _ _) _) _ _ _); (with_reducible refine holdIt ?_)) | walk1)) | (leave1; walk_say "STEP leave1"; try dsimp only) | fail "no step"))
  unfold Hold
  rename_i g L' h' FG' N' B' X' T' _ _ _ F'
  have hil := hi.length
  refine LCg.ListComp_U F' rfl (by decide) rfl (by decide) rfl ?_
  walk1
  refine LCg.CompSrc.ledger rfl (by k_asm) (by k_asm) hl (by simp [sizeLine_eq]; omega) ?_
  intro g5
  refine compBy (fun i ys nw => nw = news ∧ StrsAre ys ((rows.take i).map textRow)) ⟨rfl, .nil⟩ ?_ ?_
  · rintro i v I oI C oC D m₂ ys nw h tk E' hlt hv ⟨rfl, hys⟩ hC hx F5 N5 off ne
    obtain ⟨r, t, rfl, hri⟩ := IntsAre.at hi i v (by simpa using hv)
    have hrr := hr r (List.mem_of_getElem? hri)
    (repeat' (first | (k_unfold; (try dsimp only)) | (k_end; wrow_close) | walk1 | (dsimp only; walk1) | (leave1; walk_say "STEP leave1"; try dsimp only) | fail "no step"))
    refine LCg.CompEnd.intro (by k_asm) N5 _ (fun p hp => hp) off (.inr ⟨_, hl, rfl, _, rfl⟩) ⟨rfl, ?_⟩
    rw [take_succ_of hri, List.map_append]
    exact strs_snoc hys
  · rintro ys nw ⟨rfl, hys⟩
    have e : rows.take vs.toArray.size = rows := by rw [List.size_toArray, hil]; exact List.take_length
    rw [e] at hys
    intro D h tk F5 N5 off
    (repeat' (first | (k_unfold; (try dsimp only)) | (k_end; wrow_close) | walk1 | (dsimp only; walk1) | (leave1; walk_say "STEP leave1"; try dsimp only) | fail "no step"))
    refine joinS N5 (.head _) hys (rows_ok hr hn) ?_
    intro t' k'
    replace N5 : News _ _ _ nw := fun p hp => N5 p (.tail _ hp)
    have hJ := rows_len hr hn
    (repeat' (first | (k_unfold; (try dsimp only)) | (k_end; wrow_close) | walk1 | (dsimp only; walk1) | (leave1; walk_say "STEP leave1"; try dsimp only) | fail "no step"))
    refine hret _ _ _ _ (by k_asm) (by k_asm) ⟨rfl, _, rfl⟩
end Mine
end

section
open PySem PySem.W PyProof.Rows
namespace Mine
theorem sec_QLF {M : Model} {A : Around} {E : Value → Shared → Prop} {s : Shared} {env : Env} {p : Pos} {Q : Flow → Shared → Prop} (h : Q .next s) : wpAny M A (exec (.Pass p) env) Q E s := by
  w_top off
  k_with_none
  walk1
  exact h
end Mine
end
section
open PySem PySem.W PyProof.Rows PySem.Calls PySem.Spec
set_option maxRecDepth 100000
namespace Mine
section
variable {prog : Program} {w : World} {A : Around} {E : Value → Shared → Prop} {s : Shared} {env : Env} {h₀ : Heap} {target : Expr} {body : List Stmt} {Q : Flow → Shared → Prop}
def TurnS (Q : Flow → Shared → Prop) (R : Shared → Prop) (f : Flow) (s : Shared) : Prop :=
  match f with
  | .ret v => Q (.ret v) s
  | .brk => Q .next s
  | _ => R s
/-- a loop by an invariant over whole states -/
def LoopS (prog : Program) (w : World) (A : Around) (env : Env) (target : Expr) (body : List Stmt) (Q : Flow → Shared → Prop) (E : Value → Shared → Prop) (it : Value) (s₂ : Shared) : Prop :=
  ∃ (I : Addr) (fp wr : List Addr) (n : Nat) (P Md : Nat → Value → Heap → Prop) (St : Nat → Heap → Prop) (J : Nat → Shared → Prop),
    it = .ref I ∧ KTurns prog w A target I fp wr n P Md St ∧ St 0 s₂.heap ∧ J 0 s₂ ∧
    (∀ i s' h' tk, J i s' → (∀ b o, b ∉ wr → s'.heap.get? b = some o → h'.get? b = some o) → J i { s' with heap := h', toks := tk }) ∧
    (∀ i v s', i < n → P i v s'.heap → J i s' → St (i + 1) s'.heap → wpAny (model prog w) A (assign target env v) (fun _ s₃ => wpAny (model prog w) A (execs body env) (TurnS Q fun s₄ => J (i + 1) s₄ ∧ ∀ b ∈ fp, ∀ o, s'.heap.get? b = some o → s₄.heap.get? b = some o) E s₃) E s') ∧
    ∀ s', J n s' → Q .next s'
theorem For_S {iter : Expr} {pos : Pos}
    (h : wpAny (model prog w) A (eval iter env) (fun xv s₁ => wpAny (model prog w) A (pyIter xv) (fun it s₂ => LoopS prog w A env target body Q E it s₂) E s₁) E s)
    (hs : ∀ x, foldedSetIterable iter env x = pure x := by intro _; rfl)
    (hE : PassesOwn (model prog w) A env E := by passes_own) :
    wpAny (model prog w) A (exec (.For target iter body [] pos) env) Q E s := by
  refine wpAny_For (wpAny_mono h (fun xv s₁ h₁ => wpAny_mono h₁ (fun it s₂ h₂ => ?_) fun _ _ e => e) fun _ _ e => e) hs
  obtain ⟨I, fp, wr, n, P, Md, St, J, rfl, W, hst, h0, hmove, step, hQ⟩ := h₂
  refine codeAny_forLoop_any (fun k s' => ∃ i, St i s'.heap ∧ J i s' ∧ i ≤ n ∧ k = n + 1 - i) ?_ (n + 1) ⟨0, hst, h0, Nat.zero_le _, rfl⟩
  rintro k s' ⟨i, hst', hJ, hi, rfl⟩
  by_cases hlt : i < n
  · refine W.item i _ _ _ hlt hst' fun v h₁ tk₁ hMd hk₁ => ?_
    refine W.go i v _ _ _ hMd fun h₂ hP hst₂ hk₂ => ?_
    have hJ2 := hmove i s' h₂ tk₁ hJ fun b o hb x => hk₂ b o hb (hk₁ b o hb x)
    refine wpAny_mono (step i v { s' with heap := h₂, toks := tk₁ } hlt hP hJ2 hst₂) (fun _ s₃ h₃ => wpAny_passesOwn hE (wpAny_mono h₃ (fun f s₄ h₄ => ?_) fun _ _ e => e)) hE
    cases f with
    | ret v => exact h₄
    | brk => exact h₄
    | next => exact ⟨n + 1 - (i + 1), by omega, i + 1, W.frame _ _ _ hst₂ h₄.2, h₄.1, hlt, rfl⟩
    | cont => exact ⟨n + 1 - (i + 1), by omega, i + 1, W.frame _ _ _ hst₂ h₄.2, h₄.1, hlt, rfl⟩
  · have hin : i = n := by omega
    subst hin
    refine W.done _ _ _ hst' fun h₁ tk₁ hk₁ => wpAny_execs_nil ?_
    exact hQ _ (hmove i s' h₁ tk₁ hJ hk₁)
/-- what a turn leaves -/
inductive LeftK {σ : Type} (h₀ : Heap) (L : Addr) (m₀ : Str → Option Value) (stored : List Str) (Ld : σ → Led) (ps : σ → List (Str × Value)) (wr : List Addr) (own : Led) (Rel : Shared → Prop) (P : σ → Prop) (s₂ : Shared) : Prop
  | intro (c : σ) (m' : Str → Option Value) (nw : Led) (h0 : Rel s₂) (h1 : Fr h₀ L s₂.heap m') (h2 : News h₀ L s₂.heap nw) (h3 : (∀ p ∈ own, p ∈ nw)) (h4 : (∀ p ∈ Ld c, p ∈ nw)) (h5 : (∀ p ∈ Ld c, p.1 ∉ wr)) (h6 : (∀ p ∈ ps c, m' p.1 = some p.2)) (h7 : (∀ z, (∀ p ∈ ps c, z ≠ p.1) → stored.contains z = false → m' z = m₀ z)) (h8 : P c) : LeftK h₀ L m₀ stored Ld ps wr own Rel P s₂
def TurnK {σ : Type} (h₀ : Heap) (L : Addr) (m₀ : Str → Option Value) (stored : List Str) (Ld : σ → Led) (ps : σ → List (Str × Value)) (wr : List Addr) (own : Led) (Rel : Shared → Prop) (P Fin : σ → Prop) (Q : Flow → Shared → Prop) (f : Flow) (s₂ : Shared) : Prop :=
  match f with
  | .ret v => Q (.ret v) s₂
  | .brk => LeftK h₀ L m₀ stored Ld ps wr own Rel Fin s₂
  | _ => LeftK h₀ L m₀ stored Ld ps wr own Rel P s₂
theorem frT {L : Addr} {h : Heap} {ps : List (Str × Value)} {stored : List Str} {m₀ m₁ : Str → Option Value} (h1 : ∀ p ∈ ps, m₁ p.1 = some p.2) (h2 : ∀ z, (∀ p ∈ ps, z ≠ p.1) → stored.contains z = false → m₁ z = m₀ z)
    (F : Fr h₀ L h m₁) : Fr h₀ L h (kstB (fun z => if stored.contains z then m₁ z else m₀ z) ps) := by
  have em : (kstB (fun z => if stored.contains z then m₁ z else m₀ z) ps) = m₁ := by
    funext y
    refine kstB_eq h1 fun hy => ?_
    cases hc : stored.contains y with
    | true => simp
    | false => simp [h2 y hy hc]
  rw [em]; exact F
theorem loopK {σ : Type} {I : Addr} {fp wr : List Addr} {n : Nat} {P Md : Nat → Value → Heap → Prop} {St : Nat → Heap → Prop} {m₀ : Str → Option Value} (Ld : σ → Led) (ps : σ → List (Str × Value)) (stored : List Str) (PP : Nat → σ → Prop) (Fin : σ → Prop) (Rel : Shared → Prop) (c₀ : σ)
    (W : KTurns prog w A target I fp wr n P Md St) (hst : St 0 s.heap) (hex : ∀ i h, St i h → ∀ b ∈ fp, ∃ o, h.get? b = some o) (hLf : env.locals ∉ fp) (hwr : ∀ b ∈ wr, h₀.get? b = none)
    (hR0 : Rel s) (hRm : ∀ s' h tk, Rel s' → Rel { s' with heap := h, toks := tk })
    (F : Fr h₀ env.locals s.heap m₀) (N : News h₀ env.locals s.heap (Ld c₀)) (hoff : ∀ p ∈ Ld c₀, p.1 ∉ wr) (hk : ∀ p ∈ ps c₀, m₀ p.1 = some p.2) (hp : PP 0 c₀)
    (turn : ∀ (c : σ) i v (u : Str → Option Value) s₁ own, i < n → P i v s₁.heap → PP i c → (∀ p ∈ Ld c, p.1 ∉ wr) → (∀ p ∈ own, p.1 ∈ fp) → (∀ b ∈ fp, h₀.get? b = none → ∃ o, (b, o) ∈ own) → Rel s₁ →
      Fr h₀ env.locals s₁.heap (kstB (fun z => if stored.contains z then u z else m₀ z) (ps c)) → News h₀ env.locals s₁.heap (Ld c ++ own) →
      wpAny (model prog w) A (assign target env v) (fun _ s₂ => wpAny (model prog w) A (execs body env) (TurnK h₀ env.locals m₀ stored Ld ps wr own Rel (PP (i + 1)) Fin Q) E s₂) E s₁)
    (done : ∀ c, PP n c → Fin c)
    (fin : ∀ (c : σ) (u : Str → Option Value) s₁, Fin c → Rel s₁ → Fr h₀ env.locals s₁.heap (kstB (fun z => if stored.contains z then u z else m₀ z) (ps c)) → News h₀ env.locals s₁.heap (Ld c) → Q .next s₁) :
    LoopS prog w A env target body Q E (.ref I) s := by
  have hLw : env.locals ∉ wr := fun h => hLf (W.sub _ h)
  have old : ∀ b o, h₀.get? b = some o → b ∉ wr := fun b o e hb => by rw [hwr b hb] at e; cases e
  let J : Nat → Shared → Prop := fun i s' => ∃ c m, Rel s' ∧ Fr h₀ env.locals s'.heap m ∧ News h₀ env.locals s'.heap (Ld c) ∧ (∀ p ∈ Ld c, p.1 ∉ wr) ∧ (∀ p ∈ ps c, m p.1 = some p.2) ∧ (∀ z, (∀ p ∈ ps c, z ≠ p.1) → stored.contains z = false → m z = m₀ z) ∧ PP i c
  refine ⟨I, fp, wr, n, P, Md, St, J, rfl, W, hst, ⟨c₀, m₀, hR0, F, N, hoff, hk, fun _ _ _ => rfl, hp⟩, ?_, ?_, ?_⟩
  · rintro i s' h' tk ⟨c, m, hR, F', N', ho, h1, h2, hP⟩ hkp
    exact ⟨c, m, hRm _ _ _ hR, ⟨F'.ns.at' fun o e => hkp _ o hLw e, fun b o e => hkp b o (old b o e) (F'.keep b o e), F'.above⟩, fun p hp => ⟨hkp _ _ (ho p hp) (N' p hp).1, (N' p hp).2⟩, ho, h1, h2, hP⟩
  · rintro i v s' hi hP ⟨c, m, hR, F', N', ho, h1, h2, hPP⟩ hst'
    have Nown : News h₀ env.locals s'.heap (PyProof.Rows.ownOf h₀ fp s'.heap) := news_ownOf hLf
    refine wpAny_mono (turn c i v m s' (PyProof.Rows.ownOf h₀ fp s'.heap) hi hP hPP ho ownOf_sub (fun b hb hn => let ⟨o, e⟩ := hex _ _ hst' b hb; ⟨o, mem_ownOf hb hn e⟩) hR (frT h1 h2 F') (N'.append Nown))
      (fun _ s₃ h₃ => wpAny_mono h₃ (fun f s₄ h₄ => ?_) fun _ _ e => e) fun _ _ e => e
    have go : LeftK h₀ env.locals m₀ stored Ld ps wr (PyProof.Rows.ownOf h₀ fp s'.heap) Rel (PP (i + 1)) s₄ → J (i + 1) s₄ ∧ ∀ b ∈ fp, ∀ o, s'.heap.get? b = some o → s₄.heap.get? b = some o := by
      rintro ⟨c', m', nw, hR', F₄, N₄, hown, hsub, ho', h1', h2', hP'⟩
      refine ⟨⟨c', m', hR', F₄, fun p hp => N₄ _ (hsub p hp), ho', h1', h2', hP'⟩, fun b hb o e => ?_⟩
      cases hn : h₀.get? b with
      | some o₀ =>
        have : o₀ = o := by have q := F'.keep b o₀ hn; rw [e] at q; exact (Option.some.inj q).symm
        exact this ▸ F₄.keep b o₀ hn
      | none => exact (N₄ _ (hown _ (mem_ownOf hb hn e))).1
    cases f with
    | ret v => exact h₄
    | brk =>
      obtain ⟨c', m', nw, hR', F₄, N₄, hown, hsub, ho', h1', h2', hP'⟩ := h₄
      exact fin c' m' s₄ hP' hR' (frT h1' h2' F₄) fun p hp => N₄ _ (hsub p hp)
    | next => exact go h₄
    | cont => exact go h₄
  · rintro s' ⟨c, m, hR, F', N', ho, h1, h2, hP⟩
    exact fin c m s' (done c hP) hR (frT h1 h2 F') N'
end
end Mine
end

section
open PySem PySem.W PyProof.Rows
namespace Mine
theorem sec_QTA {M : Model} {A : Around} {E : Value → Shared → Prop} {s : Shared} {env : Env} {p : Pos} {Q : Flow → Shared → Prop} (h : Q .next s) : wpAny M A (exec (.Pass p) env) Q E s := by
  w_top off
  k_with_none
  walk1
  exact h
end Mine
end
section
open PySem PySem.W PyProof.Rows PySem.Calls PySem.Spec
set_option maxRecDepth 100000
namespace Mine
theorem tupIs {h₀ h : Heap} {L a : Addr} {news : Led} {items : Array Value} {n : Nat} (N : News h₀ L h news) (hm : (a, tupObj items n) ∈ news) : h.IsTuple a items := ⟨_, (N _ hm).1, rfl, n, rfl⟩
section loops
variable {prog : Program} {w : World} {A : Around} {E : Value → Shared → Prop} {s : Shared} {env : Env} {h₀ : Heap} {x : Str} {body : List Stmt} {Q : Flow → Shared → Prop}
/-- a loop over a tuple of the ledger's -/
theorem loopTup {σ : Type} {ax : Addr} {vs : List Value} {k : Nat} {m₀ : Str → Option Value} (Ld : σ → Led) (ps : σ → List (Str × Value)) (stored : List Str) (P : Addr → Nat → σ → Prop) (Fin : σ → Prop) (c₀ : σ)
    (hh : A.handled = none) (hin : ∀ c, (ax, tupObj vs.toArray k) ∈ Ld c) (F : Fr h₀ env.locals s.heap m₀) (N : News h₀ env.locals s.heap (Ld c₀)) (hk : ∀ p ∈ ps c₀, m₀ p.1 = some p.2)
    (hp : ∀ I, (∀ p ∈ Ld c₀, p.1 < I) → P I 0 c₀)
    (turn : ∀ I, (∀ p ∈ Ld c₀, p.1 < I) → ∀ (c : σ) i v (u : Str → Option Value) h tk o, vs[i]? = some v → P I i c → (∀ p ∈ Ld c, p.1 ≠ I) →
      Fr h₀ env.locals h (fun y => if y = x then some v else kstB (fun z => if stored.contains z then u z else m₀ z) (ps c) y) → News h₀ env.locals h ((I, o) :: Ld c) →
      ∀ s₁ : Shared, s₁ = { s with heap := h, toks := tk } → wpAny (model prog w) A (execs body env) (Turn h₀ env.locals x m₀ stored Ld ps I o s₁ (P I (i + 1)) Fin Q) E s₁)
    (done : ∀ I c, P I vs.length c → Fin c)
    (fin : ∀ (c : σ) (u : Str → Option Value) h tk, Fin c → Fr h₀ env.locals h (fun y => if y = x then u y else kstB (fun z => if stored.contains z then u z else m₀ z) (ps c) y) → News h₀ env.locals h (Ld c) → Q .next { s with heap := h, toks := tk }) :
    wpAny (model prog w) A (pyIter (.ref ax)) (fun it s₂ => LoopAtV prog w A h₀ env x body Q E it s₂) E s := by
  have hlt : ∀ p ∈ Ld c₀, p.1 < s.heap.objs.size := fun p hp => Heap.lt_size (N p hp).1
  have hax := N _ (hin c₀)
  have hne : ax ≠ s.heap.objs.size := Nat.ne_of_lt (Heap.lt_size hax.1)
  refine wpAny_pyIter_tuple (tupIs N (hin c₀)) ?_
  have Wk := Walks.tuple (prog := prog) (w := w) hh s.heap.objs.size ax hne vs.toArray
  have hIL : env.locals ≠ s.heap.objs.size := fun e => absurd F.ns.lt (e ▸ Nat.lt_irrefl _)
  have hI0 : h₀.get? s.heap.objs.size = none := next_is_new F
  generalize hI : s.heap.objs.size = I at *
  let J : Nat → (Str → Option Value) → Led → Prop := fun i m nx => ∃ c : σ, nx = Ld c ∧ (∀ p ∈ ps c, m p.1 = some p.2) ∧ (∀ z, z ≠ x → (∀ p ∈ ps c, z ≠ p.1) → stored.contains z = false → m z = m₀ z) ∧ P I i c
  have hN' : News h₀ env.locals (s.heap.push { cls := .type "tuple_iterator", data := .fields #[.ref ax, .int 0 0] }) (Ld c₀) := fun p hp => ⟨Heap.get?_push_of_some _ (N p hp).1, (N p hp).2⟩
  have hget : (s.heap.push { cls := .type "tuple_iterator", data := .fields #[.ref ax, .int 0 0] }).get? I = some { cls := .type "tuple_iterator", data := .fields #[.ref ax, .int 0 0] } := hI ▸ Heap.get?_push_size _ rfl
  refine ⟨I, [I, ax], [I], vs.toArray.size, _, _, m₀, Ld c₀, J, rfl, Wk, ?_, ?_, ?_, ⟨⟨_, hget, rfl, rfl⟩, tupIs hN' (hin c₀)⟩, F.push _, hN', ⟨c₀, rfl, hk, fun _ _ _ _ => rfl, hp I hlt⟩, ?_, ?_⟩
  · intro hm
    rcases List.mem_cons.mp hm with e | hm
    · exact hIL e
    · exact hax.2.1 (List.mem_singleton.mp hm).symm
  · intro b hb; rw [List.mem_singleton.mp hb]; exact hI0
  · intro p hp hm; exact absurd (hlt p hp) (by rw [List.mem_singleton.mp hm]; exact Nat.lt_irrefl _)
  · rintro i v m₁ news₁ s₁ own ⟨hh1, tk, rfl⟩ hi hP ⟨c, rfl, h1, h2, hPc⟩ hoff hown hget1 hall hst' F₁ N₁
    have hne1 : ∀ p ∈ Ld c, p.1 ≠ I := fun p hp e => hoff p hp (by rw [e]; exact .head _)
    obtain ⟨o, ho, _⟩ := hst'.1
    have hmem : (I, o) ∈ own := hall I (.head _) hI0 o ho
    have hown' : ∀ p ∈ own, p = (I, o) ∨ p = (ax, tupObj vs.toArray k) := fun p hp => by
      have e2 := hget1 p hp
      rcases List.mem_cons.mp (hown p hp) with e1 | e1
      · rw [e1] at e2
        exact .inl (Prod.ext e1 (Option.some.inj (ho.symm.trans e2)).symm)
      · have e1 := List.mem_singleton.mp e1
        rw [e1] at e2
        have e3 := (N₁ _ (List.mem_append.mpr (.inr (hin c)))).1
        exact .inr (Prod.ext e1 (Option.some.inj (e3.symm.trans e2)).symm)
    have N₂ : News h₀ env.locals hh1 ((I, o) :: Ld c) := fun p hp => by
      rcases List.mem_cons.mp hp with rfl | hp
      · exact N₁ _ (List.mem_append.mpr (.inl hmem))
      · exact N₁ _ (List.mem_append.mpr (.inr hp))
    refine wpAny_mono (turn I hlt c i v m₁ hh1 tk o (by simpa using hP) hPc hne1 (kst_fr h1 h2 F₁) N₂ _ rfl) (fun f s₂ p => ?_) fun _ _ e => e
    have go : Left h₀ env.locals x m₀ stored Ld ps I o { s with heap := hh1, toks := tk } (P I (i + 1)) s₂ → LoopStepU h₀ env.locals [I] own (J (i + 1)) { s with heap := hh1, toks := tk } .next s₂ := by
      rintro ⟨c', h', tk', m', nw, rfl, F', N', hmI, hsub, hne', hps, hrest, hP'⟩
      refine ⟨rfl, h', tk', m', Ld c', rfl, F', fun p hp => ?_, fun p hp hm => hne' p hp (List.mem_singleton.mp hm), ⟨c', rfl, hps, hrest, hP'⟩⟩
      rcases List.mem_append.mp hp with hp | hp
      · rcases hown' p hp with e | e
        · rw [e]; exact N' _ hmI
        · rw [e]; exact N' _ (hsub _ (hin c'))
      · exact N' _ (hsub p hp)
    cases f with
    | ret v => exact .ret p
    | brk =>
      obtain ⟨c', h', tk', m', nw, rfl, F', N', hmI, hsub, hne', hps, hrest, hP'⟩ := p
      exact .brk (fin c' m' h' tk' hP' (kst_frOut hps hrest F') (fun p hp => N' _ (hsub p hp)))
    | next => exact .next (go p)
    | cont => exact .cont (go p)
  · rintro h' tk m' news' F' N' _ ⟨c, rfl, hps, hrest, hP'⟩
    exact fin c m' h' tk (done I c (by simpa using hP')) (kst_frOut hps hrest F') N'
end loops
end Mine
end

section
open PySem PySem.W PyProof.Rows
namespace Mine
theorem sec_QLG {M : Model} {A : Around} {E : Value → Shared → Prop} {s : Shared} {env : Env} {p : Pos} {Q : Flow → Shared → Prop} (h : Q .next s) : wpAny M A (exec (.Pass p) env) Q E s := by
  w_top off
  k_with_none
  walk1
  exact h
end Mine
end
section
open PySem PySem.W PyProof.Rows PySem.Calls PySem.Spec
set_option maxRecDepth 100000
namespace Mine
section
variable {prog : Program} {w : World} {A : Around} {E : Value → Shared → Prop} {s : Shared} {env : Env} {h₀ : Heap} {target : Expr} {body : List Stmt} {Q : Flow → Shared → Prop}
theorem loop1K {σ : Type} {fp : List Addr} {n : Nat} {P Md : Nat → Value → Heap → Prop} {St : Nat → Heap → Prop} {m₀ : Str → Option Value} {oI : Obj} (Ld : σ → Led) (ps : σ → List (Str × Value)) (stored : List Str) (PP : Addr → Nat → σ → Prop) (Fin : σ → Prop) (Rel : Shared → Prop) (c₀ : σ)
    (W : KTurns prog w A target s.heap.objs.size fp [s.heap.objs.size] n P Md St) (hst : St 0 (s.heap.push oI)) (hex : ∀ i h, St i h → ∃ o, h.get? s.heap.objs.size = some o) (hIf : s.heap.objs.size ∈ fp)
    (hfp : ∀ b ∈ fp, b = s.heap.objs.size ∨ ((∃ o, ∀ c, (b, o) ∈ Ld c) ∧ ∀ i h, St i h → ∃ o, h.get? b = some o))
    (hR0 : Rel s) (hRm : ∀ s' h tk, Rel s' → Rel { s' with heap := h, toks := tk })
    (F : Fr h₀ env.locals s.heap m₀) (N : News h₀ env.locals s.heap (Ld c₀)) (hk : ∀ p ∈ ps c₀, m₀ p.1 = some p.2) (hp : ∀ I, (∀ p ∈ Ld c₀, p.1 < I) → PP I 0 c₀)
    (turn : ∀ I, (∀ p ∈ Ld c₀, p.1 < I) → ∀ (c : σ) i v (u : Str → Option Value) s₁ o, i < n → P i v s₁.heap → PP I i c → (∀ p ∈ Ld c, p.1 ≠ I) → Rel s₁ →
      Fr h₀ env.locals s₁.heap (kstB (fun z => if stored.contains z then u z else m₀ z) (ps c)) → News h₀ env.locals s₁.heap ((I, o) :: Ld c) →
      wpAny (model prog w) A (assign target env v) (fun _ s₂ => wpAny (model prog w) A (execs body env) (TurnK h₀ env.locals m₀ stored Ld ps [I] [(I, o)] Rel (PP I (i + 1)) Fin Q) E s₂) E s₁)
    (done : ∀ I c, PP I n c → Fin c)
    (fin : ∀ (c : σ) (u : Str → Option Value) s₁, Fin c → Rel s₁ → Fr h₀ env.locals s₁.heap (kstB (fun z => if stored.contains z then u z else m₀ z) (ps c)) → News h₀ env.locals s₁.heap (Ld c) → Q .next s₁) :
    LoopS prog w A env target body Q E (.ref s.heap.objs.size) { s with heap := s.heap.push oI } := by
  have hlt : ∀ p ∈ Ld c₀, p.1 < s.heap.objs.size := fun p hp => Heap.lt_size (N p hp).1
  have hIL : env.locals ≠ s.heap.objs.size := fun e => absurd F.ns.lt (e ▸ Nat.lt_irrefl _)
  have hI0 : h₀.get? s.heap.objs.size = none := next_is_new F
  refine loopK (σ := σ) Ld ps stored (PP s.heap.objs.size) Fin Rel c₀ W hst ?_ ?_ (fun b hb => by rw [List.mem_singleton.mp hb]; exact hI0) (hRm s _ s.toks hR0) hRm (F.push _)
    (fun p hp => ⟨Heap.get?_push_of_some _ (N p hp).1, (N p hp).2⟩) (fun p hp hm => absurd (hlt p hp) (by rw [List.mem_singleton.mp hm]; exact Nat.lt_irrefl _)) hk (hp _ hlt) ?_ (done _) fin
  · intro i h st b hb
    rcases hfp b hb with rfl | hb
    · exact hex i h st
    · exact hb.2 i h st
  · intro hm
    rcases hfp _ hm with e | ⟨⟨o, hb⟩, _⟩
    · exact hIL e
    · exact (N _ (hb c₀)).2.1 rfl
  · intro c i v u s₁ own hi hP hPc hoff hown hall hR F₁ N₁
    obtain ⟨o, ho⟩ := hall _ hIf hI0
    have hget : s₁.heap.get? s.heap.objs.size = some o := (N₁ _ (List.mem_append.mpr (.inr ho))).1
    have hne : ∀ p ∈ Ld c, p.1 ≠ s.heap.objs.size := fun p hp e => hoff p hp (by rw [e]; exact .head _)
    have N₂ : News h₀ env.locals s₁.heap ((s.heap.objs.size, o) :: Ld c) := fun p hp => by
      rcases List.mem_cons.mp hp with rfl | hp
      · exact N₁ _ (List.mem_append.mpr (.inr ho))
      · exact N₁ _ (List.mem_append.mpr (.inl hp))
    have own_is : ∀ p ∈ own, p = (s.heap.objs.size, o) ∨ ∀ c, p ∈ Ld c := by
      intro p hp
      have g := (N₁ p (List.mem_append.mpr (.inr hp))).1
      rcases hfp _ (hown p hp) with e | ⟨⟨o', hb⟩, _⟩
      · refine .inl (Prod.ext e ?_)
        rw [e] at g
        exact Option.some.inj (g.symm.trans hget)
      · refine .inr fun c' => ?_
        have g2 := (N₁ _ (List.mem_append.mpr (.inl (hb c)))).1
        have : p = (p.1, o') := Prod.ext rfl (Option.some.inj (g.symm.trans g2))
        rw [this]; exact hb c'
    have up : ∀ {T : σ → Prop} {s₂ : Shared}, LeftK h₀ env.locals m₀ stored Ld ps [s.heap.objs.size] [(s.heap.objs.size, o)] Rel T s₂ → LeftK h₀ env.locals m₀ stored Ld ps [s.heap.objs.size] own Rel T s₂ := by
      rintro T s₂ ⟨c', m', nw, hR', F', N', hown', hsub, ho', h1, h2, hP'⟩
      refine ⟨c', m', nw, hR', F', N', fun p hp => ?_, hsub, ho', h1, h2, hP'⟩
      rcases own_is p hp with rfl | hb
      · exact hown' _ (.head _)
      · exact hsub _ (hb c')
    refine wpAny_mono (turn _ hlt c i v u s₁ o hi hP hPc hne hR F₁ N₂) (fun _ s₂ h₂ => wpAny_mono h₂ (fun f s₃ h₃ => ?_) fun _ _ e => e) fun _ _ e => e
    cases f with
    | ret v => exact h₃
    | brk => exact up h₃
    | next => exact up h₃
    | cont => exact up h₃
theorem letGo_name {x : Str} {p : Pos} {I v : Value} {Q : Unit → Shared → Prop} (h : Q () s) : wpAny (model prog w) A (letOwnedTupleGo (.Name x p) I v) Q E s := wpAny_pure h
/-- a range -/
theorem rangeK {σ : Type} {x : Str} {px : Pos} {r : Addr} {a₀ b₀ : Int} {t₀ u₀ v₀ : Tok} {n : Nat} {m₀ : Str → Option Value} (Ld : σ → Led) (ps : σ → List (Str × Value)) (stored : List Str) (PP : Addr → Nat → σ → Prop) (Fin : σ → Prop) (Rel : Shared → Prop) (c₀ : σ)
    (hh : A.handled = none) (hr : IsRange s.heap r a₀ b₀ 1 t₀ u₀ v₀) (hsmall : Builtin.Range.small a₀ b₀ 1 = true) (hn : Builtin.Range.rangeSize a₀ b₀ 1 = (n : Int))
    (hR0 : Rel s) (hRm : ∀ s' h tk, Rel s' → Rel { s' with heap := h, toks := tk })
    (F : Fr h₀ env.locals s.heap m₀) (N : News h₀ env.locals s.heap (Ld c₀)) (hk : ∀ p ∈ ps c₀, m₀ p.1 = some p.2) (hp : ∀ I, (∀ p ∈ Ld c₀, p.1 < I) → PP I 0 c₀)
    (turn : ∀ I, (∀ p ∈ Ld c₀, p.1 < I) → ∀ (c : σ) i t (u : Str → Option Value) s₁ o, i < n → PP I i c → (∀ p ∈ Ld c, p.1 ≠ I) → Rel s₁ →
      Fr h₀ env.locals s₁.heap (kstB (fun z => if stored.contains z then u z else m₀ z) (ps c)) → News h₀ env.locals s₁.heap ((I, o) :: Ld c) →
      wpAny (model prog w) A (assign (.Name x px) env (.int (a₀ + (i : Int)) t)) (fun _ s₂ => wpAny (model prog w) A (execs body env) (TurnK h₀ env.locals m₀ stored Ld ps [I] [(I, o)] Rel (PP I (i + 1)) Fin Q) E s₂) E s₁)
    (done : ∀ I c, PP I n c → Fin c)
    (fin : ∀ (c : σ) (u : Str → Option Value) s₁, Fin c → Rel s₁ → Fr h₀ env.locals s₁.heap (kstB (fun z => if stored.contains z then u z else m₀ z) (ps c)) → News h₀ env.locals s₁.heap (Ld c) → Q .next s₁) :
    wpAny (model prog w) A (pyIter (.ref r)) (fun it s₂ => LoopS prog w A env (.Name x px) body Q E it s₂) E s := by
  refine wpAny_pyIter_range hr hsmall ?_
  have W := (Walks.range (prog := prog) (w := w) hh s.heap.objs.size a₀ 1 n)
  refine loop1K Ld ps stored PP Fin Rel c₀ (KTurns.ofWalks W fun i v s Q E st q => letGo_name q) (by show IsRangeIter _ _ _ _ _; rw [hn]; simpa using Heap.get?_push_size _ rfl) (fun _ _ st => ⟨_, st⟩) (.head _) (fun b hb => .inl (List.mem_singleton.mp hb)) hR0 hRm F N hk hp ?_ done fin
  rintro I hI c i v u s₁ o hi ⟨t, rfl⟩ hP hne hR F₁ N₁
  have e1 : a₀ + (i : Int) * 1 = a₀ + (i : Int) := by omega
  rw [e1]
  exact turn I hI c i t u s₁ o hi hP hne hR F₁ N₁
/-- a tuple of the ledger's -/
theorem tupK {σ : Type} {ax : Addr} {vs : List Value} {k : Nat} {m₀ : Str → Option Value} (Ld : σ → Led) (ps : σ → List (Str × Value)) (stored : List Str) (PP : Addr → Nat → σ → Prop) (Fin : σ → Prop) (Rel : Shared → Prop) (c₀ : σ)
    (hh : A.handled = none) (hin : ∀ c, (ax, tupObj vs.toArray k) ∈ Ld c)
    (hR0 : Rel s) (hRm : ∀ s' h tk, Rel s' → Rel { s' with heap := h, toks := tk })
    (F : Fr h₀ env.locals s.heap m₀) (N : News h₀ env.locals s.heap (Ld c₀)) (hk : ∀ p ∈ ps c₀, m₀ p.1 = some p.2) (hp : ∀ I, (∀ p ∈ Ld c₀, p.1 < I) → PP I 0 c₀)
    (turn : ∀ I, (∀ p ∈ Ld c₀, p.1 < I) → ∀ (c : σ) i v (u : Str → Option Value) s₁ o, vs[i]? = some v → PP I i c → (∀ p ∈ Ld c, p.1 ≠ I) → Rel s₁ →
      Fr h₀ env.locals s₁.heap (kstB (fun z => if stored.contains z then u z else m₀ z) (ps c)) → News h₀ env.locals s₁.heap ((I, o) :: Ld c) →
      wpAny (model prog w) A (assign target env v) (fun _ s₂ => wpAny (model prog w) A (execs body env) (TurnK h₀ env.locals m₀ stored Ld ps [I] [(I, o)] Rel (PP I (i + 1)) Fin Q) E s₂) E s₁)
    (done : ∀ I c, PP I vs.length c → Fin c)
    (fin : ∀ (c : σ) (u : Str → Option Value) s₁, Fin c → Rel s₁ → Fr h₀ env.locals s₁.heap (kstB (fun z => if stored.contains z then u z else m₀ z) (ps c)) → News h₀ env.locals s₁.heap (Ld c) → Q .next s₁) :
    wpAny (model prog w) A (pyIter (.ref ax)) (fun it s₂ => LoopS prog w A env target body Q E it s₂) E s := by
  have hax := N _ (hin c₀)
  have hne : ax ≠ s.heap.objs.size := Nat.ne_of_lt (Heap.lt_size hax.1)
  refine wpAny_pyIter_tuple (tupIs N (hin c₀)) ?_
  have W := (Walks.tuple (prog := prog) (w := w) hh s.heap.objs.size ax hne vs.toArray)
  refine loop1K Ld ps stored PP Fin Rel c₀ (KTurns.ofWalks W fun i v s Q E st q => letGo_tupleiter st.1 q) ⟨⟨_, Heap.get?_push_size _ rfl, rfl, rfl⟩, (tupIs N (hin c₀)).at fun o e => Heap.get?_push_of_some _ e⟩ (fun _ _ st => let ⟨o, ho, _⟩ := st.1; ⟨o, ho⟩) (.head _) (fun b hb => ?_) hR0 hRm F N hk hp ?_ (fun I c h => done I c (by simpa using h)) fin
  · rcases List.mem_cons.mp hb with rfl | hb
    · exact .inl rfl
    · rw [List.mem_singleton.mp hb]; exact .inr ⟨⟨_, hin⟩, fun i h st => let ⟨o, ho, _⟩ := st.2; ⟨o, ho⟩⟩
  · intro I hI c i v u s₁ o hi hv hP hne hR F₁ N₁
    exact turn I hI c i v u s₁ o (by simpa using hv) hP hne hR F₁ N₁
end
end Mine
end

section
open PySem PySem.W PyProof.Rows
namespace Mine
theorem sec_QSA {M : Model} {A : Around} {E : Value → Shared → Prop} {s : Shared} {env : Env} {p : Pos} {Q : Flow → Shared → Prop} (h : Q .next s) : wpAny M A (exec (.Pass p) env) Q E s := by
  w_top off
  k_with_none
  walk1
  exact h
end Mine
end
section
open PySem PySem.W PyProof.Rows PySem.Calls PySem.Spec Builtin Builtin.ObjectAttr
set_option maxRecDepth 100000
set_option maxHeartbeats 1000000
namespace Mine
theorem set_getattr_none : typeLookup (.type "set") "__getattr__" = pure none := by rw [typeLookup_type, builtinLookup_eq_fast]; kernel_rfl
theorem entry_set_getattribute : entryFor table "set.__getattribute__" = some Builtin.«object.__getattribute__» :=
  entryFor_alias (id' := "object.__getattribute__") (by kernel_rfl) (by decide +kernel) (by decide +kernel) (by kernel_rfl)
theorem md_set_none : typeLookup (.type "method_descriptor") "__set__" = pure none := by rw [typeLookup_type, builtinLookup_eq_fast]; kernel_rfl
theorem md_del_none : typeLookup (.type "method_descriptor") "__delete__" = pure none := by rw [typeLookup_type, builtinLookup_eq_fast]; kernel_rfl
theorem set_contains_get : typeLookup (.type "method_descriptor") "__get__" = pure (some (.builtin "method_descriptor.__get__")) := by rw [typeLookup_type, builtinLookup_eq_fast]; kernel_rfl
theorem slot_md : Slot "method_descriptor" "__get__" "method_descriptor.__get__" :=
  .of (owner := "method_descriptor") (n := "__get__") (by rw [typeLookup_type, builtinLookup_eq_fast]; kernel_rfl) (by decide +kernel) (by decide +kernel) (by decide +kernel)
    (by first | exact .inl (by decide +kernel) | exact .inr (by decide +kernel)) (by rw [isSubtype_type]; kernel_rfl)
theorem entry_md : entryFor table "method_descriptor.__get__" = some Builtin.«method_descriptor.__get__» := entryFor_of_tree (by kernel_rfl)
theorem args_md (a b c : Value) : argsOk "method_descriptor.__get__" ⟨[a, b, c], []⟩ := by unfold argsOk; kernel_rfl
theorem told_sc : Manifest.toldItsClass.contains "set.__contains__" = false := by decide +kernel
section
variable {prog : Program} {w : World} {A : Around} {E : Value → Shared → Prop} {s : Shared} {a : Addr} {K : Type} [DecidableEq K] {knd : KeyKind prog w K}
theorem md_get {R : Result → Shared → Prop} (hT : s.TypeIs (.ref a) "set")
    (h : R (.ok (.ret (.ref s.heap.objs.size))) { s with heap := s.heap.push { cls := .type "builtin_function_or_method", data := .fields #[.builtin "set.__contains__", .ref a] } }) :
    codeAny (model prog w) A (.call (.builtin "method_descriptor.__get__") ⟨[.builtin "set.__contains__", .ref a, .type "set"], []⟩) R s := by
  obtain ⟨o, ho, hc⟩ := hT
  obtain ⟨oc, od, odat, osl⟩ := o
  dsimp only at hc
  subst hc
  obtain ⟨hp, g, d, tk, os⟩ := s
  refine codeAny_call_builtin slot_md.plain entry_md (slot_md.check _ _ _ _ _ _ _ _ F.type_set_contains (args_md _ _ _) ?_)
  have f11 := told_sc
  have f12 := sub_set_self
  unfold Builtin.«method_descriptor.__get__»
  repeat (any_goals (first | assumption | wp_step))
  rw [show ".".intercalate ("set.__contains__".cutAt '.').dropLast = "set" from by decide +kernel]
  repeat (any_goals (first | assumption | wp_step))
theorem get_contains {S : K → Bool} {n : Nat} {e : Bool} {Q : Value → Shared → Prop} (hS : s.heap.SetOf knd a S n)
    (h : ∀ tk, Q (.ref s.heap.objs.size) { s with heap := s.heap.push { cls := .type "builtin_function_or_method", data := .fields #[.builtin "set.__contains__", .ref a] }, toks := tk }) :
    wpAny (model prog w) A (getAttr (.ref a) "__contains__" e) Q E s := by
  obtain ⟨o, es, ep, t, ho, ⟨h1, h2, h3⟩, hd, hrest⟩ := hS
  obtain ⟨oc, od, odat, osl⟩ := o
  dsimp only at h1 h2 h3 hd
  subst h1; subst h2; subst hd
  obtain ⟨hp, g, d, tk, os⟩ := s
  have hT : ∀ tk', (⟨hp, g, d, tk', os⟩ : Shared).TypeIs (.ref a) "set" := fun _ => ⟨_, ho, rfl⟩
  have f3 := F.slot_set_getattribute.lookup
  have f4 := F.slot_set_getattribute.bind (.ref a)
  have f5 := set_getattr_none
  have f6 := F.slot_set_contains.lookup
  have f7 := F.type_set_contains
  have f8 := set_contains_get
  have f9 := md_set_none
  have f10 := md_del_none
  have hcan : (e && onTheHeap (Value.builtin "set.__getattribute__")) = false := by cases e <;> rfl
  unfold getAttr getAttrBy
  repeat (any_goals (first | assumption | exact hT _ | ((with_reducible show wpAny _ _ (if (e && onTheHeap (Value.builtin "set.__getattribute__")) = true then _ else _) _ _ _); rw [hcan]) | ((with_reducible show wpAny _ _ (call (Value.builtin "set.__getattribute__") _ _) _ _ _); refine wpAny_call_entry F.slot_set_getattribute (hT _) entry_set_getattribute ?_ (F.args_set_getattribute_2 _ _)) | wp_step))
  refine md_get ⟨_, ho, rfl⟩ ?_
  repeat (any_goals (first | assumption | exact hT _ | wp_step))
  exact ⟨_, rfl, wpAny_pure (h _)⟩
end
end Mine
end

section
open PySem PySem.W PyProof.Rows
namespace Mine
theorem sec_QSB {M : Model} {A : Around} {E : Value → Shared → Prop} {s : Shared} {env : Env} {p : Pos} {Q : Flow → Shared → Prop} (h : Q .next s) : wpAny M A (exec (.Pass p) env) Q E s := by
  w_top off
  k_with_none
  walk1
  exact h
end Mine
end
section
open PySem PySem.W PyProof.Rows PySem.Calls PySem.Spec
set_option maxRecDepth 100000
set_option maxHeartbeats 3200000
namespace Mine
theorem strs_at0 : ∀ {us : List Value} {ws : List Str}, StrsAre us ws → ∀ {i : Nat} {v : Value}, us[i]? = some v → ∃ g t, v = .str g t ∧ ws[i]? = some g := by
  intro us ws h
  induction h with
  | nil => intro i v e; simp at e
  | cons x t _ ih =>
    intro i v e
    cases i with
    | zero => simp at e; exact ⟨_, _, e.symm, rfl⟩
    | succ i => exact ih (by simpa using e)
/-- the set's membership after i texts -/
def hasS (ys : List Str) (k : Str) : Bool := ys.any (fun y => decide (k = y))
theorem hasS_more {ys : List Str} {i : Nat} {g : Str} (h : ys[i]? = some g) (k : Str) : hasS (ys.take (i + 1)) k = (hasS (ys.take i) k || decide (k = g)) := by
  unfold hasS; rw [List.take_add_one, h]; simp [List.any_append]
theorem hasS_zero (ys : List Str) (k : Str) : hasS (ys.take 0) k = false := by simp [hasS]
section
variable {prog : Program} {w : World} {A : Around}
def SetIn (prog : Program) (w : World) (h : Heap) (S : Addr) (ys : List Str) (i : Nat) : Prop := ∃ c, c ≤ i ∧ h.SetOf (strKind prog w) S (hasS (ys.take i)) c
theorem SetIn.at {h h' : Heap} {S : Addr} {ys : List Str} {i : Nat} (x : SetIn prog w h S ys i) (e : ∀ o, h.get? S = some o → h'.get? S = some o) : SetIn prog w h' S ys i :=
  let ⟨c, hc, o, es, ep, t, ho, rest⟩ := x; ⟨c, hc, o, es, ep, t, e o ho, rest⟩
theorem set_loop {R : Result → Shared → Prop} {I : Addr} {fp wr : List Addr} {G : Array GenState → Array GenState → Prop} {n : Nat} {P : Nat → Value → Prop} {St : Nat → Shared → Prop} (W : WalksS prog w A.in1 I fp wr G n P St) (S : Addr) (hSf : S ∉ fp)
    (ys : List Str) (hval : ∀ i v, P i v → ∃ g t, v = .str g t ∧ ys[i]? = some g) (hb : n + 1 < scanBound) :
    ∀ (k i : Nat) (s : Shared), n - i = k → i ≤ n → St i s → SetIn prog w s.heap S ys i →
      (∀ s', Moved (S :: wr) G s s' → SetIn prog w s'.heap S ys n → R (.ok (.ret .none)) s') →
      codeAny (model prog w) A (.builtin "set.update.loop" ⟨[.ref S, .ref I], []⟩) R s := by
  have hSw : S ∉ wr := fun h => hSf (W.sub _ h)
  have hsub : ∀ b ∈ wr, b ∈ S :: wr := fun b hb => List.mem_cons_of_mem _ hb
  intro k
  induction k with
  | zero =>
    intro i s hk hi hst hS hR
    have hin : i = n := by omega
    subst hin
    refine codeAny_builtin F.entry_set_update_loop ?_
    rw [Around.under_plainId F.plain_set_update_loop _]
    show wpAny _ A.in1 (pyNext (.ref I) >>= _) _ _ s
    refine wpAny_bind (W.done s _ _ hst fun s' hm => ?_)
    exact wpAny_pure (hR s' (hm.mono hsub) (hS.at fun o e => hm.heap S _ hSw e))
  | succ k ih =>
    intro i s hk hi hst hS hR
    have hlt : i < n := by omega
    refine codeAny_builtin F.entry_set_update_loop ?_
    rw [Around.under_plainId F.plain_set_update_loop _]
    show wpAny _ A.in1 (pyNext (.ref I) >>= _) _ _ s
    refine wpAny_bind (W.item i s _ _ hlt hst fun v s' hP hst' hm => ?_)
    obtain ⟨g, t, rfl, hg⟩ := hval i v hP
    obtain ⟨c, hc, hS'⟩ := hS.at (h' := s'.heap) fun o e => hm.heap S _ hSw e
    show wpAny _ A.in1 (holding [Value.str g t] (setAdd S (.str g t)) >>= _) _ _ s'
    refine wpAny_bind (wpAny_holding ?_)
    unfold setAdd
    refine wpAny_holding ?_
    refine wpAny_bind ((strKind prog w).pyHash (k := g) (strKind_is _ _ _ _) ?_)
    refine wpAny_setAddHashed_of (knd := strKind prog w) (s := { s' with toks := s'.toks + 1 }) (strKind_is _ _ _ _) rfl hS' (by omega) fun h' hsb hS2 => ?_
    have hSi : SetIn prog w h' S ys (i + 1) := ⟨_, (by split <;> omega), SetOf_congr hS2 (fun k' => (hasS_more hg k').symm) rfl⟩
    refine wpAny_pure ⟨plainId_quiet F.plain_set_update_loop _, ih (i + 1) _ (by omega) hlt (W.frame _ s' _ _ hst' (Nat.le_succ _) fun b hb o e => ?_) hSi fun s'' hm'' hS'' => ?_⟩
    · rw [hsb.2 b (fun h : b = S => hSf (by rw [← h]; exact hb))]; exact e
    · refine hR s'' (Moved.trans W.gtrans ((hm.mono hsub).then_heap (Nat.le_succ _) fun b o hb e => ?_) hm'') hS''
      rw [hsb.2 b (fun h : b = S => hb (by rw [h]; exact List.mem_cons_self))]; exact e
end
section
variable {prog : Program} {w : World} {A : Around} {E : Value → Shared → Prop} {s : Shared}
theorem callSet {a : Value} {Q Q₁ : Value → Shared → Prop}
    (hnew : codeAny (model prog w) A.in1 (.call (.builtin "set.__new__") ⟨.type "set" :: [a], []⟩) (wants Q₁ E) s)
    (hnext : ∀ obj s₁, Q₁ obj s₁ → s₁.TypeIs obj "set" ∧
      wpAny (model prog w) A.in1.in1 (Builtin.«set.__init__» ⟨obj :: [a], []⟩)
        (fun fin s' => match fin with | .done f => wants (fun r s₂ => r = .none ∧ Q obj s₂) E (.ok f) s' | .again c' => c'.quiet = true ∧ codeAny (model prog w) A.in1 c' (wants (fun r s₂ => r = .none ∧ Q obj s₂) E) s')
        (fun e s' => wants (fun r s₂ => r = .none ∧ Q obj s₂) E (.error e) s') s₁) :
    wpAny (model prog w) A (call (.type "set") [a]) Q E s := by
  obtain ⟨c, tl, hmro⟩ := F.called_set.mro
  have hmade := F.called_set.made
  have hsub := F.called_set.sub
  refine wpAny_call (codeAny_of_tree ?_)
  show wpAny _ _ (callAny (.type "set") _) _ _ _
  refine wpAny_pure ⟨Code.quiet_builtin _ (by decide +kernel), codeAny_builtin F.entry_type_call ?_⟩
  rw [Around.under_plain (weight_type_call_type "set" [a] []) rfl]
  have h1 := F.called_set.notType
  have h2 := F.called_set.canCreate
  have hct := F.typeCall_set_1 a
  repeat (any_goals (first | assumption | wp_step))
  refine codeAny_mono hnew fun r s₁ hr => ?_
  cases r with
  | error e => exact hr
  | ok fl =>
    cases fl with
    | ret obj =>
      obtain ⟨hT, hsi⟩ := hnext _ _ hr
      have hli := F.called_set.init.lookup
      have hbi := F.called_set.init.bind obj
      repeat (any_goals (first | assumption | wp_step))
      refine codeAny_mono (codeAny_call_builtin F.called_set.init.plain F.entry_set_init (check_set_init_1 hT hsi)) fun r₂ s₂ hr₂ => ?_
      cases r₂ with
      | error e => exact hr₂
      | ok fl₂ =>
        cases fl₂ with
        | ret r =>
          obtain ⟨rfl, hq⟩ := hr₂
          repeat (any_goals (first | assumption | wp_step))
        | _ => exact hr₂.elim
    | _ => exact hr.elim
theorem call_set_strs {l : Addr} {items : Array Value} {ys : List Str} {Q : Value → Shared → Prop}
    (hh : A.handled = none) (hl : s.heap.IsList l items) (hi : StrsAre items.toList ys) (hb : items.size + 1 < scanBound)
    (h : ∀ (h' : Heap) (tk : Nat), SetIn prog w h' s.heap.objs.size ys items.size →
      (∀ b o, b < s.heap.objs.size → s.heap.get? b = some o → h'.get? b = some o) → Q (.ref s.heap.objs.size) { s with heap := h', toks := tk }) :
    wpAny (model prog w) A (call (.type "set") [.ref l]) Q E s := by
  refine callSet (Q₁ := fun obj s₁ => ∃ led : Bool, obj = .ref s.heap.objs.size ∧ s₁ = { s with heap := s.heap.push { cls := .type "set", dict := none, data := .set #[] 0 (.fresh 0 0 led) } }) (code_set_new_1 _ fun led => ⟨led, rfl, rfl⟩) ?_
  rintro obj s₁ ⟨led, rfl, rfl⟩
  have hS : (s.heap.push { cls := .type "set", dict := none, data := .set #[] 0 (.fresh 0 0 led) }).get? s.heap.objs.size = some { cls := .type "set", dict := none, data := .set #[] 0 (.fresh 0 0 led) } := Heap.get?_push_size _ rfl
  refine ⟨⟨_, hS, rfl⟩, ?_⟩
  obtain ⟨ol, hol, hcl, nl, hdl⟩ := hl
  obtain ⟨ocls, odict, odata, oslots⟩ := ol
  dsimp only at hcl hdl
  subst hcl; subst hdl
  have hol' : (s.heap.push { cls := .type "set", dict := none, data := .set #[] 0 (.fresh 0 0 led) }).get? l = some { cls := .type "list", dict := odict, data := .seq items nl, slots := oslots } := Heap.get?_push_of_some _ hol
  have hl1 : (s.heap.push { cls := .type "set", dict := none, data := .set #[] 0 (.fresh 0 0 led) }).IsList l items := ⟨_, hol', rfl, nl, rfl⟩
  have hsls := F.sub_list_set
  have hslf := F.sub_list_frozenset
  have hne : (Value.type "list" == Value.type "dict") = false := by decide
  unfold Builtin.«set.__init__» noKeywords Builtin.Frozenset.updateFrom
  generalize hPI : pyIter = PI
  wp_walk
  subst hPI
  refine wpAny_pyIter_list hl1 ?_
  refine wpAny_bind (wpAny_runValue ?_)
  have hlS : l < s.heap.objs.size := Heap.lt_size hol
  have hneI : l ≠ (s.heap.push { cls := .type "set", dict := none, data := .set #[] 0 (.fresh 0 0 led) }).objs.size := by
    rw [Heap.size_push]; exact Nat.ne_of_lt (Nat.lt_succ_of_lt hlS)
  refine set_loop ((Walks.list (by simp [hh]) _ l hneI items).toS) s.heap.objs.size ?_ ys (fun i v hv => strs_at0 hi (by simpa using hv)) hb (items.size - 0) 0 _ (by omega) (Nat.zero_le _)
    ⟨⟨_, Heap.get?_push_size _ rfl, rfl, rfl⟩, (hl1.push _)⟩ ?_ ?_
  · rw [Heap.size_push]; simp only [List.mem_cons, List.not_mem_nil, or_false, not_or]
    exact ⟨Nat.ne_of_lt (Nat.lt_succ_self _), Nat.ne_of_gt hlS⟩
  · have hget : ((s.heap.push { cls := .type "set", dict := none, data := .set #[] 0 (.fresh 0 0 led) }).push { cls := .type "list_iterator", data := .fields #[.ref l, .int 0 0] }).get? s.heap.objs.size
              = some { cls := .type "set", dict := none, data := .set #[] 0 (.fresh 0 0 led) } := Heap.get?_push_of_some _ hS
    exact ⟨0, Nat.le_refl _, SetOf_congr ((setObjOf_fresh (knd := strKind prog w) led).setOf hget (by unfold scanBound; omega)) (fun k => (hasS_zero ys k).symm) rfl⟩
  · intro s' hm hS'
    obtain ⟨h', g', d', tk', os'⟩ := s'
    have eg : g' = s.gens := hm.gens
    have ed : d' = s.drawn := hm.drawn
    have eo : os' = s.os := hm.os
    subst eg; subst ed; subst eo
    refine wpAny_pure ?_
    refine wpAny_pure ⟨rfl, h h' tk' hS' fun b o hb e => ?_⟩
    have hb1 : b ≠ s.heap.objs.size := Nat.ne_of_lt hb
    have hb2 : b ≠ (s.heap.push { cls := .type "set", dict := none, data := .set #[] 0 (.fresh 0 0 led) }).objs.size := by
      rw [Heap.size_push]; exact Nat.ne_of_lt (Nat.lt_succ_of_lt hb)
    exact hm.heap b o (by simp only [List.mem_cons, List.not_mem_nil, or_false, not_or]; exact ⟨hb1, hb2⟩) (Heap.get?_push_of_some _ (Heap.get?_push_of_some _ e))
end
end Mine
end

section
open PySem PySem.W PyProof.Rows
namespace Mine
theorem sec_QFA {M : Model} {A : Around} {E : Value → Shared → Prop} {s : Shared} {env : Env} {p : Pos} {Q : Flow → Shared → Prop} (h : Q .next s) : wpAny M A (exec (.Pass p) env) Q E s := by
  w_top off
  k_with_none
  walk1
  exact h
end Mine
end
section
open PySem PySem.W PyProof.Rows PySem.Calls PySem.Spec
set_option maxRecDepth 100000
set_option maxHeartbeats 3200000
namespace Mine
abbrev cbound (S : Addr) : Obj := { cls := .type "builtin_function_or_method", data := .fields #[.builtin "set.__contains__", .ref S] }
theorem sub_set_module : isSubtype (.type "set") (.type "module") = pure false := by rw [isSubtype_type]; kernel_rfl
theorem sub_set_type : isSubtype (.type "set") (.type "type") = pure false := by rw [isSubtype_type]; kernel_rfl
theorem plain_sc : plainId "set.__contains__" = true := by decide +kernel
section
variable {prog : Program} {w : World} {A : Around} {E : Value → Shared → Prop} {s : Shared}
theorem bound_call {b S : Addr} {k : Str} {t : Tok} {P : Str → Bool} {n : Nat} {Q : Value → Shared → Prop} (hb : s.heap.get? b = some (cbound S)) (hS : s.heap.SetOf (strKind prog w) S P n)
    (h : Q (.bool (P k)) { s with toks := s.toks + 1 }) : wpAny (model prog w) A (call (.ref b) [.str k t]) Q E s := by
  have hS0 := hS
  obtain ⟨o, es, ep, tb, ho, ⟨h1, h2, h3⟩, hd, hrest⟩ := hS
  obtain ⟨oc, od, odat, osl⟩ := o
  dsimp only at h1 h2 h3 hd
  subst h1; subst h2; subst hd
  obtain ⟨hp, g, d, tk, os⟩ := s
  refine wpAny_call (codeAny_of_tree ?_)
  show wpAny _ A.in1 (callAny (.ref b) _) _ _ _
  unfold callAny
  refine wpAny_bind (wpAny_load hb ?_)
  dsimp only
  have hsm := sub_set_module
  have hst := sub_set_type
  unfold checkBoundCall
  repeat (any_goals (first | assumption | wp_step))
  refine ⟨plainId_quiet plain_sc _, codeAny_builtin entry_set_contains ?_⟩
  rw [Around.under_plainId plain_sc _]
  unfold Builtin.«frozenset.__contains__» Builtin.Frozenset.oneOther
  simp only [List.isEmpty_nil, bind_assoc]
  unfold Builtin.Frozenset.addrOf Builtin.Frozenset.withSetAsKey setContains
  refine wpAny_bind (wpAny_pure ?_)
  try dsimp only
  refine wpAny_bind (wpAny_pure ?_)
  try dsimp only
  refine wpAny_bind (wpAny_tryCatch ?_)
  refine wpAny_holding ?_
  refine wpAny_bind ((strKind prog w).pyHash (strKind_is _ _ _ _) ?_)
  refine wpAny_bind (wpAny_setFind_of (s := ⟨hp, g, d, tk + 1, os⟩) (strKind_is _ _ _ _) rfl hS0 fun r hr => ?_)
  refine wpAny_pure ?_
  show wpAny _ _ (ret (Value.bool r.isSome)) _ _ _
  rw [hr]
  exact wpAny_pure h
end
end Mine
end

section
open PySem PySem.W PyProof.Rows
namespace Mine
theorem sec_QFB {M : Model} {A : Around} {E : Value → Shared → Prop} {s : Shared} {env : Env} {p : Pos} {Q : Flow → Shared → Prop} (h : Q .next s) : wpAny M A (exec (.Pass p) env) Q E s := by
  w_top off
  k_with_none
  walk1
  exact h
end Mine
end
section
open PySem PySem.W PyProof.Rows PySem.Calls PySem.Spec
set_option maxRecDepth 100000
set_option maxHeartbeats 3200000
namespace Mine
theorem owner_filter : Manifest.owners.lookup (String.ofList ['r', 'e', 't', 'l', 'i', 'f'].reverse) = some Manifest.sig_filter := by kernel_rfl
theorem slot_filter_init : Slot "filter" "__init__" "object.__init__" :=
  .of (owner := "object") (n := "__init__") (by rw [typeLookup_type, builtinLookup_eq_fast]; kernel_rfl) (by decide +kernel) (by decide +kernel) (by decide +kernel)
    (by first | exact .inl (by decide +kernel) | exact .inr (by decide +kernel)) (by rw [isSubtype_type]; kernel_rfl)
theorem slot_filter_iter : Slot "filter" "__iter__" "filter.__iter__" :=
  .of (owner := "filter") (n := "__iter__") (by rw [typeLookup_type, builtinLookup_eq_fast]; kernel_rfl) (by decide +kernel) (by decide +kernel) (by decide +kernel)
    (by first | exact .inl (by decide +kernel) | exact .inr (by decide +kernel)) (by rw [isSubtype_type]; kernel_rfl)
theorem slot_filter_next : Slot "filter" "__next__" "filter.__next__" :=
  .of (owner := "filter") (n := "__next__") (by rw [typeLookup_type, builtinLookup_eq_fast]; kernel_rfl) (by decide +kernel) (by decide +kernel) (by decide +kernel)
    (by first | exact .inl (by decide +kernel) | exact .inr (by decide +kernel)) (by rw [isSubtype_type]; kernel_rfl)
theorem entry_filter_next : entryFor table "filter.__next__" = some Builtin.«filter.__next__» := entryFor_of_tree (by kernel_rfl)
theorem entry_filter_new : entryFor table "filter.__new__" = some Builtin.«filter.__new__» := entryFor_of_tree (by kernel_rfl)
theorem entry_filter_iter : entryFor table "filter.__iter__" = some Builtin.«dict_keyiterator.__iter__» :=
  entryFor_alias (id' := "dict_keyiterator.__iter__") (by kernel_rfl) (by first | rfl | decide +kernel) (by decide +kernel) (by kernel_rfl)
theorem args_filter_next_1 (a : Value) : argsOk "filter.__next__" ⟨[a], []⟩ := by
  unfold argsOk; rw [signature?_of (id := "filter.__next__") (n := ['_', '_', 't', 'x', 'e', 'n', '_', '_']) (o := ['r', 'e', 't', 'l', 'i', 'f']) (by kernel_rfl) owner_filter]; kernel_rfl
theorem args_filter_iter_1 (a : Value) : argsOk "filter.__iter__" ⟨[a], []⟩ := by
  unfold argsOk; rw [signature?_of (id := "filter.__iter__") (n := ['_', '_', 'r', 'e', 't', 'i', '_', '_']) (o := ['r', 'e', 't', 'l', 'i', 'f']) (by kernel_rfl) owner_filter]; kernel_rfl
theorem mro_filter : mroOf (.type "filter") = pure [.type "filter", .type "object"] := by rw [mroOf_type]; kernel_rfl
theorem lookup_filter_new : typeLookup (.type "filter") "__new__" = pure (some (.builtin "filter.__new__")) := by rw [typeLookup_type, builtinLookup_eq_fast]; kernel_rfl
theorem called_filter : TypeCalled "filter" "filter.__new__" "object.__init__" :=
  ⟨by decide +kernel, by decide +kernel, ⟨_, _, mro_filter⟩, madeBy_type mro_filter lookup_filter_new (by decide +kernel), by decide +kernel, by rw [isSubtype_type]; kernel_rfl, slot_filter_init⟩
theorem typeCall_filter_2 (a b : Value) : checkTypeCall "filter" ⟨[a, b], []⟩ = pure () := by kernel_rfl
theorem newCall_filter_2 (a b : Value) : checkBuiltinCall "filter.__new__" ⟨[.type "filter", a, b], []⟩ = pure () := by kernel_rfl
theorem plain_filter_next : plainId "filter.__next__" = true := by decide +kernel
theorem sub_filter : isSubtype (.type "filter") (.type "filter") = pure true := by rw [isSubtype_type]; kernel_rfl
theorem filter_no_len : typeLookup (.type "filter") "__len__" = pure none := by rw [typeLookup_type, builtinLookup_eq_fast]; kernel_rfl
theorem filter_no_hint : typeLookup (.type "filter") "__length_hint__" = pure none := by rw [typeLookup_type, builtinLookup_eq_fast]; kernel_rfl
abbrev filObj (b it : Addr) : Obj := { cls := .type "filter", data := .fields #[.ref b, .ref it] }
theorem meets_filter_new (b l : Addr) (xs : Array Value) :
    Meets (Builtin.«filter.__new__» ⟨[.type "filter", .ref b, .ref l], []⟩) (fun _ R s => s.heap.IsList l xs ∧
      R (.ok (.ret (.ref (s.heap.objs.size + 1)))) { s with heap := (s.heap.push { cls := .type "list_iterator", data := .fields #[.ref l, .int 0 0] }).push (filObj b s.heap.objs.size) }) :=
  .of_wp fun prog w A R s h => by
    obtain ⟨hp, g, d, tk, os⟩ := s; obtain ⟨hl, h⟩ := h
    have hsub := sub_filter
    have hL1 : Heap.IsList (Shared.heap ⟨hp, g, d, tk, os⟩) l xs := hl
    wp_walk using wpAny_pyIter_list hL1
    refine ⟨_, rfl, ?_⟩
    have hz : (hp.push { cls := .type "list_iterator", data := .fields #[.ref l, .int 0 0] }).objs.size = hp.objs.size + 1 := Heap.size_push ..
    rw [hz]
    exact h
section
variable {prog : Program} {w : World} {A : Around} {E : Value → Shared → Prop} {s : Shared}
theorem call_filter {b l : Addr} {xs : Array Value} {Q : Value → Shared → Prop} (hl : s.heap.IsList l xs)
    (h : Q (.ref (s.heap.objs.size + 1)) { s with heap := (s.heap.push { cls := .type "list_iterator", data := .fields #[.ref l, .int 0 0] }).push (filObj b s.heap.objs.size) }) :
    wpAny (model prog w) A (call (.type "filter") [.ref b, .ref l]) Q E s := by
  refine callType_new called_filter (by decide) (typeCall_filter_2 _ _) (newCall_filter_2 _ _) (fun obj => F.args_object_init_3 obj _ _) entry_filter_new
    (meets_filter_new b l xs) ⟨hl, ?_⟩
  have hz : (s.heap.push { cls := .type "list_iterator", data := .fields #[.ref l, .int 0 0] }).objs.size = s.heap.objs.size + 1 := Heap.size_push ..
  have e : ((s.heap.push { cls := .type "list_iterator", data := .fields #[.ref l, .int 0 0] }).push (filObj b s.heap.objs.size)).get? (s.heap.objs.size + 1) = some (filObj b s.heap.objs.size) := by
    rw [← hz]; exact Heap.get?_push_size _ rfl
  exact ⟨⟨_, e, rfl⟩, h⟩
theorem next_item {it l : Addr} {i : Nat} {items : Array Value} {x : Value} {Q : Option Value → Shared → Prop} (hit : s.heap.IsListIter it l i)
    (hl : s.heap.IsList l items) (hx : items[i]? = some x)
    (hQ : ∀ h', h'.IsListIter it l (i + 1) → Heap.SameBut it s.heap h' → Q (some x) { s with heap := h' }) :
    wpAny (model prog w) A (callSpecial? (.ref it) "__next__") Q E s := by
  obtain ⟨o, ho, hc, hd⟩ := id hit
  obtain ⟨ol, hol, _, nl, hdl⟩ := hl
  refine wpAny_callSpecial?_slot (name := Str.ofString "__next__") hit.typeIs slot_listiter_next
    (wpAny_call_entry slot_listiter_next hit.typeIs entry_listiter_next ?_ (args_listiter_next _))
  show wpAny _ _ (field (.ref it) 0 >>= _) _ _ s
  refine wpAny_bind (wpAny_field ho hd (x := .ref l) rfl ?_)
  show wpAny _ _ (if (Value.ref l == Value.none) = true then _ else _) _ _ s
  rw [if_neg (show ¬ ((Value.ref l == Value.none) = true) from Bool.false_ne_true)]
  show wpAny _ _ (field (.ref it) 1 >>= _) _ _ s
  refine wpAny_bind (wpAny_field ho hd (x := .int i 0) rfl ?_)
  show wpAny _ _ (seqItems? (.ref l) >>= _) _ _ s
  refine wpAny_bind (wpAny_seqItems hol hdl ?_)
  simp only [Int.toNat_natCast, hx]
  refine wpAny_bind (wpAny_setField ho hd (by simp) (wpAny_pure ⟨x, rfl, hQ _ ?_ (Heap.SameBut.update ..)⟩))
  exact ⟨_, Heap.get?_update_self _ ho (Obj.isFreed_of_fields (Obj.data_mapFields hd _)), (Obj.cls_mapFields ..).trans hc, by
    rw [Obj.data_mapFields hd]; simp [rawInt]⟩
theorem next_end {it l : Addr} {i : Nat} {items : Array Value} {Q : Option Value → Shared → Prop} (hh : A.handled = none)
    (hit : s.heap.IsListIter it l i) (hl : s.heap.IsList l items) (hx : items[i]? = none)
    (hE : ∀ h' e, Heap.ExtBut it s.heap h' → (∃ o, h'.get? e = some o ∧ o.cls = .type "StopIteration") → E (.ref e) { s with heap := h' }) :
    wpAny (model prog w) A (callSpecial? (.ref it) "__next__") Q E s := by
  obtain ⟨o, ho, hc, hd⟩ := id hit
  obtain ⟨ol, hol, _, nl, hdl⟩ := hl
  refine wpAny_callSpecial?_slot (name := Str.ofString "__next__") hit.typeIs slot_listiter_next
    (wpAny_call_entry slot_listiter_next hit.typeIs entry_listiter_next ?_ (args_listiter_next _))
  show wpAny _ _ (field (.ref it) 0 >>= _) _ _ s
  refine wpAny_bind (wpAny_field ho hd (x := .ref l) rfl ?_)
  show wpAny _ _ (if (Value.ref l == Value.none) = true then _ else _) _ _ s
  rw [if_neg (show ¬ ((Value.ref l == Value.none) = true) from Bool.false_ne_true)]
  show wpAny _ _ (field (.ref it) 1 >>= _) _ _ s
  refine wpAny_bind (wpAny_field ho hd (x := .int i 0) rfl ?_)
  show wpAny _ _ (seqItems? (.ref l) >>= _) _ _ s
  refine wpAny_bind (wpAny_seqItems hol hdl ?_)
  simp only [Int.toNat_natCast, hx]
  refine wpAny_bind (wpAny_rule (wpAny_bind (wpAny_setField ho hd (by simp) ?_)))
  show wpAny _ _ (newExc (.type "StopIteration") [] >>= _) _ _ _
  refine wpAny_bind ?_
  simp only [newExc, newTuple]
  refine wpAny_bind (wpAny_newObj_type ?_ (by size_fits))
  refine wpAny_bind (m := firstArgMember _ _) (wpAny_of_eq (a := Value.none) (by first | rfl | (simp only [firstArgMember]; rfl)) ?_)
  refine wpAny_newObj_type ?_ (by size_fits)
  simp only [raiseNew]
  refine wpAny_bind (wpAny_handled ?_)
  first | rw [show A.in1.handled = none from hh] | rw [hh]
  refine wpAny_bind (wpAny_pure (wpAny_throw ?_))
  exact hE _ _ (((Heap.SameBut.update ..).extBut.push _).push _) ⟨_, Heap.get?_push_size _ rfl, rfl⟩
theorem filter_step {z b it l S : Addr} {i n : Nat} {items : Array Value} {g : Str} {t : Tok} {P : Str → Bool} {QF : Fin → Shared → Prop}
    (hz : s.heap.get? z = some (filObj b it)) (hit : s.heap.IsListIter it l i) (hl : s.heap.IsList l items) (hx : items[i]? = some (.str g t)) (hb : s.heap.get? b = some (cbound S)) (hS : s.heap.SetOf (strKind prog w) S P n)
    (hbi : b ≠ it) (hSi : S ≠ it)
    (hQ : ∀ h' tk, h'.IsListIter it l (i + 1) → Heap.SameBut it s.heap h' → QF (if P g = true then .done (.ret (.str g t)) else .again (.builtin "filter.__next__" ⟨[.ref z], []⟩)) { s with heap := h', toks := tk }) :
    wpAny (model prog w) A (Builtin.«filter.__next__» ⟨[.ref z], []⟩) QF E s := by
  show wpAny _ _ (field (.ref z) 0 >>= _) _ _ _
  refine wpAny_bind (wpAny_field hz rfl (x := .ref b) rfl ?_)
  show wpAny _ _ (field (.ref z) 1 >>= _) _ _ _
  refine wpAny_bind (wpAny_field hz rfl (x := .ref it) rfl ?_)
  show wpAny _ _ (callSpecial? (.ref it) "__next__" >>= _) _ _ _
  refine wpAny_bind (next_item hit hl hx fun h₁ hit₁ hs₁ => ?_)
  dsimp only
  have hb₁ : h₁.get? b = some (cbound S) := hs₁.extBut _ _ hbi hb
  have hS₁ : h₁.SetOf (strKind prog w) S P n := by
    obtain ⟨o, es, ep, tb, ho, rest⟩ := hS
    exact ⟨o, es, ep, tb, hs₁.extBut _ _ hSi ho, rest⟩
  refine wpAny_bind (wpAny_holding ?_)
  have e1 : (Value.ref b == Value.none || Value.ref b == Value.type "bool") = false := by rfl
  rw [if_neg (by rw [e1]; exact Bool.false_ne_true)]
  refine wpAny_bind (bound_call hb₁ hS₁ ?_)
  refine wpAny_holding (wpAny_truthy_bool ?_)
  have hq := hQ h₁ (s.toks + 1) hit₁ hs₁
  cases hP : P g with
  | true => rw [hP] at hq; exact wpAny_pure hq
  | false => rw [hP] at hq; exact wpAny_pure hq
end
end Mine
end

section
open PySem PySem.W PyProof.Rows
namespace Mine
theorem sec_QFC {M : Model} {A : Around} {E : Value → Shared → Prop} {s : Shared} {env : Env} {p : Pos} {Q : Flow → Shared → Prop} (h : Q .next s) : wpAny M A (exec (.Pass p) env) Q E s := by
  w_top off
  k_with_none
  walk1
  exact h
end Mine
end
section
open PySem PySem.W PyProof.Rows PySem.Calls PySem.Spec
set_option maxRecDepth 100000
set_option maxHeartbeats 3200000
namespace Mine
theorem firstPass (P : Str → Bool) : ∀ (l : List Str), l.filter P ≠ [] → ∃ (j : Nat) (g : Str), l[j]? = some g ∧ P g = true ∧ ∀ (i : Nat), i < j → ∀ (x : Str), l[i]? = some x → P x = false
  | [], h => absurd rfl h
  | y :: r, h => by
    cases hy : P y with
    | true => exact ⟨0, y, rfl, hy, fun i hi => absurd hi (Nat.not_lt_zero i)⟩
    | false =>
      rw [List.filter_cons, hy] at h
      obtain ⟨j, g, h1, h2, h3⟩ := firstPass P r h
      refine ⟨j + 1, g, h1, h2, fun i hi x hx => ?_⟩
      cases i with
      | zero => simp at hx; rw [← hx]; exact hy
      | succ i => exact h3 i (Nat.lt_of_succ_lt_succ hi) x hx
theorem take_pass {P : Str → Bool} {l : List Str} {g : Str} : ∀ (j : Nat), l[j]? = some g → P g = true → (∀ i, i < j → ∀ x, l[i]? = some x → P x = false) → (l.take (j + 1)).filter P = [g] := by
  intro j hj hp hn
  rw [List.take_add_one, hj, List.filter_append]
  have : (l.take j).filter P = [] := by
    rw [List.filter_eq_nil_iff]
    intro x hx
    obtain ⟨i, hi, e⟩ := List.getElem_of_mem hx
    have hi' : i < j := by simp at hi; omega
    have : l[i]? = some x := by rw [← e]; simp at hi ⊢
    rw [hn i hi' x this]; exact Bool.false_ne_true
  rw [this]; simp [hp]
section
variable {prog : Program} {w : World} {A : Around} {E : Value → Shared → Prop}
abbrev FilBody (prog : Program) (w : World) (A : Around) (z : Addr) (R : Result → Shared → Prop) (s : Shared) : Prop :=
  wpAny (model prog w) A.in1 (Builtin.«filter.__next__» ⟨[.ref z], []⟩)
    (fun fin s' => match fin with | .done f => R (.ok f) s' | .again c' => c'.quiet = true ∧ codeAny (model prog w) A c' R s') (fun e s' => R (.error e) s') s
theorem filBody_code {z : Addr} {R : Result → Shared → Prop} {s : Shared} (h : FilBody prog w A z R s) : codeAny (model prog w) A (.builtin "filter.__next__" ⟨[.ref z], []⟩) R s := by
  refine codeAny_builtin entry_filter_next ?_
  rw [Around.under_plainId plain_filter_next _]
  exact h
structure FilAt (prog : Program) (w : World) (h : Heap) (z b it l S : Addr) (i : Nat) (items : Array Value) (P : Str → Bool) : Prop where
  z : h.get? z = some (filObj b it)
  it : h.IsListIter it l i
  l : h.IsList l items
  b : h.get? b = some (cbound S)
  S : ∃ n, h.SetOf (strKind prog w) S P n
theorem FilAt.at {h h' : Heap} {z b it l S : Addr} {i : Nat} {items : Array Value} {P : Str → Bool} (x : FilAt prog w h z b it l S i items P) (e : ∀ c ∈ [z, b, it, l, S], ∀ o, h.get? c = some o → h'.get? c = some o) : FilAt prog w h' z b it l S i items P :=
  ⟨e _ (by simp) _ x.z, x.it.at fun o q => e _ (by simp) o q, x.l.at fun o q => e _ (by simp) o q, e _ (by simp) _ x.b, let ⟨n, o, es, ep, tb, ho, rest⟩ := x.S; ⟨n, o, es, ep, tb, e _ (by simp) _ ho, rest⟩⟩
theorem FilAt.next {h h' : Heap} {z b it l S : Addr} {i j : Nat} {items : Array Value} {P : Str → Bool} (x : FilAt prog w h z b it l S i items P) (hs : ∀ c o, c ≠ it → h.get? c = some o → h'.get? c = some o) (hi : h'.IsListIter it l j)
    (hz : z ≠ it) (hb : b ≠ it) (hl : l ≠ it) (hS : S ≠ it) : FilAt prog w h' z b it l S j items P :=
  ⟨hs _ _ hz x.z, hi, x.l.at fun o q => hs _ o hl q, hs _ _ hb x.b, let ⟨n, o, es, ep, tb, ho, rest⟩ := x.S; ⟨n, o, es, ep, tb, hs _ _ hS ho, rest⟩⟩
theorem filter_item {z b it l S : Addr} {items : Array Value} {P : Str → Bool} {R : Result → Shared → Prop} (hz : z ≠ it) (hb : b ≠ it) (hl : l ≠ it) (hS : S ≠ it) {g : Str} {t : Tok} {j : Nat} (hj : items[j]? = some (.str g t)) (hp : P g = true) :
    ∀ (k i : Nat) (s : Shared), j - i = k → i ≤ j → (∀ i', i ≤ i' → i' < j → ∃ g t, items[i']? = some (.str g t) ∧ P g = false) → FilAt prog w s.heap z b it l S i items P →
      (∀ h' tk, h'.IsListIter it l (j + 1) → (∀ c o, c ≠ it → s.heap.get? c = some o → h'.get? c = some o) → R (.ok (.ret (.str g t))) { s with heap := h', toks := tk }) →
      FilBody prog w A z R s := by
  intro k
  induction k with
  | zero =>
    intro i s hk hi hn X hR
    have e : i = j := by omega
    subst e
    obtain ⟨n, hSet⟩ := X.S
    refine filter_step X.z X.it X.l hj X.b hSet hb hS fun h' tk hit hs => ?_
    rw [if_pos hp]
    exact hR h' tk hit fun c o hc e => hs.extBut _ _ hc e
  | succ k ih =>
    intro i s hk hi hn X hR
    obtain ⟨g', t', hg', hp'⟩ := hn i (Nat.le_refl _) (by omega)
    obtain ⟨n, hSet⟩ := X.S
    refine filter_step X.z X.it X.l hg' X.b hSet hb hS fun h' tk hit hs => ?_
    rw [if_neg (by rw [hp']; exact Bool.false_ne_true)]
    have hs' : ∀ c o, c ≠ it → s.heap.get? c = some o → h'.get? c = some o := fun c o hc e => hs.extBut _ _ hc e
    refine ⟨plainId_quiet plain_filter_next _, filBody_code (ih (i + 1) _ (by omega) (by omega) (fun i' h1 h2 => hn i' (by omega) h2) (X.next hs' hit hz hb hl hS) fun h2 tk2 hit2 hs2 => ?_)⟩
    exact hR h2 tk2 hit2 fun c o hc e => hs2 c o hc (hs' c o hc e)
theorem filter_end {z b it l S : Addr} {items : Array Value} {P : Str → Bool} {R : Result → Shared → Prop} (hh : A.handled = none) (hz : z ≠ it) (hb : b ≠ it) (hl : l ≠ it) (hS : S ≠ it) :
    ∀ (k i : Nat) (s : Shared), items.size - i = k → i ≤ items.size → (∀ i', i ≤ i' → i' < items.size → ∃ g t, items[i']? = some (.str g t) ∧ P g = false) → FilAt prog w s.heap z b it l S i items P →
      (∀ h' tk e, (∀ c o, c ≠ it → s.heap.get? c = some o → h'.get? c = some o) → (∃ o, h'.get? e = some o ∧ o.cls = .type "StopIteration") → R (.error (.ref e)) { s with heap := h', toks := tk }) →
      FilBody prog w A z R s := by
  intro k
  induction k with
  | zero =>
    intro i s hk hi hn X hR
    have e : i = items.size := by omega
    subst e
    show wpAny _ _ (field (.ref z) 0 >>= _) _ _ _
    refine wpAny_bind (wpAny_field X.z rfl (x := .ref b) rfl ?_)
    show wpAny _ _ (field (.ref z) 1 >>= _) _ _ _
    refine wpAny_bind (wpAny_field X.z rfl (x := .ref it) rfl ?_)
    show wpAny _ _ (callSpecial? (.ref it) "__next__" >>= _) _ _ _
    refine wpAny_bind (next_end (by simpa using hh) X.it X.l (Array.getElem?_eq_none (Nat.le_refl _)) fun h₁ e hs₁ he => ?_)
    exact hR h₁ _ e (fun c o hc q => hs₁ _ _ hc q) he
  | succ k ih =>
    intro i s hk hi hn X hR
    obtain ⟨g', t', hg', hp'⟩ := hn i (Nat.le_refl _) (by omega)
    obtain ⟨n, hSet⟩ := X.S
    refine filter_step X.z X.it X.l hg' X.b hSet hb hS fun h' tk hit hs => ?_
    rw [if_neg (by rw [hp']; exact Bool.false_ne_true)]
    have hs' : ∀ c o, c ≠ it → s.heap.get? c = some o → h'.get? c = some o := fun c o hc e => hs.extBut _ _ hc e
    refine ⟨plainId_quiet plain_filter_next _, filBody_code (ih (i + 1) _ (by omega) (by omega) (fun i' h1 h2 => hn i' (by omega) h2) (X.next hs' hit hz hb hl hS) fun h2 tk2 e hs2 he => ?_)⟩
    exact hR h2 tk2 e (fun c o hc q => hs2 c o hc (hs' c o hc q)) he
theorem codeFil {z : Addr} {R : Result → Shared → Prop} {s : Shared} (hT : s.TypeIs (.ref z) "filter") (h : FilBody prog w A z R s) : codeAny (model prog w) A (.call (.builtin "filter.__next__") ⟨[.ref z], []⟩) R s :=
  codeAny_call_builtin slot_filter_next.plain entry_filter_next (slot_filter_next.check _ _ _ _ _ _ _ _ hT (args_filter_next_1 _) h)
/-- where the walk stands: i texts have passed -/
def FilSt (prog : Program) (w : World) (z b it l S : Addr) (items : Array Value) (ys : List Str) (P : Str → Bool) (i : Nat) (h : Heap) : Prop :=
  ∃ p, p ≤ items.size ∧ ((ys.take p).filter P).length = i ∧ FilAt prog w h z b it l S p items P
theorem Walks.filter (hh : A.handled = none) {z b it l S : Addr} {items : Array Value} {ys : List Str} {P : Str → Bool} (hys : StrsAre items.toList ys) (hz : z ≠ it) (hb : b ≠ it) (hl : l ≠ it) (hS : S ≠ it) :
    Walks prog w A z [z, b, it, l, S] [it] (ys.filter P).length (fun i v => ∃ g t, (ys.filter P)[i]? = some g ∧ v = .str g t) (FilSt prog w z b it l S items ys P) where
  sub := fun c hc => by rw [List.mem_singleton.mp hc]; simp
  frame := fun i h h' hst hk => by
    obtain ⟨p, h1, h2, X⟩ := hst
    exact ⟨p, h1, h2, X.at hk⟩
  item := fun i s Q E hi hst hQ => by
    obtain ⟨p, h1, h2, X⟩ := hst
    have hspl : ys.filter P = (ys.take p).filter P ++ (ys.drop p).filter P := by rw [← List.filter_append, List.take_append_drop]
    have hne : (ys.drop p).filter P ≠ [] := by
      intro e
      rw [hspl, e, List.append_nil] at hi
      omega
    obtain ⟨j, g, hj, hp, hn⟩ := firstPass P _ hne
    have hlen : items.size = ys.length := by have := hys.length; simpa using this
    have hat : ∀ i x, (ys.drop p)[i]? = some x → ∃ t, items[p + i]? = some (.str x t) := by
      intro i x hx
      rw [List.getElem?_drop] at hx
      have hlt : p + i < items.size := by rw [hlen]; exact (List.getElem?_eq_some_iff.mp hx).1
      obtain ⟨g', t', e1, e2⟩ := strs_at0 hys (i := p + i) (v := items[p + i]) (by simp [hlt])
      rw [hx] at e2; cases e2
      exact ⟨t', by rw [Array.getElem?_eq_getElem hlt, e1]⟩
    obtain ⟨t, ht⟩ := hat j g hj
    have hjl : p + j < items.size := (Array.getElem?_eq_some_iff.mp ht).1
    have hT : s.TypeIs (.ref z) "filter" := ⟨_, X.z, rfl⟩
    unfold pyNext
    refine wpAny_bind (wpAny_attempt (wpAny_callSpecial?_slot (name := Str.ofString "__next__") hT slot_filter_next (wpAny_call (codeFil hT
      (filter_item hz hb hl hS ht hp (p + j - p) p s (by omega) (by omega) (fun i' h3 h4 => ?_) X fun h' tk hit hs => ?_)))))
    · have hlt : i' - p < j := by omega
      have hx : ∃ x, (ys.drop p)[i' - p]? = some x := by
        have : i' - p < (ys.drop p).length := Nat.lt_trans hlt (List.getElem?_eq_some_iff.mp hj).1
        exact ⟨_, List.getElem?_eq_getElem this⟩
      obtain ⟨x, hx⟩ := hx
      obtain ⟨t', ht'⟩ := hat _ _ hx
      rw [show p + (i' - p) = i' from by omega] at ht'
      exact ⟨x, t', ht', hn _ hlt x hx⟩
    · have htk : ys.take (p + (j + 1)) = ys.take p ++ (ys.drop p).take (j + 1) := by rw [List.take_add]
      have hft : (ys.take (p + (j + 1))).filter P = (ys.take p).filter P ++ [g] := by rw [htk, List.filter_append, take_pass j hj hp hn]
      refine wpAny_pure (hQ _ h' tk ⟨g, t, ?_, rfl⟩ ⟨p + (j + 1), by omega, by rw [hft]; simp [h2], X.next hs hit hz hb hl hS⟩ fun c o hc e => hs c o (fun q => hc (by simp [q])) e)
      have : ys.filter P = (ys.take p).filter P ++ [g] ++ (ys.drop (p + (j + 1))).filter P := by rw [← hft, ← List.filter_append, List.take_append_drop]
      rw [this, List.append_assoc, List.getElem?_append_right (by omega), h2]; simp
  done := fun s Q E hst hQ => by
    obtain ⟨p, h1, h2, X⟩ := hst
    have hspl : ys.filter P = (ys.take p).filter P ++ (ys.drop p).filter P := by rw [← List.filter_append, List.take_append_drop]
    have hnil : (ys.drop p).filter P = [] := by
      have := congrArg List.length hspl
      rw [List.length_append, h2] at this
      exact List.eq_nil_of_length_eq_zero (by omega)
    have hlen : items.size = ys.length := by have := hys.length; simpa using this
    have hT : s.TypeIs (.ref z) "filter" := ⟨_, X.z, rfl⟩
    unfold pyNext
    refine wpAny_bind (wpAny_attempt (wpAny_callSpecial?_slot (name := Str.ofString "__next__") hT slot_filter_next (wpAny_call (codeFil hT
      (filter_end hh hz hb hl hS (items.size - p) p s rfl h1 (fun i' h3 h4 => ?_) X fun h' tk e hs he => ?_)))))
    · obtain ⟨g', t', e1, e2⟩ := strs_at0 hys (i := i') (v := items[i']) (by simp [h4])
      refine ⟨g', t', by rw [Array.getElem?_eq_getElem h4, e1], ?_⟩
      rw [List.filter_eq_nil_iff] at hnil
      have : g' ∈ ys.drop p := List.mem_of_getElem? (i := i' - p) (by rw [List.getElem?_drop, show p + (i' - p) = i' from by omega]; exact e2)
      simpa using hnil g' this
    · obtain ⟨o, ho, hc⟩ := he
      refine wpAny_bind (wpAny_isInstance (T := "StopIteration") (b := true) ⟨o, ho, hc⟩ isSubtype_stop ?_)
      exact wpAny_pure (hQ _ _ fun c o hc q => hs c o (fun x => hc (by simp [x])) q)
  self := fun i s Q E hst hQ => by
    obtain ⟨p, h1, h2, X⟩ := hst
    have hT : s.TypeIs (.ref z) "filter" := ⟨_, X.z, rfl⟩
    refine wpAny_pyIter_slot hT slot_filter_iter (wpAny_call_entry slot_filter_iter hT entry_filter_iter ?_ (args_filter_iter_1 _))
    show wpAny _ _ (ret (.ref z)) _ _ s
    exact wpAny_pure ⟨_, rfl, "filter", _, hT, slot_filter_next.lookup, hQ⟩
end
end Mine
end

section
open PySem PySem.W PyProof.Rows
namespace Mine
theorem sec_QFD {M : Model} {A : Around} {E : Value → Shared → Prop} {s : Shared} {env : Env} {p : Pos} {Q : Flow → Shared → Prop} (h : Q .next s) : wpAny M A (exec (.Pass p) env) Q E s := by
  w_top off
  k_with_none
  walk1
  exact h
end Mine
end
section
open PySem PySem.W PyProof.Rows PySem.Calls PySem.Spec
set_option maxRecDepth 100000
set_option maxHeartbeats 3200000
namespace Mine
section
variable {prog : Program} {w : World} {A : Around} {s : Shared} {R : Result → Shared → Prop}
variable {I : Addr} {fp wr : List Addr} {G : Array GenState → Array GenState → Prop} {n : Nat} {P : Nat → Value → Prop} {St : Nat → Shared → Prop}
theorem extend_filter (W : WalksS prog w A.in1 I fp wr G n P St) (hT : ∀ i s, St i s → s.TypeIs (.ref I) "filter") (S : Addr) (res : Value) (c₀ : Nat) (hst : St 0 s) (hSf : S ∉ fp) (hI : I ∈ fp)
    (hS : s.heap.get? S = some { cls := .type "list", data := .seq #[] c₀ })
    (hR : ∀ s' acc' c', Moved (S :: wr) G s s' → s'.heap.get? S = some { cls := .type "list", dict := none, data := .seq acc' c', slots := #[] } → ItemsOf P acc' n → R (.ok (.ret res)) s') (hn : n ≤ sizeLine) :
    wpAny (model prog w) A.in1 (Builtin.List.listExtendWith (.ref S) (.ref I) res)
      (fun fin s' => match fin with | .done f => R (.ok f) s' | .again c' => c'.quiet = true ∧ codeAny (model prog w) A c' R s') (fun e s' => R (.error e) s') s := by
  have hSI : S ≠ I := fun e => hSf (e ▸ hI)
  unfold Builtin.List.listExtendWith
  refine wpAny_bind (wpAny_typeOf (hT 0 _ hst) ?_)
  have h1 : Builtin.List.listSameRef (.ref S) (.ref I) = false := by simp [Builtin.List.listSameRef, hSI]
  have h2 : (Value.type "filter" == Value.type "list") = false := by decide
  have h3 : (Value.type "filter" == Value.type "tuple") = false := by decide
  simp only [h1, h2, h3, Bool.or_false, Bool.false_eq_true, if_false]
  refine wpAny_bind (W.self 0 _ _ _ hst ?_)
  refine wpAny_bind (wpAny_holding ?_)
  unfold Builtin.List.listLengthHint
  refine wpAny_bind (wpAny_specialOf (hT 0 _ hst) filter_no_len ?_)
  show wpAny _ A.in1 (specialOf (Value.ref I) (Str.ofString "__length_hint__") >>= _) _ _ _
  refine wpAny_bind (wpAny_specialOf (hT 0 _ hst) filter_no_hint ?_)
  refine wpAny_pure ?_
  show wpAny _ A.in1 (rule "list.extend.makes-room" >>= fun _ => Builtin.List.listTouch (.ref S) >>= fun _ =>
    again (.builtin "list.extend.loop" ⟨[.ref S, .ref I, res], []⟩)) _ _ _
  refine wpAny_bind (wpAny_rule ?_)
  refine wpAny_bind ?_
  show wpAny _ A.in1 (updateSeq S (·.push .none) >>= fun _ => updateSeq S (·.pop)) _ _ _
  refine wpAny_bind (wpAny_updateSeq hS rfl ?_)
  have hS₂ := Heap.get?_update_self (Obj.mapSeq (·.push Value.none)) hS rfl
  refine wpAny_updateSeq (hz := by seq_fits) hS₂ rfl ?_
  have hS₃ := Heap.get?_update_self (Obj.mapSeq (·.pop)) hS₂ rfl
  have oth : ∀ b o, b ≠ S → s.heap.get? b = some o → ((s.heap.update S (Obj.mapSeq (·.push Value.none))).update S (Obj.mapSeq (·.pop))).get? b = some o :=
    fun b o hb e => (Heap.get?_update_other _ _ (Ne.symm hb)).trans ((Heap.get?_update_other _ _ (Ne.symm hb)).trans e)
  refine wpAny_pure ⟨plainId_quiet F.plain_extend_loop _, codeAny_extend_loopS W hn _ hSf _ n 0 _ _ _ rfl (Nat.zero_le _)
    (W.frame 0 s _ s.toks hst (Nat.le_refl _) fun b hb o e => oth b o (fun h => hSf (h ▸ hb)) e) hS₃ (ItemsOf.nil P) fun s' acc' c' hm hS' hacc => ?_⟩
  exact hR s' acc' c' (Moved.trans W.gtrans ((Moved.refl W.grefl).then_heap (Nat.le_refl _) fun b o hb e => oth b o (fun h => hb (h ▸ List.mem_cons_self)) e) hm) hS' hacc
theorem init_filter (W : WalksS prog w A.in1 I fp wr G n P St) (hT : ∀ i s, St i s → s.TypeIs (.ref I) "filter") (S : Addr) (hst : St 0 s) (hSf : S ∉ fp) (hI : I ∈ fp)
    (hS : s.heap.get? S = some { cls := .type "list", data := .seq #[] })
    (hR : ∀ s' acc' c', Moved (S :: wr) G s s' → s'.heap.get? S = some { cls := .type "list", dict := none, data := .seq acc' c', slots := #[] } → ItemsOf P acc' n → R (.ok (.ret .none)) s') (hn : n ≤ sizeLine) :
    wpAny (model prog w) A.in1 (Builtin.«list.__init__» ⟨[.ref S, .ref I], []⟩)
      (fun fin s' => match fin with | .done f => R (.ok f) s' | .again c' => c'.quiet = true ∧ codeAny (model prog w) A c' R s') (fun e s' => R (.error e) s') s := by
  show wpAny _ A.in1 (do let old ← Builtin.List.listItems (.ref S); Builtin.List.listUpdate (.ref S) (fun _ => #[]); letGo old.toList.reverse; Builtin.List.listExtendWith (.ref S) (.ref I) .none) _ _ s
  refine wpAny_bind ?_
  unfold Builtin.List.listItems
  refine wpAny_bind (wpAny_seqItems hS rfl (wpAny_pure ?_))
  show wpAny _ A.in1 (updateSeq S (fun _ => #[]) >>= fun _ => letGo (#[] : Array Value).toList.reverse >>= fun _ => Builtin.List.listExtendWith (.ref S) (.ref I) .none) _ _ s
  refine wpAny_bind (wpAny_updateSeq hS rfl ?_)
  have hS₂ := Heap.get?_update_self (Obj.mapSeq (fun _ => (#[] : Array Value))) hS rfl
  have oth : ∀ b o, b ≠ S → s.heap.get? b = some o → (s.heap.update S (Obj.mapSeq (fun _ => (#[] : Array Value)))).get? b = some o :=
    fun b o hb e => (Heap.get?_update_other _ _ (Ne.symm hb)).trans e
  refine wpAny_bind (wpAny_letGo ?_)
  refine extend_filter (hn := hn) W hT S .none _ (W.frame 0 s _ s.toks hst (Nat.le_refl _) fun b hb o e => oth b o (fun h => hSf (h ▸ hb)) e) hSf hI hS₂ fun s' acc' c' hm hS' hacc => ?_
  exact hR s' acc' c' (Moved.trans W.gtrans ((Moved.refl W.grefl).then_heap (Nat.le_refl _) fun b o hb e => oth b o (fun h => hb (h ▸ List.mem_cons_self)) e) hm) hS' hacc
end
theorem hasS_take (ys : List Str) (n : Nat) (h : ys.length ≤ n) (k : Str) : hasS (ys.take n) k = hasS ys k := by rw [List.take_of_length_le h]
theorem strs_of_items {ys : List Str} {acc : Array Value} (h : ItemsOf (fun i v => ∃ g t, ys[i]? = some g ∧ v = Value.str g t) acc ys.length) : StrsAre acc.toList ys := by
  obtain ⟨hl, ha⟩ := h
  have key : ∀ (vs : List Value) (ys : List Str), vs.length = ys.length → (∀ (j : Nat) (v : Value), vs[j]? = some v → ∃ (g : Str) (t : Tok), ys[j]? = some g ∧ v = Value.str g t) → StrsAre vs ys := by
    intro vs
    induction vs with
    | nil => intro ys h1 _; cases ys with
      | nil => exact .nil
      | cons _ _ => simp at h1
    | cons v r ih =>
      intro ys h1 h2
      cases ys with
      | nil => simp at h1
      | cons y q =>
        obtain ⟨g, t, e1, rfl⟩ := h2 0 v rfl
        simp at e1
        rw [e1]
        exact .cons _ _ (ih q (by simpa using h1) fun j v hv => h2 (j + 1) v hv)
  exact key _ _ (by simpa using hl) fun j v hv => ha j v (by simpa using hv)
section
variable {prog : Program} {w : World} {A : Around} {E : Value → Shared → Prop} {s : Shared} {h₀ : Heap} {L : Addr} {m : Str → Option Value} {news : Led}
theorem news_new (F : Fr h₀ L s.heap m) {h' : Heap} {a : Addr} {o : Obj} (ha : s.heap.objs.size ≤ a) (ho : h'.get? a = some o) : h'.get? a = some o ∧ a ≠ L ∧ h₀.get? a = none := by
  refine ⟨ho, fun e => ?_, ?_⟩
  · exact absurd F.ns.lt (by rw [← e]; exact Nat.not_lt.mpr ha)
  · cases q : h₀.get? a with
    | none => rfl
    | some o' => exact absurd (Nat.lt_of_lt_of_le (Heap.lt_size (F.keep _ _ q)) ha) (Nat.lt_irrefl _)
theorem setN {l : Addr} {vs : List Value} {k : Nat} {ys : List Str} {Q : Value → Shared → Prop} (hh : A.handled = none) (F : Fr h₀ L s.heap m) (N : News h₀ L s.heap news) (hm : (l, W.listOf vs.toArray k) ∈ news) (hs : StrsAre vs ys) (hb : ys.length ≤ 1000)
    (h : ∀ S so h' tk c, Fr h₀ L h' m → News h₀ L h' ((S, so) :: news) → so.SetObjOf (strKind prog w) (hasS ys) c → c ≤ 1000 → (∀ p ∈ news, p.1 < S) → Q (.ref S) { s with heap := h', toks := tk }) :
    wpAny (model prog w) A (call (.type "set") [.ref l]) Q E s := by
  have hlen := hs.length
  refine call_set_strs hh (N.isList hm) (by simpa using hs) (by simp only [List.size_toArray]; unfold scanBound; omega) fun h' tk hS hk => ?_
  obtain ⟨c, hc, hS⟩ := hS
  obtain ⟨so, hso, hO⟩ := (SetOf_congr hS (hasS_take ys _ (by simp [hlen])) rfl).objOf
  have hk' : ∀ b o, s.heap.get? b = some o → h'.get? b = some o := fun b o e => hk b o (Heap.lt_size e) e
  refine h _ so h' tk c (F.keeps hk') ?_ hO (by simp [hlen] at hc; omega) fun p hp => Heap.lt_size (N p hp).1
  intro p hp
  rcases List.mem_cons.mp hp with rfl | hp
  · exact news_new F (Nat.le_refl _) hso
  · exact ⟨hk' _ _ (N p hp).1, (N p hp).2⟩
theorem containsN {S : Addr} {so : Obj} {P : Str → Bool} {c : Nat} {e : Bool} {Q : Value → Shared → Prop} (F : Fr h₀ L s.heap m) (N : News h₀ L s.heap news) (hm : (S, so) ∈ news) (hS : so.SetObjOf (strKind prog w) P c) (hc : c ≤ 1000)
    (h : ∀ b h' tk, Fr h₀ L h' m → News h₀ L h' ((b, cbound S) :: news) → (∀ p ∈ news, p.1 < b) → Q (.ref b) { s with heap := h', toks := tk }) :
    wpAny (model prog w) A (getAttr (.ref S) "__contains__" e) Q E s :=
  get_contains (hS.setOf (N _ hm).1 (by unfold scanBound; omega)) fun tk => h _ _ tk (F.push _) (N.push F _) fun p hp => Heap.lt_size (N p hp).1
theorem filterN {b l : Addr} {vs : List Value} {k : Nat} {Q : Value → Shared → Prop} (F : Fr h₀ L s.heap m) (N : News h₀ L s.heap news) (hm : (l, W.listOf vs.toArray k) ∈ news)
    (h : ∀ z it h', Fr h₀ L h' m → News h₀ L h' ((z, filObj b it) :: (it, { cls := .type "list_iterator", data := .fields #[.ref l, .int 0 0] }) :: news) → (∀ p ∈ news, p.1 < it) → it < z → Q (.ref z) { s with heap := h' }) :
    wpAny (model prog w) A (call (.type "filter") [.ref b, .ref l]) Q E s := by
  refine call_filter (N.isList hm) ?_
  have F1 := F.push { cls := .type "list_iterator", data := .fields #[.ref l, .int 0 0] }
  have N1 := N.push F { cls := .type "list_iterator", data := .fields #[.ref l, .int 0 0] }
  have hz : (s.heap.push { cls := .type "list_iterator", data := .fields #[.ref l, .int 0 0] }).objs.size = s.heap.objs.size + 1 := Heap.size_push ..
  have N2 := News.push F1 N1 (filObj b s.heap.objs.size)
  rw [← hz]
  exact h _ _ _ (F1.push _) N2 (fun p hp => Heap.lt_size (N p hp).1) (by rw [hz]; exact Nat.lt_succ_self _)
theorem listFilN {z it b S l : Addr} {so : Obj} {vs : List Value} {ys : List Str} {P : Str → Bool} {k c : Nat} {rest : Led} {Q : Value → Shared → Prop} (hh : A.handled = none) (F : Fr h₀ L s.heap m)
    (N : News h₀ L s.heap ((z, filObj b it) :: (it, { cls := .type "list_iterator", data := .fields #[.ref l, .int 0 0] }) :: (b, cbound S) :: (S, so) :: rest)) (hm : (l, W.listOf vs.toArray k) ∈ rest) (hs : StrsAre vs ys) (hS : so.SetObjOf (strKind prog w) P c) (hc : c ≤ 1000) (hy : ys.length ≤ 1000)
    (hz : it < z) (hb : b < it) (hSi : S < it) (hr : ∀ p ∈ rest, p.1 < it)
    (h : ∀ D us k' h' tk, Fr h₀ L h' m → News h₀ L h' ((D, W.listOf us.toArray k') :: rest) → StrsAre us (ys.filter P) → (∀ p ∈ rest, p.1 < D) → Q (.ref D) { s with heap := h', toks := tk }) :
    wpAny (model prog w) A (call (.type "list") [.ref z]) Q E s := by
  have gz := N _ (.head _)
  have gi := N _ (.tail _ (.head _))
  have gb := N _ (.tail _ (.tail _ (.head _)))
  have gS := N _ (.tail _ (.tail _ (.tail _ (.head _))))
  have gl := N _ (.tail _ (.tail _ (.tail _ (.tail _ hm))))
  dsimp only at gz gi gb gS gl
  have hli : l < it := hr _ hm
  have X : FilAt prog w s.heap z b it l S 0 vs.toArray P := ⟨gz.1, ⟨_, gi.1, rfl, rfl⟩, N.isList (.tail _ (.tail _ (.tail _ (.tail _ hm)))), gb.1, _, hS.setOf gS.1 (by unfold scanBound; omega)⟩
  have hlt : ∀ {a o}, s.heap.get? a = some o → a < s.heap.objs.size := fun e => Heap.lt_size e
  have hSf : s.heap.objs.size ∉ [z, b, it, l, S] := by
    intro hm
    simp only [List.mem_cons, List.not_mem_nil, or_false] at hm
    rcases hm with e | e | e | e | e
    · exact absurd (hlt gz.1) (by rw [← e]; exact Nat.lt_irrefl _)
    · exact absurd (hlt gb.1) (by rw [← e]; exact Nat.lt_irrefl _)
    · exact absurd (hlt gi.1) (by rw [← e]; exact Nat.lt_irrefl _)
    · exact absurd (hlt gl.1) (by rw [← e]; exact Nat.lt_irrefl _)
    · exact absurd (hlt gS.1) (by rw [← e]; exact Nat.lt_irrefl _)
  have hnl : (ys.filter P).length ≤ sizeLine := Nat.le_trans (List.length_filter_le _ _) (by rw [sizeLine_eq]; omega)
  refine callType_codes (Q₁ := fun obj s₁ => obj = .ref s.heap.objs.size ∧ s₁ = { s with heap := s.heap.push { cls := .type "list", data := .seq #[] } }) PySem.F.called_list (PySem.F.typeCall_list_1 _) PySem.F.entry_list_init
    (code_list_new _ ⟨rfl, rfl⟩) fun obj s₁ h₁ => ?_
  obtain ⟨rfl, rfl⟩ := h₁
  have hD : (s.heap.push { cls := .type "list", data := .seq #[] }).get? s.heap.objs.size = some { cls := .type "list", data := .seq #[] } := Heap.get?_push_size _ rfl
  have W := (Walks.filter (prog := prog) (w := w) (A := A.in1.in1) (by simp [hh]) (z := z) (b := b) (it := it) (l := l) (S := S) (items := vs.toArray) (ys := ys) (P := P) (by simpa using hs) (Nat.ne_of_gt hz) (Nat.ne_of_lt hb) (Nat.ne_of_lt hli) (Nat.ne_of_lt hSi)).toS
  refine ⟨⟨_, hD, rfl⟩, PySem.F.args_list_init_2 _ _, init_filter (hn := hnl) W (fun i s st => let ⟨_, _, _, x⟩ := st; ⟨_, x.z, rfl⟩) _ ⟨0, Nat.zero_le _, by simp, X.at fun c _ o e => Heap.get?_push_of_some _ e⟩ hSf (by simp) hD fun s' acc' c' hm' hS' hacc => ⟨rfl, ?_⟩⟩
  obtain ⟨h', g', d', tk', os'⟩ := s'
  have eg : g' = s.gens := hm'.gens
  have ed : d' = s.drawn := hm'.drawn
  have eo : os' = s.os := hm'.os
  subst eg; subst ed; subst eo
  have keep : ∀ c o, c ≠ it → s.heap.get? c = some o → h'.get? c = some o := fun c o hc e => hm'.heap c o (by
    simp only [List.mem_cons, List.not_mem_nil, or_false, not_or]
    exact ⟨Nat.ne_of_lt (Heap.lt_size e), hc⟩) (Heap.get?_push_of_some _ e)
  have Fi : ∀ b o, h₀.get? b = some o → b ≠ it := fun b o e q => by rw [q, gi.2.2] at e; cases e
  refine h _ acc'.toList c' h' tk' ⟨F.ns.at' fun o e => keep _ o (fun q => gi.2.1 q.symm) e, fun b o e => keep b o (Fi b o e) (F.keep b o e), F.above⟩ ?_ (strs_of_items hacc) fun p hp => Heap.lt_size (N p (.tail _ (.tail _ (.tail _ (.tail _ hp))))).1
  intro p hp
  rcases List.mem_cons.mp hp with rfl | hp
  · exact news_new F (Nat.le_refl _) (by simpa using hS')
  · have := N p (.tail _ (.tail _ (.tail _ (.tail _ hp))))
    exact ⟨keep _ _ (Nat.ne_of_lt (hr p hp)) this.1, this.2⟩
end
end Mine
end

section
open PySem PySem.W PyProof.Rows
namespace Mine
theorem sec_QCB {M : Model} {A : Around} {E : Value → Shared → Prop} {s : Shared} {env : Env} {p : Pos} {Q : Flow → Shared → Prop} (h : Q .next s) : wpAny M A (exec (.Pass p) env) Q E s := by
  w_top off
  k_with_none
  walk1
  exact h
end Mine
end
section
open PySem PySem.W PyProof.Rows
set_option maxRecDepth 100000
namespace Mine
theorem SpecX.use {R : Shared → Shared → Prop} {lv : Nat} {w : World} {f : Addr} {vs : List Value} {news : Led} {Post : Value → Led → Led → Prop} (S : SpecX R lv w f vs news Post)
    {loose : List Str} {mean : ExcName → Option Value} {mg mb : Str → Option Value} {dp un : Nat} {gd : Option (List Code)} {cn : Str} {cs : Scope} {a : Addr} {ccd : Value} {cl : List (Str × Addr)} {outer : List Env} {A₀ : Around} {base h₀ : Heap} {L : Addr} {m : Str → Option Value} {s : Shared} {Q E : Value → Shared → Prop} {t1 t2 : Array Value} {cd : Led}
    (B : Below A₀ base outer h₀) (F : Fr h₀ L s.heap m) (X : (hd.heap_39 w.params).In h₀) (N : News h₀ L s.heap (tb1 t1 :: tb2 t2 :: (cd ++ news))) (h1 : TriplesOk t1.toList) (h2 : TabC lamQ t2 cd) (hT : ∀ p ∈ cd ++ news, @LT.lt Nat _ 181 p.1) (T : Top topProg loose mean mg mb h₀) (hk : cs.kind = .function)
    (hd : dp + lv < recursionLimit) (hu : un + 20 * lv < cLine)
    (ret : ∀ r tl t1' t2' cd' s', Fr h₀ L s'.heap m → News h₀ L s'.heap (tb1 t1' :: tb2 t2' :: (cd' ++ (tl ++ news))) → TriplesOk t1'.toList → TabC lamQ t2' cd' → (∀ p ∈ cd' ++ (tl ++ news), @LT.lt Nat _ 181 p.1) →
      (∀ p ∈ cd, p ∈ cd') → (∀ p ∈ cd', p ∈ cd ∨ ∀ q ∈ cd ++ news, q.1 < p.1) → (∀ p ∈ tl, ∀ q ∈ cd ++ news, q.1 < p.1) → Post r tl cd' → R s s' → Q r s') :
    wpAny (model PySem.Challenge.rw_rs0140_01.prog w) (ktrTop dp un gd cn cs L a ccd cl outer) (call (.ref f) vs) Q E s := S _ _ _ _ _ _ _ _ _ _ _ _ _ _ _ _ _ _ _ _ _ _ _ _ B F X N h1 h2 hT T hk hd hu ret
theorem newsSub {h₀ h : Heap} {L : Addr} {a b : Led} (N : News h₀ L h a) (hs : ∀ p ∈ b, p ∈ a) : News h₀ L h b := fun p hp => N p (hs p hp)
theorem itemL {prog : Program} {w : World} {A : Around} {E : Value → Shared → Prop} {s : Shared} {h₀ : Heap} {L l : Addr} {news : Led} {value slice : PySem.Expr} {vs : List Value} {k : Nat} {i : Int} {u : Tok} {v : Value} {Q : Value → Shared → Prop}
    (N : News h₀ L s.heap news) (hm : (l, W.listOf vs.toArray k) ∈ news) (h0 : 0 ≤ i) (hhi : i < 2 ^ 63) (hx : vs[i.toNat]? = some v) (h : Q v s)
    (hs : subscripted slice false (.ref l) (.int i u) = operate [.ref l, .int i u] (getItem (.ref l) (.int i u)) := by with_unfolding_all rfl) :
    wpAny (model prog w) A (subscriptTail value slice (.ref l) (.int i u)) Q E s :=
  tail_any (N.isList hm).typeIs PySem.F.slot_list_getitem.lookup (wpAny_getItem_list (N.isList hm) h0 hhi (by simpa using hx) h) hs
theorem upd_of {d : Addr} {o o' : Obj} {post : Led} (h2 : ∀ p ∈ post, p.1 ≠ d) : ∀ {pre : Led}, (∀ p ∈ pre, p.1 ≠ d) → Upd d o o' (pre ++ (d, o) :: post) (pre ++ (d, o') :: post)
  | [], _ => .head h2
  | p :: r, h => .tail (h p (.head _)) (upd_of h2 fun q hq => h q (.tail _ hq))
/-- an empty list filled at one go -/
theorem extN {prog : Program} {w : World} {A : Around} {E : Value → Shared → Prop} {s : Shared} {h₀ : Heap} {L D b : Addr} {m : Str → Option Value} {news : Led} {g : Obj → Led} {us : List Value} {n n2 : Nat} {Q : Value → Shared → Prop} (F : Fr h₀ L s.heap m) (N : News h₀ L s.heap news) (hb : (b, W.listOf us.toArray n2) ∈ news) (U : UpdF D (W.listOf #[] n) news g) (hz : us.length ≤ 100000)
    (h : ∀ h' n', Fr h₀ L h' m → News h₀ L h' (g (W.listOf us.toArray n')) → Q .none { s with heap := h' }) : wpAny (model prog w) A (call (.builtin "list.extend") [.ref D, .ref b]) Q E s := by
  obtain ⟨pre, post, rfl, hg, h1, h2⟩ := U.split
  cases us with
  | nil =>
    refine kxn_extend F N hb rfl (upd_of h2 h1) (by simp) (by simp [sizeLine_eq]) (by simp [sizeLine_eq]) fun h' F' N' => h h' n F' ?_
    rw [hg]; exact N'
  | cons v r =>
    refine kl_extend F N hb (l := v :: r) (by simp) (by simp) (upd_of h2 h1) (by simp) (by simp [sizeLine_eq]) (by simp only [List.size_toArray]; rw [sizeLine_eq]; simp at hz ⊢; omega) fun h' F' N' => h h' (n + 1) F' ?_
    rw [hg]; exact N'
theorem memL {α : Type} {x : α} {a b : List α} (h : x ∈ a) : x ∈ a ++ b := List.mem_append.mpr (.inl h)
theorem memR {α : Type} {x : α} {a b : List α} (h : x ∈ b) : x ∈ a ++ b := List.mem_append.mpr (.inr h)
theorem allApp {P : Addr × Obj → Prop} {a b : Led} (ha : ∀ p ∈ a, P p) (hb : ∀ p ∈ b, P p) : ∀ p ∈ a ++ b, P p := fun p hp => (List.mem_append.mp hp).elim (ha p) (hb p)
theorem allCons {P : Addr × Obj → Prop} {x : Addr × Obj} {b : Led} (ha : P x) (hb : ∀ p ∈ b, P p) : ∀ p ∈ x :: b, P p := List.forall_mem_cons.mpr ⟨ha, hb⟩
theorem allNil {P : Addr × Obj → Prop} : ∀ p ∈ ([] : Led), P p := fun _ h => nomatch h
theorem inS {prog : Program} {w : World} {A : Around} {E : Value → Shared → Prop} {s : Shared} {h₀ : Heap} {L l : Addr} {news : Led} {vs : List Value} {ys : List Str} {n : Nat} {k : Str} {t : Tok} {Q : Value → Shared → Prop} (N : News h₀ L s.heap news) (hm : (l, W.listOf vs.toArray n) ∈ news) (hs : StrsAre vs ys) (h : Q (.bool (hasS ys k)) s) :
    wpAny (model prog w) A (compareOp .In (.str k t) (.ref l)) Q E s := by
  refine in_list_strs (N.isList hm) hs ?_
  have e : ys.any (· == k) = hasS ys k := by
    unfold hasS
    congr 1
    funext y
    by_cases hy : k = y
    · simp [hy]
    · have : ¬ y = k := fun e => hy e.symm
      rw [decide_eq_false hy, beq_eq_false_iff_ne.mpr this]
  rw [e]; exact h
/-- a list's items are refs to pairs of ints, in the ledger -/
inductive PairsAt (led : Led) : List Value → List (Int × Int) → Prop where
  | nil : PairsAt led [] []
  | cons {a : Addr} {i j : Int} {t1 t2 : Tok} {n : Nat} {vs : List Value} {rs : List (Int × Int)} : (a, tupObj #[.int i t1, .int j t2] n) ∈ led → PairsAt led vs rs → PairsAt led (.ref a :: vs) ((i, j) :: rs)
theorem PairsAt.mono {led led' : Led} {vs : List Value} {rs : List (Int × Int)} (h : PairsAt led vs rs) (hs : ∀ p ∈ led, p ∈ led') : PairsAt led' vs rs := by
  induction h with
  | nil => exact .nil
  | cons hm _ ih => exact .cons (hs _ hm) ih
theorem PairsAt.length {led : Led} {vs : List Value} {rs : List (Int × Int)} (h : PairsAt led vs rs) : vs.length = rs.length := by
  induction h with
  | nil => rfl
  | cons _ _ ih => simp [ih]
theorem PairsAt.at {led : Led} {vs : List Value} {rs : List (Int × Int)} (h : PairsAt led vs rs) : ∀ {i : Nat} {v : Value}, vs[i]? = some v → ∃ a t1 t2 n r, v = .ref a ∧ rs[i]? = some r ∧ (a, tupObj #[.int r.1 t1, .int r.2 t2] n) ∈ led := by
  induction h with
  | nil => intro i v e; simp at e
  | cons hm _ ih =>
    intro i v e
    cases i with
    | zero => simp at e; exact ⟨_, _, _, _, _, e.symm, rfl, hm⟩
    | succ i => exact ih (by simpa using e)
theorem split_rec {h₀ h : Heap} {L : Addr} {a0 a1 a2 a3 a4 a5 a6 a7 a8 a9 d lv lu x dd c1 c2 b1 b2 : Addr × Obj} {cd news : Led} (N : News h₀ L h (a0 :: a1 :: a2 :: a3 :: a4 :: a5 :: a6 :: a7 :: a8 :: a9 :: d :: lv :: lu :: x :: dd :: c1 :: c2 :: b1 :: b2 :: (cd ++ news))) :
    ∃ KK, News h₀ L h (lv :: b1 :: b2 :: (cd ++ KK)) ∧ (∀ p ∈ [a0, a1, a2, a3, a4, a5, a6, a7, a8, a9, lu, x, dd, c1, c2], p ∈ KK) ∧ (∀ p ∈ news, p ∈ KK) ∧ ∀ P : Addr × Obj → Prop, (∀ p ∈ [a0, a1, a2, a3, a4, a5, a6, a7, a8, a9, lu, x, dd, c1, c2], P p) → (∀ p ∈ news, P p) → ∀ p ∈ KK, P p := by
  refine ⟨[a0, a1, a2, a3, a4, a5, a6, a7, a8, a9, lu, x, dd, c1, c2] ++ news, newsSub N ?_, fun p hp => memL hp, fun p hp => memR hp, fun P h1 h2 => allApp h1 h2⟩
  intro p hp
  simp only [List.mem_cons, List.mem_append, List.not_mem_nil, or_false] at hp ⊢
  grind
end Mine
end

section
open PySem PySem.W PyProof.Rows
namespace Mine
theorem sec_QEN {M : Model} {A : Around} {E : Value → Shared → Prop} {s : Shared} {env : Env} {p : Pos} {Q : Flow → Shared → Prop} (h : Q .next s) : wpAny M A (exec (.Pass p) env) Q E s := by
  w_top off
  k_with_none
  walk1
  exact h
end Mine
end
section
open PySem PySem.W PyProof.Rows PySem.Calls PySem.Spec
set_option maxRecDepth 100000
set_option maxHeartbeats 1000000
namespace Mine
/-- an iterator that another one draws from -/
structure SubIt (prog : Program) (w : World) (it src : Addr) (items : Array Value) (At : Nat → Heap → Prop) : Prop where
  ne : src ≠ it
  frame : ∀ i h h', At i h → (∀ c o, (c = it ∨ c = src) → h.get? c = some o → h'.get? c = some o) → At i h'
  item : ∀ (A : Around) (s : Shared) (E Q : Value → Shared → Prop) i x, At i s.heap → items[i]? = some x → (∀ h', At (i + 1) h' → Heap.SameBut it s.heap h' → Q x { s with heap := h' }) → wpAny (model prog w) A (Builtin.SmallTypes.nextOf (.ref it)) Q E s
  fin : ∀ (A : Around) (s : Shared) (E Q : Value → Shared → Prop) i, A.handled = none → At i s.heap → items[i]? = none → (∀ h' e, Heap.ExtBut it s.heap h' → (∃ o, h'.get? e = some o ∧ o.cls = .type "StopIteration") → E (.ref e) { s with heap := h' }) → wpAny (model prog w) A (Builtin.SmallTypes.nextOf (.ref it)) Q E s
  get : ∀ i h, At i h → ∃ o, h.get? it = some o
  getS : ∀ i h, At i h → ∃ o, h.get? src = some o
section
variable {prog : Program} {w : World} {A : Around} {E : Value → Shared → Prop} {s : Shared}
theorem SubIt.list {it l : Addr} {items : Array Value} (hne : l ≠ it) : SubIt prog w it l items (fun i h => h.IsListIter it l i ∧ h.IsList l items) where
  ne := hne
  frame := fun i h h' x k => ⟨x.1.at fun o e => k _ o (.inl rfl) e, x.2.at fun o e => k _ o (.inr rfl) e⟩
  item := fun A s E Q i x st hx hQ => wpAny_nextOf_list_item st.1 st.2 hx fun h' hit hs => hQ h' ⟨hit, st.2.at fun o e => hs.extBut _ _ hne e⟩ hs
  fin := fun A s E Q i hh st hx hE => wpAny_nextOf_list_end hh st.1 st.2 hx hE
  get := fun i h st => let ⟨o, ho, _⟩ := st.1; ⟨o, ho⟩
  getS := fun i h st => let ⟨o, ho, _⟩ := st.2; ⟨o, ho⟩
theorem next_tup_item {it t : Addr} {i : Nat} {items : Array Value} {x : Value} {Q : Value → Shared → Prop} (hit : s.heap.IsTupleIter it t i) (ht : s.heap.IsTuple t items) (hx : items[i]? = some x)
    (hQ : ∀ h', h'.IsTupleIter it t (i + 1) → Heap.SameBut it s.heap h' → Q x { s with heap := h' }) : wpAny (model prog w) A (Builtin.SmallTypes.nextOf (.ref it)) Q E s := by
  obtain ⟨o, ho, hc, hd⟩ := id hit
  obtain ⟨ot, hot, _, nt, hdt⟩ := ht
  unfold Builtin.SmallTypes.nextOf
  refine wpAny_bind (wpAny_callSpecial?_slot (name := Str.ofString "__next__") hit.typeIs F.slot_tuple_iterator_next
    (wpAny_call_entry F.slot_tuple_iterator_next hit.typeIs F.entry_tuple_iterator_next ?_ (F.args_tuple_iterator_next_1 _)))
  show wpAny _ _ (field (.ref it) 0 >>= _) _ _ s
  refine wpAny_bind (wpAny_field ho hd (x := .ref t) rfl ?_)
  show wpAny _ _ (if (Value.ref t == Value.none) = true then _ else _) _ _ s
  rw [if_neg (show ¬ ((Value.ref t == Value.none) = true) from Bool.false_ne_true)]
  show wpAny _ _ (field (.ref it) 1 >>= _) _ _ s
  refine wpAny_bind (wpAny_field ho hd (x := .int i 0) rfl ?_)
  show wpAny _ _ (seqItems? (.ref t) >>= _) _ _ s
  refine wpAny_bind (wpAny_seqItems hot hdt ?_)
  simp only [Int.toNat_natCast, hx]
  refine wpAny_bind (wpAny_setField ho hd (by simp) (wpAny_pure ⟨x, rfl, wpAny_pure (hQ _ ?_ (Heap.SameBut.update ..))⟩))
  exact ⟨_, Heap.get?_update_self _ ho (Obj.isFreed_of_fields (Obj.data_mapFields hd _)), (Obj.cls_mapFields ..).trans hc, by
    rw [Obj.data_mapFields hd]; simp [rawInt]⟩
theorem next_tup_end {it t : Addr} {i : Nat} {items : Array Value} {Q : Value → Shared → Prop} (hh : A.handled = none) (hit : s.heap.IsTupleIter it t i) (ht : s.heap.IsTuple t items) (hx : items[i]? = none)
    (hE : ∀ h' e, Heap.ExtBut it s.heap h' → (∃ o, h'.get? e = some o ∧ o.cls = .type "StopIteration") → E (.ref e) { s with heap := h' }) : wpAny (model prog w) A (Builtin.SmallTypes.nextOf (.ref it)) Q E s := by
  obtain ⟨o, ho, hc, hd⟩ := id hit
  obtain ⟨ot, hot, _, nt, hdt⟩ := ht
  unfold Builtin.SmallTypes.nextOf
  refine wpAny_bind (wpAny_callSpecial?_slot (name := Str.ofString "__next__") hit.typeIs F.slot_tuple_iterator_next
    (wpAny_call_entry F.slot_tuple_iterator_next hit.typeIs F.entry_tuple_iterator_next ?_ (F.args_tuple_iterator_next_1 _)))
  show wpAny _ _ (field (.ref it) 0 >>= _) _ _ s
  refine wpAny_bind (wpAny_field ho hd (x := .ref t) rfl ?_)
  show wpAny _ _ (if (Value.ref t == Value.none) = true then _ else _) _ _ s
  rw [if_neg (show ¬ ((Value.ref t == Value.none) = true) from Bool.false_ne_true)]
  show wpAny _ _ (field (.ref it) 1 >>= _) _ _ s
  refine wpAny_bind (wpAny_field ho hd (x := .int i 0) rfl ?_)
  show wpAny _ _ (seqItems? (.ref t) >>= _) _ _ s
  refine wpAny_bind (wpAny_seqItems hot hdt ?_)
  simp only [Int.toNat_natCast, hx]
  refine wpAny_bind (wpAny_rule (wpAny_bind (wpAny_setField ho hd (by simp) ?_)))
  show wpAny _ _ (newExc (.type "StopIteration") [] >>= _) _ _ _
  refine wpAny_bind ?_
  simp only [newExc, newTuple]
  refine wpAny_bind (wpAny_newObj_type ?_ (by size_fits))
  refine wpAny_bind (m := firstArgMember _ _) (wpAny_of_eq (a := Value.none) (by first | rfl | (simp only [firstArgMember]; rfl)) ?_)
  refine wpAny_newObj_type ?_ (by size_fits)
  simp only [raiseNew]
  refine wpAny_bind (wpAny_handled ?_)
  first | rw [show A.in1.handled = none from hh] | rw [hh]
  refine wpAny_bind (wpAny_pure (wpAny_throw ?_))
  exact hE _ _ (((Heap.SameBut.update ..).extBut.push _).push _) ⟨_, Heap.get?_push_size _ rfl, rfl⟩
theorem SubIt.tup {it t : Addr} {items : Array Value} (hne : t ≠ it) : SubIt prog w it t items (fun i h => h.IsTupleIter it t i ∧ h.IsTuple t items) where
  ne := hne
  frame := fun i h h' x k => ⟨x.1.at fun o e => k _ o (.inl rfl) e, x.2.at fun o e => k _ o (.inr rfl) e⟩
  item := fun A s E Q i x st hx hQ => next_tup_item st.1 st.2 hx fun h' hit hs => hQ h' ⟨hit, st.2.at fun o e => hs.extBut _ _ hne e⟩ hs
  fin := fun A s E Q i hh st hx hE => next_tup_end hh st.1 st.2 hx hE
  get := fun i h st => let ⟨o, ho, _⟩ := st.1; ⟨o, ho⟩
  getS := fun i h st => let ⟨o, ho, _⟩ := st.2; ⟨o, ho⟩
end
end Mine
end

section
open PySem PySem.W PyProof.Rows
namespace Mine
theorem sec_QEO {M : Model} {A : Around} {E : Value → Shared → Prop} {s : Shared} {env : Env} {p : Pos} {Q : Flow → Shared → Prop} (h : Q .next s) : wpAny M A (exec (.Pass p) env) Q E s := by
  w_top off
  k_with_none
  walk1
  exact h
end Mine
end
section
open PySem PySem.W PyProof.Rows PySem.Calls PySem.Spec
set_option maxRecDepth 100000
set_option maxHeartbeats 1000000
namespace Mine
open PySem.AutoSeq1 (wpAny_loadPart')
theorem meets_enum_tup (l : Addr) (items : Array Value) (n : Nat) (dct : Option Addr) (sl : Array (Option Value)) :
    Meets (Builtin.«enumerate.__new__» ⟨[.type "enumerate", .ref l], []⟩) (fun _ R s => s.heap.get? l = some { cls := .type "tuple", dict := dct, data := .seq items n, slots := sl } ∧
      R (.ok (.ret (.ref (s.heap.push { cls := .type "tuple_iterator", data := .fields #[.ref l, .int 0 0] }).objs.size)))
        { s with heap := (s.heap.push { cls := .type "tuple_iterator", data := .fields #[.ref l, .int 0 0] }).push { cls := .type "enumerate", data := .fields #[.none, .bool false, .ref s.heap.objs.size, rawInt 0, .none, .none] } }) :=
  .of_wp fun prog w A R s h => by
    obtain ⟨hp, g, d, tk, os⟩ := s; obtain ⟨hl, h⟩ := h
    have hsub := sub_enumerate
    have hL : Heap.IsTuple (Shared.heap ⟨hp, g, d, tk, os⟩) l items := ⟨_, hl, rfl, n, rfl⟩
    wp_walk using wpAny_loadPart' hl
    refine wpAny_stack_any fun st => wpAny_pure ?_
    split
    · rename_i c _ _ _ _ _
      cases (c == Value.type "enumerate")
      · wp_walk using wpAny_loadPart' hl, wpAny_pyIter_tuple hL
        exact ⟨_, rfl, h⟩
      · wp_walk using wpAny_loadPart' hl, wpAny_pyIter_tuple hL
        exact ⟨_, rfl, h⟩
    · wp_walk using wpAny_loadPart' hl, wpAny_pyIter_tuple hL
      exact ⟨_, rfl, h⟩
section
variable {prog : Program} {w : World} {A : Around} {E : Value → Shared → Prop} {s : Shared}
theorem call_enum_tup {l : Addr} {items : Array Value} {Q : Value → Shared → Prop} (hL : s.heap.IsTuple l items)
    (h : ∀ h', IsEnum h' (s.heap.objs.size + 1) s.heap.objs.size 0 .none → h'.IsTupleIter s.heap.objs.size l 0 → h'.objs.size = s.heap.objs.size + 2 →
      (∀ b o, s.heap.get? b = some o → h'.get? b = some o) → Q (.ref (s.heap.objs.size + 1)) { s with heap := h' }) :
    wpAny (model prog w) A (call (.type "enumerate") [.ref l]) Q E s := by
  obtain ⟨⟨c, dct, dt, sl⟩, hl, hc, n, hd⟩ := hL
  replace hc : c = .type "tuple" := hc
  replace hd : dt = .seq items n := hd
  subst hc hd
  refine callType_new F.called_enumerate (by decide) (F.typeCall_enumerate_1 _) (F.newCall_enumerate_1 _) (fun obj => F.args_object_init_2 obj _) F.entry_enumerate_new
    (meets_enum_tup l items n dct sl) ⟨hl, ?_⟩
  have hz : (s.heap.push { cls := .type "tuple_iterator", data := .fields #[.ref l, .int 0 0] }).objs.size = s.heap.objs.size + 1 := Heap.size_push ..
  show _ ∧ _
  rw [hz]
  have he : IsEnum ((s.heap.push { cls := .type "tuple_iterator", data := .fields #[.ref l, .int 0 0] }).push
      { cls := .type "enumerate", data := .fields #[.none, .bool false, .ref s.heap.objs.size, rawInt 0, .none, .none] }) (s.heap.objs.size + 1) s.heap.objs.size 0 .none := by
    have := Heap.get?_push_size (s.heap.push { cls := .type "tuple_iterator", data := .fields #[.ref l, .int 0 0] })
      (o := { cls := .type "enumerate", data := .fields #[.none, .bool false, .ref s.heap.objs.size, rawInt 0, .none, .none] }) rfl
    rw [hz] at this; exact this
  refine ⟨⟨_, he, rfl⟩, h _ he ⟨_, Heap.get?_push_of_some _ (Heap.get?_push_size _ rfl), rfl, rfl⟩ (by rw [Heap.size_push, hz]) fun b o y => Heap.get?_push_of_some _ (Heap.get?_push_of_some _ y)⟩
theorem SubIt.but {it src : Addr} {items : Array Value} {At : Nat → Heap → Prop} (S : SubIt prog w it src items At) {i : Nat} {b : Addr} {h h' : Heap} (x : At i h) (hs : Heap.ExtBut b h h') (h1 : it ≠ b) (h2 : src ≠ b) : At i h' :=
  S.frame i h h' x fun c o hc e => by
    rcases hc with rfl | rfl
    · exact hs _ _ h1 e
    · exact hs _ _ h2 e
theorem enum_next {e it src : Addr} {i : Nat} {items : Array Value} {At : Nat → Heap → Prop} (S : SubIt prog w it src items At) {x old : Value} {Q : Value → Shared → Prop}
    (he : IsEnum s.heap e it i old) (hit : At i s.heap) (hx : items[i]? = some x) (hne : e ≠ it) (hse : src ≠ e)
    (hQ : ∀ h', IsEnumOut h' e it ((i : Int) + 1) x s.heap.objs.size → At (i + 1) h' →
      h'.get? s.heap.objs.size = some { cls := .type "tuple", data := .seq #[.int i s.toks, x] } → h'.objs.size = s.heap.objs.size + 1 →
      (∀ b o, b ≠ e → b ≠ it → s.heap.get? b = some o → h'.get? b = some o) → Q (.ref s.heap.objs.size) { s with heap := h', toks := s.toks + 1 }) :
    wpAny (model prog w) A (Builtin.«enumerate.__next__» ⟨[.ref e], []⟩) (fun fin s' => ∃ v, fin = .done (.ret v) ∧ Q v s') E s := by
  obtain ⟨hp, g, d, tk, os⟩ := s
  show wpAny _ _ (field (.ref e) 2 >>= _) _ _ _
  refine wpAny_bind (wpAny_field he rfl (x := .ref it) rfl ?_)
  refine wpAny_bind (S.item _ _ _ _ _ _ hit hx fun h₁ hit₁ hs₁ => ?_)
  replace hs₁ : Heap.SameBut it hp h₁ := hs₁
  have he₁ : IsEnum h₁ e it i old := (hs₁.2 e hne).trans he
  show wpAny _ _ (field (.ref e) 3 >>= _) _ _ ⟨h₁, g, d, tk, os⟩
  refine wpAny_bind (wpAny_field he₁ rfl (x := rawInt i) rfl ?_)
  show wpAny _ _ (field (.ref e) 4 >>= _) _ _ ⟨h₁, g, d, tk, os⟩
  refine wpAny_bind (wpAny_field he₁ rfl (x := .none) rfl ?_)
  show wpAny _ _ (mkInt i >>= _) _ _ ⟨h₁, g, d, tk, os⟩
  refine wpAny_bind (wpAny_mkInt ?_)
  show wpAny _ _ (setField (.ref e) 3 (rawInt ((i : Int) + 1)) >>= _) _ _ ⟨h₁, g, d, tk + 1, os⟩
  refine wpAny_bind (wpAny_setField_rec he₁ (by simp) fun h₂ he₂ hs₂ => ?_)
  replace hs₂ : Heap.SameBut e h₁ h₂ := hs₂
  replace he₂ : IsEnum h₂ e it ((i : Int) + 1) old := he₂
  show wpAny _ _ (setField (.ref e) 4 .none >>= _) _ _ ⟨h₂, g, d, tk + 1, os⟩
  refine wpAny_bind (wpAny_setField_rec he₂ (by simp) fun h₃ he₃ hs₃ => ?_)
  replace hs₃ : Heap.SameBut e h₂ h₃ := hs₃
  replace he₃ : IsEnum h₃ e it ((i : Int) + 1) old := he₃
  show wpAny _ _ (newTuple [.int i tk, x] >>= _) _ _ ⟨h₃, g, d, tk + 1, os⟩
  refine wpAny_bind (wpAny_newTuple ?_)
  have he₄ : IsEnum (h₃.push { cls := .type "tuple", data := .seq #[.int i tk, x] }) e it ((i : Int) + 1) old := Heap.get?_push_of_some _ he₃
  have hit₃ : At (i + 1) h₃ := S.but (S.but hit₁ hs₂.extBut (Ne.symm hne) hse) hs₃.extBut (Ne.symm hne) hse
  have hit₄ : At (i + 1) (h₃.push { cls := .type "tuple", data := .seq #[.int i tk, x] }) := S.frame _ _ _ hit₃ fun c o _ e => Heap.get?_push_of_some _ e
  have hsz : h₃.objs.size = hp.objs.size := by rw [hs₃.1, hs₂.1, hs₁.1]
  have hk₃ : ∀ b o, b ≠ e → b ≠ it → hp.get? b = some o → (h₃.push { cls := .type "tuple", data := .seq #[.int i tk, x] }).get? b = some o := fun b o hbe hbi hb =>
    Heap.get?_push_of_some _ (hs₃.extBut b o hbe (hs₂.extBut b o hbe (hs₁.extBut b o hbi hb)))
  generalize hh₄ : h₃.push { cls := .type "tuple", data := .seq #[.int i tk, x] } = h₄ at he₄ hit₄ hk₃
  have hel : e < hp.objs.size := Heap.lt_size he
  have ht₄ : h₄.get? hp.objs.size = some { cls := .type "tuple", data := .seq #[.int i tk, x] } := by rw [← hh₄, ← hsz]; exact Heap.get?_push_size _ rfl
  have hz₄ : h₄.objs.size = hp.objs.size + 1 := by rw [← hh₄, Heap.size_push, hsz]
  show wpAny _ _ (Builtin.SmallTypes.ownedTupleIsFree (.ref e) >>= _) _ _ ⟨h₄, g, d, tk + 1, os⟩
  rw [hsz]
  clear hh₄ he₃ hs₃ he₂ hs₂ he₁ hs₁ hit₁ hit₃ hsz h₃ h₂ h₁
  refine wpAny_bind ?_
  · unfold Builtin.SmallTypes.ownedTupleIsFree
    refine wpAny_bind (wpAny_field he₄ rfl (x := .none) rfl (wpAny_pure ?_))
    simp only [if_true]
    refine wpAny_bind (wpAny_rule ?_)
    refine wpAny_bind (wpAny_field he₄ rfl (x := old) rfl ?_)
    refine wpAny_bind (wpAny_setField_rec he₄ (by simp) fun h₅ he₅ hs₅ => ?_)
    replace hs₅ : Heap.SameBut e h₄ h₅ := hs₅
    replace he₅ : IsEnum h₅ e it ((i : Int) + 1) x := he₅
    show wpAny _ _ (Builtin.SmallTypes.ownedTupleHandOut (.ref e) (.ref hp.objs.size) >>= _) _ _ ⟨h₅, g, d, tk + 1, os⟩
    refine wpAny_bind ?_
    · unfold Builtin.SmallTypes.ownedTupleHandOut
      refine wpAny_bind (wpAny_setField_rec he₅ (by simp) fun h₆ he₆ hs₆ => ?_)
      replace hs₆ : Heap.SameBut e h₅ h₆ := hs₆
      replace he₆ : IsEnumOut h₆ e it ((i : Int) + 1) x hp.objs.size := he₆
      refine wpAny_setField_rec he₆ (by simp) fun h₇ he₇ hs₇ => ?_
      replace hs₇ : Heap.SameBut e h₆ h₇ := hs₇
      replace he₇ : IsEnumOut h₇ e it ((i : Int) + 1) x hp.objs.size := he₇
      refine wpAny_bind (wpAny_letGo (wpAny_pure ⟨_, rfl, hQ h₇ he₇ ?_ ?_ ?_ ?_⟩))
      · exact S.but (S.but (S.but hit₄ hs₅.extBut (Ne.symm hne) hse) hs₆.extBut (Ne.symm hne) hse) hs₇.extBut (Ne.symm hne) hse
      · exact hs₇.extBut _ _ (Nat.ne_of_gt hel) (hs₆.extBut _ _ (Nat.ne_of_gt hel) (hs₅.extBut _ _ (Nat.ne_of_gt hel) ht₄))
      · rw [hs₇.1, hs₆.1, hs₅.1, hz₄]
      · exact fun b o hbe hbi hb => hs₇.extBut b o hbe (hs₆.extBut b o hbe (hs₅.extBut b o hbe (hk₃ b o hbe hbi hb)))
/-- the turns of enumerate -/
theorem KTurns.enum (hh : A.handled = none) {e it src : Addr} {items : Array Value} {At : Nat → Heap → Prop} (S : SubIt prog w it src items At) (hne : e ≠ it) (hse : src ≠ e) {elts : List Expr} {k : Nat} {pos : Pos} :
    KTurns prog w A (.Tuple elts k pos) e [e, it, src] [e, it] items.size (fun i v h => ∃ T t x, v = .ref T ∧ items[i]? = some x ∧ h.IsTuple T #[.int (i : Int) t, x])
      (fun i v h => ∃ T t x, v = .ref T ∧ items[i]? = some x ∧ h.IsTuple T #[.int (i : Int) t, x] ∧ IsEnumOut h e it ((i : Int) + 1) x T ∧ At (i + 1) h ∧ T ≠ e ∧ T ≠ it)
      (fun i h => (∃ old, IsEnum h e it i old) ∧ At i h) where
  sub := fun b hb => by simp at hb ⊢; rcases hb with h | h <;> simp [h]
  frame := fun i h h' st hk => by
    obtain ⟨⟨old, he⟩, hit⟩ := st
    exact ⟨⟨old, hk e (by simp) _ he⟩, S.frame _ _ _ hit fun c o hc q => hk c (by rcases hc with rfl | rfl <;> simp) o q⟩
  item := fun i s Q E hi st hQ => by
    obtain ⟨⟨old, he⟩, hit⟩ := st
    have hx : items[i]? = some items[i] := Array.getElem?_eq_getElem hi
    have hT : s.TypeIs (.ref e) "enumerate" := ⟨_, he, rfl⟩
    have helt : e < s.heap.objs.size := Heap.lt_size he
    have hilt : it < s.heap.objs.size := by obtain ⟨_, x⟩ := S.get _ _ hit; exact Heap.lt_size x
    unfold pyNext
    refine wpAny_bind (wpAny_attempt (wpAny_callSpecial?_slot (name := Str.ofString "__next__") hT F.slot_enumerate_next
      (wpAny_call_entry F.slot_enumerate_next hT F.entry_enumerate_next
        (enum_next S he hit hx hne hse fun h' ho hit' hT hsz hk => wpAny_pure (hQ (.ref s.heap.objs.size) h' (s.toks + 1) ⟨_, _, _, rfl, hx, ⟨_, hT, rfl, _, rfl⟩, ho, hit', Nat.ne_of_gt helt, Nat.ne_of_gt hilt⟩
          fun b o hb x => hk b o (fun e' => hb (by simp [e'])) (fun e' => hb (by simp [e'])) x)) (F.args_enumerate_next_1 _))))
  go := fun i v s Q E hm hQ => by
    obtain ⟨T, t, x, rfl, hx, hT, ho, hit, hTe, hTi⟩ := hm
    refine wpAny_letOwnedTupleGo_enum ho fun h' he' hs' => hQ h' ⟨T, t, x, rfl, hx, hT.at fun o q => hs'.extBut _ _ hTe q⟩ ⟨⟨x, by simpa using he'⟩, S.but hit hs'.extBut (Ne.symm hne) hse⟩ fun b o hb y => hs'.extBut _ _ (fun e' => hb (by simp [e'])) y
  done := fun s Q E st hQ => by
    obtain ⟨⟨old, he⟩, hit⟩ := st
    have hT : s.TypeIs (.ref e) "enumerate" := ⟨_, he, rfl⟩
    unfold pyNext
    refine wpAny_bind (wpAny_attempt (wpAny_callSpecial?_slot (name := Str.ofString "__next__") hT F.slot_enumerate_next
      (wpAny_call_entry F.slot_enumerate_next hT F.entry_enumerate_next ?_ (F.args_enumerate_next_1 _))))
    show wpAny _ _ (field (.ref e) 2 >>= _) _ _ _
    refine wpAny_bind (wpAny_field he rfl (x := .ref it) rfl ?_)
    refine wpAny_bind (S.fin _ _ _ _ _ (by simpa using hh) hit (Array.getElem?_eq_none (Nat.le_refl _)) fun h' x he' hx' => ?_)
    obtain ⟨o, ho, hc⟩ := hx'
    refine wpAny_bind (wpAny_isInstance (T := "StopIteration") (b := true) ⟨o, ho, hc⟩ isSubtype_stop ?_)
    exact wpAny_pure (hQ _ _ fun b o hb y => he' b o (fun e' => hb (by simp [e'])) y)
end
end Mine
end

section
open PySem PySem.W PyProof.Rows
namespace Mine
theorem sec_QCK {M : Model} {A : Around} {E : Value → Shared → Prop} {s : Shared} {env : Env} {p : Pos} {Q : Flow → Shared → Prop} (h : Q .next s) : wpAny M A (exec (.Pass p) env) Q E s := by
  w_top off
  k_with_none
  walk1
  exact h
end Mine
end
section
open PySem PySem.W PyProof.Rows PySem.Calls PySem.Spec
set_option maxRecDepth 100000
set_option maxHeartbeats 1000000
namespace Mine
open LCg LCp
section
variable {prog : Program} {w : World} {A : Around} {E : Value → Shared → Prop} {s : Shared} {h₀ : Heap} {L : Addr} {m : Str → Option Value} {env : Env}
/-- a comprehension over pairs that an iterator makes; its element changes nothing of the ledger -/
inductive CompK (prog : Program) (w : World) (A : Around) (h₀ : Heap) (L : Addr) (m : Str → Option Value) (env : Env) (elt : Expr) (x x₂ : Str) (px px₂ tp : Pos) (tk : Nat) (scope : Scope) (cl : List (Str × Addr)) (K : List Value → Led → Shared → Prop) (it : Value) (s₂ : Shared) : Prop
  | intro (I : Addr) (fp wr : List Addr) (n : Nat) (P Md : Nat → Value → Heap → Prop) (St : Nat → Heap → Prop) (led : Led) (PV : Nat → Value → Value → Prop) (R : Nat → List Value → Prop) (h0 : it = .ref I) (h1 : KTurns prog w A (.Tuple [.Name x px, .Name x₂ px₂] tk tp) I fp wr n P Md St) (h2 : n ≤ sizeLine) (h3 : St 0 s₂.heap) (h4 : (∀ i h, St i h → ∀ b ∈ fp, ∃ o, h.get? b = some o)) (h5 : (∀ b ∈ fp, b < s₂.heap.objs.size)) (h6 : L ∉ fp) (h7 : (∀ b ∈ wr, h₀.get? b = none)) (h8 : (∀ i v h, P i v h → ∃ T v₁ v₂, v = .ref T ∧ h.IsTuple T #[v₁, v₂] ∧ PV i v₁ v₂)) (h9 : A.handled = none) (h10 : Fr h₀ L s₂.heap m) (h11 : News h₀ L s₂.heap led) (h12 : (∀ p ∈ led, p.1 ∉ wr)) (h13 : (∀ (s' : Shared) (Q' : Value → Shared → Prop) E', St 0 s'.heap → Q' (.ref I) s' → wpAny (model prog w) A (pyIter (.ref I)) Q' E' s')) (h14 : R 0 []) (h15 : (∀ i v₁ v₂ ys C oC D m₂ own h tk (E' : Value → Shared → Prop), i < n → PV i v₁ v₂ → R i ys → NsObj oC m₂ → m₂ x = some v₁ → m₂ x₂ = some v₂ → Fr h₀ L h m → News h₀ L h ((C, oC) :: (D, lst ys) :: (led ++ own)) → wpAny (model prog w) A (eval elt (compEnvC scope cl C env)) (fun y s₄ => ∃ h' tk', s₄ = { s₂ with heap := h', toks := tk' } ∧ Fr h₀ L h' m ∧ News h₀ L h' ((C, oC) :: (D, lst ys) :: (led ++ own)) ∧ R (i + 1) (ys ++ [y])) E' { s₂ with heap := h, toks := tk })) (h16 : ∀ ys, R n ys → K ys led s₂) : CompK prog w A h₀ L m env elt x x₂ px px₂ tp tk scope cl K it s₂
theorem block_K {elt iter : Expr} {x x₂ : Str} {px px₂ tp : Pos} {tk} {scope : Scope} {cl : List (Str × Addr)} {pos : Pos} {K : List Value → Led → Shared → Prop} {RR : Value → Addr → Result → Shared → Prop} {it : Value} {s₂ : Shared}
    (hcell : ∀ y ∈ scope.names, y.2 ≠ .cell) (hkind : scope.kind = .function)
    (hx : scope.names.lookup x = some .local) (hx₂ : scope.names.lookup x₂ = some .local) (hxx : x ≠ x₂)
    (h₂ : CompK prog w A h₀ L m env elt x x₂ px px₂ tp tk scope cl K it s₂)
    (hRR : ∀ D C h tk m' ys led, Fr h₀ L h m → News h₀ L h ((D, lst ys) :: led) → (∀ p ∈ led, p.1 < D) → h.Ns C m' → h₀.get? C = none → C ≠ L → C ≠ D → (∀ p ∈ led, p.1 ≠ C) → K ys led s₂ → RR (.ref D) C (.ok .next) { s₂ with heap := h, toks := tk }) :
    wpAny (model prog w) A (newList []) (fun acc s₃ => wpAny (model prog w) A (newFunctionEnv scope env.globals cl [] env.qual none .none (some env)) (fun cenv s₄ =>
      codeAny (model prog w) A (.compStart (.ListComp elt [⟨.Tuple [.Name x px, .Name x₂ px₂] tk tp, iter, [], 0⟩] scope pos) 0 it acc { cenv with scope := relabel scope env }) (RR acc cenv.locals) s₄) E s₃) E s₂ := by
  obtain ⟨I, fp, wr, n, P, Md, St, led, PV, R, rfl, W, hsz, hst, hex, hfp, hLf, hwr, hPV, hh, F, N, hoff, hself, h0, turn, fin⟩ := h₂
  refine wpAny_newObj_type (wpAny_newFunctionEnv hcell (by intro y hy; simp at hy) (fun h₁ hns₁ hsb₁ => ?_) hkind)
  dsimp only at hns₁ hsb₁ ⊢
  generalize hH2 : s₂.heap.push { cls := .type "list", dict := none, data := .seq ([] : List Value).toArray } = H2 at hns₁ hsb₁ ⊢
  have hC : H2.objs.size = s₂.heap.objs.size + 1 := by rw [← hH2, Heap.size_push]
  have hDC : s₂.heap.objs.size ≠ H2.objs.size := by rw [hC]; exact Nat.ne_of_lt (Nat.lt_succ_self _)
  have below : ∀ b, b < s₂.heap.objs.size → b ≠ H2.objs.size ∧ b ≠ s₂.heap.objs.size := fun b hb => ⟨by rw [hC]; exact Nat.ne_of_lt (Nat.lt_succ_of_lt hb), Nat.ne_of_lt hb⟩
  have hDf : s₂.heap.objs.size ∉ fp := fun hm => Nat.lt_irrefl _ (hfp _ hm)
  have hCf : H2.objs.size ∉ fp := fun hm => by have := hfp _ hm; rw [hC] at this; exact Nat.lt_irrefl _ (Nat.lt_of_succ_lt this)
  have old : ∀ b o, s₂.heap.get? b = some o → h₁.get? b = some o := fun b o e => hsb₁.extBut b o (below b (Heap.lt_size e)).1 (Heap.get?_push_of_some _ (hH2 ▸ Heap.get?_push_of_some _ e))
  have hacc : h₁.get? s₂.heap.objs.size = some (lst []) := hsb₁.extBut _ _ hDC (Heap.get?_push_of_some _ (hH2 ▸ Heap.get?_push_size _ rfl))
  have hst₁ : St 0 h₁ := W.frame _ _ _ hst fun b hb o e => old b o e
  have fresh₀ : ∀ a, s₂.heap.objs.size ≤ a → h₀.get? a = none := fun a ha => by
    cases e : h₀.get? a with
    | none => rfl
    | some o' => exact absurd (Heap.lt_size (F.keep a o' e)) (Nat.not_lt.mpr ha)
  have hD₀ : h₀.get? s₂.heap.objs.size = none := fresh₀ _ (Nat.le_refl _)
  have hC₀ : h₀.get? H2.objs.size = none := fresh₀ _ (by rw [hC]; exact Nat.le_succ _)
  have hLlt : L < s₂.heap.objs.size := F.ns.lt
  have hDL : s₂.heap.objs.size ≠ L := Ne.symm (below L hLlt).2
  have hCL : H2.objs.size ≠ L := Ne.symm (below L hLlt).1
  have hLw : L ∉ wr := fun h => hLf (W.sub _ h)
  have oldw : ∀ b o, h₀.get? b = some o → b ∉ wr := fun b o e hb => by rw [hwr b hb] at e; cases e
  have hDw : s₂.heap.objs.size ∉ wr := fun h => hDf (W.sub _ h)
  have hCw : H2.objs.size ∉ wr := fun h => hCf (W.sub _ h)
  have ledlt : ∀ p ∈ led, p.1 < s₂.heap.objs.size := fun p hp => Heap.lt_size (N p hp).1
  have loop : ∀ s₃ : Shared, s₃ = { s₂ with heap := h₁, toks := s₂.toks + ([] : List (Str × Value)).length } →
      codeAny (model prog w) A (.compLoop (.ListComp elt [⟨.Tuple [.Name x px, .Name x₂ px₂] tk tp, iter, [], 0⟩] scope pos) 0 (.ref I) (.ref s₂.heap.objs.size) (compEnvC scope cl H2.objs.size env))
        (RR (.ref s₂.heap.objs.size) H2.objs.size) s₃ := by
    rintro s₃ rfl
    refine codeAny_compLoop_pair
      (fun k s' => ∃ h' tk i ys m', s' = { s₂ with heap := h', toks := tk } ∧ i ≤ n ∧ k = n + 1 - i ∧ ys.length = i ∧ St i h' ∧ Fr h₀ L h' m ∧ h'.Ns H2.objs.size m' ∧ News h₀ L h' ((s₂.heap.objs.size, lst ys) :: led) ∧ R i ys) ?_ (n + 1)
      ⟨h₁, _, 0, [], _, rfl, Nat.zero_le _, rfl, rfl, hst₁, F.keeps old, hns₁, fun p hp => ?_, h0⟩
    · rintro k s' ⟨h', tk', i, ys, m', rfl, hi, rfl, hyl, hst', F', hn', N', hR⟩
      have move : ∀ h₂ : Heap, (∀ b o, b ∉ wr → h'.get? b = some o → h₂.get? b = some o) → Fr h₀ L h₂ m ∧ h₂.Ns H2.objs.size m' ∧ News h₀ L h₂ ((s₂.heap.objs.size, lst ys) :: led) := fun h₂ hk =>
        ⟨⟨F'.ns.at' fun o e => hk _ o hLw e, fun b o e => hk b o (oldw b o e) (F'.keep b o e), F'.above⟩, hn'.at' fun o e => hk _ o hCw e, fun p hp => by
          refine ⟨hk _ _ ?_ (N' p hp).1, (N' p hp).2⟩
          rcases List.mem_cons.mp hp with rfl | hp
          · exact hDw
          · exact hoff p hp⟩
      by_cases hlt : i < n
      · refine W.item i _ _ _ hlt hst' fun v h₂ tk₂ hMd hk₂ => ?_
        refine W.go i v _ _ _ hMd fun h₃ hPv hst₃ hk₃ => ?_
        obtain ⟨F₃, hn₃, N₃⟩ := move h₃ fun b o hb e => hk₃ b o hb (hk₂ b o hb e)
        obtain ⟨T, v₁, v₂, rfl, hT, hpv⟩ := hPV _ _ _ hPv
        refine kcp_assign (m := m') hh hT (lookup_relabel_local hx) (lookup_relabel_local hx₂) (by simp [compEnvC, relabel, hkind]) hn₃ fun h₄ tk₄ hn₄ hk₄ => ?_
        replace hk₄ : ∀ c o, c ≠ H2.objs.size → h₃.get? c = some o → h₄.get? c = some o := hk₄
        replace hn₄ : h₄.Ns H2.objs.size _ := hn₄
        have hst₄ : St (i + 1) h₄ := W.frame _ _ _ hst₃ fun b hb o e => hk₄ b o (fun q => hCf (by rw [← q]; exact hb)) e
        obtain ⟨oC, heC, hoC⟩ := ns_obj hn₄
        have F₄ : Fr h₀ L h₄ m := ⟨F₃.ns.at' fun o e => hk₄ _ o (Ne.symm hCL) e, fun b o e => hk₄ b o (fun q => by rw [q, hC₀] at e; cases e) (F₃.keep b o e), F₃.above⟩
        have N₄ : News h₀ L h₄ ((s₂.heap.objs.size, lst ys) :: led) := fun p hp => by
          refine ⟨hk₄ _ _ ?_ (N₃ p hp).1, (N₃ p hp).2⟩
          rcases List.mem_cons.mp hp with rfl | hp
          · exact hDC
          · exact (below _ (ledlt p hp)).1
        have Nown : News h₀ L h₄ (PyProof.Rows.ownOf h₀ fp h₄) := news_ownOf hLf
        have N₅ : News h₀ L h₄ ((H2.objs.size, oC) :: (s₂.heap.objs.size, lst ys) :: (led ++ PyProof.Rows.ownOf h₀ fp h₄)) := fun p hp => by
          rcases List.mem_cons.mp hp with rfl | hp
          · exact ⟨heC, hCL, hC₀⟩
          · rcases List.mem_cons.mp hp with rfl | hp
            · exact N₄ _ (.head _)
            · rcases List.mem_append.mp hp with hp | hp
              · exact N₄ _ (.tail _ hp)
              · exact Nown _ hp
        refine wpAny_mono (turn i v₁ v₂ ys H2.objs.size oC s₂.heap.objs.size _ (PyProof.Rows.ownOf h₀ fp h₄) h₄ tk₄ _ hlt hpv hR hoC (by simp [hxx]) (by simp) F₄ N₅) (fun y s₄ h₄' => ?_) fun _ _ e => e
        obtain ⟨h₅, tk₅, rfl, F₅, N₆, hR'⟩ := h₄'
        have zC := (N₆ (H2.objs.size, oC) (.head _)).1
        have zD := (N₆ (s₂.heap.objs.size, lst ys) (.tail _ (.head _))).1
        have hst₅ : St (i + 1) h₅ := W.frame _ _ _ hst₄ fun b hb o e => by
          cases hn : h₀.get? b with
          | some o₀ =>
            have : o₀ = o := by have q := F₄.keep b o₀ hn; rw [e] at q; exact (Option.some.inj q).symm
            exact this ▸ F₅.keep b o₀ hn
          | none => exact (N₆ _ (.tail _ (.tail _ (List.mem_append_right _ (mem_ownOf hb hn e))))).1
        refine append_at (hsz := by show ys.toArray.size ≤ sizeLine; rw [List.size_toArray, hyl]; exact Nat.le_trans hi hsz) zD fun h₆ hs₆ hD₆ => ?_
        refine ⟨n + 1 - (i + 1), by omega, h₆, tk₅, i + 1, ys ++ [y], _, rfl, hlt, rfl, by rw [List.length_append, List.length_singleton, hyl], W.frame _ _ _ hst₅ fun b hb o e => hs₆.extBut b o (fun q => hDf (q ▸ hb)) e, F₅.change hs₆ hDL hD₀,
          (hoC.ns zC).sameBut hs₆ (Ne.symm hDC), fun p hp => ?_, hR'⟩
        rcases List.mem_cons.mp hp with rfl | hp
        · exact ⟨hD₆.trans (congrArg some (lst_snoc ys y)), hDL, hD₀⟩
        · have z := N₆ p (.tail _ (.tail _ (List.mem_append_left _ hp)))
          exact ⟨hs₆.extBut _ _ (below _ (ledlt p hp)).2 z.1, z.2⟩
      · obtain rfl : i = n := Nat.le_antisymm hi (Nat.not_lt.mp hlt)
        refine W.done _ _ _ hst' fun h₂ tk₂ hk₂ => ?_
        obtain ⟨F₃, hn₃, N₃⟩ := move h₂ hk₂
        exact hRR _ _ h₂ tk₂ _ ys led F₃ N₃ ledlt hn₃ hC₀ hCL (Ne.symm hDC) (fun p hp => (below _ (ledlt p hp)).1) (fin ys hR)
    · rcases List.mem_cons.mp hp with rfl | hp
      · exact ⟨hacc, hDL, hD₀⟩
      · exact ⟨old _ _ (N p hp).1, (N p hp).2⟩
  exact codeAny_compStart_list (loop _ rfl) (hself _ _ _ hst₁ (loop _ rfl))
def FinKE (h₀ : Heap) (L : Addr) (m : Str → Option Value) (Q : Value → Shared → Prop) (ys : List Value) (led : Led) (s₂ : Shared) : Prop :=
  ∀ D h tk, Fr h₀ L h m → News h₀ L h ((D, lst ys) :: led) → (∀ p ∈ led, p.1 < D) → Q (.ref D) { s₂ with heap := h, toks := tk }
def FinKA (h₀ : Heap) (L : Addr) (m : Str → Option Value) (y : Str) (Q : Flow → Shared → Prop) (ys : List Value) (led : Led) (s₂ : Shared) : Prop :=
  ∀ D h tk, Fr h₀ L h (fun z => if z = y then some (.ref D) else m z) → News h₀ L h ((D, lst ys) :: led) → (∀ p ∈ led, p.1 < D) → Q .next { s₂ with heap := h, toks := tk }
theorem ListComp_K {elt iter : Expr} {x x₂ : Str} {px px₂ tp : Pos} {tk} {scope : Scope} {cl : List (Str × Addr)} {pos : Pos} {Q : Value → Shared → Prop}
    (hclos : closureFor scope env = pure cl) (hcell : ∀ y ∈ scope.names, y.2 ≠ .cell) (hkind : scope.kind = .function)
    (hnames : ∀ y ∈ scope.names, y.2 = .local → scope.names.lookup y.1 = some .local) (hx : scope.names.lookup x = some .local) (hx₂ : scope.names.lookup x₂ = some .local) (hxx : x ≠ x₂)
    (h : wpAny (model prog w) A (eval iter env) (fun xv s₁ => wpAny (model prog w) A (pyIter xv) (fun it s₂ => CompK prog w A h₀ L m env elt x x₂ px px₂ tp tk scope cl (FinKE h₀ L m Q) it s₂) E s₁) E s)
    (hs : ∀ x, foldedSetIterable iter env x = pure x := by intro _; rfl) :
    wpAny (model prog w) A (eval (.ListComp elt [⟨.Tuple [.Name x px, .Name x₂ px₂] tk tp, iter, [], 0⟩] scope pos) env) Q E s := by
  rw [eval_ListComp]
  refine wpAny_comprehension_free (use := none) rfl hs hclos hkind hnames (wpAny_mono h (fun xv s₁ h₁ => wpAny_mono h₁ (fun it s₂ h₂ => ?_) fun _ _ e => e) fun _ _ e => e)
  refine block_K hcell hkind hx hx₂ hxx h₂ ?_
  intro D C h tk m' ys led F' N' hlt hn hC₀ hCL hCD offC fin
  refine ⟨m', hn, fun h'' hs'' => fin D h'' tk (F'.change hs'' hCL hC₀) (fun p hp => ?_) hlt⟩
  refine ⟨hs''.extBut _ _ ?_ (N' p hp).1, (N' p hp).2⟩
  rcases List.mem_cons.mp hp with rfl | hp
  · exact Ne.symm hCD
  · exact offC p hp
theorem Assign_ListComp_K {elt iter : Expr} {x x₂ y : Str} {px px₂ tp py : Pos} {tk} {scope : Scope} {cl : List (Str × Addr)} {pos spos : Pos} {Q : Flow → Shared → Prop} (hLe : env.locals = L)
    (hsw : swapsWith (.ListComp elt [⟨.Tuple [.Name x px, .Name x₂ px₂] tk tp, iter, [], 0⟩] scope pos) (some (.Name y py)) spos.line env = pure true)
    (hclos : closureFor scope env = pure cl) (hcell : ∀ z ∈ scope.names, z.2 ≠ .cell) (hkind : scope.kind = .function)
    (hnames : ∀ z ∈ scope.names, z.2 = .local → scope.names.lookup z.1 = some .local) (hx : scope.names.lookup x = some .local) (hx₂ : scope.names.lookup x₂ = some .local) (hxx : x ≠ x₂)
    (hy : env.kindOf y = some .local) (hp : (env.scope.kind == .class || (env.scope.kind == .module && env.locals != env.globals)) = false)
    (h : wpAny (model prog w) A (eval iter env) (fun xv s₁ => wpAny (model prog w) A (pyIter xv) (fun it s₂ => CompK prog w A h₀ L m env elt x x₂ px px₂ tp tk scope cl (FinKA h₀ L m y Q) it s₂) E s₁) E s)
    (hs : ∀ x, foldedSetIterable iter env x = pure x := by intro _; rfl) :
    wpAny (model prog w) A (exec (.Assign [.Name y py] (.ListComp elt [⟨.Tuple [.Name x px, .Name x₂ px₂] tk tp, iter, [], 0⟩] scope pos) spos) env) Q E s := by
  subst hLe
  rw [exec_Assign_Name_used _ _ _ _ hsw]
  refine wpAny_bind (wpAny_standAt (wpAny_bind ?_))
  show wpAny _ A (do let _ ← comprehension (.ListComp elt [⟨.Tuple [.Name x px, .Name x₂ px₂] tk tp, iter, [], 0⟩] scope pos) scope env _ (newList []) false (eval iter env) (some (assign (.Name y py) env))) _ _ s
  refine wpAny_bind (wpAny_mono (wpAny_comprehension_free (use := some (assign (.Name y py) env)) (Q := fun _ s' => Q .next s') rfl hs hclos hkind hnames
    (wpAny_mono h (fun xv s₁ h₁ => wpAny_mono h₁ (fun it s₂ h₂ => ?_) fun _ _ e => e) fun _ _ e => e)) (fun _ s' hq => wpAny_pure (wpAny_pure hq)) fun _ _ e => e)
  refine block_K hcell hkind hx hx₂ hxx h₂ ?_
  intro D C h' tk m' ys led F' N' hlt hn hC₀ hCL hCD offC fin
  show wpAny _ A (assign (.Name y py) env (.ref D)) _ _ _
  refine wpAny_assign_Name (wpAny_storeName_local hy F'.ns (fun h₂ hn₂ hs₂ => ?_) hp)
  have hL₀ : h₀.get? env.locals = none := Heap.get?_none_of_le F'.above
  have F₂ : Fr h₀ env.locals h₂ (fun z => if z = y then some (.ref D) else m z) := ⟨hn₂, fun b o e => hs₂.extBut b o (fun q => by rw [q, hL₀] at e; cases e) (F'.keep b o e), F'.above⟩
  refine ⟨m', hn.sameBut hs₂ hCL, fun h'' hs'' => fin D h'' _ (F₂.change hs'' hCL hC₀) (fun p hp => ?_) hlt⟩
  have z : h₂.get? p.1 = some p.2 := hs₂.extBut _ _ (N' p hp).2.1 (N' p hp).1
  refine ⟨hs''.extBut _ _ ?_ z, (N' p hp).2⟩
  rcases List.mem_cons.mp hp with rfl | hp
  · exact Ne.symm hCD
  · exact offC p hp
end
end Mine
end

section
open PySem PySem.W PyProof.Rows
namespace Mine
theorem sec_QCM {M : Model} {A : Around} {E : Value → Shared → Prop} {s : Shared} {env : Env} {p : Pos} {Q : Flow → Shared → Prop} (h : Q .next s) : wpAny M A (exec (.Pass p) env) Q E s := by
  w_top off
  k_with_none
  walk1
  exact h
end Mine
end
section
open PySem PySem.W PyProof.Rows PySem.Calls PySem.Spec
set_option maxRecDepth 100000
set_option maxHeartbeats 1000000
namespace Mine
open LCg LCp
section
variable {prog : Program} {w : World} {A : Around} {E : Value → Shared → Prop} {s₂ : Shared} {h₀ : Heap} {L : Addr} {m : Str → Option Value} {env : Env}
theorem CompK.enumT {elt : Expr} {x x₂ : Str} {px px₂ tp : Pos} {tk : Nat} {scope : Scope} {cl : List (Str × Addr)} {K : List Value → Led → Shared → Prop} {e it T : Addr} {items : Array Value} {k : Nat} {led : Led} (R : Nat → List Value → Prop)
    (hE : IsEnum s₂.heap e it 0 .none) (hI : s₂.heap.IsTupleIter it T 0) (hT : (T, tupObj items k) ∈ led) (hh : A.handled = none) (F : Fr h₀ L s₂.heap m) (N : News h₀ L s₂.heap led) (hlt : ∀ p ∈ led, p.1 < it) (hie : it < e) (hL : L < it) (hsz : items.size ≤ 1000)
    (h0 : R 0 [])
    (turn : ∀ i v₁ v₂ t ys C oC D m₂ own h tk (E' : Value → Shared → Prop), v₁ = .int (i : Int) t → items[i]? = some v₂ → R i ys → NsObj oC m₂ → m₂ x = some v₁ → m₂ x₂ = some v₂ → Fr h₀ L h m → News h₀ L h ((C, oC) :: (D, lst ys) :: (led ++ own)) →
      wpAny (model prog w) A (eval elt (compEnvC scope cl C env)) (fun y s₄ => ∃ h' tk', s₄ = { s₂ with heap := h', toks := tk' } ∧ Fr h₀ L h' m ∧ News h₀ L h' ((C, oC) :: (D, lst ys) :: (led ++ own)) ∧ R (i + 1) (ys ++ [y])) E' { s₂ with heap := h, toks := tk })
    (fin : ∀ ys, R items.size ys → K ys led s₂) : CompK prog w A h₀ L m env elt x x₂ px px₂ tp tk scope cl K (.ref e) s₂ := by
  have hTi : T < it := hlt _ hT
  have g0 : ∀ a, L < a → h₀.get? a = none := fun a ha => by
    cases q : h₀.get? a with
    | none => rfl
    | some o' => exact absurd (Nat.lt_of_lt_of_le (Heap.lt_size q) F.above) (Nat.not_lt.mpr (Nat.le_of_lt ha))
  obtain ⟨oi, hoi, _⟩ := id hI
  refine ⟨e, [e, it, T], [e, it], items.size, _, _, _, led, fun i v₁ v₂ => (∃ t, v₁ = .int (i : Int) t) ∧ items[i]? = some v₂, R, rfl, KTurns.enum hh (SubIt.tup (Nat.ne_of_lt hTi)) (Nat.ne_of_gt hie) (Nat.ne_of_lt (Nat.lt_trans hTi hie)), Nat.le_trans hsz (by rw [sizeLine_eq]; decide),
    ⟨⟨_, hE⟩, hI, tupIs N hT⟩, ?_, ?_, ?_, ?_, ?_, hh, F, N, ?_, ?_, h0, ?_, fin⟩
  · rintro i h ⟨⟨old, he⟩, h1, h2⟩ b hb
    simp only [List.mem_cons, List.not_mem_nil, or_false] at hb
    rcases hb with rfl | rfl | rfl
    · exact ⟨_, he⟩
    · obtain ⟨o, ho, _⟩ := h1; exact ⟨o, ho⟩
    · obtain ⟨o, ho, _⟩ := h2; exact ⟨o, ho⟩
  · intro b hb
    simp only [List.mem_cons, List.not_mem_nil, or_false] at hb
    rcases hb with rfl | rfl | rfl
    · exact Heap.lt_size hE
    · exact Heap.lt_size hoi
    · exact Heap.lt_size (N _ hT).1
  · intro hm
    simp only [List.mem_cons, List.not_mem_nil, or_false] at hm
    rcases hm with q | q | q
    · exact absurd (Nat.lt_trans hL hie) (by rw [q]; exact Nat.lt_irrefl _)
    · exact absurd hL (by rw [q]; exact Nat.lt_irrefl _)
    · exact (N _ hT).2.1 q.symm
  · intro b hb
    simp only [List.mem_cons, List.not_mem_nil, or_false] at hb
    rcases hb with rfl | rfl
    · exact g0 _ (Nat.lt_trans hL hie)
    · exact g0 _ hL
  · rintro i v h ⟨T', t, x', rfl, hx, hT'⟩
    exact ⟨T', _, _, rfl, hT', ⟨t, rfl⟩, hx⟩
  · intro p hp hm
    simp only [List.mem_cons, List.not_mem_nil, or_false] at hm
    rcases hm with q | q
    · exact absurd (Nat.lt_trans (hlt p hp) hie) (by rw [q]; exact Nat.lt_irrefl _)
    · exact absurd (hlt p hp) (by rw [q]; exact Nat.lt_irrefl _)
  · rintro s' Q' E' ⟨⟨old, he⟩, _⟩ hq
    exact wpAny_pyIter_enum he hq
  · rintro i v₁ v₂ ys C oC D m₂ own h tk E' hi ⟨⟨t, rfl⟩, hx⟩ hR hC h1 h2 F' N'
    exact turn i _ v₂ t ys C oC D m₂ own h tk E' rfl hx hR hC h1 h2 F' N'
end
end Mine
end

section
open PySem PySem.W PyProof.Rows
namespace Mine
theorem sec_QCG {M : Model} {A : Around} {E : Value → Shared → Prop} {s : Shared} {env : Env} {p : Pos} {Q : Flow → Shared → Prop} (h : Q .next s) : wpAny M A (exec (.Pass p) env) Q E s := by
  w_top off
  k_with_none
  walk1
  exact h
end Mine
end
section
open PySem PySem.W PyProof.Rows PySem.Calls PySem.Spec
set_option maxRecDepth 100000
set_option maxHeartbeats 1000000
namespace Mine
open LCg LCp
theorem newEnv_cells {M : Model} {A : Around} {E : Value → Shared → Prop} {s : Shared} {scope : Scope} {globals : Addr} {closure : List (Str × Addr)} {qual : Str} {func : Option Addr} {code : Value} {around : Option Env} {builtins : Addr} {Q : Env → Shared → Prop} (hk : scope.kind = .function)
    (hQ : Q (newEnv scope s.heap.objs.size globals (cellsFrom (s.heap.objs.size + 1) scope.names closure) qual func code around builtins) { s with heap := pushCells (s.heap.push { cls := .type (if around.isSome then "dict" else "frame"), data := .dict #[] }) scope.names }) :
    wpAny M A (newFunctionEnv scope globals closure [] qual func code around builtins) Q E s := by
  simp only [newFunctionEnv]
  refine wpAny_bind (wpAny_alloc ?_)
  refine wpAny_bind (wpAny_layCells _ (fun name kind cells => by cases hkc : kind == NameKind.cell <;> simp [hkc]) _ _ _ _ ?_)
  rw [show ({ s with heap := s.heap.push { cls := .type (if around.isSome then "dict" else "frame"), data := .dict #[] } } : Shared).heap.objs.size = s.heap.objs.size + 1 from Heap.size_push ..]
  simp only [List.forIn_nil]
  refine wpAny_bind (wpAny_pure ?_)
  exact wpAny_pure hQ
section
variable {prog : Program} {w : World} {A : Around} {E : Value → Shared → Prop} {s : Shared} {h₀ : Heap} {L : Addr} {m : Str → Option Value} {env : Env}
/-- a comprehension's own scope: one name x, a cell or not -/
structure OneName (b : Bool) (x : Str) (scope : Scope) (cl : List (Str × Addr)) (env : Env) : Prop where
  kind : scope.kind = .function
  cells : ∀ n, cellsFrom n scope.names cl = cond b ((x, n) :: cl) cl
  push : ∀ H, pushCells H scope.names = cond b (H.push { cls := .type "cell", data := .cell none }) H
  here : ∀ cl' C, (compEnvC scope cl' C env).kindOf x = some (cond b .cell .local)
/-- where the name's value lies -/
def CellPart (b : Bool) (x : Str) (K : Addr) (v : Value) (m₂ : Str → Option Value) (kc : Led) : Prop := match b with
  | true => ∃ oK, kc = [(K, oK)] ∧ oK.data = .cell (some v)
  | false => kc = [] ∧ m₂ x = some v
/-- off the comprehension's own objects -/
def OffG (b : Bool) (I D : Addr) (p : Addr × Obj) : Prop := p.1 ≠ I ∧ p.1 ≠ D ∧ p.1 ≠ D + 1 ∧ p.1 ≠ cond b (D + 2) (D + 1)
theorem OffG.old {b : Bool} {I D : Addr} {p : Addr × Obj} (hI : p.1 ≠ I) (h : p.1 < D) : OffG b I D p := ⟨hI, Nat.ne_of_lt h, Nat.ne_of_lt (Nat.lt_succ_of_lt h), by cases b <;> first | exact Nat.ne_of_lt (Nat.lt_succ_of_lt h) | exact Nat.ne_of_lt (Nat.lt_succ_of_lt (Nat.lt_succ_of_lt h))⟩
theorem OffG.newT {I D : Addr} {p : Addr × Obj} (hI : I < D) (h : D + 2 < p.1) : OffG true I D p :=
  ⟨Nat.ne_of_gt (Nat.lt_trans hI (Nat.lt_of_le_of_lt (Nat.le_add_right _ _) h)), Nat.ne_of_gt (Nat.lt_of_le_of_lt (Nat.le_add_right _ _) h), Nat.ne_of_gt (Nat.lt_of_succ_lt h), Nat.ne_of_gt h⟩
theorem OffG.newF {I D : Addr} {p : Addr × Obj} (hI : I < D) (h : D + 1 < p.1) : OffG false I D p :=
  ⟨Nat.ne_of_gt (Nat.lt_trans hI (Nat.lt_of_le_of_lt (Nat.le_add_right _ _) h)), Nat.ne_of_gt (Nat.lt_of_le_of_lt (Nat.le_add_right _ _) h), Nat.ne_of_gt h, Nat.ne_of_gt h⟩
/-- a comprehension by what holds of the items made so far, of the ledger and of the state -/
inductive CompG (b : Bool) (prog : Program) (w : World) (A : Around) (h₀ : Heap) (L : Addr) (m : Str → Option Value) (env : Env) (elt : Expr) (x : Str) (scope : Scope) (cl : List (Str × Addr)) (K : Addr → List Value → Led → Shared → Prop) (it : Value) (s₂ : Shared) : Prop
  | intro (σ : Type) (Ld : σ → Led) (Rel : Shared → Prop) (I : Addr) (fp : List Addr) (n : Nat) (P : Nat → Value → Prop) (St : Nat → Heap → Prop) (R : Addr → Nat → List Value → σ → Prop) (c₀ : σ) (h0 : it = .ref I) (h1 : Walks prog w A I fp [I] n P St) (h2 : n ≤ sizeLine) (h3 : St 0 s₂.heap) (h5 : (∀ b ∈ fp, b < s₂.heap.objs.size)) (h6 : L ∉ fp) (h7 : h₀.get? I = none) (h8 : Fr h₀ L s₂.heap m) (h9 : News h₀ L s₂.heap (Ld c₀)) (h10 : (∀ p ∈ Ld c₀, p.1 ≠ I))
      (hR0 : Rel s₂) (hRm : ∀ s' h tk, Rel s' → Rel { s' with heap := h, toks := tk }) (h11 : ∀ D, (∀ p ∈ Ld c₀, p.1 < D) → R D 0 [] c₀)
      (h12 : (∀ i v ys c D oC kc m₂ own s₃ (E' : Value → Shared → Prop), i < n → P i v → R D i ys c → NsObj oC m₂ → CellPart b x (D + 2) v m₂ kc → (∀ p ∈ Ld c₀, p.1 < D) → I < D → (∀ p ∈ Ld c, OffG b I D p) → (∀ p ∈ own, p.1 ∈ fp) → Rel s₃ → Fr h₀ L s₃.heap m → News h₀ L s₃.heap ((D + 1, oC) :: (D, lst ys) :: (kc ++ (own ++ Ld c))) → wpAny (model prog w) A (eval elt (compEnvC scope (cond b ((x, D + 2) :: cl) cl) (D + 1) env)) (fun y s₄ => ∃ c', Rel s₄ ∧ Fr h₀ L s₄.heap m ∧ News h₀ L s₄.heap ((D + 1, oC) :: (D, lst ys) :: (kc ++ (own ++ Ld c'))) ∧ (∀ p ∈ Ld c', OffG b I D p) ∧ R D (i + 1) (ys ++ [y]) c') E' s₃))
      (h13 : ∀ D ys c s₃, R D n ys c → Rel s₃ → (∀ p ∈ Ld c₀, p.1 < D) → K D ys (Ld c) s₃) : CompG b prog w A h₀ L m env elt x scope cl K it s₂
theorem block_G {b : Bool} {elt iter : Expr} {x : Str} {px : Pos} {scope : Scope} {cl : List (Str × Addr)} {pos : Pos} {K : Addr → List Value → Led → Shared → Prop} {RR : Value → Addr → Result → Shared → Prop} {it : Value} {s₂ : Shared}
    (O : OneName b x scope cl env)
    (h₂ : CompG b prog w A h₀ L m env elt x scope cl K it s₂)
    (hRR : ∀ D m' ys led s₃, Fr h₀ L s₃.heap m → News h₀ L s₃.heap ((D, lst ys) :: led) → s₃.heap.Ns (D + 1) m' → h₀.get? (D + 1) = none → D + 1 ≠ L → (∀ p ∈ led, p.1 ≠ D + 1) → K D ys led s₃ → RR (.ref D) (D + 1) (.ok .next) s₃) :
    wpAny (model prog w) A (newList []) (fun acc s₃ => wpAny (model prog w) A (newFunctionEnv scope env.globals cl [] env.qual none .none (some env)) (fun cenv s₄ =>
      codeAny (model prog w) A (.compStart (.ListComp elt [⟨.Name x px, iter, [], 0⟩] scope pos) 0 it acc { cenv with scope := relabel scope env }) (RR acc cenv.locals) s₄) E s₃) E s₂ := by
  obtain ⟨σ, Ld, Rel, I, fp, n, P, St, R, c₀, rfl, W, hsz, hst, hfp, hLf, hI₀, F, N, hoff, hR0, hRm, h0, turn, fin⟩ := h₂
  have hkind := O.kind
  refine wpAny_newObj_type (newEnv_cells hkind ?_)
  dsimp only
  rw [O.cells, O.push]
  simp only [Option.isSome_some, if_true, Heap.size_push]
  generalize hD : s₂.heap.objs.size = D
  have hLlt : L < D := hD ▸ F.ns.lt
  have hIf : I ∈ fp := W.sub I (List.mem_singleton.mpr rfl)
  have hfD : ∀ b ∈ fp, b < D := fun b hb => hD ▸ hfp b hb
  have hIlt : I < D := hfD I hIf
  have hIL : L ≠ I := fun e => hLf (e ▸ hIf)
  have lt1 : D < D + 1 := Nat.lt_succ_self _
  have lt2 : D < D + 2 := Nat.lt_succ_of_lt lt1
  have ledlt : ∀ p ∈ Ld c₀, p.1 < D := fun p hp => hD ▸ Heap.lt_size (N p hp).1
  have fresh₀ : ∀ a, D ≤ a → h₀.get? a = none := fun a ha => by
    cases e : h₀.get? a with
    | none => rfl
    | some o' => exact absurd (Heap.lt_size (F.keep a o' e)) (Nat.not_lt.mpr (hD ▸ ha))
  have hD₀ : h₀.get? D = none := fresh₀ _ (Nat.le_refl _)
  have hC₀ : h₀.get? (D + 1) = none := fresh₀ _ (Nat.le_of_lt lt1)
  have hK₀ : h₀.get? (D + 2) = none := fresh₀ _ (Nat.le_of_lt lt2)
  have hDL : D ≠ L := Nat.ne_of_gt hLlt
  have hCL : D + 1 ≠ L := Nat.ne_of_gt (Nat.lt_trans hLlt lt1)
  have hKL : D + 2 ≠ L := Nat.ne_of_gt (Nat.lt_trans hLlt lt2)
  have hCf : D + 1 ∉ fp := fun hm => Nat.lt_irrefl _ (Nat.lt_trans (hfD _ hm) lt1)
  have hKf : D + 2 ∉ fp := fun hm => Nat.lt_irrefl _ (Nat.lt_trans (hfD _ hm) lt2)
  have hDf : D ∉ fp := fun hm => Nat.lt_irrefl _ (hfD _ hm)
  have hCI : I ≠ D + 1 := Nat.ne_of_lt (Nat.lt_trans hIlt lt1)
  have hKI : I ≠ D + 2 := Nat.ne_of_lt (Nat.lt_trans hIlt lt2)
  have hDI : I ≠ D := Nat.ne_of_lt hIlt
  generalize hh1 : (cond b (((s₂.heap.push { cls := .type "list", dict := none, data := .seq ([] : List Value).toArray }).push { cls := .type "dict", data := .dict #[] }).push { cls := .type "cell", data := .cell none }) ((s₂.heap.push { cls := .type "list", dict := none, data := .seq ([] : List Value).toArray }).push { cls := .type "dict", data := .dict #[] })) = h₁
  have hz1 : (s₂.heap.push { cls := .type "list", dict := none, data := .seq ([] : List Value).toArray }).objs.size = D + 1 := by rw [Heap.size_push, hD]
  have up : ∀ a o, ((s₂.heap.push { cls := .type "list", dict := none, data := .seq ([] : List Value).toArray }).push { cls := .type "dict", data := .dict #[] }).get? a = some o → h₁.get? a = some o := fun a o e => by
    rw [← hh1]; cases b
    · exact e
    · exact Heap.get?_push_of_some _ e
  have old : ∀ a o, s₂.heap.get? a = some o → h₁.get? a = some o := fun a o e => up _ _ (Heap.get?_push_of_some _ (Heap.get?_push_of_some _ e))
  have hacc : h₁.get? D = some (lst []) := up _ _ (Heap.get?_push_of_some _ (by rw [← hD]; exact Heap.get?_push_size _ rfl))
  have hns₁ : h₁.Ns (D + 1) (fun _ => none) := by
    have := (Heap.Ns.new (s₂.heap.push { cls := .type "list", dict := none, data := .seq ([] : List Value).toArray }) (.type "dict")).keeps up
    rwa [hz1] at this
  have hce₁ : b = true → ∃ v₀, h₁.IsCell (D + 2) v₀ := fun e => ⟨none, by
    subst e
    rw [← hh1]
    have hz2 : ((s₂.heap.push { cls := .type "list", dict := none, data := .seq ([] : List Value).toArray }).push { cls := .type "dict", data := .dict #[] }).objs.size = D + 2 := by rw [Heap.size_push, hz1]
    exact ⟨_, by rw [← hz2]; exact Heap.get?_push_size _ rfl, rfl⟩⟩
  clear hh1 up
  have hst₁ : St 0 h₁ := W.frame _ _ _ hst fun b hb o e => old b o e
  have F1 : Fr h₀ L h₁ m := F.keeps old
  have N1 : News h₀ L h₁ ((D, lst []) :: Ld c₀) := fun p hp => by
    rcases List.mem_cons.mp hp with rfl | hp
    · exact ⟨hacc, hDL, hD₀⟩
    · exact ⟨old _ _ (N p hp).1, (N p hp).2⟩
  have loop : ∀ s₃ : Shared, s₃ = { s₂ with heap := h₁, toks := s₂.toks + ([] : List (Str × Value)).length } →
      codeAny (model prog w) A (.compLoop (.ListComp elt [⟨.Name x px, iter, [], 0⟩] scope pos) 0 (.ref I) (.ref D) (compEnvC scope (cond b ((x, D + 2) :: cl) cl) (D + 1) env))
        (RR (.ref D) (D + 1)) s₃ := by
    rintro s₃ rfl
    refine codeAny_compLoop_tests
      (fun k s' => ∃ i ys m' c, Rel s' ∧ i ≤ n ∧ k = n + 1 - i ∧ ys.length = i ∧ St i s'.heap ∧ Fr h₀ L s'.heap m ∧ s'.heap.Ns (D + 1) m' ∧ (b = true → ∃ v₀, s'.heap.IsCell (D + 2) v₀) ∧ News h₀ L s'.heap ((D, lst ys) :: Ld c) ∧ (∀ p ∈ Ld c, OffG b I D p) ∧ R D i ys c) ?_ (n + 1)
      ⟨0, [], _, c₀, hRm _ _ _ hR0, Nat.zero_le _, rfl, rfl, hst₁, F1, hns₁, hce₁, N1, fun p hp => .old (hoff p hp) (ledlt p hp), h0 D ledlt⟩
    rintro k s' ⟨i, ys, m', c, hRel, hi, rfl, hyl, hst', F', hn', hce', N', hofc, hR⟩
    have move : ∀ h₂ : Heap, (∀ b o, b ∉ [I] → s'.heap.get? b = some o → h₂.get? b = some o) → Fr h₀ L h₂ m ∧ h₂.Ns (D + 1) m' ∧ (b = true → ∃ v₀, h₂.IsCell (D + 2) v₀) ∧ News h₀ L h₂ ((D, lst ys) :: Ld c) := fun h₂ hk =>
      ⟨⟨F'.ns.at' fun o e => hk _ o (fun q => hIL (List.mem_singleton.mp q)) e, fun b o e => hk b o (fun q => by rw [List.mem_singleton.mp q, hI₀] at e; cases e) (F'.keep b o e), F'.above⟩, hn'.at' fun o e => hk _ o (fun q => hCI (List.mem_singleton.mp q).symm) e, fun e => (let ⟨v₀, o, ho, hd⟩ := hce' e; ⟨v₀, o, hk _ o (fun q => hKI (List.mem_singleton.mp q).symm) ho, hd⟩), fun p hp =>
        ⟨hk _ _ (fun q => by
          rcases List.mem_cons.mp hp with rfl | hp
          · exact hDI (List.mem_singleton.mp q).symm
          · exact (hofc p hp).1 (List.mem_singleton.mp q)) (N' p hp).1, (N' p hp).2⟩⟩
    by_cases hlt : i < n
    · refine W.item i _ _ _ hlt hst' fun v h₂ tk₂ hPv hst₂ hk₂ => ?_
      obtain ⟨F₂, hn₂, hce₂, N₂⟩ := move h₂ hk₂
      -- the name's store
      have go : ∀ (E' : Value → Shared → Prop) (s₃ : Shared), Rel s₃ → (∃ m₂, s₃.heap.Ns (D + 1) m₂ ∧ ∃ kc, CellPart b x (D + 2) v m₂ kc ∧ News h₀ L s₃.heap kc) → Fr h₀ L s₃.heap m → News h₀ L s₃.heap ((D, lst ys) :: Ld c) → St (i + 1) s₃.heap →
          wpAny (model prog w) A (eval elt (compEnvC scope (cond b ((x, D + 2) :: cl) cl) (D + 1) env)) (fun y s₄ => ∃ c', Rel s₄ ∧ Fr h₀ L s₄.heap m ∧ News h₀ L s₄.heap ((D, lst ys) :: Ld c') ∧ (∃ m₃, s₄.heap.Ns (D + 1) m₃) ∧ (b = true → ∃ v₀, s₄.heap.IsCell (D + 2) v₀) ∧ St (i + 1) s₄.heap ∧ (∀ p ∈ Ld c', OffG b I D p) ∧ R D (i + 1) (ys ++ [y]) c')
            E' s₃ := by
        rintro E' s₃ hR₃ ⟨m₂, hn₃, kc, hkc, Nk⟩ F₃ N₃ hst₃
        obtain ⟨oC, heC, hoC⟩ := ns_obj hn₃
        have Nown : News h₀ L s₃.heap (PyProof.Rows.ownOf h₀ fp s₃.heap) := news_ownOf hLf
        have N₄ : News h₀ L s₃.heap ((D + 1, oC) :: (D, lst ys) :: (kc ++ (PyProof.Rows.ownOf h₀ fp s₃.heap ++ Ld c))) := fun p hp => by
          rcases List.mem_cons.mp hp with rfl | hp
          · exact ⟨heC, hCL, hC₀⟩
          · rcases List.mem_cons.mp hp with rfl | hp
            · exact N₃ _ (.head _)
            · rcases List.mem_append.mp hp with hp | hp
              · exact Nk _ hp
              · rcases List.mem_append.mp hp with hp | hp
                · exact Nown _ hp
                · exact N₃ _ (.tail _ hp)
        refine wpAny_mono (turn i v ys c D oC kc m₂ (PyProof.Rows.ownOf h₀ fp s₃.heap) s₃ _ hlt hPv hR hoC hkc ledlt hIlt hofc ownOf_sub hR₃ F₃ N₄) (fun y s₄ h₄ => ?_) fun _ _ e => e
        obtain ⟨c', hR₄, F₄, N₅, hof', hR'⟩ := h₄
        refine ⟨c', hR₄, F₄, fun p hp => ?_, ⟨_, hoC.ns (N₅ _ (.head _)).1⟩, fun e => ?_, ?_, hof', hR'⟩
        · rcases List.mem_cons.mp hp with rfl | hp
          · exact N₅ _ (.tail _ (.head _))
          · exact N₅ _ (.tail _ (.tail _ (List.mem_append_right _ (List.mem_append_right _ hp))))
        · subst e
          obtain ⟨oK, rfl, hoK⟩ := hkc
          exact ⟨_, oK, (N₅ _ (.tail _ (.tail _ (.head _)))).1, hoK⟩
        · refine W.frame _ _ _ hst₃ fun b hb o e => ?_
          cases hn : h₀.get? b with
          | some o₀ =>
            have : o₀ = o := by have q := F₃.keep b o₀ hn; rw [e] at q; exact (Option.some.inj q).symm
            exact this ▸ F₄.keep b o₀ hn
          | none => exact (N₅ _ (.tail _ (.tail _ (List.mem_append_right _ (List.mem_append_left _ (mem_ownOf hb hn e)))))).1
      have offL : ∀ p ∈ (D, lst ys) :: Ld c, p.1 ≠ D + 1 ∧ p.1 ≠ cond b (D + 2) (D + 1) := fun p hp => by
        rcases List.mem_cons.mp hp with rfl | hp
        · exact ⟨Nat.ne_of_lt lt1, by cases b <;> first | exact Nat.ne_of_lt lt1 | exact Nat.ne_of_lt lt2⟩
        · exact ⟨(hofc p hp).2.2.1, (hofc p hp).2.2.2⟩
      have last : ∀ (y : Value) (s₄ : Shared) c' m₃, Rel s₄ → Fr h₀ L s₄.heap m → News h₀ L s₄.heap ((D, lst ys) :: Ld c') → s₄.heap.Ns (D + 1) m₃ → (b = true → ∃ v₀, s₄.heap.IsCell (D + 2) v₀) → St (i + 1) s₄.heap → (∀ p ∈ Ld c', OffG b I D p) → R D (i + 1) (ys ++ [y]) c' →
          ∀ {h₆ : Heap}, Heap.SameBut D s₄.heap h₆ → h₆.get? D = some { cls := .type "list", data := .seq (ys.toArray.push y) (ys.length + 1) } →
          ∃ k', k' < n + 1 - i ∧ ∃ i' ys' m' c, Rel { s₄ with heap := h₆ } ∧ i' ≤ n ∧ k' = n + 1 - i' ∧ ys'.length = i' ∧ St i' h₆ ∧ Fr h₀ L h₆ m ∧ h₆.Ns (D + 1) m' ∧ (b = true → ∃ v₀, h₆.IsCell (D + 2) v₀) ∧ News h₀ L h₆ ((D, lst ys') :: Ld c) ∧ (∀ p ∈ Ld c, OffG b I D p) ∧ R D i' ys' c := by
        intro y s₄ c' m₃ hR₄ F₄ N₅ hn₄ hce₄ hst₅ hof' hR' h₆ hs₆ hD₆
        refine ⟨n + 1 - (i + 1), by omega, i + 1, ys ++ [y], m₃, c', hRm _ h₆ s₄.toks hR₄, hlt, rfl, by rw [List.length_append, List.length_singleton, hyl], W.frame _ _ _ hst₅ fun b hb o e => hs₆.extBut b o (fun q => hDf (q ▸ hb)) e, F₄.change hs₆ hDL hD₀, hn₄.sameBut hs₆ (Nat.ne_of_gt lt1), fun e => ?_, fun p hp => ?_, hof', hR'⟩
        · obtain ⟨v₀, o, ho, hd⟩ := hce₄ e
          exact ⟨v₀, o, hs₆.extBut _ _ (Nat.ne_of_gt lt2) ho, hd⟩
        · rcases List.mem_cons.mp hp with rfl | hp
          · exact ⟨hD₆.trans (congrArg some (lst_snoc ys y)), hDL, hD₀⟩
          · have z := N₅ p (.tail _ hp)
            exact ⟨hs₆.extBut _ _ (hof' p hp).2.1 z.1, z.2⟩
      cases b with
      | true =>
        obtain ⟨v₀, hce⟩ := hce₂ rfl
        refine wpAny_assign_Name (wpAny_storeName_cell (by simp [compEnvC, relabel, hkind]) (O.here _ _) (c := D + 2) (by simp [compEnvC]) hce fun h₃ hce₃ hs₃ => ?_)
        refine wpAny_tests_nil ?_
        rw [if_pos rfl]
        replace hs₃ : Heap.SameBut (D + 2) h₂ h₃ := hs₃
        refine wpAny_mono (go _ _ (hRm s' _ _ hRel) ⟨m', hn₂.sameBut hs₃ (Nat.ne_of_lt (Nat.lt_succ_self _)), [(D + 2, hce₃.choose)], ⟨_, rfl, hce₃.choose_spec.2⟩, fun p hp => by rw [List.mem_singleton.mp hp]; exact ⟨hce₃.choose_spec.1, hKL, hK₀⟩⟩ (F₂.change hs₃ hKL hK₀) (fun p hp => ⟨hs₃.extBut _ _ (offL p hp).2 (N₂ p hp).1, (N₂ p hp).2⟩) (W.frame _ _ _ hst₂ fun b hb o e => hs₃.extBut b o (fun q => hKf (by rw [← q]; exact hb)) e))
          (fun y s₄ h₄ => ?_) fun _ _ e => e
        obtain ⟨c', hR₄, F₄, N₅, ⟨m₃, hn₄⟩, hce₄, hst₅, hof', hR'⟩ := h₄
        refine append_at (hsz := by show ys.toArray.size ≤ sizeLine; rw [List.size_toArray, hyl]; exact Nat.le_trans hi hsz) (N₅ _ (.head _)).1 fun h₆ hs₆ hD₆ => ?_
        exact last _ _ _ _ hR₄ F₄ N₅ hn₄ hce₄ hst₅ hof' hR' hs₆ hD₆
      | false =>
        refine wpAny_assign_Name (wpAny_storeName_local (O.here _ _) hn₂ (fun h₃ hn₃ hs₃ => ?_) (by simp [compEnvC, relabel, hkind]))
        refine wpAny_tests_nil ?_
        rw [if_pos rfl]
        replace hs₃ : Heap.SameBut (D + 1) h₂ h₃ := hs₃
        refine wpAny_mono (go _ _ (hRm s' _ _ hRel) ⟨_, hn₃, [], ⟨rfl, if_pos rfl⟩, fun _ h => nomatch h⟩ (F₂.change hs₃ hCL hC₀) (fun p hp => ⟨hs₃.extBut _ _ (offL p hp).1 (N₂ p hp).1, (N₂ p hp).2⟩) (W.frame _ _ _ hst₂ fun b hb o e => hs₃.extBut b o (fun q => hCf (by rw [← q]; exact hb)) e))
          (fun y s₄ h₄ => ?_) fun _ _ e => e
        obtain ⟨c', hR₄, F₄, N₅, ⟨m₃, hn₄⟩, hce₄, hst₅, hof', hR'⟩ := h₄
        refine append_at (hsz := by show ys.toArray.size ≤ sizeLine; rw [List.size_toArray, hyl]; exact Nat.le_trans hi hsz) (N₅ _ (.head _)).1 fun h₆ hs₆ hD₆ => ?_
        exact last _ _ _ _ hR₄ F₄ N₅ hn₄ hce₄ hst₅ hof' hR' hs₆ hD₆
    · obtain rfl : i = n := Nat.le_antisymm hi (Nat.not_lt.mp hlt)
      refine W.done _ _ _ hst' fun h₂ tk₂ hk₂ => ?_
      obtain ⟨F₃, hn₃, _, N₃⟩ := move h₂ hk₂
      exact hRR _ _ ys _ _ F₃ N₃ hn₃ hC₀ hCL (fun p hp => (hofc p hp).2.2.1) (fin D ys c _ hR (hRm _ _ _ hRel) ledlt)
  exact codeAny_compStart_list (loop _ rfl) (W.self 0 _ _ _ hst₁ (loop _ rfl))
def FinGE (h₀ : Heap) (L : Addr) (m : Str → Option Value) (Q : Value → Shared → Prop) (D : Addr) (ys : List Value) (led : Led) (s₃ : Shared) : Prop :=
  ∀ h tk, Fr h₀ L h m → News h₀ L h ((D, lst ys) :: led) → Q (.ref D) { s₃ with heap := h, toks := tk }
def FinGA (h₀ : Heap) (L : Addr) (m : Str → Option Value) (y : Str) (Q : Flow → Shared → Prop) (D : Addr) (ys : List Value) (led : Led) (s₃ : Shared) : Prop :=
  ∀ h tk, Fr h₀ L h (fun z => if z = y then some (.ref D) else m z) → News h₀ L h ((D, lst ys) :: led) → Q .next { s₃ with heap := h, toks := tk }
theorem ListComp_G (b : Bool) {elt iter : Expr} {x : Str} {px : Pos} {scope : Scope} {cl : List (Str × Addr)} {pos : Pos} {Q : Value → Shared → Prop}
    (hclos : closureFor scope env = pure cl) (O : OneName b x scope cl env)
    (hnames : ∀ z ∈ scope.names, z.2 = .local → scope.names.lookup z.1 = some .local)
    (h : wpAny (model prog w) A (eval iter env) (fun xv s₁ => wpAny (model prog w) A (pyIter xv) (fun it s₂ => CompG b prog w A h₀ L m env elt x scope cl (FinGE h₀ L m Q) it s₂) E s₁) E s)
    (hs : ∀ x, foldedSetIterable iter env x = pure x := by intro _; rfl) :
    wpAny (model prog w) A (eval (.ListComp elt [⟨.Name x px, iter, [], 0⟩] scope pos) env) Q E s := by
  rw [eval_ListComp]
  refine wpAny_comprehension_free (use := none) rfl hs hclos O.kind hnames (wpAny_mono h (fun xv s₁ h₁ => wpAny_mono h₁ (fun it s₂ h₂ => ?_) fun _ _ e => e) fun _ _ e => e)
  refine block_G O h₂ ?_
  intro D m' ys led s₃ F' N' hn hC₀ hCL offC fin
  refine ⟨m', hn, fun h'' hs'' => fin h'' s₃.toks (F'.change hs'' hCL hC₀) (fun p hp => ?_)⟩
  refine ⟨hs''.extBut _ _ ?_ (N' p hp).1, (N' p hp).2⟩
  rcases List.mem_cons.mp hp with rfl | hp
  · exact Nat.ne_of_lt (Nat.lt_succ_self _)
  · exact offC p hp
theorem Assign_ListComp_G (b : Bool) {elt iter : Expr} {x y : Str} {px py : Pos} {scope : Scope} {cl : List (Str × Addr)} {pos spos : Pos} {Q : Flow → Shared → Prop} (hLe : env.locals = L)
    (hsw : swapsWith (.ListComp elt [⟨.Name x px, iter, [], 0⟩] scope pos) (some (.Name y py)) spos.line env = pure true)
    (hclos : closureFor scope env = pure cl) (O : OneName b x scope cl env)
    (hnames : ∀ z ∈ scope.names, z.2 = .local → scope.names.lookup z.1 = some .local)
    (hy : env.kindOf y = some .local) (hp : (env.scope.kind == .class || (env.scope.kind == .module && env.locals != env.globals)) = false)
    (h : wpAny (model prog w) A (eval iter env) (fun xv s₁ => wpAny (model prog w) A (pyIter xv) (fun it s₂ => CompG b prog w A h₀ L m env elt x scope cl (FinGA h₀ L m y Q) it s₂) E s₁) E s)
    (hs : ∀ x, foldedSetIterable iter env x = pure x := by intro _; rfl) :
    wpAny (model prog w) A (exec (.Assign [.Name y py] (.ListComp elt [⟨.Name x px, iter, [], 0⟩] scope pos) spos) env) Q E s := by
  subst hLe
  rw [exec_Assign_Name_used _ _ _ _ hsw]
  refine wpAny_bind (wpAny_standAt (wpAny_bind ?_))
  show wpAny _ A (do let _ ← comprehension (.ListComp elt [⟨.Name x px, iter, [], 0⟩] scope pos) scope env _ (newList []) false (eval iter env) (some (assign (.Name y py) env))) _ _ s
  refine wpAny_bind (wpAny_mono (wpAny_comprehension_free (use := some (assign (.Name y py) env)) (Q := fun _ s' => Q .next s') rfl hs hclos O.kind hnames
    (wpAny_mono h (fun xv s₁ h₁ => wpAny_mono h₁ (fun it s₂ h₂ => ?_) fun _ _ e => e) fun _ _ e => e)) (fun _ s' hq => wpAny_pure (wpAny_pure hq)) fun _ _ e => e)
  refine block_G O h₂ ?_
  intro D m' ys led s₃ F' N' hn hC₀ hCL offC fin
  show wpAny _ A (assign (.Name y py) env (.ref D)) _ _ _
  refine wpAny_assign_Name (wpAny_storeName_local hy F'.ns (fun h₂ hn₂ hs₂ => ?_) hp)
  have hL₀ : h₀.get? env.locals = none := Heap.get?_none_of_le F'.above
  have F₂ : Fr h₀ env.locals h₂ (fun z => if z = y then some (.ref D) else m z) := ⟨hn₂, fun b o e => hs₂.extBut b o (fun q => by rw [q, hL₀] at e; cases e) (F'.keep b o e), F'.above⟩
  refine ⟨m', hn.sameBut hs₂ hCL, fun h'' hs'' => fin h'' _ (F₂.change hs'' hCL hC₀) (fun p hp => ?_)⟩
  have z : h₂.get? p.1 = some p.2 := hs₂.extBut _ _ (N' p hp).2.1 (N' p hp).1
  refine ⟨hs''.extBut _ _ ?_ z, (N' p hp).2⟩
  rcases List.mem_cons.mp hp with rfl | hp
  · exact Nat.ne_of_lt (Nat.lt_succ_self _)
  · exact offC p hp
/-- over a range -/
theorem CompG.range {b : Bool} {σ : Type} {elt : Expr} {x : Str} {scope : Scope} {cl : List (Str × Addr)} {K : Addr → List Value → Led → Shared → Prop} {r : Addr} {a a₂ : Int} {t u v : Tok} {n : Nat} {s₁ : Shared} (Ld : σ → Led) (Rel : Shared → Prop) (R : Addr → Nat → List Value → σ → Prop) (c₀ : σ)
    (hh : A.handled = none) (F : Fr h₀ L s₁.heap m) (N : News h₀ L s₁.heap (Ld c₀)) (hr : IsRange s₁.heap r a a₂ 1 t u v) (hsm : Builtin.Range.small a a₂ 1 = true) (hn : Builtin.Range.rangeSize a a₂ 1 = ((n : Nat) : Int)) (hsz : n ≤ 1000) (hR0 : Rel s₁) (hRm : ∀ s' h tk, Rel s' → Rel { s' with heap := h, toks := tk }) (h0 : ∀ D, (∀ p ∈ Ld c₀, p.1 < D) → R D 0 [] c₀)
    (turn : ∀ i t ys c D I oC kc m₂ own s₃ (E' : Value → Shared → Prop), i < n → R D i ys c → NsObj oC m₂ → CellPart b x (D + 2) (.int (a + (i : Int)) t) m₂ kc → (∀ p ∈ Ld c₀, p.1 < D) → I < D → (∀ p ∈ Ld c, OffG b I D p) → (∀ p ∈ own, ∀ q ∈ Ld c₀, q.1 < p.1) → Rel s₃ → Fr h₀ L s₃.heap m → News h₀ L s₃.heap ((D + 1, oC) :: (D, lst ys) :: (kc ++ (own ++ Ld c))) → wpAny (model prog w) A (eval elt (compEnvC scope (cond b ((x, D + 2) :: cl) cl) (D + 1) env)) (fun y s₄ => ∃ c', Rel s₄ ∧ Fr h₀ L s₄.heap m ∧ News h₀ L s₄.heap ((D + 1, oC) :: (D, lst ys) :: (kc ++ (own ++ Ld c'))) ∧ (∀ p ∈ Ld c', OffG b I D p) ∧ R D (i + 1) (ys ++ [y]) c') E' s₃)
    (fin : ∀ D ys c s₃, R D n ys c → Rel s₃ → (∀ p ∈ Ld c₀, p.1 < D) → K D ys (Ld c) s₃) :
    wpAny (model prog w) A (pyIter (.ref r)) (fun it s₂ => CompG b prog w A h₀ L m env elt x scope cl K it s₂) E s₁ := by
  refine wpAny_pyIter_range hr hsm ?_
  refine ⟨σ, Ld, Rel, s₁.heap.objs.size, [s₁.heap.objs.size], n, _, _, R, c₀, rfl, range_walks hh a n, Nat.le_trans hsz (by rw [sizeLine_eq]; decide), by show IsRangeIter _ _ _ _ _; rw [hn]; simpa using Heap.get?_push_size _ rfl, fun b hb => ?_, fun hm => absurd F.ns.lt (by rw [List.mem_singleton.mp hm]; exact Nat.lt_irrefl _), next_is_new F,
    F.keeps fun _ _ e => Heap.get?_push_of_some _ e, N.grown fun _ _ e => Heap.get?_push_of_some _ e, fun p hp => Nat.ne_of_lt (Heap.lt_size (N p hp).1), hRm s₁ _ _ hR0, hRm, h0, ?_, fin⟩
  · rw [List.mem_singleton.mp hb]
    show s₁.heap.objs.size < (s₁.heap.push _).objs.size
    rw [Heap.size_push]; exact Nat.lt_succ_self _
  · rintro i v ys c D oC kc m₂ own s₃ E' hi ⟨t, rfl⟩ hR hC hk h1 h2 h3 h4 hRel F' N'
    exact turn i t ys c D _ oC kc m₂ own s₃ E' hi hR hC hk h1 h2 h3 (fun p hp q hq => by rw [List.mem_singleton.mp (h4 p hp)]; exact Heap.lt_size (N q hq).1) hRel F' N'
/-- over a list of the ledger's -/
theorem CompG.ledger {b : Bool} {σ : Type} {elt : Expr} {x : Str} {scope : Scope} {cl : List (Str × Addr)} {K : Addr → List Value → Led → Shared → Prop} {ax : Addr} {vs : List Value} {k : Nat} {s₁ : Shared} (Ld : σ → Led) (Rel : Shared → Prop) (R : Addr → Nat → List Value → σ → Prop) (c₀ : σ)
    (hh : A.handled = none) (F : Fr h₀ L s₁.heap m) (N : News h₀ L s₁.heap (Ld c₀)) (hm : (ax, W.listOf vs.toArray k) ∈ Ld c₀) (hsz : vs.length ≤ 1000) (hR0 : Rel s₁) (hRm : ∀ s' h tk, Rel s' → Rel { s' with heap := h, toks := tk }) (h0 : ∀ D, (∀ p ∈ Ld c₀, p.1 < D) → R D 0 [] c₀)
    (turn : ∀ i v ys c D I oC kc m₂ own s₃ (E' : Value → Shared → Prop), vs[i]? = some v → R D i ys c → NsObj oC m₂ → CellPart b x (D + 2) v m₂ kc → (∀ p ∈ Ld c₀, p.1 < D) → I < D → (∀ p ∈ Ld c, OffG b I D p) → Rel s₃ → Fr h₀ L s₃.heap m → News h₀ L s₃.heap ((D + 1, oC) :: (D, lst ys) :: (kc ++ (own ++ Ld c))) → wpAny (model prog w) A (eval elt (compEnvC scope (cond b ((x, D + 2) :: cl) cl) (D + 1) env)) (fun y s₄ => ∃ c', Rel s₄ ∧ Fr h₀ L s₄.heap m ∧ News h₀ L s₄.heap ((D + 1, oC) :: (D, lst ys) :: (kc ++ (own ++ Ld c'))) ∧ (∀ p ∈ Ld c', OffG b I D p) ∧ R D (i + 1) (ys ++ [y]) c') E' s₃)
    (fin : ∀ D ys c s₃, R D vs.length ys c → Rel s₃ → (∀ p ∈ Ld c₀, p.1 < D) → K D ys (Ld c) s₃) :
    wpAny (model prog w) A (pyIter (.ref ax)) (fun it s₂ => CompG b prog w A h₀ L m env elt x scope cl K it s₂) E s₁ := by
  have hax := N _ hm
  have hlt : ax < s₁.heap.objs.size := Heap.lt_size hax.1
  refine wpAny_pyIter_list (N.isList hm) ?_
  have N' : News h₀ L (s₁.heap.push { cls := .type "list_iterator", data := .fields #[.ref ax, .int 0 0] }) (Ld c₀) := N.grown fun _ _ e => Heap.get?_push_of_some _ e
  refine ⟨σ, Ld, Rel, s₁.heap.objs.size, [s₁.heap.objs.size, ax], vs.toArray.size, _, _, R, c₀, rfl, Walks.list hh s₁.heap.objs.size ax (Nat.ne_of_lt hlt) vs.toArray, by rw [List.size_toArray]; exact Nat.le_trans hsz (by rw [sizeLine_eq]; decide), ⟨⟨_, Heap.get?_push_size _ rfl, rfl, rfl⟩, N'.isList hm⟩, fun b hb => ?_, fun hm' => ?_, next_is_new F,
    F.keeps fun _ _ e => Heap.get?_push_of_some _ e, N', fun p hp => Nat.ne_of_lt (Heap.lt_size (N p hp).1), hRm s₁ _ _ hR0, hRm, h0, ?_, fun D ys c s₃ h => fin D ys c s₃ (by simpa using h)⟩
  · show b < (s₁.heap.push _).objs.size
    rw [Heap.size_push]
    rcases List.mem_cons.mp hb with rfl | hb
    · exact Nat.lt_succ_self _
    · rw [List.mem_singleton.mp hb]; exact Nat.lt_succ_of_lt hlt
  · rcases List.mem_cons.mp hm' with e | e
    · exact absurd F.ns.lt (by rw [e]; exact Nat.lt_irrefl _)
    · exact hax.2.1 (List.mem_singleton.mp e).symm
  · rintro i v ys c D oC kc m₂ own s₃ E' hi hv hR hC hk h1 h2 h3 _ hRel F' N''
    exact turn i v ys c D _ oC kc m₂ own s₃ E' (by simpa using hv) hR hC hk h1 h2 h3 hRel F' N''
end
end Mine
end

section
local macro_rules | `(tactic| k_mem) => `(tactic| ((fail_if_success (refine' List.Mem.tail _ ?_)); assumption))
section
local macro_rules | `(tactic| walk_at "CompSrc") => `(tactic| (with_reducible refine holdIt ?_))
section
local macro_rules | `(tactic| walk_at "call ref") => `(tactic| (k_here; k_dflt (first
  | (refine' call_cls0 ?k1 ?k2 ?k3 ?k4 ?k5 ?_; (case k1 => k_asm); (case k2 => k_asm); (case k3 => k_asm); (case k4 => k_is); (case k5 => k_is); k_whole; intro x' d' h' F' N' l1 l2; (try k_lt l1); (try k_lt2 l2); (try k_sweep))
  | (refine' call_cls ?k1 ?k2 ?k3 ?k4 ?k5 ?k6 ?_; (case k1 => k_asm); (case k2 => k_asm); (case k3 => k_asm); (case k4 => k_is); (case k5 => k_is); (case k6 => k_is); k_whole; intro x' d' h' F' N' l1 l2; (try k_lt l1); (try k_lt2 l2); (try k_sweep); walk_at "mine enter")
  | (refine' call_meth ?k1 ?k2 ?_; (case k1 => k_asm); (case k2 => k_mem); k_whole; walk_at "mine enter")
  | (refine wpAny_call ?_; walk_at "mine enter"))))
section
local macro_rules | `(tactic| walk_at "exec Assign cons ListComp") => `(tactic| (with_reducible refine holdIt ?_))
section
local macro_rules | `(tactic| walk_at "exec Assign cons List") => `(tactic| (with_reducible refine holdIt ?_))
section
local macro_rules | `(tactic| walk_at "exec For Name Subscript cons nil") => `(tactic| (k_here; (rename Fr _ _ _ _ => lF'); (with_unfolding_all refine' For_invVF lF' ?k1 ?k2 ?_; (case k1 => exact rfl); (case k2 => exact rfl); k_whole)))
section
open PySem PySem.W PyProof.Rows
namespace Mine
theorem sec_QD {M : Model} {A : Around} {E : Value → Shared → Prop} {s : Shared} {env : Env} {p : Pos} {Q : Flow → Shared → Prop} (h : Q .next s) : wpAny M A (exec (.Pass p) env) Q E s := by
  w_top off
  k_with_none
  walk1
  exact h
end Mine
end
section
open PySem PySem.W PyProof.Rows
set_option maxRecDepth 100000
set_option maxHeartbeats 1000000
namespace Mine
/-- a lead's runs and blanks: the top's, a low's -/
def TopOk (r : List Int) (b : Int) : Prop := (∀ x ∈ r, 0 ≤ x ∧ x ≤ 4) ∧ r.length ≤ 3 ∧ (0 ≤ b ∧ b ≤ 4) ∧ (4 ∈ r ∨ b = 4)
def LowOk (r : List Int) (b : Int) : Prop := (∀ x ∈ r, 0 ≤ x ∧ x ≤ 4) ∧ r.length ≤ 3 ∧ 0 ≤ b ∧ b ≤ 4
inductive LeadsAre : List Value → List (List Int × Int) → Prop
  | nil : LeadsAre [] []
  | cons {r : List Int} {b : Int} {t : Tok} {vs : List Value} {q : List (List Int × Int)} : LeadsAre vs q → LeadsAre (.str (leadText r b) t :: vs) ((r, b) :: q)
theorem LeadsAre.snoc {r : List Int} {b : Int} {t : Tok} : ∀ {vs : List Value} {q : List (List Int × Int)}, LeadsAre vs q → LeadsAre (vs ++ [.str (leadText r b) t]) (q ++ [(r, b)])
  | _, _, .nil => .cons .nil
  | _, _, .cons h => .cons h.snoc
theorem fm {a b : Int} (h : 0 < b) : 0 ≤ Int.fmod a b ∧ Int.fmod a b < b := ⟨Int.fmod_nonneg_of_pos _ h, Int.fmod_lt_of_pos _ h⟩
theorem take2 {a b : Int} {n : Nat} {u : Int} (ha : 0 ≤ a ∧ a < u) (hb : 0 ≤ b ∧ b < u) : (∀ r ∈ List.take n [a, b], 0 ≤ r ∧ r < u) ∧ (List.take n [a, b]).length ≤ 2 :=
  ⟨fun r hr => by have := List.mem_of_mem_take hr; simp at this; rcases this with rfl | rfl <;> assumption, by rw [List.length_take]; exact Nat.min_le_right _ _⟩
/-- bools -/
def BoolsAre (vs : List Value) (bs : List Bool) : Prop := vs = bs.map Value.bool
theorem BoolsAre.snoc {vs : List Value} {bs : List Bool} {b : Bool} (h : BoolsAre vs bs) : BoolsAre (vs ++ [.bool b]) (bs ++ [b]) := by
  unfold BoolsAre at *; rw [h, List.map_append]; rfl
/-- what law's draw gives: leads and stars -/
def DrawAt (tl : Led) (r : Value) : Prop :=
  ∃ (T la sa : Addr) (us : List Value) (k ks : Nat) (q : List (List Int × Int)) (bs : List Bool) (r0 : List Int) (b0 : Int), r = .ref T ∧ (T, tupObj #[.ref la, .ref sa] 0) ∈ tl ∧ (la, W.listOf us.toArray k) ∈ tl ∧ (sa, W.listOf (bs.map Value.bool).toArray ks) ∈ tl ∧ LeadsAre us ((r0, b0) :: q) ∧ TopOk r0 b0 ∧ q.length = 3 ∧ (∀ x ∈ q, LowOk x.1 x.2) ∧ bs.length = 3
theorem four_ints {ys : List Value} (hl : ys.length = 4) (h : ∀ y ∈ ys, ∃ n t, y = Value.int n t) :
    ∃ n1 n2 n3 n4 t1 t2 t3 t4, ys = [.int n1 t1, .int n2 t2, .int n3 t3, .int n4 t4] := by
  rcases ys with _ | ⟨a, _ | ⟨b, _ | ⟨c, _ | ⟨d, _ | ⟨e, r⟩⟩⟩⟩⟩
  all_goals simp at hl
  obtain ⟨n1, t1, rfl⟩ := h _ (.head _)
  obtain ⟨n2, t2, rfl⟩ := h _ (.tail _ (.head _))
  obtain ⟨n3, t3, rfl⟩ := h _ (.tail _ (.tail _ (.head _)))
  obtain ⟨n4, t4, rfl⟩ := h _ (.tail _ (.tail _ (.tail _ (.head _))))
  exact ⟨_, _, _, _, _, _, _, _, rfl⟩
theorem draw_ok (w : World) {ls : Addr} {vs : List Value} {ns : List Int} (led : Led) (hI : IntsAre vs ns) (hn : ns.length ≤ 63) (loose : List Str) (mean : ExcName → Option Value) (mg mb : Str → Option Value) (dp un : Nat) (gd : Option (List Code)) (cn : Str) (cs : Scope) (a : Addr) (ccd : Value) (cl : List (Str × Addr)) (outer : List Env) (A₀ : Around) (base h₀ : Heap) (L : Addr) (m : Str → Option Value) (s : Shared) (Q E : Value → Shared → Prop)
    (hL : h₀.IsList ls vs.toArray) (B : Below A₀ base outer h₀) (F : Fr h₀ L s.heap m) (X : (hd.heap_39 w.params).In h₀) (N : News h₀ L s.heap led) (T : Top topProg loose mean mg mb h₀) (hk : cs.kind = .function) (hdp : dp + 7 < recursionLimit) (hu : un + 20 * 7 < cLine)
    (hret : ∀ r news' h' tk', Fr h₀ L h' m → News h₀ L h' news' → ExtT led news' (fun tl => DrawAt tl r) → Q r { s with heap := h', toks := tk' }) :
    wpAny (model PySem.Challenge.rw_rs0140_01.prog w) (ktrTop dp un gd cn cs L a ccd cl outer) (call (.ref 153) [.ref ls]) Q E s := by
  revert X
  k_fill
  intro X
  refine wpAny_call ?_
  k_dflt (walk_at "mine enter")
  rename Obj.data _ = Data.cell _ => q2
  have hscr := q2.trans (congrArg Data.cell (show _ = some (Value.ref ls) from rfl))
  clear q2
  (repeat' (first | (k_unfold; (try dsimp only)) | (k_end; wrow_close) | walk1 | (dsimp only; walk1) | (leave1; walk_say "STEP leave1"; try dsimp only) | fail "no step"))
  unfold Hold
  rename Fr _ _ _ _ => F4
  rename_i g1 L1 hA tkA FG1 B1 X1 T1 l1 o1 N0 _ _ m1
  have hL1 := hL.at fun o e => FG1.keep _ o e
  refine Assign_ListComp_K (L := L1) (h₀ := g1) (m := m1) rfl ?sw rfl (by decide) rfl (by decide) rfl rfl (by decide) rfl rfl ?_
  case sw => with_unfolding_all rfl
  (repeat' (first | (k_unfold; (try dsimp only)) | (k_end; wrow_close) | (first | ((with_reducible show wpAny _ _ (call (Value.type "enumerate") _) _ _ _); (with_reducible refine holdIt ?_)) | walk1) | (dsimp only; (first | ((with_reducible show wpAny _ _ (call (Value.type "enumerate") _) _ _ _); (with_reducible refine holdIt ?_)) | walk1)) | (leave1; walk_say "STEP leave1"; try dsimp only) | fail "no step"))
  unfold Hold
  rename News _ _ _ _ => N1
  rename Fr _ _ _ _ => F1
  rename_i T4 _ hT1
  refine call_enum_tup (tupIs N1 (.head _)) ?_
  intro h2 hE hI2 hsz hk2
  refine wpAny_pyIter_enum hE ?_
  have F2 := F1.keeps hk2
  have N2 := newsKeep N1 hk2
  refine CompK.enumT (fun i ys => ys.length = i ∧ ∀ y ∈ ys, ∃ n t, y = .int n t) hE hI2 (.head _) rfl F2 N2 (fun p hp => Heap.lt_size (N1 p hp).1) (Nat.lt_succ_self _) F1.ns.lt (Nat.le_of_ble_eq_true rfl) ⟨rfl, fun _ h => nomatch h⟩ ?_ ?_
  · rintro i v₁ v₂ t ys C oC D m₂ own h tk E' rfl hv ⟨hl, hys⟩ hoC hx hx2 F3 N3
    have hi : i < 4 := (Array.getElem?_eq_some_iff.mp hv).1
    have ⟨o9, t9, hv2⟩ : ∃ o9 t9, v₂ = .int o9 t9 := by
      rcases i with _ | _ | _ | _ | i
      · simp at hv; exact ⟨_, _, hv.symm⟩
      · simp at hv; exact ⟨_, _, hv.symm⟩
      · simp at hv; exact ⟨_, _, hv.symm⟩
      · simp at hv; exact ⟨_, _, hv.symm⟩
      · omega
    subst hv2
    clear hv hE hI2 F2 N2 N1 F1
    (repeat' (first | (k_unfold; (try dsimp only)) | (k_end; wrow_close) | (first | ((with_reducible show wpAny _ _ (call (Value.builtin "sum") _) _ _ _); (with_reducible refine holdIt ?_)) | walk1) | (dsimp only; (first | ((with_reducible show wpAny _ _ (call (Value.builtin "sum") _) _ _ _); (with_reducible refine holdIt ?_)) | walk1)) | (leave1; walk_say "STEP leave1"; try dsimp only) | fail "no step"))
    unfold Hold
    rename News _ _ _ _ => N5
    rename Fr _ _ _ _ => F5
    refine sumK rfl F5 N5 (N5.isList (.head _)) (hI.pick _ _ _) ?_
    clear N5 F5
    intro h5 tk5 t5 F6 N6
    generalize (pickNums ns (some (i : Int)) none (some 4)).sum = S
    (repeat' (first | (k_unfold; (try dsimp only)) | (k_end; wrow_close) | (first | ((with_reducible show Exists _); (with_reducible refine holdIt ?_)) | walk1) | (dsimp only; (first | ((with_reducible show Exists _); (with_reducible refine holdIt ?_)) | walk1)) | (leave1; walk_say "STEP leave1"; try dsimp only) | fail "no step"))
    unfold Hold
    refine ⟨_, _, rfl, by k_asm, newsSub (by k_asm) (fun p hp => .tail _ hp), by simp [hl], fun y hy => ?_⟩
    rcases List.mem_append.mp hy with hy | hy
    · exact hys y hy
    · rw [List.mem_singleton.mp hy]
      exact ⟨_, _, rfl⟩
  · rintro ys ⟨hl, hys⟩ D h tk F3 N3 hlt
    obtain ⟨n1, n2, n3, n4, q1, q2, q3, q4, rfl⟩ := four_ints hl hys
    clear hl hys hE hI2 F2 N2 N1 F1 hsz hk2
    have N4 : News g1 L1 h ((D, W.listOf #[.int n1 q1, .int n2 q2, .int n3 q3, .int n4 q4] 4) :: (L1 + 1, o1) :: led) := newsSub N3 fun p hp => by
      rcases List.mem_cons.mp hp with rfl | hp
      · exact .head _
      · exact .tail _ (.tail _ hp)
    clear N3
    have hD : ∀ p ∈ led, p.1 < D := fun p hp => hlt p (.tail _ (.tail _ hp))
    have hD1 : @LT.lt Nat _ (L1 + 1) D := hlt _ (.tail _ (.head _))
    clear hlt
    (repeat' (first | (k_unfold; (try dsimp only)) | (k_end; wrow_close) | walk1 | (dsimp only; walk1) | (leave1; walk_say "STEP leave1"; try dsimp only) | fail "no step"))
    unfold Hold
    rename_i D9 ws9 _ hI9 _ _ l9 h9 N9 _ _ m9 F9
    rename Shared => s8
    obtain ⟨R, hR, hRb⟩ : ∃ R, IntsAre ws9 R ∧ (∀ r ∈ R, 0 ≤ r ∧ r < 4) ∧ R.length ≤ 2 := ⟨_, hI9, take2 (fm (by decide)) (fm (by decide))⟩
    clear hI9
    have hRl := hR.length
    refine wpAny_mono (Q := fun f s' => match f with | .next => (∃ h' tk' la r0 c0 t0 k, s' = { s8 with heap := h', toks := tk' } ∧ Fr g1 L1 h' (fun y => if y = Str.ofString "leads" then some (.ref la) else m9 y) ∧ News g1 L1 h' ((la, W.listOf #[.str (leadText r0 c0) t0] k) :: (D, W.listOf #[.int n1 q1, .int n2 q2, .int n3 q3, .int n4 q4] 4) :: (L1 + 1, o1) :: led) ∧ TopOk r0 c0 ∧ @LT.lt Nat _ D la) | _ => False) ?st ?rest fun _ _ e => e
    case st =>
      refine wpAny_Assign_Name ?_
      (repeat' (first | (k_unfold; (try dsimp only)) | (k_end; wrow_close) | (first | ((with_reducible show wpAny _ _ (call (Value.ref _) _) _ _ _); (with_reducible refine holdIt ?_)) | walk1) | (dsimp only; (first | ((with_reducible show wpAny _ _ (call (Value.ref _) _) _ _ _); (with_reducible refine holdIt ?_)) | walk1)) | (leave1; walk_say "STEP leave1"; try dsimp only) | fail "no step"))
      · unfold Hold
        rename News _ _ _ _ => N5
        rename IntsAre _ _ => hI9
        refine Spec.use (lead_ok w _ _ ([4] ++ R) _ 0 _ _ (.head _) hI9 (by simp; omega) (fun r hr => (List.mem_append.mp hr).elim (fun h => by rw [List.mem_singleton.mp h]; decide) fun h => by have := hRb.1 r h; omega) (by decide)) (by k_asm) (by k_asm) (by k_asm) (by k_asm) (by k_asm) rfl (by ktr_room) (by ktr_units) ?_
        rintro r A3 h13 tk13 F13 N13 ⟨rfl, t13, rfl⟩
        (repeat' (first | (k_unfold; (try dsimp only)) | (k_end; wrow_close) | (first | ((with_reducible show Exists _); (with_reducible refine holdIt ?_)) | walk1) | (dsimp only; (first | ((with_reducible show Exists _); (with_reducible refine holdIt ?_)) | walk1)) | (leave1; walk_say "STEP leave1"; try dsimp only) | fail "no step"))
        rename News _ _ _ _ => N15
        unfold Hold
        refine ⟨_, _, _, [4] ++ R, 0, t13, 0, rfl, by k_asm, newsSub N15 (fun p hp => ?_), ⟨fun x hx => (List.mem_append.mp hx).elim (fun h => by rw [List.mem_singleton.mp h]; decide) fun h => by have := hRb.1 x h; omega, by simp; omega, by decide, .inl (.head _)⟩, by omega⟩
        simp only [List.mem_cons] at hp ⊢; grind
      · unfold Hold
        rename News _ _ _ _ => N5
        refine Spec.use (lead_ok w _ _ R _ 4 _ _ (.head _) hR (by omega) (fun r hr => by have := hRb.1 r hr; omega) (by decide)) (by k_asm) (by k_asm) (by k_asm) (by k_asm) (by k_asm) rfl (by ktr_room) (by ktr_units) ?_
        rintro r A3 h13 tk13 F13 N13 ⟨rfl, t13, rfl⟩
        (repeat' (first | (k_unfold; (try dsimp only)) | (k_end; wrow_close) | (first | ((with_reducible show Exists _); (with_reducible refine holdIt ?_)) | walk1) | (dsimp only; (first | ((with_reducible show Exists _); (with_reducible refine holdIt ?_)) | walk1)) | (leave1; walk_say "STEP leave1"; try dsimp only) | fail "no step"))
        rename News _ _ _ _ => N15
        unfold Hold
        refine ⟨_, _, _, R, 4, t13, 0, rfl, by k_asm, newsSub N15 (fun p hp => ?_), ⟨fun x hx => by have := hRb.1 x hx; omega, by omega, by decide, .inr rfl⟩, by omega⟩
        simp only [List.mem_cons] at hp ⊢; grind
    case rest =>
      intro f s' hq
      cases f with
      | ret _ => exact hq.elim
      | brk => exact hq.elim
      | cont => exact hq.elim
      | next =>
      obtain ⟨h5, tk5, la, r0, c0, t0, k, rfl, F5, N5, hT0, hla⟩ := hq
      (repeat' (first | (k_unfold; (try dsimp only)) | (k_end; wrow_close) | (first | ((with_reducible show wpAny _ _ (pyIter (Value.ref _)) _ _ _); (with_reducible refine holdIt ?_)) | walk1) | (dsimp only; (first | ((with_reducible show wpAny _ _ (pyIter (Value.ref _)) _ _ _); (with_reducible refine holdIt ?_)) | walk1)) | (leave1; walk_say "STEP leave1"; try dsimp only) | fail "no step"))
      unfold Hold
      rename_i D5 h6 F6 N6 l6
      refine' loopList (σ := List Value × Nat) (vs := [.int n2 q2, .int n3 q3, .int n4 q4]) (fun c => (la, W.listOf c.1.toArray c.2) :: (D5, W.listOf (List.toArray [.int n2 q2, .int n3 q3, .int n4 q4]) 0) :: (D, W.listOf #[.int n1 q1, .int n2 q2, .int n3 q3, .int n4 q4] 4) :: (L1 + 1, o1) :: led) (fun _ => []) [Str.ofString "low", Str.ofString "runs"] (fun I i c => c.1.length = i + 1 ∧ ∃ q, LeadsAre c.1 ((r0, c0) :: q) ∧ q.length = i ∧ ∀ x ∈ q, LowOk x.1 x.2) (fun c => ∃ q, LeadsAre c.1 ((r0, c0) :: q) ∧ q.length = 3 ∧ ∀ x ∈ q, LowOk x.1 x.2) ([.str (leadText r0 c0) t0], k) rfl (fun _ => .tail _ (.head _)) (by exact F6) ?hs ?hk ?hp ?turn ?done ?fin
      case hs => exact newsSub N6 fun p hp => by simp only [List.mem_cons] at hp ⊢; grind
      case hk => exact fun _ h => nomatch h
      case hp => exact fun I hI => ⟨rfl, [], .cons .nil, rfl, fun _ h => nomatch h⟩
      case done => exact fun I c h => h.2
      case turn =>
        rintro I hI c i v u h tk o hv ⟨hcl, q, hLe, hql, hqo⟩ hne F' N' s₁ rfl
        obtain ⟨nv, qv, rfl⟩ : ∃ n q, v = .int n q := by
          have := List.mem_of_getElem? hv
          simp at this
          rcases this with rfl | rfl | rfl <;> exact ⟨_, _, rfl⟩
        have hi3 : i < 3 := (List.getElem?_eq_some_iff.mp hv).1
        dsimp only [kstB] at F'
        (repeat' (first | (k_unfold; (try dsimp only)) | (k_end; wrow_close) | (first | ((with_reducible show wpAny _ _ (call (Value.ref _) _) _ _ _); (with_reducible refine holdIt ?_)) | walk1) | (dsimp only; (first | ((with_reducible show wpAny _ _ (call (Value.ref _) _) _ _ _); (with_reducible refine holdIt ?_)) | walk1)) | (leave1; walk_say "STEP leave1"; try dsimp only) | fail "no step"))
        unfold Hold
        rename_i D9 ws9 _ hI9 _ _ l9 h9 N9 _ _ m9 F9
        obtain ⟨R, hR, hRb⟩ : ∃ R, IntsAre ws9 R ∧ (∀ r ∈ R, 0 ≤ r ∧ r < 5) ∧ R.length ≤ 2 := ⟨_, hI9, take2 (fm (by decide)) (fm (by decide))⟩
        clear hI9
        have hRl := hR.length
        have hb := fm (a := Int.fdiv (Int.fmod nv 750) 75) (b := 5) (by decide)
        refine Spec.use (lead_ok w _ _ R _ _ _ _ (.head _) hR (by omega) (fun r hr => by have := hRb.1 r hr; omega) (by omega)) (by k_asm) (by k_asm) (by k_asm) (by k_asm) (by k_asm) rfl (by ktr_room) (by ktr_units) ?_
        rintro r A3 h13 tk13 F13 N13 ⟨rfl, t13, rfl⟩
        generalize Int.fmod (Int.fdiv (Int.fmod nv 750) 75) 5 = bb at *
        have hIla : @Ne Nat la I := hne _ (.head _)
        (repeat' (first | (k_unfold; (try dsimp only)) | (k_end; wrow_close) | walk1 | (dsimp only; walk1) | (leave1; walk_say "STEP leave1"; try dsimp only) | fail "no step"))
        rename News _ _ _ _ => N15
        simp only [List.push_toArray] at N15
        refine' ⟨(c.1 ++ [.str (leadText R bb) t13], c.2 + 1), _, _, _, _, rfl, ?a1, ?a2, ?a3, ?a4, ?a5, ?a6, ?a7, ?a8⟩
        walk_at "mine left"
        case a5 => exact List.forall_mem_cons.mpr ⟨hIla, (List.forall_mem_cons.mp hne).2⟩
        case a8 => exact ⟨by simp [hcl], q ++ [(R, bb)], hLe.snoc, by simp [hql], fun x hx => (List.mem_append.mp hx).elim (hqo x) fun h => by rw [List.mem_singleton.mp h]; exact ⟨fun r hr => by have := hRb.1 r hr; omega, by omega, by omega⟩⟩
      case fin =>
        rintro c u h tk ⟨q, hLe, hql, hqo⟩ F' N'
        dsimp only [kstB] at F'
        dsimp only
        have N8 : News g1 L1 h _ := newsSub N' fun p (hp : p ∈ (la, W.listOf c.1.toArray c.2) :: (D, W.listOf #[.int n1 q1, .int n2 q2, .int n3 q3, .int n4 q4] 4) :: (L1 + 1, o1) :: led) => (by simp only [List.mem_cons] at hp ⊢; grind)
        replace F' : Fr g1 L1 h _ := F'
        clear N' N6 F6 l6
        (repeat' (first | (k_unfold; (try dsimp only)) | (k_end; wrow_close) | (first | ((with_reducible show wpAny _ _ (eval (Expr.ListComp _ _ _ _) _) _ _ _); (with_reducible refine holdIt ?_)) | walk1) | (dsimp only; (first | ((with_reducible show wpAny _ _ (eval (Expr.ListComp _ _ _ _) _) _ _ _); (with_reducible refine holdIt ?_)) | walk1)) | (leave1; walk_say "STEP leave1"; try dsimp only) | fail "no step"))
        unfold Hold
        rename Fr _ _ _ _ => F9
        rename Str → Option Value => mm
        refine ListComp_G false (L := L1) (h₀ := g1) (m := mm) rfl ⟨rfl, fun _ => rfl, fun _ => rfl, fun _ _ => rfl⟩ (by decide) ?_
        (repeat' (first | (k_unfold; (try dsimp only)) | (k_end; wrow_close) | (first | ((with_reducible show wpAny _ _ (pyIter (Value.ref _)) _ _ _); (with_reducible refine holdIt ?_)) | walk1) | (dsimp only; (first | ((with_reducible show wpAny _ _ (pyIter (Value.ref _)) _ _ _); (with_reducible refine holdIt ?_)) | walk1)) | (leave1; walk_say "STEP leave1"; try dsimp only) | fail "no step"))
        unfold Hold
        rename_i D7 h7 F7 N7 l7
        rename Shared => sX
        refine CompG.ledger (σ := Unit) (vs := [.int n2 q2, .int n3 q3, .int n4 q4]) (ax := D7) (k := 0) (fun _ => (D7, W.listOf (List.toArray [.int n2 q2, .int n3 q3, .int n4 q4]) 0) :: (la, W.listOf c.1.toArray c.2) :: (D, W.listOf #[.int n1 q1, .int n2 q2, .int n3 q3, .int n4 q4] 4) :: (L1 + 1, o1) :: led) (HT sX) (fun _ i ys _ => ∃ bs : List Bool, bs.length = i ∧ ys = bs.map .bool) () rfl (by k_asm) (by k_asm) (.head _) (Nat.le_of_ble_eq_true rfl) HT.mk HT.move (fun _ _ => ⟨[], rfl, rfl⟩) ?_ ?_
        · rintro i v ys _ D9 I9 oC kc m₂ own s₃ E' hv ⟨bs, hbl, rfl⟩ hC ⟨rfl, hx⟩ hlt hID hof ⟨h, tk, rfl⟩ F6 N6
          obtain ⟨nv, qv, rfl⟩ : ∃ n q, v = .int n q := by
            have := List.mem_of_getElem? hv
            simp at this
            rcases this with rfl | rfl | rfl <;> exact ⟨_, _, rfl⟩
          replace N6 : News g1 L1 h ((D9 + 1, oC) :: _) := N6
          clear N7 F7
          (repeat' (first | (k_unfold; (try dsimp only)) | (k_end; wrow_close) | (first | ((with_reducible show Exists _); (with_reducible refine holdIt ?_)) | walk1) | (dsimp only; (first | ((with_reducible show Exists _); (with_reducible refine holdIt ?_)) | walk1)) | (leave1; walk_say "STEP leave1"; try dsimp only) | fail "no step"))
          unfold Hold
          exact ⟨(), HT.mk, by k_asm, N6, hof, bs ++ [_], by simp [hbl], by rw [List.map_append]; rfl⟩
        · rintro D9 ys _ s₃ ⟨bs, hbl, rfl⟩ ⟨h, tk, rfl⟩ hlt h9 tk9 F6 N6
          have hD9 : @LT.lt Nat _ la D9 := hlt _ (.tail _ (.head _))
          clear N7 F7
          (repeat' (first | (k_unfold; (try dsimp only)) | (k_end; wrow_close) | walk1 | (dsimp only; walk1) | (leave1; walk_say "STEP leave1"; try dsimp only) | fail "no step"))
          rename News h₀ _ _ _ => N9
          refine hret _ _ _ _ (by k_asm) (by k_asm) (ExtT.of [_, _, _, _, _, _] l1 ?_ ⟨_, la, D9, c.1, c.2, _, q, bs, r0, c0, rfl, .head _, .tail _ (.tail _ (.tail _ (.head _))), .tail _ (.head _), hLe, hT0, hql, hqo, hbl⟩)
          simp only [List.forall_mem_cons, List.not_mem_nil, false_implies, implies_true, and_true]
          refine ⟨?_, ?_, ?_, ?_, ?_, ?_⟩ <;> (refine leN ?_; omega)
end Mine
end

end
end
end
end
end
end
section
local macro_rules | `(tactic| walk_at "exec For Name Name cons nil") => `(tactic| (k_here; (rename Fr _ _ _ _ => lF'); (with_unfolding_all refine' For_invVF lF' ?k1 ?k2 ?_; (case k1 => exact rfl); (case k2 => exact rfl); k_whole)))
section
local macro_rules | `(tactic| walk_at "pyIter str") => `(tactic| (with_reducible refine holdIt ?_))
section
open PySem PySem.W PyProof.Rows
namespace Mine
theorem sec_QC1 {M : Model} {A : Around} {E : Value → Shared → Prop} {s : Shared} {env : Env} {p : Pos} {Q : Flow → Shared → Prop} (h : Q .next s) : wpAny M A (exec (.Pass p) env) Q E s := by
  w_top off
  k_with_none
  walk1
  exact h
end Mine
end
section
open PySem PySem.W PyProof.Rows
set_option maxRecDepth 100000
set_option maxHeartbeats 1000000
namespace Mine
/-- the column that a walk along signs reaches -/
def colRun (ts : Int) : List Nat → Int → Int
  | [], c => c
  | n :: r, c => if n = 9 then colRun ts r (c - Int.fmod c ts + ts) else colRun ts r (c + 1)
theorem col_ok (w : World) (lead : Str) (t1 t2 : Tok) (ts : Int) (news : Led) (h1 : 1 ≤ ts) (h2 : ts ≤ 100) :
   Spec 3 w 160 [.str lead t1, .int ts t2] news (fun r news' => news' = news ∧ ∃ t, r = .int (colRun ts lead.cps.toList 0) t) := by
  unfold Spec
  k_fill
  intro loose mean mg mb dp un gd cn cs a₁ ccd cl outer A₀ base h₀ L m s Q E B F X N T hk hd hu hret
  refine wpAny_call ?_
  k_dflt (walk_at "mine enter")
  (repeat' (first | (k_unfold; (try dsimp only)) | (k_end; wrow_close) | walk1 | (dsimp only; walk1) | (leave1; walk_say "STEP leave1"; try dsimp only) | fail "no step"))
  unfold Hold
  refine' loopText (σ := Int × Tok) (fun _ => news) (fun c => [(Str.ofString "column", .int c.1 c.2)]) []
    (fun I i c => colRun ts (lead.cps.toList.drop i) c.1 = colRun ts lead.cps.toList 0) (fun c => c.1 = colRun ts lead.cps.toList 0) ⟨0, _⟩ rfl (by k_asm) (by k_asm) ?hk ?hp ?turn ?done ?fin
  case hk => kst_all
  case hp => intro I hI; rfl
  case done => intro I c h; have e : lead.cps.toList.drop lead.cps.size = [] := (by simp); rw [e] at h; exact h
  case turn =>
    rintro I hI c i n t u h tk o hn h0 hne F' N' s₁ rfl
    dsimp only [kstB] at F'
    rw [drop_at hn, colRun] at h0
    (repeat' (first | (k_unfold; (try dsimp only)) | (k_end; wrow_close) | walk1 | (dsimp only; walk1) | (leave1; walk_say "STEP leave1"; try dsimp only) | fail "no step"))
    · refine' ⟨⟨_, _⟩, _, _, _, _, rfl, ?b1, ?b2, ?b3, ?b4, ?b5, ?b6, ?b7, ?b8⟩
      walk_at "mine leftb"
      case b5 => exact hne
      case b8 =>
        have e := one_eq (c := 9) (by decide +kernel) (by assumption : (Str.mk #[n] == Str.ofString "\t") = true)
        rw [if_pos (of_decide_eq_true e.symm)] at h0; exact h0
    · refine' ⟨⟨_, _⟩, _, _, _, _, rfl, ?b1, ?b2, ?b3, ?b4, ?b5, ?b6, ?b7, ?b8⟩
      walk_at "mine leftb"
      case b5 => exact hne
      case b8 =>
        have e := one_eq (c := 9) (by decide +kernel) (by assumption : (Str.mk #[n] == Str.ofString "\t") = false)
        rw [if_neg (of_decide_eq_false e.symm)] at h0; exact h0
  case fin =>
    rintro c u h tk g1 F' N'
    dsimp only [kstB] at F'
    dsimp only
    (repeat' (first | (k_unfold; (try dsimp only)) | (k_end; wrow_close) | walk1 | (dsimp only; walk1) | (leave1; walk_say "STEP leave1"; try dsimp only) | fail "no step"))
    refine hret _ _ _ _ (by k_asm) (by k_asm) ⟨rfl, intEq (by exact g1)⟩
end Mine
end

end
end
section
open PySem PySem.W PyProof.Rows
namespace Mine
theorem sec_QN1 {M : Model} {A : Around} {E : Value → Shared → Prop} {s : Shared} {env : Env} {p : Pos} {Q : Flow → Shared → Prop} (h : Q .next s) : wpAny M A (exec (.Pass p) env) Q E s := by
  w_top off
  k_with_none
  walk1
  exact h
end Mine
end
section
open PySem PySem.W PyProof.Rows
set_option maxRecDepth 100000
set_option maxHeartbeats 1000000
namespace Mine
def namedBy (x o : Str) (n : Int) : List Str := if (Txt.slice x none (some n) != o) = true then [x] else if (x != o) = true then Txt.split (Txt.slice x (some n) none) (Str.ofString ", ") else []
def namedOf (x : Str) : List Str := if (Builtin.Str.occurrences x (Str.ofString ", ") 0 x.length 1).isEmpty = true then namedBy x (Str.ofString "at tab size ") 12 else namedBy x (Str.ofString "at tab sizes ") 13
theorem nb1 {x o : Str} {n : Int} (h : (Txt.slice x none (some n) != o) = true) : namedBy x o n = [x] := by unfold namedBy; rw [if_pos h]
theorem nb2 {x o : Str} {n : Int} (h : (Txt.slice x none (some n) != o) = false) (h2 : (x != o) = true) : namedBy x o n = Txt.split (Txt.slice x (some n) none) (Str.ofString ", ") := by unfold namedBy; rw [if_neg (by rw [h]; decide), if_pos h2]
theorem nb3 {x o : Str} {n : Int} (h : (Txt.slice x none (some n) != o) = false) (h2 : (x != o) = false) : namedBy x o n = [] := by unfold namedBy; rw [if_neg (by rw [h]; decide), if_neg (by rw [h2]; decide)]
theorem no1 {x : Str} (h : (Builtin.Str.occurrences x (Str.ofString ", ") 0 x.length 1).isEmpty = true) : namedOf x = namedBy x (Str.ofString "at tab size ") 12 := by unfold namedOf; rw [if_pos h]
theorem no2 {x : Str} (h : (Builtin.Str.occurrences x (Str.ofString ", ") 0 x.length 1).isEmpty = false) : namedOf x = namedBy x (Str.ofString "at tab sizes ") 13 := by unfold namedOf; rw [if_neg (by rw [h]; decide)]
theorem named_ok (w : World) (x : Str) (t1 : Tok) (news : Led) (hl : x.length ≤ 100000) :
   Spec 3 w 167 [.str x t1] news (fun r news' => ∃ a vs k, r = .ref a ∧ news' = (a, W.listOf vs.toArray k) :: news ∧ StrsAre vs (namedOf x)) := by
  unfold Spec
  k_fill
  intro loose mean mg mb dp un gd cn cs a₁ ccd cl outer A₀ base h₀ L m s Q E B F X N T hk hd hu hret
  refine wpAny_call ?_
  k_dflt (walk_at "mine enter")
  (repeat' (first | (k_unfold; (try dsimp only)) | (k_end; wrow_close) | walk1 | (dsimp only; walk1) | (leave1; walk_say "STEP leave1"; try dsimp only) | fail "no step"))
  · exact hret _ _ _ _ (by k_asm) (by k_asm) ⟨_, [.str x t1], 0, rfl, rfl, by rw [no1 (by assumption), nb1 (by assumption)]; exact .cons _ _ .nil⟩
  · rename StrsAre _ _ => hst
    rename List.map _ _ = Txt.split _ _ => hsp
    rw [hsp] at hst
    exact hret _ _ _ _ (by k_asm) (by k_asm) ⟨_, _, _, rfl, rfl, by rw [no1 (by assumption), nb2 (by assumption) (by assumption)]; exact hst⟩
  · exact hret _ _ _ _ (by k_asm) (by k_asm) ⟨_, [], _, rfl, rfl, by rw [no1 (by assumption), nb3 (by assumption) (by assumption)]; exact .nil⟩
  · exact hret _ _ _ _ (by k_asm) (by k_asm) ⟨_, [.str x t1], 0, rfl, rfl, by rw [no2 (by assumption), nb1 (by assumption)]; exact .cons _ _ .nil⟩
  · rename StrsAre _ _ => hst
    rename List.map _ _ = Txt.split _ _ => hsp
    rw [hsp] at hst
    exact hret _ _ _ _ (by k_asm) (by k_asm) ⟨_, _, _, rfl, rfl, by rw [no2 (by assumption), nb2 (by assumption) (by assumption)]; exact hst⟩
  · exact hret _ _ _ _ (by k_asm) (by k_asm) ⟨_, [], _, rfl, rfl, by rw [no2 (by assumption), nb3 (by assumption) (by assumption)]; exact .nil⟩
end Mine
end

section
local macro_rules | `(tactic| k_mem) => `(tactic| ((fail_if_success (refine' List.Mem.tail _ ?_)); assumption))
section
open PySem PySem.W PyProof.Rows
namespace Mine
theorem sec_QE2 {M : Model} {A : Around} {E : Value → Shared → Prop} {s : Shared} {env : Env} {p : Pos} {Q : Flow → Shared → Prop} (h : Q .next s) : wpAny M A (exec (.Pass p) env) Q E s := by
  w_top off
  k_with_none
  walk1
  exact h
end Mine
end
section
open PySem PySem.W PyProof.Rows
set_option maxRecDepth 100000
set_option maxHeartbeats 1000000
namespace Mine
theorem addN {prog : Program} {w : World} {A : Around} {E : Value → Shared → Prop} {s : Shared} {h₀ : Heap} {L a b : Addr} {m : Str → Option Value} {news : Led} {vs ws : List Value} {k j : Nat} {Q : Value → Shared → Prop} (F : Fr h₀ L s.heap m) (N : News h₀ L s.heap news) (ha : (a, W.listOf vs.toArray k) ∈ news) (hb : (b, W.listOf ws.toArray j) ∈ news) (hz : vs.length + ws.length ≤ 100000)
    (h : ∀ D h', Fr h₀ L h' m → News h₀ L h' ((D, W.listOf (vs ++ ws).toArray 0) :: news) → (∀ p ∈ news, p.1 < D) → Q (.ref D) { s with heap := h' }) : wpAny (model prog w) A (binaryOp .Add (.ref a) (.ref b)) Q E s :=
  kmk_add_lit F N (N.isList ha) (N.isList hb) (by simp) h (by simp [sizeLine_eq]; omega)
theorem mer_ok (w : World) (x y : Addr) (ags1 ags2 : List Str) (rv1 rv2 : List Value) (news : Led) (hW1 : EntAt news x ags1 rv1) (hW2 : EntAt news y ags2 rv2) (hl1 : ags1.length ≤ 1000) (hl2 : ags2.length ≤ 1000) (hr1 : rv1.length ≤ 1000) (hr2 : rv2.length ≤ 1000) :
   Spec 5 w 70 [.ref x, .ref y] news (fun r news' => ExtT news news' fun tl => ∃ z, r = .ref z ∧ EntAt tl z (ags1.filter (hasS ags2)) (rv1 ++ rv2)) := by
  refine hW1.el fun d la lr us a1 a2 a3 a4 b1 b2 b3 b4 k1 k2 k3 h1 h2 h3 h4 h5 => ?_
  refine hW2.el fun d' la' lr' us' a1' a2' a3' a4' b1' b2' b3' b4' k1' k2' k3' h1' h2' h3' h4' h5' => ?_
  unfold Spec
  k_fill
  intro loose mean mg mb dp un gd cn cs a₁ ccd cl outer A₀ base h₀ L m s Q E B F X N T hk hd hu hret
  refine wpAny_call ?_
  k_dflt (walk_at "mine enter")
  (repeat' (first | (k_unfold; (try dsimp only)) | (k_end; wrow_close) | (first | ((with_reducible show wpAny _ _ (call (Value.type "list") _) _ _ _); (with_reducible refine holdIt ?_)) | (k_here; (with_reducible show wpAny _ _ (call (Value.type _) [Value.ref _, Value.ref _]) _ _ _); k_dflt (refine' filterN ?k1 ?k2 ?k3 ?_; (case k1 => k_asm); (case k2 => k_asm); (case k3 => k_mem); k_whole); intro z' it' h' F' N' l1 l2; (try k_sweep)) | (k_here; (with_reducible show wpAny _ _ (getAttr (Value.ref _) (Str.ofString "__contains__") _) _ _ _); k_dflt (refine' containsN ?k1 ?k2 ?k3 ?k4 ?k5 ?_; (case k1 => k_asm); (case k2 => k_asm); (case k3 => k_mem); (case k4 => assumption); (case k5 => assumption); k_whole); intro b' h' tk' F' N' l1; (try k_lt l1); (try k_sweep)) | (k_here; (with_reducible show wpAny _ _ (call (Value.type _) [Value.ref _]) _ _ _); k_dflt (refine' setN ?k1 ?k2 ?k3 ?k4 ?k5 ?k6 ?_; (case k1 => exact rfl); (case k2 => k_asm); (case k3 => k_asm); (case k4 => k_mem); (case k5 => assumption); (case k6 => omega); k_whole); intro S' so' h' tk' c' F' N' hSO hSc l1; (try k_lt l1); (try k_sweep)) | ((with_reducible show wpAny _ _ (call (Value.ref _) _) _ _ _); (k_here; k_dflt (first | (refine' call_cls0 ?k1 ?k2 ?k3 ?k4 ?k5 ?_; (case k1 => k_asm); (case k2 => k_asm); (case k3 => k_asm); (case k4 => k_is); (case k5 => k_is); k_whole; intro x' d' h' F' N' l1 l2; (try k_lt l1); (try k_lt2 l2); (try k_sweep)) | (refine' call_cls ?k1 ?k2 ?k3 ?k4 ?k5 ?k6 ?_; (case k1 => k_asm); (case k2 => k_asm); (case k3 => k_asm); (case k4 => k_is); (case k5 => k_is); (case k6 => k_is); k_whole; intro x' d' h' F' N' l1 l2; (try k_lt l1); (try k_lt2 l2); (try k_sweep); walk_at "mine enter") | (refine' call_meth ?k1 ?k2 ?_; (case k1 => k_asm); (case k2 => k_mem); k_whole; walk_at "mine enter") | (refine wpAny_call ?_; walk_at "mine enter")))) | walk1) | (dsimp only; (first | ((with_reducible show wpAny _ _ (call (Value.type "list") _) _ _ _); (with_reducible refine holdIt ?_)) | (k_here; (with_reducible show wpAny _ _ (call (Value.type _) [Value.ref _, Value.ref _]) _ _ _); k_dflt (refine' filterN ?k1 ?k2 ?k3 ?_; (case k1 => k_asm); (case k2 => k_asm); (case k3 => k_mem); k_whole); intro z' it' h' F' N' l1 l2; (try k_sweep)) | (k_here; (with_reducible show wpAny _ _ (getAttr (Value.ref _) (Str.ofString "__contains__") _) _ _ _); k_dflt (refine' containsN ?k1 ?k2 ?k3 ?k4 ?k5 ?_; (case k1 => k_asm); (case k2 => k_asm); (case k3 => k_mem); (case k4 => assumption); (case k5 => assumption); k_whole); intro b' h' tk' F' N' l1; (try k_lt l1); (try k_sweep)) | (k_here; (with_reducible show wpAny _ _ (call (Value.type _) [Value.ref _]) _ _ _); k_dflt (refine' setN ?k1 ?k2 ?k3 ?k4 ?k5 ?k6 ?_; (case k1 => exact rfl); (case k2 => k_asm); (case k3 => k_asm); (case k4 => k_mem); (case k5 => assumption); (case k6 => omega); k_whole); intro S' so' h' tk' c' F' N' hSO hSc l1; (try k_lt l1); (try k_sweep)) | ((with_reducible show wpAny _ _ (call (Value.ref _) _) _ _ _); (k_here; k_dflt (first | (refine' call_cls0 ?k1 ?k2 ?k3 ?k4 ?k5 ?_; (case k1 => k_asm); (case k2 => k_asm); (case k3 => k_asm); (case k4 => k_is); (case k5 => k_is); k_whole; intro x' d' h' F' N' l1 l2; (try k_lt l1); (try k_lt2 l2); (try k_sweep)) | (refine' call_cls ?k1 ?k2 ?k3 ?k4 ?k5 ?k6 ?_; (case k1 => k_asm); (case k2 => k_asm); (case k3 => k_asm); (case k4 => k_is); (case k5 => k_is); (case k6 => k_is); k_whole; intro x' d' h' F' N' l1 l2; (try k_lt l1); (try k_lt2 l2); (try k_sweep); walk_at "mine enter") | (refine' call_meth ?k1 ?k2 ?_; (case k1 => k_asm); (case k2 => k_mem); k_whole; walk_at "mine enter") | (refine wpAny_call ?_; walk_at "mine enter")))) | walk1)) | (leave1; walk_say "STEP leave1"; try dsimp only) | fail "no step"))
  unfold Hold
  rename_i l1 l2
  rename Obj.SetObjOf _ _ _ _ => hSO
  rename (_ : Nat) ≤ 1000 => hSc
  refine listFilN rfl (by k_asm) (by k_asm) (.tail _ (.tail _ (.tail _ (.tail _ h3)))) h5 hSO (by assumption) hl1 l2 (l1 _ (.head _)) (l1 _ (.tail _ (.head _))) (fun p hp => l1 p (.tail _ (.tail _ hp))) ?_
  clear l1 l2
  intro D' us2 k2 h' tk' F' N' hus l1
  k_lt l1
  (repeat' (first | (k_unfold; (try dsimp only)) | (k_end; wrow_close) | (first | (k_here; (with_reducible show wpAny _ _ (binaryOp _ (Value.ref _) (Value.ref _)) _ _ _); k_dflt (refine' addN ?k1 ?k2 ?k3 ?k4 ?k5 ?_; (case k1 => k_asm); (case k2 => k_asm); (case k3 => k_mem); (case k4 => k_mem); (case k5 => omega); k_whole); intro D' h' F' N' l1; (try k_lt l1); (try k_sweep)) | walk1) | (dsimp only; (first | (k_here; (with_reducible show wpAny _ _ (binaryOp _ (Value.ref _) (Value.ref _)) _ _ _); k_dflt (refine' addN ?k1 ?k2 ?k3 ?k4 ?k5 ?_; (case k1 => k_asm); (case k2 => k_asm); (case k3 => k_mem); (case k4 => k_mem); (case k5 => omega); k_whole); intro D' h' F' N' l1; (try k_lt l1); (try k_sweep)) | walk1)) | (leave1; walk_say "STEP leave1"; try dsimp only) | fail "no step"))
  rename News h₀ L _ _ => N9
  refine hret _ _ _ _ (by k_asm) N9 (ExtT.of [_, _, _, _, _, _] (by assumption) ?_ ⟨_, rfl, EntAt.intro (.tail _ (.tail _ (.tail _ (.tail _ (.head _))))) (.tail _ (.tail _ (.tail _ (.tail _ (.tail _ (.head _)))))) (.tail _ (.head _)) (.head _) hus⟩)
  simp only [List.forall_mem_cons, List.not_mem_nil, false_implies, implies_true, and_true]
  refine ⟨?_, ?_, ?_, ?_, ?_, ?_⟩ <;> (refine leN ?_; omega)
end Mine
end

section
open PySem PySem.W PyProof.Rows
namespace Mine
theorem sec_QG2 {M : Model} {A : Around} {E : Value → Shared → Prop} {s : Shared} {env : Env} {p : Pos} {Q : Flow → Shared → Prop} (h : Q .next s) : wpAny M A (exec (.Pass p) env) Q E s := by
  w_top off
  k_with_none
  walk1
  exact h
end Mine
end
section
open PySem PySem.W PyProof.Rows
set_option maxRecDepth 100000
set_option maxHeartbeats 1000000
namespace Mine
def tabN (n : Str) : Str := Str.ofString "Tab" ++ n
def lawAgents (names : List Str) (letter : Str) (st : Bool) : List Str := if letter = Str.ofString "a" then ((if st = true then [Str.ofString "*"] else []) ++ names.map tabN).reverse else (if st = true then [Str.ofString "*"] else []) ++ names.map tabN
theorem strs_rev : ∀ {vs : List Value} {ys : List Str}, StrsAre vs ys → StrsAre vs.reverse ys.reverse
  | _, _, .nil => .nil
  | _, _, .cons x t r => by rw [List.reverse_cons, List.reverse_cons]; exact strs_snoc (strs_rev r)
theorem la1 {names : List Str} {letter : Str} {st : Bool} (h : (letter == Str.ofString "a") = true) : lawAgents names letter st = ((if st = true then [Str.ofString "*"] else []) ++ names.map tabN).reverse := by unfold lawAgents; rw [if_pos (eq_of_beq h)]
theorem la2 {names : List Str} {letter : Str} {st : Bool} (h : (letter == Str.ofString "a") = false) : lawAgents names letter st = (if st = true then [Str.ofString "*"] else []) ++ names.map tabN := by unfold lawAgents; rw [if_neg (fun e => by rw [e, beq_self_eq_true] at h; cases h)]
theorem agents_ok (w : World) (lr : Addr) (vs : List Value) (names : List Str) (k : Nat) (letter : Str) (t5 : Tok) (st : Bool) (news : Led) (hl : (lr, W.listOf vs.toArray k) ∈ news) (hi : StrsAre vs names) (hn : names.length ≤ 100) (hr : ∀ n ∈ names, n.length ≤ 1000) :
   Spec 3 w 172 [.ref lr, .str letter t5, .bool st] news (fun r news' => ∃ a vs' k', r = .ref a ∧ news' = (a, W.listOf vs'.toArray k') :: news ∧ (∀ q ∈ news, q.1 < a) ∧ StrsAre vs' (lawAgents names letter st)) := by
  unfold Spec
  k_fill
  intro loose mean mg mb dp un gd cn cs a₁ ccd cl outer A₀ base h₀ L m s Q E B F X N T hk hd hu hret
  cases st with
  | true =>
    refine wpAny_call ?_
    k_dflt (walk_at "mine enter")
    (repeat' (first | (k_unfold; (try dsimp only)) | (k_end; wrow_close) | (first | ((with_reducible show wpAny _ _ (eval (Expr.ListComp _ _ _ _) _) _ _ _); (with_reducible refine holdIt ?_)) | walk1) | (dsimp only; (first | ((with_reducible show wpAny _ _ (eval (Expr.ListComp _ _ _ _) _) _ _ _); (with_reducible refine holdIt ?_)) | walk1)) | (leave1; walk_say "STEP leave1"; try dsimp only) | fail "no step"))
    unfold Hold
    rename Fr _ _ _ _ => F5
    rename News _ _ _ _ => N5
    have hil := hi.length
    refine LCg.ListComp_U F5 rfl (by decide) rfl (by decide) rfl ?_
    walk1
    refine LCg.CompSrc.ledger rfl (by k_asm) (by k_asm) (.tail _ hl) (by rw [sizeLine_eq]; simp; omega) ?_
    intro g5
    refine compBy (fun i ys nw => nw = _ ∧ StrsAre ys ((names.take i).map tabN)) ⟨rfl, .nil⟩ ?_ ?_
    · rintro i v I oI C oC D m₂ ys nw h tk E' hlt hv ⟨rfl, hys⟩ hC hx F6 N6 off ne
      obtain ⟨n, t, rfl, hn9⟩ := strs_at hi (by simpa using hv)
      have hnl := hr n (List.mem_of_getElem? hn9)
      (repeat' (first | (k_unfold; (try dsimp only)) | (k_end; wrow_close) | walk1 | (dsimp only; walk1) | (leave1; walk_say "STEP leave1"; try dsimp only) | fail "no step"))
      refine LCg.CompEnd.intro (by k_asm) N6 _ (fun p hp => hp) off (.inr ⟨_, .tail _ hl, rfl, _, rfl⟩) ⟨rfl, ?_⟩
      rw [take_succ_of hn9, List.map_append]
      exact strs_snoc hys
    · rintro ys nw ⟨rfl, hys⟩
      rw [show names.take vs.toArray.size = names by rw [List.size_toArray, hil]; exact List.take_length] at hys
      intro D h tk F6 N6 off
      have hyl := hys.length
      rw [List.length_map] at hyl
      (repeat' (first | (k_unfold; (try dsimp only)) | (k_end; wrow_close) | (first | (k_here; (with_reducible show wpAny _ _ (subscriptTail _ (PySem.Expr.Slice none none (some _) _) (Value.ref _) (Value.ref _)) _ _ _); k_dflt (refine' krv_lit ?F ?N ?l ?k ?e ?_ ?s ?t ?z; (case F => k_asm); (case N => k_asm); (case l => exact News.isList (by k_asm) (by k_mem)); (case k => exact IsPart.int _ _); (case e => exact rfl); (case s => with_unfolding_all rfl); (case t => intro _; rfl); (case z => (rw [sizeLine_eq]; simp only [List.size_toArray, List.length_append, List.length_cons, List.length_nil]; omega)); intro D' h' F' N' l1; (try k_lt l1))) | (k_here; (with_reducible show wpAny _ _ (binaryOp _ (Value.ref _) (Value.ref _)) _ _ _); k_dflt (refine' addN ?k1 ?k2 ?k3 ?k4 ?k5 ?_; (case k1 => k_asm); (case k2 => k_asm); (case k3 => k_mem); (case k4 => k_mem); (case k5 => (first | omega | (simp only [List.length_cons, List.length_nil]; omega)))); (try k_whole); intro D' h' F' N' l1; (try k_lt l1); (try k_sweep)) | walk1) | (dsimp only; (first | (k_here; (with_reducible show wpAny _ _ (subscriptTail _ (PySem.Expr.Slice none none (some _) _) (Value.ref _) (Value.ref _)) _ _ _); k_dflt (refine' krv_lit ?F ?N ?l ?k ?e ?_ ?s ?t ?z; (case F => k_asm); (case N => k_asm); (case l => exact News.isList (by k_asm) (by k_mem)); (case k => exact IsPart.int _ _); (case e => exact rfl); (case s => with_unfolding_all rfl); (case t => intro _; rfl); (case z => (rw [sizeLine_eq]; simp only [List.size_toArray, List.length_append, List.length_cons, List.length_nil]; omega)); intro D' h' F' N' l1; (try k_lt l1))) | (k_here; (with_reducible show wpAny _ _ (binaryOp _ (Value.ref _) (Value.ref _)) _ _ _); k_dflt (refine' addN ?k1 ?k2 ?k3 ?k4 ?k5 ?_; (case k1 => k_asm); (case k2 => k_asm); (case k3 => k_mem); (case k4 => k_mem); (case k5 => (first | omega | (simp only [List.length_cons, List.length_nil]; omega)))); (try k_whole); intro D' h' F' N' l1; (try k_lt l1); (try k_sweep)) | walk1)) | (leave1; walk_say "STEP leave1"; try dsimp only) | fail "no step"))
      · rename News h₀ _ _ _ => N9
        rename _ ∧ _ ∧ _ ∧ AllLt _ _ => l9
        have hBB := kst_ltOf l9.2.2.2
        exact hret _ _ _ _ (by k_asm) (newsSub N9 fun p hp => by
          rcases List.mem_cons.mp hp with rfl | hp
          · exact .head _
          · exact .tail _ (.tail _ (.tail _ (.tail _ hp)))) ⟨_, _, _, rfl, rfl, hBB, by rw [la1 (by assumption), List.toList_toArray]; exact strs_rev (StrsAre.append' (.cons _ _ .nil) hys)⟩
      · rename News h₀ _ _ _ => N9
        rename _ ∧ _ ∧ AllLt _ _ => l9
        have hBB := kst_ltOf l9.2.2
        exact hret _ _ _ _ (by k_asm) (newsSub N9 fun p hp => by
          rcases List.mem_cons.mp hp with rfl | hp
          · exact .head _
          · exact .tail _ (.tail _ (.tail _ hp))) ⟨_, _, _, rfl, rfl, hBB, by rw [la2 (by assumption)]; exact (StrsAre.append' (.cons _ _ .nil) hys)⟩
  | false =>
    refine wpAny_call ?_
    k_dflt (walk_at "mine enter")
    (repeat' (first | (k_unfold; (try dsimp only)) | (k_end; wrow_close) | (first | ((with_reducible show wpAny _ _ (eval (Expr.ListComp _ _ _ _) _) _ _ _); (with_reducible refine holdIt ?_)) | walk1) | (dsimp only; (first | ((with_reducible show wpAny _ _ (eval (Expr.ListComp _ _ _ _) _) _ _ _); (with_reducible refine holdIt ?_)) | walk1)) | (leave1; walk_say "STEP leave1"; try dsimp only) | fail "no step"))
    unfold Hold
    rename Fr _ _ _ _ => F5
    rename News _ _ _ _ => N5
    have hil := hi.length
    refine LCg.ListComp_U F5 rfl (by decide) rfl (by decide) rfl ?_
    walk1
    refine LCg.CompSrc.ledger rfl (by k_asm) (by k_asm) (.tail _ hl) (by rw [sizeLine_eq]; simp; omega) ?_
    intro g5
    refine compBy (fun i ys nw => nw = _ ∧ StrsAre ys ((names.take i).map tabN)) ⟨rfl, .nil⟩ ?_ ?_
    · rintro i v I oI C oC D m₂ ys nw h tk E' hlt hv ⟨rfl, hys⟩ hC hx F6 N6 off ne
      obtain ⟨n, t, rfl, hn9⟩ := strs_at hi (by simpa using hv)
      have hnl := hr n (List.mem_of_getElem? hn9)
      (repeat' (first | (k_unfold; (try dsimp only)) | (k_end; wrow_close) | walk1 | (dsimp only; walk1) | (leave1; walk_say "STEP leave1"; try dsimp only) | fail "no step"))
      refine LCg.CompEnd.intro (by k_asm) N6 _ (fun p hp => hp) off (.inr ⟨_, .tail _ hl, rfl, _, rfl⟩) ⟨rfl, ?_⟩
      rw [take_succ_of hn9, List.map_append]
      exact strs_snoc hys
    · rintro ys nw ⟨rfl, hys⟩
      rw [show names.take vs.toArray.size = names by rw [List.size_toArray, hil]; exact List.take_length] at hys
      intro D h tk F6 N6 off
      have hyl := hys.length
      rw [List.length_map] at hyl
      (repeat' (first | (k_unfold; (try dsimp only)) | (k_end; wrow_close) | (first | (k_here; (with_reducible show wpAny _ _ (subscriptTail _ (PySem.Expr.Slice none none (some _) _) (Value.ref _) (Value.ref _)) _ _ _); k_dflt (refine' krv_lit ?F ?N ?l ?k ?e ?_ ?s ?t ?z; (case F => k_asm); (case N => k_asm); (case l => exact News.isList (by k_asm) (by k_mem)); (case k => exact IsPart.int _ _); (case e => exact rfl); (case s => with_unfolding_all rfl); (case t => intro _; rfl); (case z => (rw [sizeLine_eq]; simp only [List.size_toArray, List.length_append, List.length_cons, List.length_nil]; omega)); intro D' h' F' N' l1; (try k_lt l1))) | (k_here; (with_reducible show wpAny _ _ (binaryOp _ (Value.ref _) (Value.ref _)) _ _ _); k_dflt (refine' addN ?k1 ?k2 ?k3 ?k4 ?k5 ?_; (case k1 => k_asm); (case k2 => k_asm); (case k3 => k_mem); (case k4 => k_mem); (case k5 => (first | omega | (simp only [List.length_cons, List.length_nil]; omega)))); (try k_whole); intro D' h' F' N' l1; (try k_lt l1); (try k_sweep)) | walk1) | (dsimp only; (first | (k_here; (with_reducible show wpAny _ _ (subscriptTail _ (PySem.Expr.Slice none none (some _) _) (Value.ref _) (Value.ref _)) _ _ _); k_dflt (refine' krv_lit ?F ?N ?l ?k ?e ?_ ?s ?t ?z; (case F => k_asm); (case N => k_asm); (case l => exact News.isList (by k_asm) (by k_mem)); (case k => exact IsPart.int _ _); (case e => exact rfl); (case s => with_unfolding_all rfl); (case t => intro _; rfl); (case z => (rw [sizeLine_eq]; simp only [List.size_toArray, List.length_append, List.length_cons, List.length_nil]; omega)); intro D' h' F' N' l1; (try k_lt l1))) | (k_here; (with_reducible show wpAny _ _ (binaryOp _ (Value.ref _) (Value.ref _)) _ _ _); k_dflt (refine' addN ?k1 ?k2 ?k3 ?k4 ?k5 ?_; (case k1 => k_asm); (case k2 => k_asm); (case k3 => k_mem); (case k4 => k_mem); (case k5 => (first | omega | (simp only [List.length_cons, List.length_nil]; omega)))); (try k_whole); intro D' h' F' N' l1; (try k_lt l1); (try k_sweep)) | walk1)) | (leave1; walk_say "STEP leave1"; try dsimp only) | fail "no step"))
      · rename News h₀ _ _ _ => N9
        rename _ ∧ _ ∧ _ ∧ AllLt _ _ => l9
        have hBB := kst_ltOf l9.2.2.2
        exact hret _ _ _ _ (by k_asm) (newsSub N9 fun p hp => by
          rcases List.mem_cons.mp hp with rfl | hp
          · exact .head _
          · exact .tail _ (.tail _ (.tail _ (.tail _ hp)))) ⟨_, _, _, rfl, rfl, hBB, by rw [la1 (by assumption), List.toList_toArray]; exact strs_rev hys⟩
      · rename News h₀ _ _ _ => N9
        rename _ ∧ _ ∧ AllLt _ _ => l9
        have hBB := kst_ltOf l9.2.2
        exact hret _ _ _ _ (by k_asm) (newsSub N9 fun p hp => by
          rcases List.mem_cons.mp hp with rfl | hp
          · exact .head _
          · exact .tail _ (.tail _ (.tail _ hp))) ⟨_, _, _, rfl, rfl, hBB, by rw [la2 (by assumption)]; exact hys⟩
end Mine
end

section
open PySem PySem.W PyProof.Rows
namespace Mine
theorem sec_QRA {M : Model} {A : Around} {E : Value → Shared → Prop} {s : Shared} {env : Env} {p : Pos} {Q : Flow → Shared → Prop} (h : Q .next s) : wpAny M A (exec (.Pass p) env) Q E s := by
  w_top off
  k_with_none
  walk1
  exact h
end Mine
end
section
open PySem PySem.W PyProof.Rows PySem.Calls PySem.Spec
set_option maxRecDepth 100000
namespace Mine
section
variable {M : Model} {A : Around} {E : Value → Shared → Prop} {s : Shared} {h₀ : Heap} {L a c P : Addr} {m mg mb : Str → Option Value} {cn : Str} {cs : Scope} {ccd : Value} {cl : List (Str × Addr)} {rest tl : Led}
  {p : Program} {loose : List Str} {mean : ExcName → Option Value} {params : Arguments} {body : Expr} {scope : Scope} {ps : Array Value} {pos : Pos} {clos : List (Str × Addr)}
/-- a lambda made: its code from the table, or new into it -/
theorem lamMake {Q : Value → Shared → Prop} (hdef : defaultsOf params (envX cn cs L a ccd cl) = ([], [])) (F : Fr h₀ L s.heap m) (N : News h₀ L s.heap ((P, tabObj ps) :: rest)) (T : Top p loose mean mg mb h₀) (C : CodeHd h₀ c P) (hcd : ccd = .ref c)
    (hP : ∀ q ∈ rest, q.1 ≠ P) (ht : TabC ((envX cn cs L a ccd cl).qual ++ "<lambda>") ps tl) (hs : ∀ p ∈ tl, p ∈ rest) (hcl : closureFor scope (envX cn cs L a ccd cl) = pure clos)
    (h : ∀ f c' ctv ps' ex h' tk oc vs t, Fr h₀ L h' m →
      News h₀ L h' ((f, kla_obj "<lambda>" ((envX cn cs L a ccd cl).qual ++ "<lambda>") params body scope clos ((mg "__name__").getD .none) c' ctv) :: (ex ++ (P, tabObj ps') :: rest)) →
      TabC ((envX cn cs L a ccd cl).qual ++ "<lambda>") ps' (ex ++ tl) → (∀ q ∈ ex, (∀ r ∈ rest, r.1 < q.1) ∧ q.1 < f ∧ P < q.1) → (∀ r ∈ rest, r.1 < f) → P < f →
      (c', oc) ∈ ex ++ tl → oc.data = .fields vs → vs[1]? = some (.str ((envX cn cs L a ccd cl).qual ++ "<lambda>") t) → Q (.ref f) { s with heap := h', toks := tk }) :
    wpAny M A (eval (.Lambda params body scope pos) (envX cn cs L a ccd cl)) Q E s := by
  refine kla_eval hdef ?_
  have hin : (P, tabObj ps) ∈ (P, tabObj ps) :: rest := .head _
  cases hcm : codeAmong pos ps.toList with
  | none =>
    refine kla_nest (ps := ps) F N T C hcd (UpdF.head hP) ht.1 hcm hcl ?_
    intro f' c' oc' vs' t' ct' h' tk' F' N' d1' d2' l1 l2
    refine h f' c' ct' _ [(c', oc')] h' tk' oc' vs' t' F' N' ((ht.mono fun q hq => .tail _ hq).snoc (.head _) d1' d2') ?_ (fun r hr => Nat.lt_trans (l1 r (.tail _ hr)) l2) (Nat.lt_trans (l1 _ hin) l2) (.head _) d1' d2'
    intro q hq
    rw [List.mem_singleton.mp hq]
    exact ⟨fun r hr => l1 r (.tail _ hr), l2, l1 _ hin⟩
  | some cv =>
    obtain ⟨c', oc, vs, tk, rfl, hm, hd', hv⟩ := ht.2 pos cv hcm
    refine kla_hit (ps := ps) F N T C hcd hin ht.1 hcm hcl ?_
    intro f' ct' h' tk' F' N' l1
    exact h f' c' ct' ps [] h' tk' oc vs tk F' N' ht (fun q hq => nomatch hq) (fun r hr => l1 r (.tail _ hr)) (l1 _ hin) hm hd' hv
end
end Mine
end

end
section
open PySem PySem.W PyProof.Rows
namespace Mine
theorem sec_QL3 {M : Model} {A : Around} {E : Value → Shared → Prop} {s : Shared} {env : Env} {p : Pos} {Q : Flow → Shared → Prop} (h : Q .next s) : wpAny M A (exec (.Pass p) env) Q E s := by
  w_top off
  k_with_none
  walk1
  exact h
end Mine
end
section
open PySem PySem.W PyProof.Rows
set_option maxRecDepth 100000
set_option maxHeartbeats 1000000
namespace Mine
theorem ltN {a b : Nat} (h : a < b) : a < b := h
/-- a rule: its reach is a call of the function that it holds -/
inductive EntR (news : Led) (x f : Addr) (v : Str) : Prop
  | intro {d la lr : Addr} {a1 a2 a3 a4 a5 a6 : Int} {b1 b2 b3 b4 b5 b6 t : Tok} {k1 : Nat} (h1 : (x, instObj 59 d) ∈ news) (h2 : (d, dictOf [⟨a1, .str (Str.ofString "useragents") b1, .ref la⟩, ⟨a2, .str (Str.ofString "rulelines") b2, .ref lr⟩, ⟨a3, .str (Str.ofString "delay") b3, .none⟩, ⟨a4, .str (Str.ofString "req_rate") b4, .none⟩, ⟨a5, .str (Str.ofString "applies_to") b5, .ref f⟩, ⟨a6, .str (Str.ofString "allowance") b6, .str v t⟩] k1) ∈ news) : EntR news x f v
theorem EntR.el {news : Led} {x f : Addr} {v : Str} {C : Prop} (h : EntR news x f v) (k : ∀ (d la lr : Addr) (a1 a2 a3 a4 a5 a6 : Int) (b1 b2 b3 b4 b5 b6 t : Tok) (k1 : Nat), ((x, instObj 59 d) ∈ news) → ((d, dictOf [⟨a1, .str (Str.ofString "useragents") b1, .ref la⟩, ⟨a2, .str (Str.ofString "rulelines") b2, .ref lr⟩, ⟨a3, .str (Str.ofString "delay") b3, .none⟩, ⟨a4, .str (Str.ofString "req_rate") b4, .none⟩, ⟨a5, .str (Str.ofString "applies_to") b5, .ref f⟩, ⟨a6, .str (Str.ofString "allowance") b6, .str v t⟩] k1) ∈ news) → C) : C := by
  cases h with
  | intro h0 h1 => exact k _ _ _ _ _ _ _ _ _ _ _ _ _ _ _ _ _ h0 h1
theorem EntR.mono {news news' : Led} {x f : Addr} {v : Str} (h : EntR news x f v) (hs : ∀ p ∈ news, p ∈ news') : EntR news' x f v :=
  h.el fun _ _ _ _ _ _ _ _ _ _ _ _ _ _ _ _ _ h1 h2 => .intro (hs _ h1) (hs _ h2)
/-- the function's own contract -/
def FnOk (w : World) (news : Led) (f : Addr) (g : Int → Int) : Prop :=
  (∃ (fc : Value) (fo : Option Addr) (fd : FuncData) (fs : Array (Option Value)), (f, (⟨fc, fo, .func fd, fs⟩ : Obj)) ∈ news) ∧
    ∀ news', (∀ p ∈ news, p ∈ news') → ∀ (q : Int) (tq : Tok), 1 ≤ q → q ≤ 5 → Spec 5 w f [.int q tq] news' (fun r n => n = news' ∧ ∃ t, r = .int (g q) t)
theorem FnOk.mono {w : World} {news news' : Led} {f : Addr} {g : Int → Int} (h : FnOk w news f g) (hs : ∀ p ∈ news, p ∈ news') : FnOk w news' f g := by
  obtain ⟨⟨fc, fo, fd, fs, h1⟩, h2⟩ := h
  exact ⟨⟨fc, fo, fd, fs, hs _ h1⟩, fun n hn => h2 n fun p hp => hn p (hs p hp)⟩
def RuleAt (w : World) (news : Led) (x : Addr) (g : Int → Int) (v : Str) : Prop := ∃ f, EntR news x f v ∧ FnOk w news f g
theorem RuleAt.mono {w : World} {news news' : Led} {x : Addr} {g : Int → Int} {v : Str} (h : RuleAt w news x g v) (hs : ∀ p ∈ news, p ∈ news') : RuleAt w news' x g v := by
  obtain ⟨f, h1, h2⟩ := h
  exact ⟨f, h1.mono hs, h2.mono hs⟩
theorem rule_ok (w : World) (f : Addr) (v : Str) (t6 : Tok) (news : Led) :
   Spec 4 w 179 [.ref f, .str v t6] news (fun r news' => ExtT news news' fun tl => ∃ x, r = .ref x ∧ EntR tl x f v) := by
  unfold Spec
  k_fill
  intro loose mean mg mb dp un gd cn cs a₁ ccd cl outer A₀ base h₀ L m s Q E B F X N T hk hdp hu hret
  refine wpAny_call ?_
  k_dflt (walk_at "mine enter")
  (repeat' (first | (k_unfold; (try dsimp only)) | (k_end; wrow_close) | (first | ((with_reducible show wpAny _ _ (call (Value.ref _) _) _ _ _); (k_here; k_dflt (first | (refine' call_cls0 ?k1 ?k2 ?k3 ?k4 ?k5 ?_; (case k1 => k_asm); (case k2 => k_asm); (case k3 => k_asm); (case k4 => k_is); (case k5 => k_is); k_whole; intro x' d' h' F' N' l1 l2; (try k_lt l1); (try k_lt2 l2); (try k_sweep)) | (refine' call_cls ?k1 ?k2 ?k3 ?k4 ?k5 ?k6 ?_; (case k1 => k_asm); (case k2 => k_asm); (case k3 => k_asm); (case k4 => k_is); (case k5 => k_is); (case k6 => k_is); k_whole; intro x' d' h' F' N' l1 l2; (try k_lt l1); (try k_lt2 l2); (try k_sweep); walk_at "mine enter") | (refine' call_meth ?k1 ?k2 ?_; (case k1 => k_asm); (case k2 => k_mem); k_whole; walk_at "mine enter") | (refine wpAny_call ?_; walk_at "mine enter")))) | walk1) | (dsimp only; (first | ((with_reducible show wpAny _ _ (call (Value.ref _) _) _ _ _); (k_here; k_dflt (first | (refine' call_cls0 ?k1 ?k2 ?k3 ?k4 ?k5 ?_; (case k1 => k_asm); (case k2 => k_asm); (case k3 => k_asm); (case k4 => k_is); (case k5 => k_is); k_whole; intro x' d' h' F' N' l1 l2; (try k_lt l1); (try k_lt2 l2); (try k_sweep)) | (refine' call_cls ?k1 ?k2 ?k3 ?k4 ?k5 ?k6 ?_; (case k1 => k_asm); (case k2 => k_asm); (case k3 => k_asm); (case k4 => k_is); (case k5 => k_is); (case k6 => k_is); k_whole; intro x' d' h' F' N' l1 l2; (try k_lt l1); (try k_lt2 l2); (try k_sweep); walk_at "mine enter") | (refine' call_meth ?k1 ?k2 ?_; (case k1 => k_asm); (case k2 => k_mem); k_whole; walk_at "mine enter") | (refine wpAny_call ?_; walk_at "mine enter")))) | walk1)) | (leave1; walk_say "STEP leave1"; try dsimp only) | fail "no step"))
  have hB : ∀ p ∈ news, p.1 < _ := (by assumption)
  refine hret _ _ _ _ (by k_asm) (by k_asm) (ExtT.of [_, _, _, _] hB ?_ ⟨_, rfl, ?_⟩)
  · simp only [List.forall_mem_cons, List.not_mem_nil, false_implies, implies_true, and_true]
    refine ⟨?_, ?_, ?_, ?_⟩ <;> (refine leN ?_; omega)
  · exact EntR.intro (.tail _ (.tail _ (.head _))) (.tail _ (.tail _ (.tail _ (.head _))))
end Mine
end

section
local macro_rules | `(tactic| k_mem) => `(tactic| ((fail_if_success (refine' List.Mem.tail _ ?_)); assumption))
section
local macro_rules | `(tactic| walk_at "call ref") => `(tactic| (k_here; k_dflt (first
  | (refine' call_cls0 ?k1 ?k2 ?k3 ?k4 ?k5 ?_; (case k1 => k_asm); (case k2 => k_asm); (case k3 => k_asm); (case k4 => k_is); (case k5 => k_is); k_whole; intro x' d' h' F' N' l1 l2; (try k_lt l1); (try k_lt2 l2); (try k_sweep))
  | (refine' call_cls ?k1 ?k2 ?k3 ?k4 ?k5 ?k6 ?_; (case k1 => k_asm); (case k2 => k_asm); (case k3 => k_asm); (case k4 => k_is); (case k5 => k_is); (case k6 => k_is); k_whole; intro x' d' h' F' N' l1 l2; (try k_lt l1); (try k_lt2 l2); (try k_sweep); walk_at "mine enter")
  | (refine' call_meth ?k1 ?k2 ?_; (case k1 => k_asm); (case k2 => k_mem); k_whole; walk_at "mine enter")
  | (refine wpAny_call ?_; walk_at "mine enter"))))
section
local macro_rules | `(tactic| walk_at "call ref") => `(tactic| (k_here; k_dflt (refine' Spec.use (lrs_ok _ _ _ _ ?kW) ?k1 ?k2 ?k3 ?k4 ?k5 ?kK ?kd ?ku ?_; walk_at "mine use"; (case kW => assumption)); intro r9 n9 h9 tk9 F9 N9 P9; obtain ⟨e9, t9, e8⟩ := P9; rw [e9] at N9; clear e9; subst e8; (try dsimp only); (try k_fold)))
section
local macro_rules | `(tactic| walk_at "call ref") => `(tactic| (k_here; k_dflt (refine' Spec.use (ind_ok _ _ _ _ _ _ ?kW ?kA ?kB) ?k1 ?k2 ?k3 ?k4 ?k5 ?kK ?kd ?ku ?_; walk_at "mine use"; (case kW => assumption); (case kA => omega); (case kB => omega)); intro r9 n9 h9 tk9 F9 N9 P9; obtain ⟨e9, t9, e8⟩ := P9; rw [e9] at N9; clear e9; subst e8; (try dsimp only); (try k_fold)))
section
local macro_rules | `(tactic| walk_at "call ref") => `(tactic| (k_here; k_dflt (refine' Spec.use (mk _ _ _ _ ?kL) ?k1 ?k2 ?k3 ?k4 ?k5 ?kK ?kd ?ku ?_; walk_at "mine use"; (case kL => (show PySem.Str.length _ ≤ 1000; omega))); intro r9 n9 h9 tk9 F9 N9 P9; obtain ⟨e9, x9, e8, w9⟩ := P9; subst e8; (try dsimp only); (try k_fold)))
section
local macro_rules | `(tactic| walk_at "call builtin:list.extend") => `(tactic| (k_here; (with_reducible show wpAny _ _ (call (Value.builtin _) [Value.ref _, Value.ref _]) _ _ _); k_dflt (refine' extN ?F ?N ?b ?U ?z ?_; (case F => k_asm); (case N => k_asm); (case b => k_mem); (case U => k_updF); (case z => omega)); intro h' n' F' N'; (try dsimp only at N'); (try k_sweep)))
section
local macro_rules | `(tactic| walk_at "mine lam") => `(tactic| (refine' kla_code ?k1 ?k2 ?k3 ?k4 ?k5 ?kA ?kF ?kK ?k6 ?k7 ?k8 ?k9 ?kB ?_ ?c2 ?c3 ?c4 ?c5; (case kA => exact rfl); (case kF => exact rfl); (case kK => first | exact rfl | assumption); (case k4 => k_asm); (case k1 => k_asm); (case k2 => k_asm); (case k3 => k_asm); (case k5 => k_asm); (case k6 => assumption); (case k7 => exact codeRec_news (by k_asm) (by assumption) (by assumption) (by assumption)); (case k8 => ktr_room); (case k9 => exact rfl); (case c5 => decide); (case kB => exact locs rfl); (case c2 => exact rfl); (case c3 => exact rfl); (case c4 => exact rfl); k_whole; intro g' L' h' FG' F' N' B' X' T'; (try dsimp only); (try k_lift B'); (try k_fold)))
section
open PySem PySem.W PyProof.Rows
namespace Mine
theorem sec_QR1 {M : Model} {A : Around} {E : Value → Shared → Prop} {s : Shared} {env : Env} {p : Pos} {Q : Flow → Shared → Prop} (h : Q .next s) : wpAny M A (exec (.Pass p) env) Q E s := by
  w_top off
  k_with_none
  walk1
  exact h
end Mine
end
section
open PySem PySem.W PyProof.Rows
set_option maxRecDepth 100000
set_option maxHeartbeats 1000000
namespace Mine
theorem reNews {h₀ h : Heap} {L : Addr} {a b c d e f t1 t2 : Addr × Obj} {tl cd news : Led} (N : News h₀ L h (tl ++ (a :: b :: c :: d :: e :: f :: t1 :: t2 :: (cd ++ news)))) : News h₀ L h (t1 :: t2 :: (cd ++ (tl ++ ([a, b, c, d, e, f] ++ news)))) := newsSub N (by intro p hp; simp only [List.mem_cons, List.mem_append, List.not_mem_nil, or_false] at hp ⊢; grind)
theorem reNews2 {h₀ h : Heap} {L : Addr} {a b c d e f t1 t2 : Addr × Obj} {tl cd news : Led} (N : News h₀ L h (t1 :: t2 :: (cd ++ ([] ++ (tl ++ ([a, b, c, d, e, f] ++ news)))))) : News h₀ L h (a :: b :: c :: d :: e :: f :: t1 :: t2 :: (cd ++ (tl ++ news))) := newsSub N (by intro p hp; simp only [List.mem_cons, List.mem_append, List.not_mem_nil, or_false, List.nil_append] at hp ⊢; grind)
theorem reLam {h₀ h : Heap} {L : Addr} {x a b c d e f t1 t2 : Addr × Obj} {Z : Led} (N : News h₀ L h (x :: a :: b :: c :: d :: e :: f :: t1 :: t2 :: Z)) : News h₀ L h (t2 :: a :: b :: c :: d :: e :: f :: t1 :: Z) := newsSub N (by intro p hp; simp only [List.mem_cons] at hp ⊢; grind)
theorem neN {a b : Nat} (h : a ≠ b) : a ≠ b := h
theorem withFn {P : Prop} {w : World} {h₀ h : Heap} {L f : Addr} {o : Obj} {rest : Led} {g : Int → Int} (rest' : Led) (_ : News h₀ L h ((f, o) :: rest)) (h1 : FnOk w ((f, o) :: rest') f g) (h2 : FnOk w ((f, o) :: rest') f g → P) : P := h2 h1
theorem reLam2 {h₀ h : Heap} {L : Addr} {f t2 a b c d e g t1 : Addr × Obj} {ex cd tl news : Led} (N : News h₀ L h (f :: (ex ++ t2 :: a :: b :: c :: d :: e :: g :: t1 :: (cd ++ (tl ++ news))))) : News h₀ L h (a :: b :: c :: d :: e :: g :: t1 :: t2 :: ((ex ++ cd) ++ ((f :: tl) ++ news))) := newsSub N (by intro p hp; simp only [List.mem_cons, List.mem_append] at hp ⊢; grind)
theorem packRule {h₀ h : Heap} {L : Addr} {f t2 a b c d e g t1 : Addr × Obj} {tlr ex cd tl news : Led} (N : News h₀ L h (tlr ++ (a :: b :: c :: d :: e :: g :: t1 :: t2 :: ((ex ++ cd) ++ ((f :: tl) ++ news))))) : ∃ CD TL, CD = ex ++ cd ∧ TL = tlr ++ (f :: tl) ∧ News h₀ L h (a :: b :: c :: d :: e :: g :: t1 :: t2 :: (CD ++ (TL ++ news))) := ⟨_, _, rfl, rfl, newsSub N (by intro p hp; simp only [List.mem_cons, List.mem_append] at hp ⊢; grind)⟩
theorem reTab {h₀ h : Heap} {L : Addr} {a b c d e f t1 t2 : Addr × Obj} {Z : Led} (N : News h₀ L h (a :: b :: c :: d :: e :: f :: t1 :: t2 :: Z)) : News h₀ L h (t2 :: a :: b :: c :: d :: e :: f :: t1 :: Z) := newsSub N (by intro p hp; simp only [List.mem_cons] at hp ⊢; grind)
theorem reEnd {h₀ h : Heap} {L : Addr} {a b c d e f t1 t2 : Addr × Obj} {cd tl news : Led} (N : News h₀ L h (a :: b :: c :: d :: e :: f :: t1 :: t2 :: (cd ++ (tl ++ news)))) : News h₀ L h (t1 :: t2 :: (cd ++ (([a, b, c, d, e, f] ++ tl) ++ news))) := newsSub N (by intro p hp; simp only [List.mem_cons, List.mem_append, List.not_mem_nil, or_false] at hp ⊢; grind)
theorem newsDrop2 {h₀ h : Heap} {L : Addr} {a b : Addr × Obj} {l : Led} (N : News h₀ L h (a :: b :: l)) : News h₀ L h (a :: l) := newsSub N (by intro p hp; simp only [List.mem_cons] at hp ⊢; grind)
theorem la_len {names : List Str} {letter : Str} {st : Bool} : (lawAgents names letter st).length ≤ names.length + 1 := by
  unfold lawAgents
  split <;> cases st <;> simp
theorem fmt_len {rows : List (Int × Int × Int)} (hb : ∀ r ∈ rows, 0 ≤ r.1 ∧ r.1 ≤ 100000) (hn : rows.length ≤ 1000) : (fmtText rows).length ≤ 9100 := by
  have h := firsts_len hb hn
  have e1 : (Str.ofString "at tab sizes").length = 12 := by decide +kernel
  have e2 : (Str.ofString "at tab size").length = 11 := by decide +kernel
  have e3 : (Str.ofString " ").length = 1 := by decide +kernel
  unfold fmtText
  rw [Str.length_append, Str.length_append]
  split <;> omega
def fnCol (cols : List Int) (q : Int) : Int := cols.getD (q - 1).toNat 0
theorem rec_ok (w : World) (x y lw : Addr) (st st' : Ws) (ws : List Value) (cols : List Int) (kw : Nat) (letter : Str) (t5 : Tok) (sb : Bool) (news KF : Led) (hKF : ∀ p ∈ KF, p ∈ news) (hW : WhiteAt news x st) (hW' : WhiteAt KF y st') (hw : (lw, W.listOf ws.toArray kw) ∈ KF) (hI9 : IntsAre ws cols) (hc : cols.length = 5)
    {rows : List (Int × Int × Int)} (er : rows = notRows st st' (topSize st st').toNat) (hn : rows.length ≤ 100) (hb : ∀ r ∈ rows, 0 ≤ r.1 ∧ r.1 ≤ 100000) (hm : (namedOf (fmtText rows)).length ≤ 100 ∧ ∀ n ∈ namedOf (fmtText rows), n.length ≤ 1000) :
   SpecG 7 w 186 [.ref x, .ref y, .ref lw, .str letter t5, .bool sb] news (fun r tl cd => ∃ z r1 r2, r = .ref z ∧ EntAt tl z (lawAgents (namedOf (fmtText rows)) letter sb) [.ref r1, .ref r2] ∧ RuleAt w (tl ++ (cd ++ KF)) r1 (indentOf st') (Str.ofString "") ∧ RuleAt w (tl ++ (cd ++ KF)) r2 (fnCol cols) letter) := by
  unfold SpecG SpecX
  k_fill
  intro loose mean mg mb dp un gd cn cs a₁ ccd cl outer A₀ base h₀ L m s Q E t1 t2 cd B F X N ht1 ht2 hT T hk hdp hu hret
  have hWn := hW.mono (fun p hp => (memR hp : p ∈ cd ++ news))
  have hWn' := (hW'.mono hKF).mono (fun p hp => (memR hp : p ∈ cd ++ news))
  refine (hWn).el fun dx nr ct vs raw a1 a2 a3 a4 a5 b1 b2 b3 b4 b5 c1 c2 c3 c6 k1 k2 k3 h1 h2 h3 h4 h5 h6 h7 h8 => ?_
  refine wpAny_call ?_
  k_dflt (walk_at "mine enter")
  rename Obj.data _ = Data.cell _ => q2
  have hlow := q2.trans (congrArg Data.cell (show _ = some (Value.ref y) from rfl))
  revert hlow
  clear q2
  rename Obj.data _ = Data.cell _ => q1
  have hwal := q1.trans (congrArg Data.cell (show _ = some (Value.ref lw) from rfl))
  clear q1
  intro hlow
  (repeat' (first | (k_unfold; (try dsimp only)) | (k_end; wrow_close) | (first | (k_here; (with_reducible show wpAny _ _ (call (Value.ref 129) _) _ _ _); with_reducible refine holdIt ?_) | walk1) | (dsimp only; (first | (k_here; (with_reducible show wpAny _ _ (call (Value.ref 129) _) _ _ _); with_reducible refine holdIt ?_) | walk1)) | (leave1; walk_say "STEP leave1"; try dsimp only) | fail "no step"))
  unfold Hold
  rename_i LL hA tkA FGA BA XA TA lLL ow ol _ _ _ xE dE hB lE lxE gC LC hC BC XC TC _ _ _ lU hD lUU hE _ _ _ lV hF lVV _ _ _ _ _ _ _ _ hG F5 N5 Tc kX hJ N6 _ _ _ F6
  have hltU := kst_ltOf lUU.2.2.2.2.2.2
  have hltV := kst_ltOf lVV.2.2.2.2.2.2.2
  refine Spec.use (not_ok w x y st st' _ (hWn.mono fun p hp => .tail _ (.tail _ (.tail _ (.tail _ (.tail _ (.tail _ (.tail _ (.tail _ hp)))))))) (hWn'.mono fun p hp => .tail _ (.tail _ (.tail _ (.tail _ (.tail _ (.tail _ (.tail _ (.tail _ hp))))))))) (by k_asm) (by k_asm) (by k_asm) N6 (by k_asm) rfl (by ktr_room) (by ktr_units) ?_
  rintro r A1 h5' tk5 F7 N7 ⟨tl3, rfl, hn3, a, vsr, kr, rfl, hma, hrw⟩
  rw [← er] at hrw
  clear N5 F5 F6 N6
  have f3U : ∀ p ∈ tl3, @LT.lt Nat _ lU p.1 := fun p hp => hn3 p hp _ (.tail _ (.head _))
  have f3V : ∀ p ∈ tl3, @LT.lt Nat _ lV p.1 := fun p hp => hn3 p hp _ (.head _)
  have f3T : ∀ p ∈ tl3, @LT.lt Nat _ 181 p.1 := fun p hp => hn3 p hp _ (.tail _ (.tail _ (.tail _ (.tail _ (.tail _ (.tail _ (.tail _ (.head _))))))))
  have f3N : ∀ p ∈ tl3, ∀ q ∈ cd ++ news, q.1 < p.1 := fun p hp q hq => hn3 p hp q (.tail _ (.tail _ (.tail _ (.tail _ (.tail _ (.tail _ (.tail _ (.tail _ hq))))))))
  clear hn3
  (repeat' (first | (k_unfold; (try dsimp only)) | (k_end; wrow_close) | (first | (k_here; (with_reducible show wpAny _ _ (call (Value.ref 143) _) _ _ _); with_reducible refine holdIt ?_) | walk1) | (dsimp only; (first | (k_here; (with_reducible show wpAny _ _ (call (Value.ref 143) _) _ _ _); with_reducible refine holdIt ?_) | walk1)) | (leave1; walk_say "STEP leave1"; try dsimp only) | fail "no step"))
  unfold Hold
  rename News _ _ _ (tl3 ++ _) => N8
  replace N8 := reNews N8
  refine SpecX.use (R := Same) (fmt_ok w a vsr kr rows _ (memL hma) (hrw.mono fun p hp => memL hp) (by omega) hb) (by k_asm) (by k_asm) (by k_asm) N8 ht1 ht2 ?hT (by k_asm) rfl (by ktr_room) (by ktr_units) ?_
  case hT =>
    refine allApp (fun p hp => hT p (memL hp)) (allApp f3T (allApp (allCons ?_ (allCons ?_ (allCons ?_ (allCons ?_ (allCons ?_ (allCons ?_ allNil)))))) fun p hp => hT p (memR hp)))
    all_goals (refine ltN ?_; (try dsimp only); omega)
  rintro r tl t1' t2' cd' s' F9 N9 ht1' ht2' hT9 hc1 hc2 hc3 ⟨rfl, tw, rfl⟩ hS
  have gU : ∀ p ∈ cd' ++ (tl3 ++ news), p.1 ≠ lU := allApp (fun p hp => (hc2 p hp).elim (fun h => Nat.ne_of_lt (hltU p (memL h))) fun h => Nat.ne_of_gt (h _ (memR (memR (memL (.tail _ (.head _))))))) (allApp (fun p hp => Nat.ne_of_gt (f3U p hp)) fun p hp => Nat.ne_of_lt (hltU p (memR hp)))
  have gV : ∀ p ∈ cd' ++ (tl3 ++ news), p.1 ≠ lV := allApp (fun p hp => (hc2 p hp).elim (fun h => Nat.ne_of_lt (hltV p (memL h))) fun h => Nat.ne_of_gt (h _ (memR (memR (memL (.head _)))))) (allApp (fun p hp => Nat.ne_of_gt (f3V p hp)) fun p hp => Nat.ne_of_lt (hltV p (memR hp)))
  have gcd : ∀ p ∈ cd', p ∈ cd ∨ ∀ q ∈ cd ++ news, q.1 < p.1 := fun p hp => (hc2 p hp).imp id fun h q hq => h q ((List.mem_append.mp hq).elim memL fun h => memR (memR (memR h)))
  have N10 := reNews2 N9
  have hT9' : ∀ p ∈ cd' ++ (tl3 ++ news), @LT.lt Nat _ 181 p.1 := allApp (fun p hp => hT9 p (memL hp)) (allApp f3T fun p hp => hT p (memR hp))
  clear N8 N9 hc2 hc3
  have hfl := fmt_len hb (by omega)
  (repeat' (first | (k_unfold; (try dsimp only)) | (k_end; wrow_close) | (first | (k_here; (with_reducible show wpAny _ _ (call (Value.ref 167) _) _ _ _); with_reducible refine holdIt ?_) | walk1) | (dsimp only; (first | (k_here; (with_reducible show wpAny _ _ (call (Value.ref 167) _) _ _ _); with_reducible refine holdIt ?_) | walk1)) | (leave1; walk_say "STEP leave1"; try dsimp only) | fail "no step"))
  unfold Hold
  rename News _ _ _ ((lV, _) :: _) => NX
  refine Spec.use (named_ok w (fmtText rows) tw _ (by omega)) (by k_asm) (by k_asm) (by k_asm) NX (by k_asm) rfl (by ktr_room) (by ktr_units) ?_
  rintro r A2 h12 tk12 F12 N12 ⟨a2, vs2, k2', rfl, rfl, hs2⟩
  clear NX
  (repeat' (first | (k_unfold; (try dsimp only)) | (k_end; wrow_close) | (first | (k_here; (with_reducible show wpAny _ _ (call (Value.ref 172) _) _ _ _); with_reducible refine holdIt ?_) | walk1) | (dsimp only; (first | (k_here; (with_reducible show wpAny _ _ (call (Value.ref 172) _) _ _ _); with_reducible refine holdIt ?_) | walk1)) | (leave1; walk_say "STEP leave1"; try dsimp only) | fail "no step"))
  unfold Hold
  refine Spec.use (agents_ok w a2 vs2 _ k2' letter t5 sb _ (.head _) hs2 hm.1 hm.2) (by k_asm) (by k_asm) (by k_asm) (by k_asm) (by k_asm) rfl (by ktr_room) (by ktr_units) ?_
  rintro r A3 h13 tk13 F13 N13 ⟨a3, vs3, k3', rfl, rfl, hf3, hs3⟩
  have gA1 : @LT.lt Nat _ lV a3 := hf3 _ (.tail _ (.head _))
  have gA2 : @LT.lt Nat _ lU a3 := hf3 _ (.tail _ (.tail _ (.head _)))
  have gA3 : ∀ p ∈ cd' ++ (tl3 ++ news), p.1 < a3 := fun p hp => hf3 _ (.tail _ (.tail _ (.tail _ (.tail _ (.tail _ (.tail _ (.tail _ (.tail _ (.tail _ hp)))))))))
  have N14 := newsDrop2 N13
  clear N13 N12
  have hsl := hs3.length
  have hlal := la_len (names := namedOf (fmtText rows)) (letter := letter) (st := sb)
  (repeat' (first | (k_unfold; (try dsimp only)) | (k_end; wrow_close) | (first | ((with_reducible show wpAny _ _ (eval (Expr.Lambda _ _ _ _) _) _ _ _); (with_reducible refine holdIt ?_)) | walk1) | (dsimp only; (first | ((with_reducible show wpAny _ _ (eval (Expr.Lambda _ _ _ _) _) _ _ _); (with_reducible refine holdIt ?_)) | walk1)) | (leave1; walk_say "STEP leave1"; try dsimp only) | fail "no step"))
  unfold Hold
  rename News _ _ _ ((a3, _) :: _) => N15
  have N16 := reLam N15
  clear N15
  (try clear N14)
  obtain ⟨CD0, eC0⟩ : ∃ CD0, CD0 = cd' := ⟨_, rfl⟩
  obtain ⟨TL0, eT0⟩ : ∃ TL0, TL0 = tl3 := ⟨_, rfl⟩
  rw [← eC0, ← eT0] at N16
  have gV0 : ∀ p ∈ CD0 ++ (TL0 ++ news), p.1 ≠ lV := by rw [eC0, eT0]; exact gV
  have hTT0 : ∀ p ∈ CD0 ++ (TL0 ++ news), @LT.lt Nat _ 181 p.1 := by rw [eC0, eT0]; exact hT9'
  have sCD0 : ∀ p ∈ cd, p ∈ CD0 := by rw [eC0]; exact hc1
  have nCD0 : ∀ p ∈ CD0, p ∈ cd ∨ ∀ q ∈ cd ++ news, q.1 < p.1 := by rw [eC0]; exact gcd
  have nTL0 : ∀ p ∈ TL0, ∀ q ∈ cd ++ news, q.1 < p.1 := by rw [eT0]; exact f3N
  have hTab0 : TabC lamQ t2' CD0 := by rw [eC0]; exact ht2'
  clear gU gV gA3
  refine lamMake (c := 185) (P := 181) (ps := t2') rfl (by k_asm) N16 (by k_asm) (codeHd_of_K (by k_asm) (by kernel_rfl)) rfl ?hP1 hTab0 (fun p hp => .tail _ (.tail _ (.tail _ (.tail _ (.tail _ (.tail _ (.tail _ (memL hp)))))))) rfl ?_
  case hP1 =>
    refine allCons ?_ (allCons ?_ (allCons ?_ (allCons ?_ (allCons ?_ (allCons ?_ (allCons ?_ (fun p hp => Nat.ne_of_gt (hTT0 p hp))))))))
    all_goals (refine neN ?_; (try dsimp only); omega)
  intro f1 co1 ct1 ps1 ex1 h21 tk21 oc1 vs1' tt1 F21 N21 hTab1 hex1 hrf1 hPf1 hcm1 hcd1 hcv1
  (try clear N16)
  refine withFn (w := w) (g := indentOf st') ((LL + 1 + 1, ow) :: (LL + 1, ol) :: ((ex1 ++ CD0) ++ KF)) N21 ?fn1 ?_
  case fn1 =>
    refine ⟨⟨_, _, _, _, .head _⟩, fun news' hs q tq hq1 hq2 => ?_⟩
    have hmf := hs _ (.head _)
    have hmc := hs _ (.tail _ (.tail _ (.head _)))
    have hmo : (co1, oc1) ∈ news' := hs _ (.tail _ (.tail _ (.tail _ (memL hcm1))))
    have hWy : WhiteAt news' y st' := hW'.mono fun p hp => hs _ (.tail _ (.tail _ (.tail _ (memR hp))))
    refine (hWy).el fun dy _ _ _ _ _ _ _ _ _ _ _ _ _ _ _ _ _ _ _ _ _ y1 y2 _ _ _ _ _ _ => ?_
    clear hs hret N21 hrf1 hex1
    unfold Spec
    intro loose mean mg mb dp un gd cn cs a₁ ccd cl outer A₀ base h₀ L m s Q E B F X N T hk hdp hu hret
    refine wpAny_call ?_
    k_dflt (walk_at "mine lam")
    (repeat' (first | (k_unfold; (try dsimp only)) | (k_end; wrow_close) | (first | (k_here; (with_reducible show wpAny _ _ (call (Value.ref 101) _) _ _ _); with_reducible refine holdIt ?_) | (k_here; (with_reducible show wpAny _ _ (eval (Expr.Name (Str.ofString "low") _) (envX _ _ _ _ _ _)) _ _ _); k_dflt (refine' nameX_F ?N ?c ?m ?d ?_ ?a ?b; (case a => rfl); (case b => rfl); (case N => k_asm); (case c => rfl); (case m => assumption); (case d => assumption); k_whole)) | walk1) | (dsimp only; (first | (k_here; (with_reducible show wpAny _ _ (call (Value.ref 101) _) _ _ _); with_reducible refine holdIt ?_) | (k_here; (with_reducible show wpAny _ _ (eval (Expr.Name (Str.ofString "low") _) (envX _ _ _ _ _ _)) _ _ _); k_dflt (refine' nameX_F ?N ?c ?m ?d ?_ ?a ?b; (case a => rfl); (case b => rfl); (case N => k_asm); (case c => rfl); (case m => assumption); (case d => assumption); k_whole)) | walk1)) | (leave1; walk_say "STEP leave1"; try dsimp only) | fail "no step"))
    unfold Hold
    refine Spec.use (ind_ok w y st' _ q tq hWy (by omega) (by omega)) (by k_asm) (by k_asm) (by k_asm) (by k_asm) (by k_asm) rfl (by ktr_room) (by ktr_units) ?_
    rintro r9 n9 h9 tk9 F9 N9 ⟨rfl, t9, rfl⟩
    (repeat' (first | (k_unfold; (try dsimp only)) | (k_end; wrow_close) | walk1 | (dsimp only; walk1) | (leave1; walk_say "STEP leave1"; try dsimp only) | fail "no step"))
    exact hret _ _ _ _ (by k_asm) (by k_asm) ⟨rfl, _, rfl⟩
  intro hF1
  have N31 := reLam2 N21
  have b1 : ∀ r ∈ CD0 ++ (TL0 ++ news), r.1 < f1 := fun r hr => hrf1 r (.tail _ (.tail _ (.tail _ (.tail _ (.tail _ (.tail _ (.tail _ hr)))))))
  have bV1 : @LT.lt Nat _ lV f1 := hrf1 _ (.head _)
  have exV1 : ∀ p ∈ ex1, @LT.lt Nat _ lV p.1 := fun p hp => (hex1 p hp).1 _ (.head _)
  have exN1 : ∀ p ∈ ex1, ∀ q ∈ CD0 ++ (TL0 ++ news), q.1 < p.1 := fun p hp q hq => (hex1 p hp).1 _ (.tail _ (.tail _ (.tail _ (.tail _ (.tail _ (.tail _ (.tail _ hq)))))))
  have exT1 : ∀ p ∈ ex1, @LT.lt Nat _ 181 p.1 := fun p hp => (hex1 p hp).2.2
  clear hrf1 hex1 N21
  (repeat' (first | (k_unfold; (try dsimp only)) | (k_end; wrow_close) | (first | (k_here; (with_reducible show wpAny _ _ (call (Value.ref 179) _) _ _ _); with_reducible refine holdIt ?_) | walk1) | (dsimp only; (first | (k_here; (with_reducible show wpAny _ _ (call (Value.ref 179) _) _ _ _); with_reducible refine holdIt ?_) | walk1)) | (leave1; walk_say "STEP leave1"; try dsimp only) | fail "no step"))
  unfold Hold
  rename News _ _ _ ((lV, _) :: _) => N41
  refine Spec.use (rule_ok w f1 (Str.ofString "") _ _) (by k_asm) (by k_asm) (by k_asm) N41 (by k_asm) rfl (by ktr_room) (by ktr_units) ?_
  rintro r A41 h41 tk41 F41 N51 ⟨tlr1, rfl, hnr1, x1, rfl, hE1⟩
  obtain ⟨CD1, TL1, eC1, eT1, N61⟩ := packRule N51
  have rV1 : ∀ p ∈ tlr1, @LT.lt Nat _ lV p.1 := fun p hp => hnr1 p hp _ (.head _)
  have rT1 : ∀ p ∈ tlr1, @LT.lt Nat _ 181 p.1 := fun p hp => hnr1 p hp _ (.tail _ (.tail _ (.tail _ (.tail _ (.tail _ (.tail _ (.tail _ (.head _))))))))
  have rN1 : ∀ p ∈ tlr1, ∀ q ∈ cd ++ news, q.1 < p.1 := fun p hp q hq => hnr1 p hp _ (.tail _ (.tail _ (.tail _ (.tail _ (.tail _ (.tail _ (.tail _ (.tail _ ((List.mem_append.mp hq).elim (fun h => memL (memR (sCD0 _ h))) fun h => memR (memR h))))))))))
  (try clear N51); (try clear N41); (try clear N31); clear hnr1
  have gV1 : ∀ p ∈ CD1 ++ (TL1 ++ news), p.1 ≠ lV := by
    rw [eC1, eT1]
    exact allApp (allApp (fun p hp => Nat.ne_of_gt (exV1 p hp)) fun p hp => gV0 p (memL hp)) (allApp (allApp (fun p hp => Nat.ne_of_gt (rV1 p hp)) (allCons (Nat.ne_of_gt bV1) fun p hp => gV0 p (memR (memL hp)))) fun p hp => gV0 p (memR (memR hp)))
  have hTT1 : ∀ p ∈ CD1 ++ (TL1 ++ news), @LT.lt Nat _ 181 p.1 := by
    rw [eC1, eT1]
    exact allApp (allApp exT1 fun p hp => hTT0 p (memL hp)) (allApp (allApp rT1 (allCons hPf1 fun p hp => hTT0 p (memR (memL hp)))) fun p hp => hTT0 p (memR (memR hp)))
  have sCD1 : ∀ p ∈ cd, p ∈ CD1 := by rw [eC1]; exact fun p hp => memR (sCD0 p hp)
  have nCD1 : ∀ p ∈ CD1, p ∈ cd ∨ ∀ q ∈ cd ++ news, q.1 < p.1 := by
    rw [eC1]
    exact allApp (fun p hp => .inr fun q hq => exN1 p hp q ((List.mem_append.mp hq).elim (fun h => memL (sCD0 _ h)) fun h => memR (memR h))) nCD0
  have nTL1 : ∀ p ∈ TL1, ∀ q ∈ cd ++ news, q.1 < p.1 := by
    rw [eT1]
    exact allApp rN1 (allCons (fun q hq => b1 q ((List.mem_append.mp hq).elim (fun h => memL (sCD0 _ h)) fun h => memR (memR h))) nTL0)
  rw [← eC1] at hTab1 hcm1
  (repeat' (first | (k_unfold; (try dsimp only)) | (k_end; wrow_close) | (first | ((with_reducible show wpAny _ _ (eval (Expr.Lambda _ _ _ _) _) _ _ _); (with_reducible refine holdIt ?_)) | walk1) | (dsimp only; (first | ((with_reducible show wpAny _ _ (eval (Expr.Lambda _ _ _ _) _) _ _ _); (with_reducible refine holdIt ?_)) | walk1)) | (leave1; walk_say "STEP leave1"; try dsimp only) | fail "no step"))
  unfold Hold
  rename News _ _ _ ((lV, _) :: _) => N71
  simp only [List.push_toArray, List.nil_append] at N71
  have N16 := reTab N71
  (try clear N71)
  refine lamMake (c := 185) (P := 181) (ps := ps1) rfl (by k_asm) N16 (by k_asm) (codeHd_of_K (by k_asm) (by kernel_rfl)) rfl ?hP2 hTab1 (fun p hp => .tail _ (.tail _ (.tail _ (.tail _ (.tail _ (.tail _ (.tail _ (memL hp)))))))) rfl ?_
  case hP2 =>
    refine allCons ?_ (allCons ?_ (allCons ?_ (allCons ?_ (allCons ?_ (allCons ?_ (allCons ?_ (fun p hp => Nat.ne_of_gt (hTT1 p hp))))))))
    all_goals (refine neN ?_; (try dsimp only); omega)
  intro f2 co2 ct2 ps2 ex2 h22 tk22 oc2 vs2' tt2 F22 N22 hTab2 hex2 hrf2 hPf2 hcm2 hcd2 hcv2
  (try clear N16)
  refine withFn (w := w) (g := fnCol cols) ((LL + 1 + 1, ow) :: (LL + 1, ol) :: ((ex2 ++ CD1) ++ KF)) N22 ?fn2 ?_
  case fn2 =>
    refine ⟨⟨_, _, _, _, .head _⟩, fun news' hs q tq hq1 hq2 => ?_⟩
    have hmf := hs _ (.head _)
    have hmc := hs _ (.tail _ (.head _))
    have hmo : (co2, oc2) ∈ news' := hs _ (.tail _ (.tail _ (.tail _ (memL hcm2))))
    have hwn : (lw, W.listOf ws.toArray kw) ∈ news' := hs _ (.tail _ (.tail _ (.tail _ (memR hw))))
    obtain ⟨cq, hcq⟩ : ∃ c, cols[(q - 1).toNat]? = some c := ⟨_, List.getElem?_eq_getElem (by omega)⟩
    obtain ⟨tcq, hwq⟩ := hI9.get _ _ hcq
    have hgq : fnCol cols q = cq := by unfold fnCol; rw [List.getD_eq_getElem?_getD, hcq]; rfl
    clear hs hret N22 hrf2 hex2
    unfold Spec
    intro loose mean mg mb dp un gd cn cs a₁ ccd cl outer A₀ base h₀ L m s Q E B F X N T hk hdp hu hret
    refine wpAny_call ?_
    k_dflt (walk_at "mine lam")
    (repeat' (first | (k_unfold; (try dsimp only)) | (k_end; wrow_close) | (first | (k_here; (with_reducible show wpAny _ _ (eval (Expr.Name (Str.ofString "walked") _) (envX _ _ _ _ _ _)) _ _ _); k_dflt (refine' nameX_F ?N ?c ?m ?d ?_ ?a ?b; (case a => rfl); (case b => rfl); (case N => k_asm); (case c => rfl); (case m => assumption); (case d => assumption); k_whole)) | walk1) | (dsimp only; (first | (k_here; (with_reducible show wpAny _ _ (eval (Expr.Name (Str.ofString "walked") _) (envX _ _ _ _ _ _)) _ _ _); k_dflt (refine' nameX_F ?N ?c ?m ?d ?_ ?a ?b; (case a => rfl); (case b => rfl); (case N => k_asm); (case c => rfl); (case m => assumption); (case d => assumption); k_whole)) | walk1)) | (leave1; walk_say "STEP leave1"; try dsimp only) | fail "no step"))
    exact hret _ _ _ _ (by k_asm) (by k_asm) ⟨rfl, _, by first | rfl | rw [hgq]⟩
  intro hF2
  have N32 := reLam2 N22
  have b2 : ∀ r ∈ CD1 ++ (TL1 ++ news), r.1 < f2 := fun r hr => hrf2 r (.tail _ (.tail _ (.tail _ (.tail _ (.tail _ (.tail _ (.tail _ hr)))))))
  have bV2 : @LT.lt Nat _ lV f2 := hrf2 _ (.head _)
  have exV2 : ∀ p ∈ ex2, @LT.lt Nat _ lV p.1 := fun p hp => (hex2 p hp).1 _ (.head _)
  have exN2 : ∀ p ∈ ex2, ∀ q ∈ CD1 ++ (TL1 ++ news), q.1 < p.1 := fun p hp q hq => (hex2 p hp).1 _ (.tail _ (.tail _ (.tail _ (.tail _ (.tail _ (.tail _ (.tail _ hq)))))))
  have exT2 : ∀ p ∈ ex2, @LT.lt Nat _ 181 p.1 := fun p hp => (hex2 p hp).2.2
  clear hrf2 hex2 N22
  (repeat' (first | (k_unfold; (try dsimp only)) | (k_end; wrow_close) | (first | (k_here; (with_reducible show wpAny _ _ (call (Value.ref 179) _) _ _ _); with_reducible refine holdIt ?_) | walk1) | (dsimp only; (first | (k_here; (with_reducible show wpAny _ _ (call (Value.ref 179) _) _ _ _); with_reducible refine holdIt ?_) | walk1)) | (leave1; walk_say "STEP leave1"; try dsimp only) | fail "no step"))
  unfold Hold
  rename News _ _ _ ((lV, _) :: _) => N42
  refine Spec.use (rule_ok w f2 letter _ _) (by k_asm) (by k_asm) (by k_asm) N42 (by k_asm) rfl (by ktr_room) (by ktr_units) ?_
  rintro r A42 h42 tk42 F42 N52 ⟨tlr2, rfl, hnr2, x2, rfl, hE2⟩
  obtain ⟨CD2, TL2, eC2, eT2, N62⟩ := packRule N52
  have rV2 : ∀ p ∈ tlr2, @LT.lt Nat _ lV p.1 := fun p hp => hnr2 p hp _ (.head _)
  have rT2 : ∀ p ∈ tlr2, @LT.lt Nat _ 181 p.1 := fun p hp => hnr2 p hp _ (.tail _ (.tail _ (.tail _ (.tail _ (.tail _ (.tail _ (.tail _ (.head _))))))))
  have rN2 : ∀ p ∈ tlr2, ∀ q ∈ cd ++ news, q.1 < p.1 := fun p hp q hq => hnr2 p hp _ (.tail _ (.tail _ (.tail _ (.tail _ (.tail _ (.tail _ (.tail _ (.tail _ ((List.mem_append.mp hq).elim (fun h => memL (memR (sCD1 _ h))) fun h => memR (memR h))))))))))
  (try clear N52); (try clear N42); (try clear N32); clear hnr2
  have gV2 : ∀ p ∈ CD2 ++ (TL2 ++ news), p.1 ≠ lV := by
    rw [eC2, eT2]
    exact allApp (allApp (fun p hp => Nat.ne_of_gt (exV2 p hp)) fun p hp => gV1 p (memL hp)) (allApp (allApp (fun p hp => Nat.ne_of_gt (rV2 p hp)) (allCons (Nat.ne_of_gt bV2) fun p hp => gV1 p (memR (memL hp)))) fun p hp => gV1 p (memR (memR hp)))
  have hTT2 : ∀ p ∈ CD2 ++ (TL2 ++ news), @LT.lt Nat _ 181 p.1 := by
    rw [eC2, eT2]
    exact allApp (allApp exT2 fun p hp => hTT1 p (memL hp)) (allApp (allApp rT2 (allCons hPf2 fun p hp => hTT1 p (memR (memL hp)))) fun p hp => hTT1 p (memR (memR hp)))
  have sCD2 : ∀ p ∈ cd, p ∈ CD2 := by rw [eC2]; exact fun p hp => memR (sCD1 p hp)
  have nCD2 : ∀ p ∈ CD2, p ∈ cd ∨ ∀ q ∈ cd ++ news, q.1 < p.1 := by
    rw [eC2]
    exact allApp (fun p hp => .inr fun q hq => exN2 p hp q ((List.mem_append.mp hq).elim (fun h => memL (sCD1 _ h)) fun h => memR (memR h))) nCD1
  have nTL2 : ∀ p ∈ TL2, ∀ q ∈ cd ++ news, q.1 < p.1 := by
    rw [eT2]
    exact allApp rN2 (allCons (fun q hq => b2 q ((List.mem_append.mp hq).elim (fun h => memL (sCD1 _ h)) fun h => memR (memR h))) nTL1)
  rw [← eC2] at hTab2 hcm2
  (repeat' (first | (k_unfold; (try dsimp only)) | (k_end; wrow_close) | walk1 | (dsimp only; walk1) | (leave1; walk_say "STEP leave1"; try dsimp only) | fail "no step"))
  rename News h₀ L _ _ => N99
  have hLL := kst_ltOf lLL.2.2
  refine hret _ _ t1' ps2 CD2 _ (by k_asm) (reEnd N99) ht1' hTab2 ?e1 sCD2 nCD2 ?e2 ⟨xE, x1, x2, rfl, ?e3, ⟨f1, ?e4, ?e5⟩, f2, ?e6, ?e7⟩ ⟨hS.1, hS.2.1, hS.2.2⟩
  case e1 =>
    refine allApp (fun p hp => hTT2 p (memL hp)) (allApp (allApp (allCons ?_ (allCons ?_ (allCons ?_ (allCons ?_ (allCons ?_ (allCons ?_ allNil)))))) fun p hp => hTT2 p (memR (memL hp))) fun p hp => hTT2 p (memR (memR hp)))
    all_goals (refine ltN ?_; (try dsimp only); omega)
  case e2 =>
    refine allApp (allCons ?_ (allCons ?_ (allCons ?_ (allCons ?_ (allCons ?_ (allCons ?_ allNil)))))) nTL2
    all_goals (intro q hq; have hq0 : @LT.lt Nat _ q.1 LL := hLL q hq; refine ltN ?_; (try dsimp only); omega)
  case e3 => exact EntAt.intro (d := dE) (la := lU) (lr := lV) (us := vs3) (memL (.tail _ (.tail _ (.head _)))) (memL (.tail _ (.tail _ (.tail _ (.head _))))) (memL (.tail _ (.head _))) (memL (.head _)) hs3
  case e4 => exact hE1.mono fun p hp => memL (memR (by rw [eT2, eT1]; exact memR (.tail _ (memL hp))))
  case e6 => exact hE2.mono fun p hp => memL (memR (by rw [eT2]; exact memL hp))
  case e5 =>
    refine hF1.mono fun p hp => ?_
    rcases List.mem_cons.mp hp with rfl | hp
    · exact memL (memR (by rw [eT2, eT1]; exact memR (.tail _ (memR (.head _)))))
    rcases List.mem_cons.mp hp with rfl | hp
    · exact memL (memL (.tail _ (.tail _ (.tail _ (.tail _ (.head _))))))
    rcases List.mem_cons.mp hp with rfl | hp
    · exact memL (memL (.tail _ (.tail _ (.tail _ (.tail _ (.tail _ (.head _)))))))
    rcases List.mem_append.mp hp with hp | hp
    · exact memR (memL (by rw [eC2, eC1]; exact memR hp))
    · exact memR (memR hp)
  case e7 =>
    refine hF2.mono fun p hp => ?_
    rcases List.mem_cons.mp hp with rfl | hp
    · exact memL (memR (by rw [eT2]; exact memR (.head _)))
    rcases List.mem_cons.mp hp with rfl | hp
    · exact memL (memL (.tail _ (.tail _ (.tail _ (.tail _ (.head _))))))
    rcases List.mem_cons.mp hp with rfl | hp
    · exact memL (memL (.tail _ (.tail _ (.tail _ (.tail _ (.tail _ (.head _)))))))
    rcases List.mem_append.mp hp with hp | hp
    · exact memR (memL (by rw [eC2]; exact hp))
    · exact memR (memR hp)
end Mine
end

end
end
end
end
end
end
end
section
open PySem PySem.W PyProof.Rows
namespace Mine
theorem sec_QLW {M : Model} {A : Around} {E : Value → Shared → Prop} {s : Shared} {env : Env} {p : Pos} {Q : Flow → Shared → Prop} (h : Q .next s) : wpAny M A (exec (.Pass p) env) Q E s := by
  w_top off
  k_with_none
  walk1
  exact h
end Mine
end
section
open PySem PySem.W PyProof.Rows
set_option maxRecDepth 100000
set_option maxHeartbeats 1000000
namespace Mine
noncomputable def lawDef : Option DefRec := (recsOf hd.view_39).find? (fun e => e.name == Str.ofString "law")
noncomputable def lawBody : List Stmt := match lawDef with | some d => d.body | none => []
noncomputable def lawStmt (k : Nat) : Stmt := (lawBody[k]?).getD (.Pass ⟨0, 0, 0, 0⟩)
noncomputable def forBody : List Stmt := match lawStmt 9 with | .For _ _ b _ _ => b | _ => []
noncomputable def bodyStmt (k : Nat) : Stmt := (forBody[k]?).getD (.Pass ⟨0, 0, 0, 0⟩)
noncomputable def lawSc : Scope := match lawDef with | some d => d.scope | none => default
noncomputable abbrev lawCl (L : Addr) : List (Str × Addr) := cellsFrom (L + 1) lawSc.names []
noncomputable abbrev lawEnv (L fa : Addr) (cd : Value) : Env := envX (Str.ofString "law") lawSc L fa cd (lawCl L)
abbrev lawCells (L : Addr) : List (Str × Addr) := [(Str.ofString "farthest", L + 1 + 1 + 1 + 1 + 1 + 1), (Str.ofString "group", L + 1 + 1 + 1 + 1 + 1), (Str.ofString "lows", L + 1 + 1 + 1 + 1), (Str.ofString "top", L + 1 + 1 + 1), (Str.ofString "walks", L + 1 + 1), (Str.ofString "stars", L + 1)]
theorem lawCl_is (L : Addr) : lawCl L = lawCells L := by rfl
theorem lawKind : lawSc.kind = .function := by rfl
/-- a statement of law's, its text and its scope laid open -/
theorem exec_law {M : Model} {E : Value → Shared → Prop} {s : Shared} {dp un : Nat} {gd : Option (List Code)} {fa L : Addr} {cd : Value} {outer : List Env} {st S : Stmt} {sk : ScopeKind} {nms : List (Str × NameKind)} {ig ic : Bool} {mr : List (Str × Const)} {Q : Flow → Shared → Prop} (e : st = S) (e2 : lawSc = ⟨sk, nms, ig, ic, mr⟩)
    (h : wpAny M (ktrTop dp un gd (Str.ofString "law") ⟨sk, nms, ig, ic, mr⟩ L fa cd (lawCells L) outer) (exec S (envX (Str.ofString "law") ⟨sk, nms, ig, ic, mr⟩ L fa cd (lawCells L))) Q E s) :
    wpAny M (ktrTop dp un gd (Str.ofString "law") lawSc L fa cd (lawCl L) outer) (exec st (lawEnv L fa cd)) Q E s := by
  rw [lawCl_is, e]
  unfold lawEnv
  rw [lawCl_is, e2]
  exact h
/-- the same, E handed on -/
theorem exec_lawE {M : Model} {E : Value → Shared → Prop} {s : Shared} {dp un : Nat} {gd : Option (List Code)} {fa L : Addr} {cd : Value} {outer : List Env} {st S : Stmt} {sk : ScopeKind} {nms : List (Str × NameKind)} {ig ic : Bool} {mr : List (Str × Const)} {Q : Flow → Shared → Prop} (e : st = S) (e2 : lawSc = ⟨sk, nms, ig, ic, mr⟩) (hE : PassesOwn M (ktrTop dp un gd (Str.ofString "law") lawSc L fa cd (lawCl L) outer) (lawEnv L fa cd) E)
    (h : PassesOwn M (ktrTop dp un gd (Str.ofString "law") ⟨sk, nms, ig, ic, mr⟩ L fa cd (lawCells L) outer) (envX (Str.ofString "law") ⟨sk, nms, ig, ic, mr⟩ L fa cd (lawCells L)) E → wpAny M (ktrTop dp un gd (Str.ofString "law") ⟨sk, nms, ig, ic, mr⟩ L fa cd (lawCells L) outer) (exec S (envX (Str.ofString "law") ⟨sk, nms, ig, ic, mr⟩ L fa cd (lawCells L))) Q E s) :
    wpAny M (ktrTop dp un gd (Str.ofString "law") lawSc L fa cd (lawCl L) outer) (exec st (lawEnv L fa cd)) Q E s := by
  refine exec_law e e2 (h ?_)
  unfold lawEnv at hE
  rw [lawCl_is, e2] at hE
  exact hE
theorem frWith {h₀ h : Heap} {L : Addr} {m : Str → Option Value} (ps : List (Str × Value)) (hp : ∀ p ∈ ps, m p.1 = some p.2) (F : Fr h₀ L h m) : Fr h₀ L h (kstB m ps) := by
  have e : kstB m ps = m := by
    funext y
    exact kstB_eq hp fun _ => rfl
  rw [e]; exact F
theorem frBack {h₀ h : Heap} {L : Addr} {m : Str → Option Value} (ps : List (Str × Value)) (hp : ∀ p ∈ ps, m p.1 = some p.2) (F : Fr h₀ L h (kstB m ps)) : Fr h₀ L h m := by
  have e : kstB m ps = m := by
    funext y
    exact kstB_eq hp fun _ => rfl
  rw [e] at F; exact F
/-- a name stored -/
structure StM (m m' : Str → Option Value) (a : Str) (v : Value) : Prop where
  at_ : m' a = some v
  off : ∀ y, y ≠ a → m' y = m y
end Mine
end

section
local macro_rules | `(tactic| k_mem) => `(tactic| ((fail_if_success (refine' List.Mem.tail _ ?_)); assumption))
section
open PySem PySem.W PyProof.Rows
namespace Mine
theorem sec_QS0 {M : Model} {A : Around} {E : Value → Shared → Prop} {s : Shared} {env : Env} {p : Pos} {Q : Flow → Shared → Prop} (h : Q .next s) : wpAny M A (exec (.Pass p) env) Q E s := by
  w_top off
  k_with_none
  walk1
  exact h
end Mine
end
section
open PySem PySem.W PyProof.Rows
set_option maxRecDepth 100000
set_option maxHeartbeats 1000000
namespace Mine
theorem seg0 (w : World) {dp un : Nat} {gd : Option (List Code)} {fa : Addr} {cd0 : Value} {outer : List Env} {A₀ : Around} {base h₀ : Heap} {L : Addr} {loose : List Str} {mean : ExcName → Option Value} {mg mb : Str → Option Value} {m : Str → Option Value} {s : Shared} {Q : Flow → Shared → Prop} {E : Value → Shared → Prop}
    (B : Below A₀ base outer h₀) (X : (hd.heap_39 w.params).In h₀) (T : Top topProg loose mean mg mb h₀) (hdp : dp + 9 < recursionLimit) (hu : un + 20 * 9 < cLine)
    {c1 : Obj} {ls : Addr} {t0 : Tok} {vs : List Value} {ns : List Int} {led : Led} (hc1 : ∃ v, c1.data = .cell v) (hm1 : m (Str.ofString "script") = some (.ref ls)) (hLs : h₀.IsList ls vs.toArray) (hI : IntsAre vs ns) (hn : ns.length ≤ 63) (hne : ∀ p ∈ led, p.1 ≠ L + 1)
    (F : Fr h₀ L s.heap m) (N : News h₀ L s.heap ((L + 1, c1) :: led))
    (hq : ∀ (la sa : Addr) (us : List Value) (k ks : Nat) (q : List (List Int × Int)) (bs : List Bool) (r0 : List Int) (b0 : Int) (c1' : Obj) (tl : Led) (h' : Heap) (tk' : Nat) (m' : Str → Option Value), Fr h₀ L h' m' → StM m m' (Str.ofString "leads") (.ref la) → c1'.data = .cell (some (.ref sa)) → News h₀ L h' ((L + 1, c1') :: (tl ++ led)) → (∀ p ∈ tl, ∀ q ∈ (L + 1, c1) :: led, q.1 < p.1) → (la, W.listOf us.toArray k) ∈ tl → (sa, W.listOf (List.toArray (bs.map Value.bool)) ks) ∈ tl → LeadsAre us ((r0, b0) :: q) → TopOk r0 b0 → q.length = 3 → (∀ x ∈ q, LowOk x.1 x.2) → bs.length = 3 → Q .next { s with heap := h', toks := tk' }) :
    wpAny (model PySem.Challenge.rw_rs0140_01.prog w) (ktrTop dp un gd (Str.ofString "law") lawSc L fa cd0 (lawCl L) outer) (exec (lawStmt 0) (lawEnv L fa cd0)) Q E s := by
  refine exec_law (by conv => lhs; whnf) (by conv => lhs; whnf) ?_
  revert X
  k_fill
  intro X
  obtain ⟨cv, hcv⟩ := hc1
  have hps : ∀ p ∈ [(Str.ofString "script", Value.ref ls)], m p.1 = some p.2 := List.forall_mem_cons.mpr ⟨hm1, fun _ h => nomatch h⟩
  replace F := frWith _ hps F
  dsimp only [kstB] at F
  (repeat' (first | (k_unfold; (try dsimp only)) | (k_end; wrow_close) | (first | ((with_reducible show wpAny _ _ (call (Value.ref _) _) _ _ _); (with_reducible refine holdIt ?_)) | walk1) | (dsimp only; (first | ((with_reducible show wpAny _ _ (call (Value.ref _) _) _ _ _); (with_reducible refine holdIt ?_)) | walk1)) | (leave1; walk_say "STEP leave1"; try dsimp only) | fail "no step"))
  unfold Hold
  refine draw_ok w _ hI hn _ _ _ _ _ _ _ _ _ _ _ _ _ _ _ _ _ _ _ _ _ hLs (by k_asm) (by k_asm) (by k_asm) N (by k_asm) rfl (by ktr_room) (by ktr_units) ?_
  rintro r A1 h5 tk5 F5 N5 ⟨tl, rfl, hnew, T9, la, sa, us, k, ks, q, bs, r0, b0, rfl, hT, hla, hsa, hLe, hTo, hql, hqo, hbl⟩
  replace N5 : News h₀ L h5 ((L + 1, c1) :: (tl ++ led)) := newsSub N5 (by intro p hp; simp only [List.mem_cons, List.mem_append] at hp ⊢; grind)
  have hT' : (T9, tupObj #[.ref la, .ref sa] 0) ∈ (L + 1, c1) :: (tl ++ led) := .tail _ (memL hT)
  have hne2 : ∀ p ∈ tl ++ led, p.1 ≠ L + 1 := allApp (fun p hp => Nat.ne_of_gt (hnew p hp _ (.head _))) hne
  (repeat' (first | (k_unfold; (try dsimp only)) | (k_end; wrow_close) | walk1 | (dsimp only; walk1) | (leave1; walk_say "STEP leave1"; try dsimp only) | fail "no step"))
  rename Fr _ _ _ _ => F9
  exact hq la sa us k ks q bs r0 b0 _ tl _ _ _ F9 ⟨if_pos rfl, fun y hy => by rw [if_neg hy]; (split <;> first | rfl | (subst_vars; exact hm1.symm))⟩ (by assumption) (by k_asm) hnew hla hsa hLe hTo hql hqo hbl
end Mine
end

section
open PySem PySem.W PyProof.Rows
namespace Mine
theorem sec_QS1 {M : Model} {A : Around} {E : Value → Shared → Prop} {s : Shared} {env : Env} {p : Pos} {Q : Flow → Shared → Prop} (h : Q .next s) : wpAny M A (exec (.Pass p) env) Q E s := by
  w_top off
  k_with_none
  walk1
  exact h
end Mine
end
section
open PySem PySem.W PyProof.Rows
set_option maxRecDepth 100000
set_option maxHeartbeats 1000000
namespace Mine
/-- the columns that a walk along a lead reaches at the sizes 1 to n -/
def colsTo (q : List Int × Int) (n : Nat) : List Int := (rangeKs 1 n).map fun t => colRun t (leadText q.1 q.2).cps.toList 0
theorem ints_snoc {y : Int} {t : Tok} : ∀ {vs : List Value} {ys : List Int}, IntsAre vs ys → IntsAre (vs ++ [.int y t]) (ys ++ [y])
  | _, _, .nil => .cons _ _ .nil
  | _, _, .cons z u r => .cons z u (ints_snoc r)
theorem rk_succ {a : Int} {i : Nat} : rangeKs a (i + 1) = rangeKs a i ++ [a + (i : Int)] := by simp [rangeKs, List.range_succ]
theorem LeadsAre.at {vs : List Value} {q : List (List Int × Int)} (h : LeadsAre vs q) : ∀ {i : Nat} {v : Value}, vs[i]? = some v → ∃ x t, v = .str (leadText x.1 x.2) t ∧ q[i]? = some x := by
  induction h with
  | nil => intro i v e; simp at e
  | @cons r b t vs q h ih =>
    intro i v e
    rcases i with _ | i
    · simp at e; exact ⟨(r, b), t, e.symm, rfl⟩
    · exact ih (by simpa using e)
theorem LeadsAre.length : ∀ {vs : List Value} {q : List (List Int × Int)}, LeadsAre vs q → vs.length = q.length
  | _, _, .nil => rfl
  | _, _, .cons h => by simp [h.length]
/-- lists of columns -/
def WalksAt (tl : Led) (ws : List Value) (q : List (List Int × Int)) : Prop := ∀ (j : Nat) v, ws[j]? = some v → ∃ d xs k x, v = .ref d ∧ q[j]? = some x ∧ (d, W.listOf (List.toArray xs) k) ∈ tl ∧ IntsAre xs (colsTo x 5)
theorem WalksAt.mono {tl tl' : Led} {ws : List Value} {q : List (List Int × Int)} (h : WalksAt tl ws q) (hs : ∀ p ∈ tl, p ∈ tl') : WalksAt tl' ws q :=
  fun j v e => let ⟨d, xs, k, x, a, b, c, f⟩ := h j v e; ⟨d, xs, k, x, a, b, hs _ c, f⟩
theorem snocAt {α : Type} {ys : List α} {y v : α} {i j : Nat} (hl : ys.length = i) (e : (ys ++ [y])[j]? = some v) : ys[j]? = some v ∨ (j = i ∧ v = y) := by
  by_cases hj : j < ys.length
  · rw [List.getElem?_append_left hj] at e; exact .inl e
  · have := (List.getElem?_eq_some_iff.mp e).1
    simp at this
    rw [List.getElem?_append_right (by omega)] at e
    have h0 : j - ys.length = 0 := by omega
    rw [h0] at e
    exact .inr ⟨by omega, (Option.some.inj e).symm⟩
theorem WalksAt.snoc {tl : Led} {ws : List Value} {q : List (List Int × Int)} {i : Nat} {d : Addr} {xs : List Value} {k : Nat} {x : List Int × Int} (h : WalksAt tl ws q) (hl : ws.length = i) (hx : q[i]? = some x) (hI : IntsAre xs (colsTo x 5)) : WalksAt ((d, W.listOf (List.toArray xs) k) :: tl) (ws ++ [.ref d]) q := by
  intro j v e
  rcases snocAt hl e with e | ⟨rfl, rfl⟩
  · obtain ⟨d', xs', k', x', a, b, c, f⟩ := h j v e
    exact ⟨d', xs', k', x', a, b, .tail _ c, f⟩
  · exact ⟨d, xs, k, x, rfl, hx, .head _, hI⟩
theorem seg1 (w : World) {dp un : Nat} {gd : Option (List Code)} {fa : Addr} {cd0 : Value} {outer : List Env} {A₀ : Around} {base h₀ : Heap} {L : Addr} {loose : List Str} {mean : ExcName → Option Value} {mg mb : Str → Option Value} {m : Str → Option Value} {s : Shared} {Q : Flow → Shared → Prop} {E : Value → Shared → Prop}
    (B : Below A₀ base outer h₀) (X : (hd.heap_39 w.params).In h₀) (T : Top topProg loose mean mg mb h₀) (hdp : dp + 9 < recursionLimit) (hu : un + 20 * 9 < cLine)
    {c2 : Obj} {la : Addr} {us : List Value} {k : Nat} {q : List (List Int × Int)} {led : Led} (hc2 : ∃ v, c2.data = .cell v) (hm1 : m (Str.ofString "leads") = some (.ref la)) (hla : (la, W.listOf us.toArray k) ∈ led) (hLe : LeadsAre us q) (hql : q.length = 4) (hne : ∀ p ∈ led, p.1 ≠ L + 1 + 1)
    (F : Fr h₀ L s.heap m) (N : News h₀ L s.heap ((L + 1 + 1, c2) :: led))
    (hq : ∀ (D : Addr) (ws : List Value) (kw : Nat) (c2' : Obj) (tl : Led) (h' : Heap) (tk' : Nat), Fr h₀ L h' m → c2'.data = .cell (some (.ref D)) → News h₀ L h' ((L + 1 + 1, c2') :: (D, W.listOf ws.toArray kw) :: (tl ++ led)) → (∀ p ∈ (L + 1 + 1, c2) :: led, p.1 < D) → (∀ p ∈ tl, @LT.lt Nat _ D p.1) → ws.length = 4 → WalksAt tl ws q → Q .next { s with heap := h', toks := tk' }) :
    wpAny (model PySem.Challenge.rw_rs0140_01.prog w) (ktrTop dp un gd (Str.ofString "law") lawSc L fa cd0 (lawCl L) outer) (exec (lawStmt 1) (lawEnv L fa cd0)) Q E s := by
  refine exec_law (by conv => lhs; whnf) (by conv => lhs; whnf) ?_
  revert X
  k_fill
  intro X
  obtain ⟨cv, hcv⟩ := hc2
  have hps : ∀ p ∈ [(Str.ofString "leads", Value.ref la)], m p.1 = some p.2 := List.forall_mem_cons.mpr ⟨hm1, fun _ h => nomatch h⟩
  replace F := frWith _ hps F
  dsimp only [kstB] at F
  have hul := hLe.length
  (repeat' (first | (k_unfold; (try dsimp only)) | (k_end; wrow_close) | (first | ((with_reducible show wpAny _ _ (eval (Expr.ListComp _ _ _ _) _) _ _ _); (with_reducible refine holdIt ?_)) | walk1) | (dsimp only; (first | ((with_reducible show wpAny _ _ (eval (Expr.ListComp _ _ _ _) _) _ _ _); (with_reducible refine holdIt ?_)) | walk1)) | (leave1; walk_say "STEP leave1"; try dsimp only) | fail "no step"))
  unfold Hold
  refine ListComp_G true (L := L) (h₀ := h₀) (m := (fun z => if z = Str.ofString "leads" then some (.ref la) else m z)) rfl ⟨rfl, fun _ => rfl, fun _ => rfl, fun _ _ => rfl⟩ (by decide) ?_
  (repeat' (first | (k_unfold; (try dsimp only)) | (k_end; wrow_close) | (first | ((with_reducible show wpAny _ _ (pyIter (Value.ref _)) _ _ _); (with_reducible refine holdIt ?_)) | walk1) | (dsimp only; (first | ((with_reducible show wpAny _ _ (pyIter (Value.ref _)) _ _ _); (with_reducible refine holdIt ?_)) | walk1)) | (leave1; walk_say "STEP leave1"; try dsimp only) | fail "no step"))
  unfold Hold
  refine CompG.ledger (σ := Led) (vs := us) (ax := la) (k := k) (fun tl => tl ++ (L + 1 + 1, c2) :: led) (HT s) (fun D i ws tl => ws.length = i ∧ WalksAt tl ws q ∧ ∀ p ∈ tl, @LT.lt Nat _ (D + 2) p.1) [] rfl (by k_asm) (by k_asm) (.tail _ hla) (by omega) HT.mk HT.move (fun _ _ => ⟨rfl, fun j v e => by simp at e, fun _ h => nomatch h⟩) ?_ ?_
  · rintro i v ys tl D I oC kc m₂ own s₃ E' hv ⟨hl, hW, htl⟩ hC ⟨oK, rfl, hK⟩ hlt hID hof ⟨h, tk, rfl⟩ F6 N6
    obtain ⟨x, t, rfl, hx⟩ := hLe.at hv
    clear N F
    (repeat' (first | (k_unfold; (try dsimp only)) | (k_end; wrow_close) | (first | ((with_reducible show wpAny _ _ (eval (Expr.ListComp _ _ _ _) _) _ _ _); (with_reducible refine holdIt ?_)) | walk1) | (dsimp only; (first | ((with_reducible show wpAny _ _ (eval (Expr.ListComp _ _ _ _) _) _ _ _); (with_reducible refine holdIt ?_)) | walk1)) | (leave1; walk_say "STEP leave1"; try dsimp only) | fail "no step"))
    unfold Hold
    refine ListComp_G false (L := L) (h₀ := h₀) (m := (fun z => if z = Str.ofString "leads" then some (.ref la) else m z)) rfl ⟨rfl, fun _ => rfl, fun _ => rfl, fun _ _ => rfl⟩ (by decide) ?_
    (repeat' (first | (k_unfold; (try dsimp only)) | (k_end; wrow_close) | (first | ((with_reducible show wpAny _ _ (pyIter (Value.ref _)) _ _ _); (with_reducible refine holdIt ?_)) | walk1) | (dsimp only; (first | ((with_reducible show wpAny _ _ (pyIter (Value.ref _)) _ _ _); (with_reducible refine holdIt ?_)) | walk1)) | (leave1; walk_say "STEP leave1"; try dsimp only) | fail "no step"))
    unfold Hold
    rename_i rg F5 N5 _
    obtain ⟨NL, hNL, N6⟩ : ∃ NL, NL = _ ∧ News h₀ L _ NL := ⟨_, rfl, N5⟩
    have hKm : (D + 2, oK) ∈ NL := by rw [hNL]; exact .tail _ (.tail _ (.head _))
    clear N5
    refine CompG.range (σ := Unit) (fun _ => NL) (HT s) (fun D' i' ys' _ => IntsAre ys' (colsTo x i')) () rfl F5 N6 rg (small_one (by omega) (by omega) (by omega) (by omega)) (n := 5) rfl (by decide) HT.mk HT.move (fun _ _ => .nil) ?_ ?_
    · rintro i' t' ys' _ D' I' oC' kc' m₂' own' s₄ E'' hi' hys' hC' ⟨rfl, hx'⟩ hlt' hID' hof' _ ⟨h', tk', rfl⟩ F7 N7
      clear F5
      have hKm' : (D + 2, oK) ∈ (D' + 1, oC') :: (D', LCg.lst ys') :: ([] ++ (own' ++ NL)) := .tail _ (.tail _ (memR (memR hKm)))
      (repeat' (first | (k_unfold; (try dsimp only)) | (k_end; wrow_close) | (first | ((with_reducible show wpAny _ _ (call (Value.ref _) _) _ _ _); (with_reducible refine holdIt ?_)) | walk1) | (dsimp only; (first | ((with_reducible show wpAny _ _ (call (Value.ref _) _) _ _ _); (with_reducible refine holdIt ?_)) | walk1)) | (leave1; walk_say "STEP leave1"; try dsimp only) | fail "no step"))
      unfold Hold
      refine Spec.use (col_ok w _ _ _ (1 + (i' : Int)) _ (by omega) (by omega)) (by k_asm) (by k_asm) (by k_asm) N7 (by k_asm) rfl (by ktr_room) (by ktr_units) ?_
      rintro r n9 h9 tk9 F9 N9 ⟨rfl, t9, rfl⟩
      (repeat' (first | (k_unfold; (try dsimp only)) | (k_end; wrow_close) | (first | ((with_reducible show Exists _); (with_reducible refine holdIt ?_)) | walk1) | (dsimp only; (first | ((with_reducible show Exists _); (with_reducible refine holdIt ?_)) | walk1)) | (leave1; walk_say "STEP leave1"; try dsimp only) | fail "no step"))
      unfold Hold
      exact ⟨(), HT.mk, by k_asm, N9, hof', by unfold colsTo; rw [rk_succ, List.map_append]; exact ints_snoc hys'⟩
    · rintro D' ys' _ s₄ hys' ⟨h', tk', rfl⟩ hlt' h9 tk9 F9 N9
      have hD' : @LT.lt Nat _ (D + 2) D' := hlt' _ hKm
      refine ⟨(D', LCg.lst ys') :: tl, HT.mk, F9, newsSub N9 fun p hp => ?_, allCons (.newT hID hD') hof, by simp [hl], hW.snoc hl hx hys', allCons hD' htl⟩
      rw [hNL]
      simp only [List.mem_cons, List.mem_append] at hp ⊢; grind
  · rintro D ws tl s₃ ⟨hl, hW, htl⟩ ⟨h, tk, rfl⟩ hlt h9 tk9 F7 N7
    have hD : @LT.lt Nat _ (L + 1 + 1) D := hlt _ (.head _)
    have htD : ∀ p ∈ tl, @LT.lt Nat _ D p.1 := fun p hp => Nat.lt_of_succ_lt (Nat.lt_of_succ_lt (htl p hp))
    have hne2 : ∀ p ∈ tl ++ led, p.1 ≠ L + 1 + 1 := allApp (fun p hp => Nat.ne_of_gt (Nat.lt_trans hD (htD p hp))) hne
    replace N7 : News h₀ L h9 ((L + 1 + 1, c2) :: (D, LCg.lst ws) :: (tl ++ led)) := newsSub N7 (by intro p hp; simp only [List.mem_cons, List.mem_append] at hp ⊢; grind)
    clear N F
    (repeat' (first | (k_unfold; (try dsimp only)) | (k_end; wrow_close) | walk1 | (dsimp only; walk1) | (leave1; walk_say "STEP leave1"; try dsimp only) | fail "no step"))
    rename Fr _ _ _ _ => F9
    exact hq D ws _ _ tl _ _ (frBack _ hps F9) (by assumption) (by k_asm) hlt htD (by omega) hW
end Mine
end

section
local macro_rules | `(tactic| walk_at "subscriptTail") => `(tactic| ((with_reducible show wpAny _ _ (subscriptTail _ _ (Value.ref _) (Value.int _ _)) _ _ _); refine' itemL ?iN ?iM ?i0 ?i1 ?i2 ?_ ?i4; (case iN => k_asm); (case iM => k_mem); (case i0 => first | omega | decide); (case i1 => first | omega | (simp only [List.length_cons, List.length_nil]; decide)); (case i2 => first | assumption | exact rfl); (case i4 => with_unfolding_all rfl)))
section
open PySem PySem.W PyProof.Rows
namespace Mine
theorem sec_QS2 {M : Model} {A : Around} {E : Value → Shared → Prop} {s : Shared} {env : Env} {p : Pos} {Q : Flow → Shared → Prop} (h : Q .next s) : wpAny M A (exec (.Pass p) env) Q E s := by
  w_top off
  k_with_none
  walk1
  exact h
end Mine
end
section
open PySem PySem.W PyProof.Rows
set_option maxRecDepth 100000
set_option maxHeartbeats 1000000
namespace Mine
/-- a line's whitespace: the lead and what stands behind it -/
def lineOf (r : List Int) (b : Int) : Str := leadText r b ++ Str.ofString "x \t"
def stOf (r : List Int) (b : Int) : Ws := wsRun (lineOf r b).cps.toList ⟨[], 0, 0, 0⟩
theorem blanks_len {b : Int} (h0 : 0 ≤ b) (h1 : b ≤ 4) : (Txt.mul (Str.ofString " ") b).length ≤ 4 := by
  have e := len_mul (Str.ofString " ") b
  have e1 : (Str.ofString " ").length = 1 := by decide +kernel
  rw [if_neg (fun c => absurd (of_decide_eq_true c) (by omega)), e1] at e
  omega
theorem lead_len {r : List Int} {b : Int} (h : LowOk r b) : (leadText r b).length ≤ 40 := by
  have h1 := rows_len (rows := r) (fun x hx => by have := h.1 x hx; omega) h.2.1
  have h2 := blanks_len h.2.2.1 h.2.2.2
  unfold leadText
  rw [Str.length_append]; omega
theorem TopOk.low {r : List Int} {b : Int} (h : TopOk r b) : LowOk r b := ⟨h.1, h.2.1, h.2.2.1⟩
theorem line_len {r : List Int} {b : Int} (h : LowOk r b) : (lineOf r b).length ≤ 100 := by
  have h1 := lead_len h
  have e : (Str.ofString "x \t").length = 3 := by decide +kernel
  unfold lineOf
  rw [Str.length_append]; omega
theorem dropC {a b : Led} {l : Addr} {c : Obj} {v : Option Value} (hc : c.data = .cell v) {p : Addr × Obj} (hp : p ∈ a ++ (l, c) :: b) (hd : p.2.data ≠ c.data) : p ∈ a ++ b := by
  rcases List.mem_append.mp hp with hp | hp
  · exact memL hp
  · rcases List.mem_cons.mp hp with rfl | hp
    · exact absurd rfl hd
    · exact memR hp
theorem seg2 (w : World) {dp un : Nat} {gd : Option (List Code)} {fa : Addr} {cd0 : Value} {outer : List Env} {A₀ : Around} {base h₀ : Heap} {L : Addr} {loose : List Str} {mean : ExcName → Option Value} {mg mb : Str → Option Value} {m : Str → Option Value} {s : Shared} {Q : Flow → Shared → Prop} {E : Value → Shared → Prop}
    (B : Below A₀ base outer h₀) (X : (hd.heap_39 w.params).In h₀) (T : Top topProg loose mean mg mb h₀) (hdp : dp + 9 < recursionLimit) (hu : un + 20 * 9 < cLine)
    {c3 : Obj} {la : Addr} {t0 t1 t2 t3 : Tok} {r0 : List Int} {b0 : Int} {x1 x2 x3 : List Int × Int} {k : Nat} {led : Led} (hc3 : ∃ v, c3.data = .cell v) (hm1 : m (Str.ofString "leads") = some (.ref la)) (hla : (la, W.listOf #[.str (leadText r0 b0) t0, .str (leadText x1.1 x1.2) t1, .str (leadText x2.1 x2.2) t2, .str (leadText x3.1 x3.2) t3] k) ∈ led) (h0 : LowOk r0 b0) (hne : ∀ p ∈ led, p.1 ≠ L + 1 + 1 + 1)
    (F : Fr h₀ L s.heap m) (N : News h₀ L s.heap ((L + 1 + 1 + 1, c3) :: led))
    (hq : ∀ (x : Addr) (c3' : Obj) (tl : Led) (h' : Heap) (tk' : Nat), Fr h₀ L h' m → c3'.data = .cell (some (.ref x)) → News h₀ L h' ((L + 1 + 1 + 1, c3') :: (tl ++ led)) → (∀ p ∈ tl, ∀ q ∈ (L + 1 + 1 + 1, c3) :: led, q.1 < p.1) → WhiteAt tl x (stOf r0 b0) → Q .next { s with heap := h', toks := tk' }) :
    wpAny (model PySem.Challenge.rw_rs0140_01.prog w) (ktrTop dp un gd (Str.ofString "law") lawSc L fa cd0 (lawCl L) outer) (exec (lawStmt 2) (lawEnv L fa cd0)) Q E s := by
  refine exec_law (by conv => lhs; whnf) (by conv => lhs; whnf) ?_
  revert X
  k_fill
  intro X
  obtain ⟨cv, hcv⟩ := hc3
  have hps : ∀ p ∈ [(Str.ofString "leads", Value.ref la)], m p.1 = some p.2 := List.forall_mem_cons.mpr ⟨hm1, fun _ h => nomatch h⟩
  replace F := frWith _ hps F
  dsimp only [kstB] at F
  have hll := line_len h0
  have hll2 := lead_len h0
  (repeat' (first | (k_unfold; (try dsimp only)) | (k_end; wrow_close) | (first | ((with_reducible show wpAny _ _ (call (Value.ref _) _) _ _ _); (with_reducible refine holdIt ?_)) | walk1) | (dsimp only; (first | ((with_reducible show wpAny _ _ (call (Value.ref _) _) _ _ _); (with_reducible refine holdIt ?_)) | walk1)) | (leave1; walk_say "STEP leave1"; try dsimp only) | fail "no step"))
  unfold Hold
  refine Spec.use (mk w (lineOf r0 b0) _ _ (Nat.le_trans hll (by decide))) (by k_asm) (by k_asm) (by k_asm) N (by k_asm) rfl (by ktr_room) (by ktr_units) ?_
  rintro r A1 h5 tk5 F5 N5 ⟨tl, rfl, hnew, x, rfl, hW⟩
  replace N5 : News h₀ L h5 ((L + 1 + 1 + 1, c3) :: (tl ++ led)) := newsSub N5 (by intro p hp; simp only [List.mem_cons, List.mem_append] at hp ⊢; grind)
  have hne2 : ∀ p ∈ tl ++ led, p.1 ≠ L + 1 + 1 + 1 := allApp (fun p hp => Nat.ne_of_gt (hnew p hp _ (.head _))) hne
  clear N F
  (repeat' (first | (k_unfold; (try dsimp only)) | (k_end; wrow_close) | walk1 | (dsimp only; walk1) | (leave1; walk_say "STEP leave1"; try dsimp only) | fail "no step"))
  rename Fr _ _ _ _ => F9
  exact hq x _ tl _ _ (frBack _ hps F9) (by assumption) (by k_asm) hnew hW
/-- lines of whitespace -/
def WhitesAt (tl : Led) (ws : List Value) (q : List (List Int × Int)) : Prop := ∀ (j : Nat) v, ws[j]? = some v → ∃ y x, v = .ref y ∧ q[j]? = some x ∧ WhiteAt tl y (stOf x.1 x.2)
theorem WhitesAt.mono {tl tl' : Led} {ws : List Value} {q : List (List Int × Int)} (h : WhitesAt tl ws q) (hs : ∀ p ∈ tl, p ∈ tl') : WhitesAt tl' ws q :=
  fun j v e => let ⟨y, x, a, b, c⟩ := h j v e; ⟨y, x, a, b, c.mono hs⟩
theorem WhitesAt.snoc {tl tl' : Led} {ws : List Value} {q : List (List Int × Int)} {i : Nat} {y : Addr} {x : List Int × Int} (h : WhitesAt tl ws q) (hl : ws.length = i) (hx : q[i]? = some x) (hW : WhiteAt tl' y (stOf x.1 x.2)) : WhitesAt (tl' ++ tl) (ws ++ [.ref y]) q := by
  intro j v e
  rcases snocAt hl e with e | ⟨rfl, rfl⟩
  · obtain ⟨y', x', a, b, c⟩ := h j v e
    exact ⟨y', x', a, b, c.mono fun p hp => memR hp⟩
  · exact ⟨y, x, rfl, hx, hW.mono fun p hp => memL hp⟩
theorem seg3 (w : World) {dp un : Nat} {gd : Option (List Code)} {fa : Addr} {cd0 : Value} {outer : List Env} {A₀ : Around} {base h₀ : Heap} {L : Addr} {loose : List Str} {mean : ExcName → Option Value} {mg mb : Str → Option Value} {m : Str → Option Value} {s : Shared} {Q : Flow → Shared → Prop} {E : Value → Shared → Prop}
    (B : Below A₀ base outer h₀) (X : (hd.heap_39 w.params).In h₀) (T : Top topProg loose mean mg mb h₀) (hdp : dp + 9 < recursionLimit) (hu : un + 20 * 9 < cLine)
    {c4 : Obj} {la : Addr} {t0 t1 t2 t3 : Tok} {r0 : List Int} {b0 : Int} {x1 x2 x3 : List Int × Int} {k : Nat} {led : Led} (hc4 : ∃ v, c4.data = .cell v) (hm1 : m (Str.ofString "leads") = some (.ref la)) (hla : (la, W.listOf #[.str (leadText r0 b0) t0, .str (leadText x1.1 x1.2) t1, .str (leadText x2.1 x2.2) t2, .str (leadText x3.1 x3.2) t3] k) ∈ led) (hlo : ∀ x ∈ [x1, x2, x3], LowOk x.1 x.2) (hne : ∀ p ∈ led, p.1 ≠ L + 1 + 1 + 1 + 1)
    (F : Fr h₀ L s.heap m) (N : News h₀ L s.heap ((L + 1 + 1 + 1 + 1, c4) :: led))
    (hq : ∀ (D : Addr) (ws : List Value) (kw : Nat) (c4' : Obj) (tl : Led) (h' : Heap) (tk' : Nat), Fr h₀ L h' m → c4'.data = .cell (some (.ref D)) → News h₀ L h' ((L + 1 + 1 + 1 + 1, c4') :: (D, W.listOf ws.toArray kw) :: (tl ++ led)) → (∀ p ∈ (L + 1 + 1 + 1 + 1, c4) :: led, p.1 < D) → (∀ p ∈ tl, @LT.lt Nat _ D p.1) → ws.length = 3 → WhitesAt tl ws [x1, x2, x3] → Q .next { s with heap := h', toks := tk' }) :
    wpAny (model PySem.Challenge.rw_rs0140_01.prog w) (ktrTop dp un gd (Str.ofString "law") lawSc L fa cd0 (lawCl L) outer) (exec (lawStmt 3) (lawEnv L fa cd0)) Q E s := by
  refine exec_law (by conv => lhs; whnf) (by conv => lhs; whnf) ?_
  revert X
  k_fill
  intro X
  obtain ⟨cv, hcv⟩ := hc4
  have hps : ∀ p ∈ [(Str.ofString "leads", Value.ref la)], m p.1 = some p.2 := List.forall_mem_cons.mpr ⟨hm1, fun _ h => nomatch h⟩
  replace F := frWith _ hps F
  dsimp only [kstB] at F
  (repeat' (first | (k_unfold; (try dsimp only)) | (k_end; wrow_close) | (first | ((with_reducible show wpAny _ _ (eval (Expr.ListComp _ _ _ _) _) _ _ _); (with_reducible refine holdIt ?_)) | walk1) | (dsimp only; (first | ((with_reducible show wpAny _ _ (eval (Expr.ListComp _ _ _ _) _) _ _ _); (with_reducible refine holdIt ?_)) | walk1)) | (leave1; walk_say "STEP leave1"; try dsimp only) | fail "no step"))
  unfold Hold
  refine ListComp_G false (L := L) (h₀ := h₀) (m := (fun z => if z = Str.ofString "leads" then some (.ref la) else m z)) rfl ⟨rfl, fun _ => rfl, fun _ => rfl, fun _ _ => rfl⟩ (by decide) ?_
  (repeat' (first | (k_unfold; (try dsimp only)) | (k_end; wrow_close) | (first | ((with_reducible show wpAny _ _ (pyIter (Value.ref _)) _ _ _); (with_reducible refine holdIt ?_)) | walk1) | (dsimp only; (first | ((with_reducible show wpAny _ _ (pyIter (Value.ref _)) _ _ _); (with_reducible refine holdIt ?_)) | walk1)) | (leave1; walk_say "STEP leave1"; try dsimp only) | fail "no step"))
  unfold Hold
  rename_i D7 h7 F7 N7 l7
  refine CompG.ledger (σ := Led) (vs := [.str (leadText x1.1 x1.2) t1, .str (leadText x2.1 x2.2) t2, .str (leadText x3.1 x3.2) t3]) (ax := D7) (k := 0) (fun tl => tl ++ ((D7, W.listOf (List.toArray [.str (leadText x1.1 x1.2) t1, .str (leadText x2.1 x2.2) t2, .str (leadText x3.1 x3.2) t3]) 0) :: (L + 1 + 1 + 1 + 1, c4) :: led)) (HT s) (fun D i ws tl => ws.length = i ∧ WhitesAt tl ws [x1, x2, x3] ∧ ∀ p ∈ tl, @LT.lt Nat _ (D + 1) p.1) [] rfl (by k_asm) (by k_asm) (.head _) (Nat.le_of_ble_eq_true rfl) HT.mk HT.move (fun _ _ => ⟨rfl, fun j v e => by simp at e, fun _ h => nomatch h⟩) ?_ ?_
  · rintro i v ys tl D I oC kc m₂ own s₃ E' hv ⟨hl, hW, htl⟩ hC ⟨rfl, hx⟩ hlt hID hof ⟨h, tk, rfl⟩ F6 N6
    obtain ⟨x, t, rfl, hxi⟩ := (LeadsAre.cons (LeadsAre.cons (LeadsAre.cons LeadsAre.nil)) : LeadsAre [.str (leadText x1.1 x1.2) t1, .str (leadText x2.1 x2.2) t2, .str (leadText x3.1 x3.2) t3] [x1, x2, x3]).at hv
    have h0 := hlo x (List.mem_of_getElem? hxi)
    have hll := line_len h0
    have hll2 := lead_len h0
    (try clear N); (try clear F); (try clear N7); (try clear F7)
    (repeat' (first | (k_unfold; (try dsimp only)) | (k_end; wrow_close) | (first | ((with_reducible show wpAny _ _ (call (Value.ref _) _) _ _ _); (with_reducible refine holdIt ?_)) | walk1) | (dsimp only; (first | ((with_reducible show wpAny _ _ (call (Value.ref _) _) _ _ _); (with_reducible refine holdIt ?_)) | walk1)) | (leave1; walk_say "STEP leave1"; try dsimp only) | fail "no step"))
    unfold Hold
    refine Spec.use (mk w (lineOf x.1 x.2) _ _ (Nat.le_trans hll (by decide))) (by k_asm) (by k_asm) (by k_asm) N6 (by k_asm) rfl (by ktr_room) (by ktr_units) ?_
    rintro r A1 h5 tk5 F5 N5 ⟨tl', rfl, hnew, y, rfl, hW'⟩
    have hN : ∀ p ∈ tl', @LT.lt Nat _ (D + 1) p.1 := fun p hp => hnew p hp _ (.head _)
    (repeat' (first | (k_unfold; (try dsimp only)) | (k_end; wrow_close) | (first | ((with_reducible show Exists _); (with_reducible refine holdIt ?_)) | walk1) | (dsimp only; (first | ((with_reducible show Exists _); (with_reducible refine holdIt ?_)) | walk1)) | (leave1; walk_say "STEP leave1"; try dsimp only) | fail "no step"))
    unfold Hold
    refine ⟨tl' ++ tl, HT.mk, by k_asm, newsSub N5 (by intro p hp; simp only [List.mem_cons, List.mem_append] at hp ⊢; grind), fun p hp => ?_, by simp [hl], hW.snoc hl hxi hW', allApp hN htl⟩
    rw [List.append_assoc] at hp
    exact allApp (fun p hp => .newF hID (hN p hp)) hof p hp
  · rintro D ws tl s₃ ⟨hl, hW, htl⟩ ⟨h, tk, rfl⟩ hlt h9 tk9 F9 N9
    have hD : @LT.lt Nat _ (L + 1 + 1 + 1 + 1) D := hlt _ (.tail _ (.head _))
    have htD : ∀ p ∈ tl, @LT.lt Nat _ D p.1 := fun p hp => Nat.lt_of_succ_lt (htl p hp)
    have hne2 : ∀ p ∈ tl ++ led, p.1 ≠ L + 1 + 1 + 1 + 1 := allApp (fun p hp => Nat.ne_of_gt (Nat.lt_trans hD (htD p hp))) hne
    replace N9 : News h₀ L h9 ((L + 1 + 1 + 1 + 1, c4) :: (D, LCg.lst ws) :: (tl ++ led)) := newsSub N9 (by intro p hp; simp only [List.mem_cons, List.mem_append] at hp ⊢; grind)
    (try clear N); (try clear F); (try clear N7); (try clear F7)
    (repeat' (first | (k_unfold; (try dsimp only)) | (k_end; wrow_close) | walk1 | (dsimp only; walk1) | (leave1; walk_say "STEP leave1"; try dsimp only) | fail "no step"))
    rename Fr _ _ _ _ => F8
    exact hq D ws _ _ tl _ _ (frBack _ hps F8) (by assumption) (by k_asm) (fun p hp => hlt p (.tail _ hp)) htD hl hW
end Mine
end

section
open PySem PySem.W PyProof.Rows
namespace Mine
theorem sec_QRB {M : Model} {A : Around} {E : Value → Shared → Prop} {s : Shared} {env : Env} {p : Pos} {Q : Flow → Shared → Prop} (h : Q .next s) : wpAny M A (exec (.Pass p) env) Q E s := by
  w_top off
  k_with_none
  walk1
  exact h
end Mine
end
section
open PySem PySem.W PyProof.Rows PySem.Calls PySem.Spec
set_option maxRecDepth 100000
namespace Mine
section
variable {prog : Program} {w : World} {A A₀ : Around} {E : Value → Shared → Prop} {s : Shared} {K : Frag} {x C dx L : Addr} {h₀ : Heap} {m : Str → Option Value} {ox : Obj} {es : List DictEntry} {n : Nat} {name : Str} {v g : Value} {f : Addr}
theorem findObj_shadow {od : Obj} (hh : hasDictIn K C = true) (ha : findIn K (.ref C) name = some (some (.ref f))) (hn : specialIn K (.ref f) "__get__" = some (some g)) (ht : takesIn K (.ref f) = some false) (hl : lookIn name od = some (some v)) :
    findObj K C (some od) name = some (.value v) := by
  obtain ⟨cd, hc, hd⟩ := any_some hh
  unfold findObj
  rw [hc, Option.bind_some, ha, Option.bind_some]
  have ho : W.ownOf cd (some od) name = some (some v) := by unfold W.ownOf; rw [if_pos hd]; exact hl
  simp [hn, ht, ho]
/-- an attribute of the object's own that hides a function of its class -/
theorem get_shadow {expr : Bool} {Q : Value → Shared → Prop} (F : Fr h₀ L s.heap m) (X₀ : K.In h₀) (I : InstAt s.heap x ox C (some (dictOf es n))) (hg : plainGet K C name = true) (hh : hasDictIn K C = true)
    (ha : findIn K (.ref C) name = some (some (.ref f))) (hn : specialIn K (.ref f) "__get__" = some (some g)) (ht : takesIn K (.ref f) = some false) (hl : getL name es = some (some v)) (hv : handedIn v = true) (h : Q v { s with toks := s.toks + 1 }) :
    wpAny (model prog w) A (getAttr (.ref x) name expr) Q E s :=
  get_value (X₀.keeps F.keep) I (plainGet_of hg).1 (findObj_shadow hh ha hn ht hl) hv h
theorem method_shadow {pl : Sem Bool} {Q : Value × List Value → Shared → Prop} (F : Fr h₀ L s.heap m) (X₀ : K.In h₀) (I : InstAt s.heap x ox C (some (dictOf es n))) (hdx : ox.dict = some dx) (hg : plainGet K C name = true) (hh : hasDictIn K C = true)
    (ha : findIn K (.ref C) name = some (some (.ref f))) (hf : isFn K (.ref f) = true) (hn : specialIn K (.ref f) "__get__" = some (some g)) (ht : takesIn K (.ref f) = some false) (hl : getL name es = some (some v)) (hv : handedIn v = true) (h : Q (v, []) { s with toks := s.toks + 1 }) :
    wpAny (model prog w) A (getMethod (.ref x) name pl) Q E s := by
  have hcan := PySem.F.canon_object_ga
  have X := X₀.keeps F.keep
  have u : wpAny (model prog w) A (do return (← getAttr (.ref x) name, ([] : List Value))) Q E s := wpAny_bind (wpAny_mono (get_shadow (Q := fun v => Q (v, [])) F X₀ I hg hh ha hn ht hl hv h) (fun _ _ z => wpAny_pure z) fun _ _ z => z)
  unfold getMethod specialOf
  refine wpAny_bind (wpAny_bind (I.type.here ((looks_findIn X (plainGet_of hg).1).here ?_)))
  dsimp only
  rw [hcan, if_neg (by decide)]
  refine wpAny_bind (wpAny_bind (I.type.here ((looks_findIn X (plainGet_of hg).2).here ?_)))
  refine wpAny_bind (wpAny_bind (I.type.here ((looks_findIn X ha).here (wpAny_bind ((looks_typeIn X (beq_iff_eq.mp hf)).here ?_)))))
  rw [if_neg (by decide +kernel)]
  refine wpAny_bind (wpAny_loadPart I.at_ ?_)
  have hd := I.dict
  rw [hdx] at hd
  rw [hdx]
  refine wpAny_bind (wpAny_bind (wpAny_loadPart hd ?_))
  rw [nsLook_of (show lookIn name (dictOf es n) = some (some v) by rw [lookIn_dict, hl])]
  refine wpAny_pure ?_
  exact u
end
end Mine
end

end
end
section
local macro_rules | `(tactic| walk_at "FnAt") => `(tactic| (k_dflt (exact FnAt.of (by k_asm) (List.Mem.tail _ (by assumption)))))
section
local macro_rules | `(tactic| walk_at "callWith ref") => `(tactic| (k_here; k_dflt (refine' callWith_F ?k1 ?_; (case k1 => exact FnAt.of (by k_asm) (List.Mem.tail _ (by assumption))); k_whole)))
section
open PySem PySem.W PyProof.Rows
namespace Mine
theorem sec_QA1 {M : Model} {A : Around} {E : Value → Shared → Prop} {s : Shared} {env : Env} {p : Pos} {Q : Flow → Shared → Prop} (h : Q .next s) : wpAny M A (exec (.Pass p) env) Q E s := by
  w_top off
  k_with_none
  walk1
  exact h
end Mine
end
section
open PySem PySem.W PyProof.Rows
set_option maxRecDepth 100000
set_option maxHeartbeats 1000000
namespace Mine
def RulesAt (w : World) (news : Led) (rv : List Value) (rules : List ((Int → Int) × Str)) : Prop :=
  rv.length = rules.length ∧ ∀ (i : Nat) v, rv[i]? = some v → ∃ y g u, v = .ref y ∧ rules[i]? = some (g, u) ∧ RuleAt w news y g u
theorem RulesAt.mono {w : World} {news news' : Led} {rv : List Value} {rules : List ((Int → Int) × Str)} (h : RulesAt w news rv rules) (hs : ∀ p ∈ news, p ∈ news') : RulesAt w news' rv rules :=
  ⟨h.1, fun i v e => let ⟨y, p, q, a, b, c⟩ := h.2 i v e; ⟨y, p, q, a, b, c.mono hs⟩⟩
def alVal (a : Option Str) (t : Tok) : Value := match a with | none => .bool true | some v => .str v t
def alStep (q : Int) (st : Int × Option Str) (r : (Int → Int) × Str) : Int × Option Str :=
  if r.1 q = 0 then st else if st.1 < r.1 q then (r.1 q, some r.2) else if r.1 q = st.1 ∧ st.2 = some Str.empty then (st.1, some r.2) else st
theorem len0 {a : Str} (h : (a.length : Int) = 0) : a = Str.empty := by
  cases a with
  | mk x =>
    have : x.size = 0 := by simpa [PySem.Str.length] using h
    rw [Array.size_eq_zero_iff.mp this]; rfl
theorem lenE : ((Str.empty).length : Int) = 0 := rfl
def alOf (rules : List ((Int → Int) × Str)) (q : Int) : Option Str := (rules.foldl (alStep q) (-1, none)).2
theorem fold_more {α β : Type} {f : β → α → β} {b : β} {l : List α} {i : Nat} {x : α} (h : l[i]? = some x) : (l.take (i + 1)).foldl f b = f ((l.take i).foldl f b) x := by
  rw [List.take_add_one, h]; simp
theorem all_ok (w : World) (x : Addr) (ags : List Str) (rv : List Value) (rules : List ((Int → Int) × Str)) (q : Int) (t5 : Tok) (news : Led) (hW : EntAt news x ags rv) (hR : RulesAt w news rv rules) (hq : 1 ≤ q ∧ q ≤ 5) (hb : ∀ r ∈ rules, 0 ≤ r.1 q ∧ r.1 q ≤ 1000 ∧ r.2.length ≤ 1000) :
   Spec 6 w 56 [.ref x, .int q t5] news (fun r news' => news' = news ∧ ∃ t, r = alVal (alOf rules q) t) := by
  refine (hW).el fun d la lr us a1 a2 a3 a4 b1 b2 b3 b4 k1 k2 k3 h1 h2 h3 h4 h5 => ?_
  unfold Spec
  k_fill
  intro loose mean mg mb dp un gd cn cs a₁ ccd cl outer A₀ base h₀ L m s Q E B F X N T hk hdp hu hret
  refine wpAny_call ?_
  k_dflt (walk_at "mine enter")
  (repeat' (first | (k_unfold; (try dsimp only)) | (k_end; wrow_close) | (first | ((with_reducible show wpAny _ _ (pyIter (Value.ref _)) _ _ _); (with_reducible refine holdIt ?_)) | walk1) | (dsimp only; (first | ((with_reducible show wpAny _ _ (pyIter (Value.ref _)) _ _ _); (with_reducible refine holdIt ?_)) | walk1)) | (leave1; walk_say "STEP leave1"; try dsimp only) | fail "no step"))
  unfold Hold
  refine' loopList (σ := (Int × Option Str) × Tok × Tok) (fun _ => news) (fun c => [(Str.ofString "best_match", .int c.1.1 c.2.1), (Str.ofString "allowance", alVal c.1.2 c.2.2)]) [Str.ofString "line", Str.ofString "m"] (fun I i c => c.1 = (rules.take i).foldl (alStep q) (-1, none) ∧ ∀ u, c.1.2 = some u → u.length ≤ 1000) (fun c => c.1 = rules.foldl (alStep q) (-1, none)) ((-1, none), _, 0) rfl (fun _ => h4) (by k_asm) (by k_asm) ?hk ?hp ?turn ?done ?fin
  case hk => kst_all
  case hp => exact fun I hI => ⟨rfl, fun u e => by cases e⟩
  case done => rintro I c ⟨h, _⟩; rw [hR.1, List.take_length] at h; exact h
  case turn =>
    rintro I hI ⟨⟨b, al⟩, tb, ta⟩ i v u h tk o hv ⟨hP, hsz⟩ hne F' N' s₁ rfl
    obtain ⟨y, g, vd, rfl, hr, f, hyE, ⟨fc, fo, fd, fs, g0⟩, g3⟩ := hR.2 _ _ hv
    refine hyE.el fun dy ya yr c1 c2 c3 c4 c5 c6 e1 e2 e3 e4 e5 e6 ty ky g1 g2 => ?_
    have hbr := hb _ (List.mem_of_getElem? hr)
    dsimp only [kstB] at F'
    rename News _ _ _ _ => N9
    (repeat' (first | (k_unfold; (try dsimp only)) | (k_end; wrow_close) | (first | ((with_reducible show wpAny _ _ (call (Value.ref _) _) _ _ _); (with_reducible refine holdIt ?_)) | ((with_reducible show wpAny _ _ (getMethod (Value.ref _) _ _) _ _ _); (k_here; k_dflt (refine' method_shadow ?k1 ?k2 ?k3 ?k4 ?k5 ?k6 ?k7 ?k8 ?k9 ?k10 ?k11 ?k12 ?_; (case k1 => k_asm); (case k2 => k_asm); (case k3 => (first | exact InstAt.of_news (by k_asm) (List.Mem.tail _ (by assumption)) (List.Mem.tail _ (by assumption)) | exact InstAt.of_news (by k_asm) (by assumption) (by assumption))); (case k4 => exact rfl); (case k5 => k_is); (case k6 => k_is); (case k7 => k_is); (case k8 => k_is); (case k9 => k_is); (case k10 => k_is); (case k11 => k_get); (case k12 => k_handed); k_whole))) | walk1) | (dsimp only; (first | ((with_reducible show wpAny _ _ (call (Value.ref _) _) _ _ _); (with_reducible refine holdIt ?_)) | ((with_reducible show wpAny _ _ (getMethod (Value.ref _) _ _) _ _ _); (k_here; k_dflt (refine' method_shadow ?k1 ?k2 ?k3 ?k4 ?k5 ?k6 ?k7 ?k8 ?k9 ?k10 ?k11 ?k12 ?_; (case k1 => k_asm); (case k2 => k_asm); (case k3 => (first | exact InstAt.of_news (by k_asm) (List.Mem.tail _ (by assumption)) (List.Mem.tail _ (by assumption)) | exact InstAt.of_news (by k_asm) (by assumption) (by assumption))); (case k4 => exact rfl); (case k5 => k_is); (case k6 => k_is); (case k7 => k_is); (case k8 => k_is); (case k9 => k_is); (case k10 => k_is); (case k11 => k_get); (case k12 => k_handed); k_whole))) | walk1)) | (leave1; walk_say "STEP leave1"; try dsimp only) | fail "no step"))
    unfold Hold
    refine Spec.use (g3 _ (fun p hp => List.Mem.tail (I, o) hp) q _ hq.1 hq.2) (by k_asm) (by k_asm) (by k_asm) N9 (by k_asm) rfl (by ktr_room) (by ktr_units) ?_
    rintro r9 n9 h9 tk9 F9 N7 ⟨rfl, t9, rfl⟩
    dsimp only at hP hbr hsz
    have hstep : ∀ c' : Int × Option Str, c' = alStep q (b, al) (g, vd) → c' = (rules.take (i + 1)).foldl (alStep q) (-1, none) := fun c' e => by rw [fold_more hr, ← hP]; exact e
    have hstep' : ∀ c' : Int × Option Str, c' = (if g q = 0 then (b, al) else if b < g q then (g q, some vd) else if g q = b ∧ al = some Str.empty then (b, some vd) else (b, al)) → c' = (rules.take (i + 1)).foldl (alStep q) (-1, none) := fun c' e => hstep c' e
    clear hstep
    generalize g q = M at *
    cases al with
    | none =>
      (rename Fr _ _ _ _ => F9z); dsimp +zetaDelta only [alVal] at F9z
      clear hret
      (repeat' (first | (k_unfold; (try dsimp only)) | (k_end; wrow_close) | (first | ((with_reducible show wpAny _ _ (getAttr (Value.ref _) _ _) _ _ _); (k_here; k_dflt (refine' get_shadow ?k1 ?k2 ?k3 ?k4 ?k5 ?k6 ?k7 ?k8 ?k9 ?k10 ?_; (case k1 => k_asm); (case k2 => k_asm); (case k3 => (first | exact InstAt.of_news (by k_asm) (List.Mem.tail _ (by assumption)) (List.Mem.tail _ (by assumption)) | exact InstAt.of_news (by k_asm) (by assumption) (by assumption))); (case k4 => k_is); (case k5 => k_is); (case k6 => k_is); (case k7 => k_is); (case k8 => k_is); (case k9 => k_get); (case k10 => k_handed); k_whole))) | walk1) | (dsimp only; (first | ((with_reducible show wpAny _ _ (getAttr (Value.ref _) _ _) _ _ _); (k_here; k_dflt (refine' get_shadow ?k1 ?k2 ?k3 ?k4 ?k5 ?k6 ?k7 ?k8 ?k9 ?k10 ?_; (case k1 => k_asm); (case k2 => k_asm); (case k3 => (first | exact InstAt.of_news (by k_asm) (List.Mem.tail _ (by assumption)) (List.Mem.tail _ (by assumption)) | exact InstAt.of_news (by k_asm) (by assumption) (by assumption))); (case k4 => k_is); (case k5 => k_is); (case k6 => k_is); (case k7 => k_is); (case k8 => k_is); (case k9 => k_get); (case k10 => k_handed); k_whole))) | walk1)) | (leave1; walk_say "STEP leave1"; try dsimp only) | fail "no step"))
      · refine' ⟨((M, some vd), _, ty), _, _, _, _, rfl, ?a1, ?a2, ?a3, ?a4, ?a5, ?a6, ?a7, hstep' _ (by rw [if_neg (by omega), if_pos (by omega)]), fun u e => by cases e; exact hbr.2.2⟩
        (((case a1 => k_asm); (case a2 => k_asm); (case a3 => k_mem); (case a4 => exact fun p hp => .tail _ hp); (case a6 => kst_all); (case a7 => kst_same)))
        (case a5 => exact hne)
      · refine' ⟨((b, none), tb, ta), _, _, _, _, rfl, ?b1, ?b2, ?b3, ?b4, ?b5, ?b6, ?b7, hstep' _ (by rw [if_neg (by omega), if_neg (by omega), if_neg (fun x => by cases x.2)]), hsz⟩
        (((case b1 => k_asm); (case b2 => k_asm); (case b3 => k_mem); (case b4 => exact fun p hp => .tail _ hp); (case b6 => kst_all); (case b7 => kst_same)))
        (case b5 => exact hne)
      · refine' ⟨((b, none), tb, ta), _, _, _, _, rfl, ?c1, ?c2, ?c3, ?c4, ?c5, ?c6, ?c7, hstep' _ (by rw [if_neg (by omega), if_neg (by omega), if_neg (fun x => by cases x.2)]), hsz⟩
        (((case c1 => k_asm); (case c2 => k_asm); (case c3 => k_mem); (case c4 => exact fun p hp => .tail _ hp); (case c6 => kst_all); (case c7 => kst_same)))
        (case c5 => exact hne)
      · refine' ⟨((b, none), tb, ta), _, _, _, _, rfl, ?d1, ?d2, ?d3, ?d4, ?d5, ?d6, ?d7, hstep' _ (by rw [if_pos (by omega)]), hsz⟩
        (((case d1 => k_asm); (case d2 => k_asm); (case d3 => k_mem); (case d4 => exact fun p hp => .tail _ hp); (case d6 => kst_all); (case d7 => kst_same)))
        (case d5 => exact hne)
    | some a =>
      have hal := hsz a rfl
      (rename Fr _ _ _ _ => F9z); dsimp +zetaDelta only [alVal] at F9z
      clear hret
      (repeat' (first | (k_unfold; (try dsimp only)) | (k_end; wrow_close) | (first | ((with_reducible show wpAny _ _ (getAttr (Value.ref _) _ _) _ _ _); (k_here; k_dflt (refine' get_shadow ?k1 ?k2 ?k3 ?k4 ?k5 ?k6 ?k7 ?k8 ?k9 ?k10 ?_; (case k1 => k_asm); (case k2 => k_asm); (case k3 => (first | exact InstAt.of_news (by k_asm) (List.Mem.tail _ (by assumption)) (List.Mem.tail _ (by assumption)) | exact InstAt.of_news (by k_asm) (by assumption) (by assumption))); (case k4 => k_is); (case k5 => k_is); (case k6 => k_is); (case k7 => k_is); (case k8 => k_is); (case k9 => k_get); (case k10 => k_handed); k_whole))) | walk1) | (dsimp only; (first | ((with_reducible show wpAny _ _ (getAttr (Value.ref _) _ _) _ _ _); (k_here; k_dflt (refine' get_shadow ?k1 ?k2 ?k3 ?k4 ?k5 ?k6 ?k7 ?k8 ?k9 ?k10 ?_; (case k1 => k_asm); (case k2 => k_asm); (case k3 => (first | exact InstAt.of_news (by k_asm) (List.Mem.tail _ (by assumption)) (List.Mem.tail _ (by assumption)) | exact InstAt.of_news (by k_asm) (by assumption) (by assumption))); (case k4 => k_is); (case k5 => k_is); (case k6 => k_is); (case k7 => k_is); (case k8 => k_is); (case k9 => k_get); (case k10 => k_handed); k_whole))) | walk1)) | (leave1; walk_say "STEP leave1"; try dsimp only) | fail "no step"))
      · refine' ⟨((M, some vd), _, ty), _, _, _, _, rfl, ?a1, ?a2, ?a3, ?a4, ?a5, ?a6, ?a7, hstep' _ (by rw [if_neg (by omega), if_pos (by omega)]), fun u e => by cases e; exact hbr.2.2⟩
        (((case a1 => k_asm); (case a2 => k_asm); (case a3 => k_mem); (case a4 => exact fun p hp => .tail _ hp); (case a6 => kst_all); (case a7 => kst_same)))
        (case a5 => exact hne)
      · refine' ⟨((b, some a), tb, ta), _, _, _, _, rfl, ?b1, ?b2, ?b3, ?b4, ?b5, ?b6, ?b7, hstep' _ (by rw [if_neg (by omega), if_neg (by omega), if_neg (fun x => by have e := Option.some.inj x.2; have := lenE; rw [← e] at this; omega)]), hsz⟩
        (((case b1 => k_asm); (case b2 => k_asm); (case b3 => k_mem); (case b4 => exact fun p hp => .tail _ hp); (case b6 => kst_all); (case b7 => kst_same)))
        (case b5 => exact hne)
      · refine' ⟨((b, some vd), tb, ty), _, _, _, _, rfl, ?c1, ?c2, ?c3, ?c4, ?c5, ?c6, ?c7, hstep' _ (by rw [if_neg (by omega), if_neg (by omega), if_pos ⟨by omega, congrArg some (len0 (by assumption))⟩]), fun u e => by cases e; exact hbr.2.2⟩
        (((case c1 => k_asm); (case c2 => k_asm); (case c3 => k_mem); (case c4 => exact fun p hp => .tail _ hp); (case c6 => kst_all); (case c7 => kst_same)))
        (case c5 => exact hne)
      · refine' ⟨((b, some a), tb, ta), _, _, _, _, rfl, ?d1, ?d2, ?d3, ?d4, ?d5, ?d6, ?d7, hstep' _ (by rw [if_neg (by omega), if_neg (by omega), if_neg (fun x => by have := x.1; omega)]), hsz⟩
        (((case d1 => k_asm); (case d2 => k_asm); (case d3 => k_mem); (case d4 => exact fun p hp => .tail _ hp); (case d6 => kst_all); (case d7 => kst_same)))
        (case d5 => exact hne)
      · refine' ⟨((b, some a), tb, ta), _, _, _, _, rfl, ?e1, ?e2, ?e3, ?e4, ?e5, ?e6, ?e7, hstep' _ (by rw [if_pos (by omega)]), hsz⟩
        (((case e1 => k_asm); (case e2 => k_asm); (case e3 => k_mem); (case e4 => exact fun p hp => .tail _ hp); (case e6 => kst_all); (case e7 => kst_same)))
        (case e5 => exact hne)
  case fin =>
    rintro ⟨⟨b, al⟩, tb, ta⟩ u h tk hF F' N'
    dsimp only [kstB] at F'
    dsimp only
    (repeat' (first | (k_unfold; (try dsimp only)) | (k_end; wrow_close) | walk1 | (dsimp only; walk1) | (leave1; walk_say "STEP leave1"; try dsimp only) | fail "no step"))
    exact hret _ _ _ _ (by k_asm) (by k_asm) ⟨rfl, ta, by unfold alOf; rw [← hF]⟩
end Mine
end

end
end
section
local macro_rules | `(tactic| k_mem) => `(tactic| ((fail_if_success (refine' List.Mem.tail _ ?_)); assumption))
section
open PySem PySem.W PyProof.Rows
namespace Mine
theorem sec_QK1 {M : Model} {A : Around} {E : Value → Shared → Prop} {s : Shared} {env : Env} {p : Pos} {Q : Flow → Shared → Prop} (h : Q .next s) : wpAny M A (exec (.Pass p) env) Q E s := by
  w_top off
  k_with_none
  walk1
  exact h
end Mine
end
section
open PySem PySem.W PyProof.Rows
set_option maxRecDepth 100000
set_option maxHeartbeats 1000000
namespace Mine
theorem appN_ok (w : World) (x : Addr) (ags : List Str) (rv : List Value) (news : Led) (hW : EntAt news x ags rv) :
   Spec 3 w 49 [.ref x, .none] news (fun r news' => news' = news ∧ r = .bool (hasS ags (Str.ofString "*"))) := by
  refine (hW).el fun d la lr us a1 a2 a3 a4 b1 b2 b3 b4 k1 k2 k3 h1 h2 h3 h4 h5 => ?_
  unfold Spec
  k_fill
  intro loose mean mg mb dp un gd cn cs a₁ ccd cl outer A₀ base h₀ L m s Q E B F X N T hk hd hu hret
  refine wpAny_call ?_
  k_dflt (walk_at "mine enter")
  (repeat' (first | (k_unfold; (try dsimp only)) | (k_end; wrow_close) | (first | (k_here; (with_reducible show wpAny _ _ (compareOp CmpOp.In (Value.str _ _) (Value.ref _)) _ _ _); k_dflt (refine' inS ?N ?m ?s ?_; (case N => k_asm); (case m => k_mem); (case s => assumption); k_whole)) | walk1) | (dsimp only; (first | (k_here; (with_reducible show wpAny _ _ (compareOp CmpOp.In (Value.str _ _) (Value.ref _)) _ _ _); k_dflt (refine' inS ?N ?m ?s ?_; (case N => k_asm); (case m => k_mem); (case s => assumption); k_whole)) | walk1)) | (leave1; walk_say "STEP leave1"; try dsimp only) | fail "no step"))
  refine hret _ _ _ _ (by k_asm) (by k_asm) ⟨rfl, rfl⟩
end Mine
end

section
local macro_rules | `(tactic| walk_at "subscriptTail") => `(tactic| ((with_reducible show wpAny _ _ (subscriptTail _ _ (Value.ref _) (Value.int _ _)) _ _ _); refine' itemL ?iN ?iM ?i0 ?i1 ?i2 ?_ ?i4; (case iN => k_asm); (case iM => k_mem); (case i0 => first | omega | decide); (case i1 => first | omega | (simp only [List.length_cons, List.length_nil]; decide)); (case i2 => first | assumption | exact rfl); (case i4 => with_unfolding_all rfl)))
section
open PySem PySem.W PyProof.Rows
namespace Mine
theorem sec_QS3 {M : Model} {A : Around} {E : Value → Shared → Prop} {s : Shared} {env : Env} {p : Pos} {Q : Flow → Shared → Prop} (h : Q .next s) : wpAny M A (exec (.Pass p) env) Q E s := by
  w_top off
  k_with_none
  walk1
  exact h
end Mine
end
section
open PySem PySem.W PyProof.Rows
set_option maxRecDepth 100000
set_option maxHeartbeats 1000000
namespace Mine
def witOf (st st' : Ws) : List (Int × Int × Int) := notRows st st' (topSize st st').toNat
def letO : Nat → Str
  | 0 => Str.ofString "a"
  | 1 => Str.ofString "b"
  | _ => Str.ofString "c"
def agO (st0 : Ws) (x : List Int × Int) (l : Str) (b : Bool) : List Str := lawAgents (namedOf (fmtText (witOf st0 (stOf x.1 x.2)))) l b
def rulO (cols : List Int) (x : List Int × Int) (l : Str) : List ((Int → Int) × Str) := [(indentOf (stOf x.1 x.2), Str.ofString ""), (fnCol cols, l)]
/-- what the rows of a witness are like -/
def RowsOk (rows : List (Int × Int × Int)) : Prop := rows.length ≤ 100 ∧ (∀ r ∈ rows, 0 ≤ r.1 ∧ r.1 ≤ 100000) ∧ (namedOf (fmtText rows)).length ≤ 100 ∧ ∀ n ∈ namedOf (fmtText rows), n.length ≤ 1000
theorem rulesTwo {w : World} {news : Led} {r1 r2 : Addr} {g1 g2 : Int → Int} {v1 v2 : Str} (h1 : RuleAt w news r1 g1 v1) (h2 : RuleAt w news r2 g2 v2) : RulesAt w news [.ref r1, .ref r2] [(g1, v1), (g2, v2)] := by
  refine ⟨rfl, fun i v e => ?_⟩
  rcases i with _ | _ | i
  · exact ⟨r1, g1, v1, (Option.some.inj e).symm, rfl, h1⟩
  · exact ⟨r2, g2, v2, (Option.some.inj e).symm, rfl, h2⟩
  · simp at e
/-- the records -/
def RecsAt (w : World) (tl cd KF : Led) (vs : List Value) (st0 : Ws) (cols : List Int) (q : List (List Int × Int)) (bs : List Bool) : Prop :=
  ∀ (j : Nat) v, vs[j]? = some v → ∃ z rv x b, v = .ref z ∧ q[j]? = some x ∧ bs[j]? = some b ∧ EntAt tl z (agO st0 x (letO j) b) rv ∧ RulesAt w (tl ++ (cd ++ KF)) rv (rulO cols x (letO j))
theorem RecsAt.snoc {w : World} {tl cd tl' cd' KF : Led} {vs : List Value} {st0 : Ws} {cols : List Int} {q : List (List Int × Int)} {bs : List Bool} {i : Nat} {z : Addr} {rv : List Value} {x : List Int × Int} {b : Bool} (h : RecsAt w tl cd KF vs st0 cols q bs) (hl : vs.length = i) (hx : q[i]? = some x) (hb : bs[i]? = some b) (hE : EntAt tl' z (agO st0 x (letO i) b) rv) (hR : RulesAt w (tl' ++ (cd' ++ KF)) rv (rulO cols x (letO i))) (hc : ∀ p ∈ cd, p ∈ cd') : RecsAt w (tl' ++ tl) cd' KF (vs ++ [.ref z]) st0 cols q bs := by
  intro j v e
  rcases snocAt hl e with e | ⟨rfl, rfl⟩
  · obtain ⟨z', rv', x', b', e1, e2, e3, e4, e5⟩ := h j v e
    exact ⟨z', rv', x', b', e1, e2, e3, e4.mono fun p hp => memR hp, e5.mono fun p hp => (List.mem_append.mp hp).elim (fun h => memL (memR h)) fun h => memR ((List.mem_append.mp h).elim (fun h => memL (hc p h)) memR)⟩
  · exact ⟨z, rv, x, b, rfl, hx, hb, hE.mono fun p hp => memL hp, hR.mono fun p hp => (List.mem_append.mp hp).elim (fun h => memL (memL h)) memR⟩
theorem letO_item {i : Nat} (h : i < 3) : Txt.item (Str.ofString "abc") (0 + (i : Int)) = letO i := by
  rcases i with _ | _ | _ | i
  · decide +kernel
  · decide +kernel
  · decide +kernel
  · omega
structure RC where
  t1 : Array Value
  t2 : Array Value
  cd : Led
  tl : Led
theorem seg4 (w : World) {dp un : Nat} {gd : Option (List Code)} {fa : Addr} {cd0 : Value} {outer : List Env} {A₀ : Around} {base h₀ : Heap} {L : Addr} {loose : List Str} {mean : ExcName → Option Value} {mg mb : Str → Option Value} {m : Str → Option Value} {s : Shared} {Q : Flow → Shared → Prop} {E : Value → Shared → Prop}
    (B : Below A₀ base outer h₀) (X : (hd.heap_39 w.params).In h₀) (T : Top topProg loose mean mg mb h₀) (hdp : dp + 9 < recursionLimit) (hu : un + 20 * 9 < cLine)
    {c1 c2 c3 c4 : Obj} {sa wa x0 lo lw : Addr} {ws w0s lws : List Value} {cols : List Int} {st0 : Ws} {q : List (List Int × Int)} {bs : List Bool} {ks kw k0 kl : Nat} {KK KF : Led} (hKF : ∀ p ∈ KF, p ∈ KK) (hc1 : c1.data = .cell (some (.ref sa))) (hc2 : c2.data = .cell (some (.ref wa))) (hc3 : c3.data = .cell (some (.ref x0))) (hc4 : c4.data = .cell (some (.ref lo))) (k1 : (L + 1, c1) ∈ KK) (k2 : (L + 1 + 1, c2) ∈ KK) (k3 : (L + 1 + 1 + 1, c3) ∈ KK) (k4 : (L + 1 + 1 + 1 + 1, c4) ∈ KK)
    (kS : (sa, W.listOf (bs.map Value.bool).toArray ks) ∈ KK) (kW : (wa, W.listOf ws.toArray kw) ∈ KK) (hw0 : ws[0]? = some (.ref lw)) (kw0 : (lw, W.listOf w0s.toArray k0) ∈ KF) (hI : IntsAre w0s cols) (hcl : cols.length = 5) (hW0 : WhiteAt KK x0 st0) (kL : (lo, W.listOf lws.toArray kl) ∈ KK) (hLw : WhitesAt KF lws q) (hll : lws.length = 3) (hql : q.length = 3) (hbl : bs.length = 3) (hwl : ws.length = 4)
    (hok : ∀ x ∈ q, RowsOk (witOf st0 (stOf x.1 x.2))) (F : Fr h₀ L s.heap m) (N : News h₀ L s.heap (tb1 #[] :: tb2 #[] :: KK)) (h181 : ∀ p ∈ KK, @LT.lt Nat _ 181 p.1)
    (hq : ∀ (D : Addr) (rs : List Value) (kr : Nat) (c : RC) (s' : Shared) (m' : Str → Option Value), Fr h₀ L s'.heap m' → StM m m' (Str.ofString "records") (.ref D) → News h₀ L s'.heap ((D, W.listOf rs.toArray kr) :: tb1 c.t1 :: tb2 c.t2 :: (c.cd ++ (c.tl ++ KK))) → TriplesOk c.t1.toList → TabC lamQ c.t2 c.cd → (∀ p ∈ KK, p.1 < D) → (∀ p ∈ c.cd ++ c.tl, @LT.lt Nat _ D p.1) → rs.length = 3 → RecsAt w c.tl c.cd KF rs st0 cols q bs → Same s s' → Q .next s') :
    wpAny (model PySem.Challenge.rw_rs0140_01.prog w) (ktrTop dp un gd (Str.ofString "law") lawSc L fa cd0 (lawCl L) outer) (exec (lawStmt 4) (lawEnv L fa cd0)) Q E s := by
  refine exec_law (by conv => lhs; whnf) (by conv => lhs; whnf) ?_
  revert X
  k_fill
  intro X
  refine Assign_ListComp_G false (L := L) (h₀ := h₀) (m := m) rfl ?sw rfl ⟨rfl, fun _ => rfl, fun _ => rfl, fun _ _ => rfl⟩ (by decide) rfl rfl ?_
  case sw => with_unfolding_all rfl
  (repeat' (first | (k_unfold; (try dsimp only)) | (k_end; wrow_close) | (first | ((with_reducible show wpAny _ _ (pyIter (Value.ref _)) _ _ _); (with_reducible refine holdIt ?_)) | walk1) | (dsimp only; (first | ((with_reducible show wpAny _ _ (pyIter (Value.ref _)) _ _ _); (with_reducible refine holdIt ?_)) | walk1)) | (leave1; walk_say "STEP leave1"; try dsimp only) | fail "no step"))
  unfold Hold
  rename_i rg F5 N5 _
  refine CompG.range (σ := RC) (fun c => tb1 c.t1 :: tb2 c.t2 :: (c.cd ++ (c.tl ++ KK))) (Same s) (fun D i rs c => rs.length = i ∧ RecsAt w c.tl c.cd KF rs st0 cols q bs ∧ TriplesOk c.t1.toList ∧ TabC lamQ c.t2 c.cd ∧ ∀ p ∈ c.cd ++ c.tl, @LT.lt Nat _ (D + 1) p.1) ⟨#[], #[], [], []⟩ rfl F5 N5 rg (small_one (by omega) (by omega) (by omega) (by omega)) (n := 3) rfl (by decide) Same.rfl Same.move (fun D _ => ⟨rfl, fun j v e => by simp at e, trivial, .nil, fun _ h => nomatch h⟩) ?_ ?_
  · rintro i t rs c D I oC kc m₂ own s₃ E' hi ⟨hl, hR, ht1, ht2, htl⟩ hC ⟨rfl, hx⟩ hlt hID hof hown hSm F6 N6
    obtain ⟨xv, hlv⟩ : ∃ v, lws[i]? = some v := ⟨_, List.getElem?_eq_getElem (by omega)⟩
    obtain ⟨y, x, rfl, hxq, hWy⟩ := hLw i _ hlv
    obtain ⟨b, hbi⟩ : ∃ v, bs[i]? = some v := ⟨_, List.getElem?_eq_getElem (by omega)⟩
    have hbv : (bs.map Value.bool)[(0 + (i : Int)).toNat]? = some (.bool b) := by rw [show (0 + (i : Int)).toNat = i by omega, List.getElem?_map, hbi]; rfl
    have hlv' : lws[(0 + (i : Int)).toNat]? = some (.ref y) := by rw [show (0 + (i : Int)).toNat = i by omega]; exact hlv
    have hbl' : (bs.map Value.bool).length = 3 := by rw [List.length_map]; exact hbl
    have sK : ∀ p ∈ KK, p ∈ (D + 1, oC) :: (D, LCg.lst rs) :: ([] ++ (own ++ (tb1 c.t1 :: tb2 c.t2 :: (c.cd ++ (c.tl ++ KK))))) := fun p hp => .tail _ (.tail _ (memR (memR (.tail _ (.tail _ (memR (memR hp)))))))
    have k1' := sK _ k1
    have k2' := sK _ k2
    have k3' := sK _ k3
    have k4' := sK _ k4
    have kS' := sK _ kS
    have kW' := sK _ kW
    have kL' := sK _ kL
    clear N5 F5
    (repeat' (first | (k_unfold; (try dsimp only)) | (k_end; wrow_close) | (first | ((with_reducible show wpAny _ _ (call (Value.ref _) _) _ _ _); (with_reducible refine holdIt ?_)) | walk1) | (dsimp only; (first | ((with_reducible show wpAny _ _ (call (Value.ref _) _) _ _ _); (with_reducible refine holdIt ?_)) | walk1)) | (leave1; walk_say "STEP leave1"; try dsimp only) | fail "no step"))
    unfold Hold
    rw [show Txt.item (Str.ofString "abc") (0 + (i : Int)) = letO i from letO_item hi]
    obtain ⟨o1, o2, o3, o4⟩ := hok x (List.mem_of_getElem? hxq)
    refine SpecX.use (R := Same) (t1 := c.t1) (t2 := c.t2) (cd := c.cd) (rec_ok w x0 y lw st0 (stOf x.1 x.2) w0s cols k0 (letO i) _ b ((D + 1, oC) :: (D, LCg.lst rs) :: (own ++ (c.tl ++ KK))) KF (fun p hp => .tail _ (.tail _ (memR (memR (hKF p hp))))) (hW0.mono fun p hp => .tail _ (.tail _ (memR (memR hp)))) hWy kw0 hI hcl rfl o1 o2 ⟨o3, o4⟩) (by k_asm) (by k_asm) (by k_asm) (newsSub N6 (by intro p hp; simp only [List.mem_cons, List.mem_append] at hp ⊢; grind)) ht1 ht2 ?h181 (by k_asm) rfl (by ktr_room) (by ktr_units) ?_
    case h181 =>
      have hD : @LT.lt Nat _ 181 D := hlt (tb2 #[]) (.tail _ (.head _))
      refine allApp (fun p hp => Nat.lt_trans hD (Nat.lt_of_succ_lt (htl p (memL hp)))) (allCons (Nat.lt_succ_of_lt hD) (allCons hD (allApp (fun p hp => hown p hp (tb2 #[]) (.tail _ (.head _))) (allApp (fun p hp => Nat.lt_trans hD (Nat.lt_of_succ_lt (htl p (memR hp)))) h181))))
    rintro r tl t1' t2' cd' s' F8 N8 ht1' ht2' hT9 hc1' hc2' hc3' ⟨z, r1, r2, rfl, hE9, hRu1, hRu2⟩ hS'
    have hnt : ∀ p ∈ tl, @LT.lt Nat _ (D + 1) p.1 := fun p hp => hc3' p hp _ (memR (.head _))
    have hnc : ∀ p ∈ cd', @LT.lt Nat _ (D + 1) p.1 := fun p hp => (hc2' p hp).elim (fun h => htl p (memL h)) fun h => h _ (memR (.head _))
    have hD : @LT.lt Nat _ 181 D := hlt (tb2 #[]) (.tail _ (.head _))
    (repeat' (first | (k_unfold; (try dsimp only)) | (k_end; wrow_close) | (first | ((with_reducible show Exists _); (with_reducible refine holdIt ?_)) | walk1) | (dsimp only; (first | ((with_reducible show Exists _); (with_reducible refine holdIt ?_)) | walk1)) | (leave1; walk_say "STEP leave1"; try dsimp only) | fail "no step"))
    unfold Hold
    refine ⟨⟨t1', t2', cd', tl ++ c.tl⟩, hSm.trans hS', F8, newsSub N8 (by intro p hp; simp only [List.mem_cons, List.mem_append] at hp ⊢; grind), ?_, by simp [hl], hR.snoc hl hxq hbi hE9 (rulesTwo hRu1 hRu2) hc1', ht1', ht2', allApp hnc (allApp hnt fun p hp => htl p (memR hp))⟩
    refine allCons (hof (tb1 c.t1) (.head _)) (allCons (hof (tb2 c.t2) (.tail _ (.head _))) (allApp (fun p hp => .newF hID (hnc p hp)) (allApp (allApp (fun p hp => .newF hID (hnt p hp)) fun p hp => .newF hID (htl p (memR hp))) fun p hp => hof p (.tail _ (.tail _ (memR (memR hp)))))))
  · rintro D rs c s₃ ⟨hl, hR, ht1, ht2, htl⟩ hSm hlt h tk F6 N6
    exact hq D rs _ c _ _ F6 ⟨if_pos rfl, by (intro y hy; (try dsimp only); (repeat' split) <;> first | exact absurd (by assumption) hy | rfl | (subst_vars; exact Eq.symm (by assumption)))⟩ N6 ht1 ht2 (fun p hp => hlt p (.tail _ (.tail _ (memR (memR hp))))) (fun p hp => Nat.lt_of_succ_lt (htl p hp)) hl hR (hSm.move _ _ _)
end Mine
end

section
open PySem PySem.W PyProof.Rows
namespace Mine
theorem sec_QS4 {M : Model} {A : Around} {E : Value → Shared → Prop} {s : Shared} {env : Env} {p : Pos} {Q : Flow → Shared → Prop} (h : Q .next s) : wpAny M A (exec (.Pass p) env) Q E s := by
  w_top off
  k_with_none
  walk1
  exact h
end Mine
end
section
open PySem PySem.W PyProof.Rows
set_option maxRecDepth 100000
set_option maxHeartbeats 1000000
namespace Mine
theorem seg5 (w : World) {dp un : Nat} {gd : Option (List Code)} {fa : Addr} {cd0 : Value} {outer : List Env} {A₀ : Around} {base h₀ : Heap} {L : Addr} {loose : List Str} {mean : ExcName → Option Value} {mg mb : Str → Option Value} {m : Str → Option Value} {s : Shared} {Q : Flow → Shared → Prop} {E : Value → Shared → Prop}
    (B : Below A₀ base outer h₀) (X : (hd.heap_39 w.params).In h₀) (T : Top topProg loose mean mg mb h₀) (hdp : dp + 9 < recursionLimit) (hu : un + 20 * 9 < cLine)
    {lr z1 z2 z3 : Addr} {kr : Nat} {ag1 ag2 ag3 : List Str} {rv1 rv2 rv3 : List Value} {led : Led} (hm1 : m (Str.ofString "records") = some (.ref lr)) (kr1 : (lr, W.listOf #[.ref z1, .ref z2, .ref z3] kr) ∈ led) (e1 : EntAt led z1 ag1 rv1) (e2 : EntAt led z2 ag2 rv2) (l1 : ag1.length ≤ 1000) (l2 : ag2.length ≤ 1000) (q1 : rv1.length ≤ 1000) (q2 : rv2.length ≤ 1000)
    (F : Fr h₀ L s.heap m) (N : News h₀ L s.heap led)
    (hq : ∀ (z : Addr) (tl : Led) (h' : Heap) (tk' : Nat) (m' : Str → Option Value), Fr h₀ L h' m' → StM m m' (Str.ofString "pair") (.ref z) → News h₀ L h' (tl ++ led) → (∀ p ∈ tl, ∀ q ∈ led, q.1 < p.1) → EntAt tl z (ag1.filter (hasS ag2)) (rv1 ++ rv2) → Q .next { s with heap := h', toks := tk' }) :
    wpAny (model PySem.Challenge.rw_rs0140_01.prog w) (ktrTop dp un gd (Str.ofString "law") lawSc L fa cd0 (lawCl L) outer) (exec (lawStmt 5) (lawEnv L fa cd0)) Q E s := by
  refine exec_law (by conv => lhs; whnf) (by conv => lhs; whnf) ?_
  revert X
  k_fill
  intro X
  have hps : ∀ p ∈ [(Str.ofString "records", Value.ref lr)], m p.1 = some p.2 := List.forall_mem_cons.mpr ⟨hm1, fun _ h => nomatch h⟩
  replace F := frWith _ hps F
  dsimp only [kstB] at F
  (repeat' (first | (k_unfold; (try dsimp only)) | (k_end; wrow_close) | (first | ((with_reducible show wpAny _ _ (call (Value.ref _) _) _ _ _); (with_reducible refine holdIt ?_)) | walk1) | (dsimp only; (first | ((with_reducible show wpAny _ _ (call (Value.ref _) _) _ _ _); (with_reducible refine holdIt ?_)) | walk1)) | (leave1; walk_say "STEP leave1"; try dsimp only) | fail "no step"))
  unfold Hold
  refine Spec.use (mer_ok w z1 z2 ag1 ag2 rv1 rv2 _ e1 e2 l1 l2 q1 q2) (by k_asm) (by k_asm) (by k_asm) N (by k_asm) rfl (by ktr_room) (by ktr_units) ?_
  rintro r news' h' tk' F7 N7 ⟨tl', rfl, hnew, z, rfl, hE9⟩
  clear N F
  (repeat' (first | (k_unfold; (try dsimp only)) | (k_end; wrow_close) | walk1 | (dsimp only; walk1) | (leave1; walk_say "STEP leave1"; try dsimp only) | fail "no step"))
  rename Fr _ _ _ _ => F9
  exact hq z tl' _ _ _ F9 ⟨if_pos rfl, by (intro y hy; (try dsimp only); (repeat' split) <;> first | exact absurd (by assumption) hy | rfl | (subst_vars; exact Eq.symm (by assumption)))⟩ (by k_asm) hnew hE9
theorem seg6 (w : World) {dp un : Nat} {gd : Option (List Code)} {fa : Addr} {cd0 : Value} {outer : List Env} {A₀ : Around} {base h₀ : Heap} {L : Addr} {loose : List Str} {mean : ExcName → Option Value} {mg mb : Str → Option Value} {m : Str → Option Value} {s : Shared} {Q : Flow → Shared → Prop} {E : Value → Shared → Prop}
    (B : Below A₀ base outer h₀) (X : (hd.heap_39 w.params).In h₀) (T : Top topProg loose mean mg mb h₀) (hdp : dp + 9 < recursionLimit) (hu : un + 20 * 9 < cLine)
    {lr z1 z2 z3 : Addr} {kr : Nat} {ag1 ag2 ag3 : List Str} {rv1 rv2 rv3 : List Value} {led : Led} {lp : Addr} {agp : List Str} {rvp : List Value} (hm1 : m (Str.ofString "records") = some (.ref lr)) (hm2 : m (Str.ofString "pair") = some (.ref lp)) (kr1 : (lr, W.listOf #[.ref z1, .ref z2, .ref z3] kr) ∈ led) (e1 : EntAt led lp agp rvp) (e2 : EntAt led z3 ag3 rv3) (l1 : agp.length ≤ 1000) (l2 : ag3.length ≤ 1000) (q1 : rvp.length ≤ 1000) (q2 : rv3.length ≤ 1000)
    (F : Fr h₀ L s.heap m) (N : News h₀ L s.heap led)
    (hq : ∀ (z : Addr) (tl : Led) (h' : Heap) (tk' : Nat) (m' : Str → Option Value), Fr h₀ L h' m' → StM m m' (Str.ofString "left") (.ref z) → News h₀ L h' (tl ++ led) → (∀ p ∈ tl, ∀ q ∈ led, q.1 < p.1) → EntAt tl z (agp.filter (hasS ag3)) (rvp ++ rv3) → Q .next { s with heap := h', toks := tk' }) :
    wpAny (model PySem.Challenge.rw_rs0140_01.prog w) (ktrTop dp un gd (Str.ofString "law") lawSc L fa cd0 (lawCl L) outer) (exec (lawStmt 6) (lawEnv L fa cd0)) Q E s := by
  refine exec_law (by conv => lhs; whnf) (by conv => lhs; whnf) ?_
  revert X
  k_fill
  intro X
  have hps : ∀ p ∈ [(Str.ofString "records", Value.ref lr), (Str.ofString "pair", .ref lp)], m p.1 = some p.2 := List.forall_mem_cons.mpr ⟨hm1, List.forall_mem_cons.mpr ⟨hm2, fun _ h => nomatch h⟩⟩
  replace F := frWith _ hps F
  dsimp only [kstB] at F
  (repeat' (first | (k_unfold; (try dsimp only)) | (k_end; wrow_close) | (first | ((with_reducible show wpAny _ _ (call (Value.ref _) _) _ _ _); (with_reducible refine holdIt ?_)) | walk1) | (dsimp only; (first | ((with_reducible show wpAny _ _ (call (Value.ref _) _) _ _ _); (with_reducible refine holdIt ?_)) | walk1)) | (leave1; walk_say "STEP leave1"; try dsimp only) | fail "no step"))
  unfold Hold
  refine Spec.use (mer_ok w lp z3 agp ag3 rvp rv3 _ e1 e2 l1 l2 q1 q2) (by k_asm) (by k_asm) (by k_asm) N (by k_asm) rfl (by ktr_room) (by ktr_units) ?_
  rintro r news' h' tk' F7 N7 ⟨tl', rfl, hnew, z, rfl, hE9⟩
  clear N F
  (repeat' (first | (k_unfold; (try dsimp only)) | (k_end; wrow_close) | walk1 | (dsimp only; walk1) | (leave1; walk_say "STEP leave1"; try dsimp only) | fail "no step"))
  rename Fr _ _ _ _ => F9
  exact hq z tl' _ _ _ F9 ⟨if_pos rfl, by (intro y hy; (try dsimp only); (repeat' split) <;> first | exact absurd (by assumption) hy | rfl | (subst_vars; exact Eq.symm (by assumption)))⟩ (by k_asm) hnew hE9
theorem seg7 (w : World) {dp un : Nat} {gd : Option (List Code)} {fa : Addr} {cd0 : Value} {outer : List Env} {A₀ : Around} {base h₀ : Heap} {L : Addr} {loose : List Str} {mean : ExcName → Option Value} {mg mb : Str → Option Value} {m : Str → Option Value} {s : Shared} {Q : Flow → Shared → Prop} {E : Value → Shared → Prop}
    (B : Below A₀ base outer h₀) (X : (hd.heap_39 w.params).In h₀) (T : Top topProg loose mean mg mb h₀) (hdp : dp + 9 < recursionLimit) (hu : un + 20 * 9 < cLine)
    {lr z1 z2 z3 : Addr} {kr : Nat} {ag1 ag2 ag3 : List Str} {rv1 rv2 rv3 : List Value} {led : Led} (hm1 : m (Str.ofString "records") = some (.ref lr)) (kr1 : (lr, W.listOf #[.ref z1, .ref z2, .ref z3] kr) ∈ led) (e1 : EntAt led z1 ag1 rv1) (e2 : EntAt led z2 ag2 rv2) (e3 : EntAt led z3 ag3 rv3) (l1 : ag1.length ≤ 1000) (l2 : ag2.length ≤ 1000) (l3 : ag3.length ≤ 1000) (q1 : rv1.length ≤ 500) (q2 : rv2.length ≤ 500) (q3 : rv3.length ≤ 500)
    (F : Fr h₀ L s.heap m) (N : News h₀ L s.heap led)
    (hq : ∀ (z : Addr) (tl : Led) (h' : Heap) (tk' : Nat) (m' : Str → Option Value), Fr h₀ L h' m' → StM m m' (Str.ofString "right") (.ref z) → News h₀ L h' (tl ++ led) → (∀ p ∈ tl, ∀ q ∈ led, q.1 < p.1) → EntAt tl z (ag3.filter (hasS (ag2.filter (hasS ag1)))) (rv3 ++ (rv2 ++ rv1)) → Q .next { s with heap := h', toks := tk' }) :
    wpAny (model PySem.Challenge.rw_rs0140_01.prog w) (ktrTop dp un gd (Str.ofString "law") lawSc L fa cd0 (lawCl L) outer) (exec (lawStmt 7) (lawEnv L fa cd0)) Q E s := by
  refine exec_law (by conv => lhs; whnf) (by conv => lhs; whnf) ?_
  revert X
  k_fill
  intro X
  have hps : ∀ p ∈ [(Str.ofString "records", Value.ref lr)], m p.1 = some p.2 := List.forall_mem_cons.mpr ⟨hm1, fun _ h => nomatch h⟩
  replace F := frWith _ hps F
  dsimp only [kstB] at F
  (repeat' (first | (k_unfold; (try dsimp only)) | (k_end; wrow_close) | (first | ((with_reducible show wpAny _ _ (call (Value.ref _) _) _ _ _); (with_reducible refine holdIt ?_)) | walk1) | (dsimp only; (first | ((with_reducible show wpAny _ _ (call (Value.ref _) _) _ _ _); (with_reducible refine holdIt ?_)) | walk1)) | (leave1; walk_say "STEP leave1"; try dsimp only) | fail "no step"))
  unfold Hold
  refine Spec.use (mer_ok w z2 z1 ag2 ag1 rv2 rv1 _ e2 e1 l2 l1 (by omega) (by omega)) (by k_asm) (by k_asm) (by k_asm) N (by k_asm) rfl (by ktr_room) (by ktr_units) ?_
  rintro r news' h' tk' F7 N7 ⟨tl1, rfl, hnew1, z', rfl, hE1⟩
  clear N F
  (repeat' (first | (k_unfold; (try dsimp only)) | (k_end; wrow_close) | (first | ((with_reducible show wpAny _ _ (call (Value.ref _) _) _ _ _); (with_reducible refine holdIt ?_)) | walk1) | (dsimp only; (first | ((with_reducible show wpAny _ _ (call (Value.ref _) _) _ _ _); (with_reducible refine holdIt ?_)) | walk1)) | (leave1; walk_say "STEP leave1"; try dsimp only) | fail "no step"))
  unfold Hold
  have hfl := List.length_filter_le (hasS ag1) ag2
  refine Spec.use (mer_ok w z3 z' ag3 (ag2.filter (hasS ag1)) rv3 (rv2 ++ rv1) _ (e3.mono fun p hp => memR hp) (hE1.mono fun p hp => memL hp) l3 (by omega) (by omega) (by simp; omega)) (by k_asm) (by k_asm) (by k_asm) N7 (by k_asm) rfl (by ktr_room) (by ktr_units) ?_
  rintro r news' h' tk' F8 N8 ⟨tl2, rfl, hnew2, z, rfl, hE9⟩
  rw [← List.append_assoc] at N8
  clear N7 F7
  (repeat' (first | (k_unfold; (try dsimp only)) | (k_end; wrow_close) | walk1 | (dsimp only; walk1) | (leave1; walk_say "STEP leave1"; try dsimp only) | fail "no step"))
  rename Fr _ _ _ _ => F9
  exact hq z (tl2 ++ tl1) _ _ _ F9 ⟨if_pos rfl, by (intro y hy; (try dsimp only); (repeat' split) <;> first | exact absurd (by assumption) hy | rfl | (subst_vars; exact Eq.symm (by assumption)))⟩ (by k_asm) (allApp (fun p hp q hq => hnew2 p hp q (memR hq)) hnew1) (hE9.mono fun p hp => memL hp)
def grps : List (List Int) := [[0], [1], [2], [0, 1], [0, 1, 2], [2, 1, 0]]
def GroupsAt (tl : Led) (gs : List Value) (ns : List (List Int)) : Prop := gs.length = ns.length ∧ ∀ (j : Nat) v, gs[j]? = some v → ∃ g vs k zs, v = .ref g ∧ ns[j]? = some zs ∧ (g, W.listOf (List.toArray vs) k) ∈ tl ∧ IntsAre vs zs
theorem GroupsAt.mono {tl tl' : Led} {gs : List Value} {ns : List (List Int)} (h : GroupsAt tl gs ns) (hs : ∀ p ∈ tl, p ∈ tl') : GroupsAt tl' gs ns := ⟨h.1, fun j v e => let ⟨g, vs, k, zs, a, b, c, f⟩ := h.2 j v e; ⟨g, vs, k, zs, a, b, hs _ c, f⟩⟩
theorem GroupsAt.nil {tl : Led} : GroupsAt tl [] [] := ⟨rfl, fun j v e => by simp at e⟩
theorem GroupsAt.cons {tl : Led} {gs : List Value} {ns : List (List Int)} {g : Addr} {vs : List Value} {k : Nat} {zs : List Int} (hm : (g, W.listOf (List.toArray vs) k) ∈ tl) (hi : IntsAre vs zs) (h : GroupsAt tl gs ns) : GroupsAt tl (.ref g :: gs) (zs :: ns) := by
  refine ⟨by simp [h.1], fun j v e => ?_⟩
  rcases j with _ | j
  · exact ⟨g, vs, k, zs, (Option.some.inj e).symm, rfl, hm, hi⟩
  · exact h.2 j v e
theorem seg8 (w : World) {dp un : Nat} {gd : Option (List Code)} {fa : Addr} {cd0 : Value} {outer : List Env} {A₀ : Around} {base h₀ : Heap} {L : Addr} {loose : List Str} {mean : ExcName → Option Value} {mg mb : Str → Option Value} {m : Str → Option Value} {s : Shared} {Q : Flow → Shared → Prop} {E : Value → Shared → Prop}
    (B : Below A₀ base outer h₀) (X : (hd.heap_39 w.params).In h₀) (T : Top topProg loose mean mg mb h₀) (hdp : dp + 9 < recursionLimit) (hu : un + 20 * 9 < cLine)
    {led : Led} (F : Fr h₀ L s.heap m) (N : News h₀ L s.heap led)
    (hq : ∀ (D : Addr) (gs : List Value) (kg : Nat) (tl : Led) (h' : Heap) (tk' : Nat) (m' : Str → Option Value), Fr h₀ L h' m' → StM m m' (Str.ofString "groups") (.ref D) → News h₀ L h' (tl ++ led) → (∀ p ∈ tl, ∀ q ∈ led, q.1 < p.1) → (D, W.listOf (List.toArray gs) kg) ∈ tl → GroupsAt tl gs grps → Q .next { s with heap := h', toks := tk' }) :
    wpAny (model PySem.Challenge.rw_rs0140_01.prog w) (ktrTop dp un gd (Str.ofString "law") lawSc L fa cd0 (lawCl L) outer) (exec (lawStmt 8) (lawEnv L fa cd0)) Q E s := by
  refine' exec_law ?e ?e2 ?_
  case e => conv => lhs; whnf
  case e2 => conv => lhs; whnf
  revert X
  k_fill
  intro X
  (repeat' (first | (k_unfold; (try dsimp only)) | (k_end; wrow_close) | walk1 | (dsimp only; walk1) | (leave1; walk_say "STEP leave1"; try dsimp only) | fail "no step"))
  rename_i g1 _ b1 g2 _ q2 g3 _ q3 g4 _ q4 g5 _ q5 g6 _ q6 D _ q7 _ F9 N9
  refine hq D _ _ [_, _, _, _, _, _, _] _ _ _ F9 ⟨if_pos rfl, by (intro y hy; (try dsimp only); (repeat' split) <;> first | exact absurd (by assumption) hy | rfl | (subst_vars; exact Eq.symm (by assumption)))⟩ N9 (fun p hp q hq => Nat.lt_of_lt_of_le (b1 q hq) (?_ : @LE.le Nat _ g1 p.1)) (.head _) (.cons (.tail _ (.tail _ (.tail _ (.tail _ (.tail _ (.tail _ (.head _))))))) (.cons _ _ .nil) (.cons (.tail _ (.tail _ (.tail _ (.tail _ (.tail _ (.head _)))))) (.cons _ _ .nil) (.cons (.tail _ (.tail _ (.tail _ (.tail _ (.head _))))) (.cons _ _ .nil) (.cons (.tail _ (.tail _ (.tail _ (.head _)))) (.cons _ _ (.cons _ _ .nil)) (.cons (.tail _ (.tail _ (.head _))) (.cons _ _ (.cons _ _ (.cons _ _ .nil))) (.cons (.tail _ (.head _)) (.cons _ _ (.cons _ _ (.cons _ _ .nil))) .nil))))))
  revert p
  simp only [List.forall_mem_cons, List.not_mem_nil, false_implies, implies_true, and_true]
  refine ⟨?_, ?_, ?_, ?_, ?_, ?_, ?_⟩ <;> (refine leN ?_; omega)
end Mine
end

section
local macro_rules | `(tactic| walk_at "CompSrc") => `(tactic| (with_reducible refine holdIt ?_))
section
open PySem PySem.W PyProof.Rows
namespace Mine
theorem sec_QT0 {M : Model} {A : Around} {E : Value → Shared → Prop} {s : Shared} {env : Env} {p : Pos} {Q : Flow → Shared → Prop} (h : Q .next s) : wpAny M A (exec (.Pass p) env) Q E s := by
  w_top off
  k_with_none
  walk1
  exact h
end Mine
end
section
open PySem PySem.W PyProof.Rows
set_option maxRecDepth 100000
set_option maxHeartbeats 1000000
namespace Mine
def colAt (q : List (List Int × Int)) (z : Int) (j : Nat) : Int := (colsTo ((q[z.toNat]?).getD ([], 0)) 5).getD j 0
def IsMax (M : Int) (l : List Int) : Prop := M ∈ l ∧ ∀ z ∈ l, z ≤ M
/-- the greatest columns of a group's lows -/
def FarOk (q : List (List Int × Int)) (zs ms : List Int) : Prop := ∀ (j : Nat) M, ms[j]? = some M → IsMax M (zs.map fun z => colAt q (z + 1) j)
theorem colsTo_len {q : List Int × Int} {n : Nat} : (colsTo q n).length = n := by simp [colsTo, rangeKs]
/-- a column out of the walks -/
theorem WalksAt.col {led : Led} {ws : List Value} {q : List (List Int × Int)} (h : WalksAt led ws q) (hl : ws.length = 4) {z : Int} (h0 : 0 ≤ z) (h1 : z < 4) : ∃ d xs k, ws[z.toNat]? = some (.ref d) ∧ (d, W.listOf (List.toArray xs) k) ∈ led ∧ xs.length = 5 ∧ ∀ j < 5, ∃ t, xs[j]? = some (.int (colAt q z j) t) := by
  obtain ⟨v, hv⟩ : ∃ v, ws[z.toNat]? = some v := ⟨_, List.getElem?_eq_getElem (by omega)⟩
  obtain ⟨d, xs, k, x, rfl, hx, hm, hI⟩ := h _ v hv
  refine ⟨d, xs, k, hv, hm, hI.length.trans colsTo_len, fun j hj => ?_⟩
  have hg : (colsTo x 5)[j]? = some (colAt q z j) := by
    unfold colAt
    rw [hx]
    have hl' : j < (colsTo x 5).length := by rw [colsTo_len]; exact hj
    simp [List.getD_eq_getElem?_getD, List.getElem?_eq_getElem hl']
  exact hI.get j _ hg
theorem tb0 (w : World) {dp un : Nat} {gd : Option (List Code)} {fa : Addr} {cd0 : Value} {outer : List Env} {A₀ : Around} {base h₀ : Heap} {L : Addr} {loose : List Str} {mean : ExcName → Option Value} {mg mb : Str → Option Value} {m : Str → Option Value} {s : Shared} {Q : Flow → Shared → Prop} {E : Value → Shared → Prop}
    (B : Below A₀ base outer h₀) (X : (hd.heap_39 w.params).In h₀) (T : Top topProg loose mean mg mb h₀) (hdp : dp + 9 < recursionLimit) (hu : un + 20 * 9 < cLine)
    {c2 c5 c6 : Obj} {wa g : Addr} {ws gvs : List Value} {q : List (List Int × Int)} {zs : List Int} {kw kg : Nat} {led : Led} (hc2 : c2.data = .cell (some (.ref wa))) (hc5 : c5.data = .cell (some (.ref g))) (hc6 : ∃ v, c6.data = .cell v) (k2 : (L + 1 + 1, c2) ∈ led) (k5 : (L + 1 + 1 + 1 + 1 + 1, c5) ∈ led) (kW : (wa, W.listOf ws.toArray kw) ∈ led) (hW : WalksAt led ws q) (hwl : ws.length = 4) (kG : (g, W.listOf gvs.toArray kg) ∈ led) (hG : IntsAre gvs zs) (hz : ∀ z ∈ zs, 0 ≤ z ∧ z ≤ 2) (hz0 : 0 < zs.length) (hz3 : zs.length ≤ 3) (hne : ∀ p ∈ led, p.1 ≠ L + 1 + 1 + 1 + 1 + 1 + 1)
    (F : Fr h₀ L s.heap m) (N : News h₀ L s.heap ((L + 1 + 1 + 1 + 1 + 1 + 1, c6) :: led))
    (hq : ∀ (D : Addr) (us : List Value) (ku : Nat) (ms : List Int) (c6' : Obj) (h' : Heap) (tk' : Nat), Fr h₀ L h' m → c6'.data = .cell (some (.ref D)) → News h₀ L h' ((L + 1 + 1 + 1 + 1 + 1 + 1, c6') :: (D, W.listOf us.toArray ku) :: led) → (∀ p ∈ (L + 1 + 1 + 1 + 1 + 1 + 1, c6) :: led, p.1 < D) → IntsAre us ms → ms.length = 5 → FarOk q zs ms → Q .next { s with heap := h', toks := tk' }) :
    wpAny (model PySem.Challenge.rw_rs0140_01.prog w) (ktrTop dp un gd (Str.ofString "law") lawSc L fa cd0 (lawCl L) outer) (exec (bodyStmt 0) (lawEnv L fa cd0)) Q E s := by
  refine' exec_law ?e ?e2 ?_
  case e => conv => lhs; whnf
  case e2 => conv => lhs; whnf
  revert X
  k_fill
  intro X
  obtain ⟨cv, hcv⟩ := hc6
  have hgl := hG.length
  (repeat' (first | (k_unfold; (try dsimp only)) | (k_end; wrow_close) | (first | ((with_reducible show wpAny _ _ (eval (Expr.ListComp _ _ _ _) _) _ _ _); (with_reducible refine holdIt ?_)) | walk1) | (dsimp only; (first | ((with_reducible show wpAny _ _ (eval (Expr.ListComp _ _ _ _) _) _ _ _); (with_reducible refine holdIt ?_)) | walk1)) | (leave1; walk_say "STEP leave1"; try dsimp only) | fail "no step"))
  unfold Hold
  refine ListComp_G true (L := L) (h₀ := h₀) (m := m) rfl ⟨rfl, fun _ => rfl, fun _ => rfl, fun _ _ => rfl⟩ (by decide) ?_
  (repeat' (first | (k_unfold; (try dsimp only)) | (k_end; wrow_close) | (first | ((with_reducible show wpAny _ _ (pyIter (Value.ref _)) _ _ _); (with_reducible refine holdIt ?_)) | walk1) | (dsimp only; (first | ((with_reducible show wpAny _ _ (pyIter (Value.ref _)) _ _ _); (with_reducible refine holdIt ?_)) | walk1)) | (leave1; walk_say "STEP leave1"; try dsimp only) | fail "no step"))
  unfold Hold
  rename_i rg F5 N5 _
  refine CompG.range (σ := Unit) (fun _ => (L + 1 + 1 + 1 + 1 + 1 + 1, c6) :: led) (HT s) (fun D i us _ => ∃ ms : List Int, IntsAre us ms ∧ ms.length = i ∧ FarOk q zs ms) () rfl F5 N5 rg (small_one (by omega) (by omega) (by omega) (by omega)) (n := 5) rfl (by decide) HT.mk HT.move (fun _ _ => ⟨[], .nil, rfl, fun j M e => by simp at e⟩) ?_ ?_
  · rintro i t us _ D I oC kc m₂ own s₃ E' hi ⟨ms, hus, hml, hfar⟩ hC ⟨oK, rfl, hK⟩ hlt hID hof _ ⟨h, tk, rfl⟩ F6 N6
    clear N5 F5
    obtain ⟨NL, hNL, N7⟩ : ∃ NL, NL = _ ∧ News h₀ L _ NL := ⟨_, rfl, N6⟩
    have sK : ∀ p ∈ led, p ∈ NL := fun p hp => by rw [hNL]; exact .tail _ (.tail _ (memR (memR (.tail _ hp))))
    have hKm : (D + 2, oK) ∈ NL := by rw [hNL]; exact .tail _ (.tail _ (.head _))
    have k2' := sK _ k2
    have k5' := sK _ k5
    have kW' := sK _ kW
    have kG' := sK _ kG
    clear N6
    (repeat' (first | (k_unfold; (try dsimp only)) | (k_end; wrow_close) | (first | ((with_reducible show wpAny _ _ (eval (Expr.ListComp _ _ _ _) _) _ _ _); (with_reducible refine holdIt ?_)) | walk1) | (dsimp only; (first | ((with_reducible show wpAny _ _ (eval (Expr.ListComp _ _ _ _) _) _ _ _); (with_reducible refine holdIt ?_)) | walk1)) | (leave1; walk_say "STEP leave1"; try dsimp only) | fail "no step"))
    unfold Hold
    rename Fr _ _ _ _ => F7
    refine LCg.ListComp_U F7 rfl (by decide) rfl (by decide) rfl ?_
    (repeat' (first | (k_unfold; (try dsimp only)) | (k_end; wrow_close) | walk1 | (dsimp only; walk1) | (leave1; walk_say "STEP leave1"; try dsimp only) | fail "no step"))
    unfold Hold
    rename Fr _ _ _ _ => F8
    rename News _ _ _ _ => N8
    refine LCg.CompSrc.ledger rfl F8 N8 kG' (by rw [sizeLine_eq]; simp; omega) ?_
    intro g5
    refine compBy (fun i' ys' nw => nw = NL ∧ IntsAre ys' ((zs.take i').map fun z => colAt q (z + 1) i)) ⟨rfl, .nil⟩ ?_ ?_
    · rintro i' v I' oI' C' oC' D' m₂' ys' nw h' tk' E'' hlt' hv ⟨rfl, hys'⟩ hC' hx' F9 N9 off ne
      obtain ⟨z, tz, rfl, hz9⟩ := hG.at i' v (by simpa using hv)
      have hzz := hz z (List.mem_of_getElem? hz9)
      obtain ⟨d, xs, kd, hwz, hmd, hxl, hcol⟩ := hW.col hwl (z := z + 1) (by omega) (by omega)
      obtain ⟨tc, hxi⟩ := hcol i hi
      have hmd' := sK _ hmd
      have hxi' : xs[(0 + (i : Int)).toNat]? = some (.int (colAt q (z + 1) i) tc) := by rw [show (0 + (i : Int)).toNat = i by omega]; exact hxi
      (try clear N8); (try clear F8); (try clear N7); (try clear F7)
      (repeat' (first | (k_unfold; (try dsimp only)) | (k_end; wrow_close) | walk1 | (dsimp only; walk1) | (leave1; walk_say "STEP leave1"; try dsimp only) | fail "no step"))
      refine LCg.CompEnd.intro (by k_asm) N9 _ (fun p hp => hp) off (.inr ⟨_, kG', rfl, _, rfl⟩) ⟨rfl, ?_⟩
      rw [take_succ_of hz9, List.map_append]
      exact ints_snoc hys'
    · rintro ys' nw ⟨rfl, hys'⟩
      intro D' h' tk' F9 N9 off
      (try clear N8); (try clear F8); (try clear N7); (try clear F7)
      rw [show gvs.toArray.size = zs.length by rw [List.size_toArray, hgl], List.take_length] at hys'
      (repeat' (first | (k_unfold; (try dsimp only)) | (k_end; wrow_close) | (first | ((with_reducible show wpAny _ _ (call (Value.builtin "max") _) _ _ _); (with_reducible refine holdIt ?_)) | walk1) | (dsimp only; (first | ((with_reducible show wpAny _ _ (call (Value.builtin "max") _) _ _ _); (with_reducible refine holdIt ?_)) | walk1)) | (leave1; walk_say "STEP leave1"; try dsimp only) | fail "no step"))
      unfold Hold
      refine kso_max F9 N9 (N9.isList (.head _)) hys' (by simpa using hz0) rfl ?_
      intro h8 M t8 tk8 F8 N8 hM1 hM2
      (try clear N9); (try clear F9)
      (repeat' (first | (k_unfold; (try dsimp only)) | (k_end; wrow_close) | (first | ((with_reducible show Exists _); (with_reducible refine holdIt ?_)) | walk1) | (dsimp only; (first | ((with_reducible show Exists _); (with_reducible refine holdIt ?_)) | walk1)) | (leave1; walk_say "STEP leave1"; try dsimp only) | fail "no step"))
      unfold Hold
      refine ⟨(), HT.mk, F8, newsSub N8 (fun p hp => .tail _ (by rw [hNL]; exact hp)), hof, ms ++ [M], ints_snoc hus, by simp [hml], fun j M' e => ?_⟩
      rcases snocAt hml e with e | ⟨rfl, rfl⟩
      · exact hfar j M' e
      · exact ⟨hM1, hM2⟩
  · rintro D us _ s₃ ⟨ms, hus, hml, hfar⟩ ⟨h, tk, rfl⟩ hlt h9 tk9 F9 N9
    have hD : @LT.lt Nat _ (L + 1 + 1 + 1 + 1 + 1 + 1) D := hlt _ (.head _)
    replace N9 : News h₀ L h9 ((L + 1 + 1 + 1 + 1 + 1 + 1, c6) :: (D, LCg.lst us) :: led) := newsSub N9 (by intro p hp; simp only [List.mem_cons] at hp ⊢; grind)
    (try clear N5); (try clear F5); (try clear N); (try clear F)
    (repeat' (first | (k_unfold; (try dsimp only)) | (k_end; wrow_close) | walk1 | (dsimp only; walk1) | (leave1; walk_say "STEP leave1"; try dsimp only) | fail "no step"))
    rename Fr _ _ _ _ => F8
    exact hq D us _ ms _ _ _ F8 (by assumption) (by k_asm) hlt hus hml hfar
end Mine
end

end
section
local macro_rules | `(tactic| walk_at "CompSrcT") => `(tactic| (with_reducible refine holdIt ?_))
section
open PySem PySem.W PyProof.Rows
namespace Mine
theorem sec_QT1 {M : Model} {A : Around} {E : Value → Shared → Prop} {s : Shared} {env : Env} {p : Pos} {Q : Flow → Shared → Prop} (h : Q .next s) : wpAny M A (exec (.Pass p) env) Q E s := by
  w_top off
  k_with_none
  walk1
  exact h
end Mine
end
section
open PySem PySem.W PyProof.Rows
set_option maxRecDepth 100000
set_option maxHeartbeats 1000000
namespace Mine
def szOf (tp : Nat → Int) (ms : List Int) (n : Nat) : List Int := ((List.range n).filter fun j => decide (ms.getD j 0 ≤ tp j)).map fun j : Nat => (j : Int) + 1
theorem szOf_yes {tp : Nat → Int} {ms : List Int} {i : Nat} (h : ms.getD i 0 ≤ tp i) : szOf tp ms (i + 1) = szOf tp ms i ++ [(i : Int) + 1] := by
  unfold szOf
  rw [List.range_succ, List.filter_append, List.map_append]
  simp only [List.filter, decide_eq_true h, List.map]
theorem szOf_no {tp : Nat → Int} {ms : List Int} {i : Nat} (h : ¬ ms.getD i 0 ≤ tp i) : szOf tp ms (i + 1) = szOf tp ms i := by
  unfold szOf
  rw [List.range_succ, List.filter_append, List.map_append]
  simp only [List.filter, decide_eq_false h, List.map, List.append_nil]
theorem tb1' (w : World) {dp un : Nat} {gd : Option (List Code)} {fa : Addr} {cd0 : Value} {outer : List Env} {A₀ : Around} {base h₀ : Heap} {L : Addr} {loose : List Str} {mean : ExcName → Option Value} {mg mb : Str → Option Value} {m : Str → Option Value} {s : Shared} {Q : Flow → Shared → Prop} {E : Value → Shared → Prop}
    (B : Below A₀ base outer h₀) (X : (hd.heap_39 w.params).In h₀) (T : Top topProg loose mean mg mb h₀) (hdp : dp + 9 < recursionLimit) (hu : un + 20 * 9 < cLine)
    {c2 c6 : Obj} {wa fr : Addr} {ws us : List Value} {q : List (List Int × Int)} {ms : List Int} {kw ku : Nat} {led : Led} (hc2 : c2.data = .cell (some (.ref wa))) (hc6 : c6.data = .cell (some (.ref fr))) (k2 : (L + 1 + 1, c2) ∈ led) (k6 : (L + 1 + 1 + 1 + 1 + 1 + 1, c6) ∈ led) (kW : (wa, W.listOf ws.toArray kw) ∈ led) (hW : WalksAt led ws q) (hwl : ws.length = 4) (kF : (fr, W.listOf us.toArray ku) ∈ led) (hU : IntsAre us ms) (hml : ms.length = 5)
    (F : Fr h₀ L s.heap m) (N : News h₀ L s.heap led)
    (hq : ∀ (D : Addr) (ys : List Value) (k : Nat) (h' : Heap) (tk' : Nat) (m' : Str → Option Value), Fr h₀ L h' m' → StM m m' (Str.ofString "sizes") (.ref D) → News h₀ L h' ((D, W.listOf (List.toArray ys) k) :: led) → IntsAre ys (szOf (colAt q 0) ms 5) → Q .next { s with heap := h', toks := tk' }) :
    wpAny (model PySem.Challenge.rw_rs0140_01.prog w) (ktrTop dp un gd (Str.ofString "law") lawSc L fa cd0 (lawCl L) outer) (exec (bodyStmt 1) (lawEnv L fa cd0)) Q E s := by
  refine' exec_law ?e ?e2 ?_
  case e => conv => lhs; whnf
  case e2 => conv => lhs; whnf
  revert X
  k_fill
  intro X
  obtain ⟨d, xs, kd, hwz, hmd, hxl, hcol⟩ := hW.col hwl (z := 0) (by omega) (by omega)
  have hul := hU.length
  refine LCt.Assign_ListComp_T F rfl ?sw rfl (by decide) rfl (by decide) rfl rfl rfl ?_
  case sw => with_unfolding_all rfl
  (repeat' (first | (k_unfold; (try dsimp only)) | (k_end; wrow_close) | walk1 | (dsimp only; walk1) | (leave1; walk_say "STEP leave1"; try dsimp only) | fail "no step"))
  unfold Hold
  rename IsRange _ _ _ _ _ _ _ _ => rg
  refine LCt.CompSrcT.range rfl (by k_asm) (by k_asm) rg (small_one (by omega) (by omega) (by omega) (by omega)) (n := 5) rfl (by rw [sizeLine_eq]; decide) ?_
  intro g5
  refine compTBy (fun i ys nw => nw = led ∧ IntsAre ys (szOf (colAt q 0) ms i)) ⟨rfl, .nil⟩ ?_ ?_
  · rintro i v I oI C oC D m₂ ys nw h tk E' hlt ⟨t, rfl⟩ ⟨rfl, hys⟩ hC hx F6 N6 off ne
    obtain ⟨tc, hxi⟩ := hcol i hlt
    obtain ⟨fv, hfv⟩ : ∃ c, ms[i]? = some c := ⟨_, List.getElem?_eq_getElem (by omega)⟩
    obtain ⟨fu, hfu⟩ := hU.get i fv hfv
    have hgd : ms.getD i 0 = fv := by simp [List.getD_eq_getElem?_getD, hfv]
    have hxi' : xs[(0 + (i : Int)).toNat]? = some (.int (colAt q 0 i) tc) := by rw [show (0 + (i : Int)).toNat = i by omega]; exact hxi
    have hfu' : us[(0 + (i : Int)).toNat]? = some (.int fv fu) := by rw [show (0 + (i : Int)).toNat = i by omega]; exact hfu
    (repeat' (first | (k_unfold; (try dsimp only)) | (k_end; wrow_close) | walk1 | (dsimp only; walk1) | (leave1; walk_say "STEP leave1"; try dsimp only) | fail "no step"))
    · rename List.getD _ _ _ ≤ _ => hle
      rw [show (0 + (i : Int)).toNat = i by omega] at hle
      refine LCg.CompEnd.intro (by k_asm) N6 _ (fun p hp => hp) off trivial ⟨rfl, ?_⟩
      rw [szOf_yes hle, show ((i : Int) + 1) = 0 + (i : Int) + 1 by omega]
      exact ints_snoc hys
    · rename ¬ List.getD _ _ _ ≤ _ => hle
      rw [show (0 + (i : Int)).toNat = i by omega] at hle
      exact LCg.CompEnd.intro (by k_asm) N6 _ (fun p hp => hp) off trivial ⟨rfl, by rw [szOf_no hle]; exact hys⟩
  · rintro ys nw ⟨rfl, hys⟩
    intro D h tk F7 N7 h1
    exact hq D ys _ h tk _ F7 ⟨if_pos rfl, by (intro y hy; (try dsimp only); (repeat' split) <;> first | exact absurd (by assumption) hy | rfl | (subst_vars; exact Eq.symm (by assumption)))⟩ N7 hys
end Mine
end

section
open PySem PySem.W PyProof.Rows
namespace Mine
theorem sec_QEQ {M : Model} {A : Around} {E : Value → Shared → Prop} {s : Shared} {env : Env} {p : Pos} {Q : Flow → Shared → Prop} (h : Q .next s) : wpAny M A (exec (.Pass p) env) Q E s := by
  w_top off
  k_with_none
  walk1
  exact h
end Mine
end
section
open PySem PySem.W PyProof.Rows PySem.Spec PyProof
set_option maxRecDepth 100000
set_option maxHeartbeats 1000000
namespace Mine
def row3 (r : Int × Int × Int) : PyData := .tuple [.int r.1, .int r.2.1, .int r.2.2]
theorem reads_rows {h₀ h : Heap} {L : Addr} {news led : Led} {vs : List Value} {rs : List (Int × Int × Int)} (N : News h₀ L h news) (H : RowsAt led vs rs) (hs : ∀ p ∈ led, p ∈ news) : ∃ as, ReadsAll h vs (rs.map row3) as := by
  induction H with
  | nil => exact ⟨_, .nil⟩
  | cons hm _ ih =>
    obtain ⟨as, ha⟩ := ih
    have g := N _ (hs _ hm)
    exact ⟨_, .cons (reads_tuple_at g.1 rfl rfl (.cons (.int _ _) (.cons (.int _ _) (.cons (.int _ _) .nil)))) ha⟩
theorem eqv_row3 (r : Int × Int × Int) : PyData.eqv (row3 r) (row3 r) = true := by simp [row3, PyData.eqv, PyData.eqvAll]
theorem eqv_rows : ∀ rs : List (Int × Int × Int), PyData.eqvAll (rs.map row3) (rs.map row3) = true
  | [] => rfl
  | r :: t => by simp [PyData.eqvAll, eqv_row3, eqv_rows t]
theorem lay_rows : ∀ rs : List (Int × Int × Int), PyData.canLayAll0 (rs.map row3) = true
  | [] => rfl
  | r :: t => by simp [PyData.canLayAll0, row3, PyData.canLay0, lay_rows t]
theorem depth_rows : ∀ rs : List (Int × Int × Int), PyData.depthAll (rs.map row3) ≤ 1
  | [] => Nat.zero_le _
  | r :: t => by
    have := depth_rows t
    simp [PyData.depthAll, row3, PyData.depth]
    omega
theorem shaped_rows (rs : List (Int × Int × Int)) : SeqAt.shaped (.list (rs.map row3)) = true := by
  have := depth_rows rs
  simp [SeqAt.shaped, PyData.canLay0, PyData.depth, lay_rows]
  omega
/-- two lists of one row set are not unequal -/
theorem ne_rows {prog : Program} {w : World} {A : Around} {E : Value → Shared → Prop} {s : Shared} {h₀ : Heap} {L a b : Addr} {news led led' : Led} {vs vs' : List Value} {rs : List (Int × Int × Int)} {k k' : Nat} {Q : Value → Shared → Prop} (N : News h₀ L s.heap news) (ha : (a, W.listOf vs.toArray k) ∈ news) (hb : (b, W.listOf vs'.toArray k') ∈ news) (H : RowsAt led vs rs) (H' : RowsAt led' vs' rs) (hs : ∀ p ∈ led, p ∈ news) (hs' : ∀ p ∈ led', p ∈ news) (hu : A.units + 64 < cLine)
    (h : Q (.bool false) s) : wpAny (model prog w) A (compareOp .NotEq (.ref a) (.ref b)) Q E s := by
  obtain ⟨as, r1⟩ := reads_rows N H hs
  obtain ⟨bs, r2⟩ := reads_rows N H' hs'
  refine ne_dataH (reads_list_at (N _ ha).1 rfl rfl r1) (reads_list_at (N _ hb).1 rfl rfl r2) (shaped_rows rs) (shaped_rows rs) hu ?_
  have e : PyData.eqv (.list (rs.map row3)) (.list (rs.map row3)) = true := by simp only [PyData.eqv]; exact eqv_rows rs
  rw [e]; exact h
end Mine
end

section
open PySem PySem.W PyProof.Rows
namespace Mine
theorem sec_QB {M : Model} {A : Around} {E : Value → Shared → Prop} {s : Shared} {env : Env} {p : Pos} {Q : Flow → Shared → Prop} (h : Q .next s) : wpAny M A (exec (.Pass p) env) Q E s := by
  w_top off
  k_with_none
  walk1
  exact h
end Mine
end
section
open PySem PySem.W PyProof.Rows
set_option maxRecDepth 100000
set_option maxHeartbeats 1000000
namespace Mine
section
open PySem.Spec PyProof
theorem reads_strs {h : Heap} {vs : List Value} {ns : List Str} (H : StrsAre vs ns) : ∃ as, ReadsAll h vs (ns.map PyData.str) as := by
  induction H with
  | nil => exact ⟨_, .nil⟩
  | cons x t _ ih => obtain ⟨as, ha⟩ := ih; exact ⟨_, .cons (.str _ _) ha⟩
theorem eqv_strs : ∀ rs : List Str, PyData.eqvAll (rs.map .str) (rs.map .str) = true
  | [] => rfl
  | r :: t => by simp [PyData.eqvAll, PyData.eqv, eqv_strs t]
theorem lay_strs : ∀ rs : List Str, (∀ r ∈ rs, PyData.strOk r = true) → PyData.canLayAll0 (rs.map .str) = true
  | [], _ => rfl
  | r :: t, h => by simp [PyData.canLayAll0, PyData.canLay0, lay_strs t fun x hx => h x (.tail _ hx), h r (.head _)]
theorem depth_strs : ∀ rs : List Str, PyData.depthAll (rs.map .str) ≤ 1
  | [] => Nat.zero_le _
  | r :: t => by
    have := depth_strs t
    simp [PyData.depthAll, PyData.depth]
    omega
theorem shaped_strs (rs : List Str) (hok : ∀ r ∈ rs, PyData.strOk r = true) : SeqAt.shaped (.list (rs.map .str)) = true := by
  have := depth_strs rs
  simp [SeqAt.shaped, PyData.canLay0, PyData.depth, lay_strs rs hok]
  omega
theorem ne_strs {prog : Program} {w : World} {A : Around} {E : Value → Shared → Prop} {s : Shared} {h₀ : Heap} {L a b : Addr} {news : Led} {vs vs' : List Value} {rs : List Str} {k k' : Nat} {Q : Value → Shared → Prop} (N : News h₀ L s.heap news) (ha : (a, W.listOf vs.toArray k) ∈ news) (hb : (b, W.listOf vs'.toArray k') ∈ news) (H : StrsAre vs rs) (H' : StrsAre vs' rs) (hok : ∀ r ∈ rs, PyData.strOk r = true) (hu : A.units + 64 < cLine)
    (h : Q (.bool false) s) : wpAny (model prog w) A (compareOp .NotEq (.ref a) (.ref b)) Q E s := by
  obtain ⟨as, r1⟩ := reads_strs H
  obtain ⟨bs, r2⟩ := reads_strs H'
  refine ne_dataH (reads_list_at (N _ ha).1 rfl rfl r1) (reads_list_at (N _ hb).1 rfl rfl r2) (shaped_strs rs hok) (shaped_strs rs hok) hu ?_
  have e : PyData.eqv (.list (rs.map .str)) (.list (rs.map .str)) = true := by simp only [PyData.eqv]; exact eqv_strs rs
  rw [e]; exact h
end
end Mine
end

end
end
section
open PySem PySem.W PyProof.Rows
namespace Mine
theorem sec_QK2 {M : Model} {A : Around} {E : Value → Shared → Prop} {s : Shared} {env : Env} {p : Pos} {Q : Flow → Shared → Prop} (h : Q .next s) : wpAny M A (exec (.Pass p) env) Q E s := by
  w_top off
  k_with_none
  walk1
  exact h
end Mine
end
section
open PySem PySem.W PyProof.Rows
set_option maxRecDepth 100000
set_option maxHeartbeats 4000000
namespace Mine
theorem inI {prog : Program} {w : World} {A : Around} {E : Value → Shared → Prop} {s : Shared} {h₀ : Heap} {L l : Addr} {news : Led} {vs : List Value} {ys : List Int} {n : Nat} {k : Int} {t : Tok} {Q : Value → Shared → Prop} (N : News h₀ L s.heap news) (hm : (l, W.listOf vs.toArray n) ∈ news) (hs : IntsAre vs ys) (h : Q (.bool (decide (k ∈ ys))) s) :
    wpAny (model prog w) A (compareOp .In (.int k t) (.ref l)) Q E s := by
  refine in_list_ints (N.isList hm) hs ?_
  rw [show ys.any (· == k) = decide (k ∈ ys) by rw [Bool.eq_iff_iff]; simp]
  exact h
abbrev strN (z : Int) : Str := Str.ofString (toString z)
def nameOf (z : Int) : Str := (if Int.fmod z 3 = 1 then Str.ofString "*" else Str.ofString "") ++ Str.ofString "tAB" ++ strN z ++ (if Int.fmod z 3 = 2 then Str.ofString "*" else Str.ofString "") ++ Str.ofString "/Tab1Tab2Tab3Tab4Tab5"
theorem strApp (a b : Str) : (a ++ b).length = a.length + b.length := PySem.Str.length_append _ _
theorem nameLen (z : Int) (h : 0 ≤ z ∧ z < 1000) : (nameOf z).length ≤ 100000 := by
  have e : (strN z).length ≤ 1000 := Nat.le_trans (text_short (n := z) (by omega) (by omega)) (by decide)
  unfold nameOf
  simp only [strApp]
  have a1 : (if Int.fmod z 3 = 1 then Str.ofString "*" else Str.ofString "").length ≤ 1 := by split <;> decide
  have a2 : (if Int.fmod z 3 = 2 then Str.ofString "*" else Str.ofString "").length ≤ 1 := by split <;> decide
  have a3 : (Str.ofString "tAB").length = 3 := by decide
  have a4 : (Str.ofString "/Tab1Tab2Tab3Tab4Tab5").length = 21 := by decide
  omega
theorem keeps_ok (w : World) (x ls : Addr) (us0 : List Value) (szs : List Int) (ks : Nat) (letter : Str) (t5 : Tok) (sb : Bool) (ags : List Str) (rv : List Value) (rules : List ((Int → Int) × Str)) (news : Led) (hW : EntAt news x ags rv) (hR : RulesAt w news rv rules) (hl : (ls, W.listOf us0.toArray ks) ∈ news) (hI : IntsAre us0 szs) (hn : szs.length ≤ 10) (hz : ∀ z ∈ szs, 1 ≤ z ∧ z ≤ 5)
    (hA : ags = lawAgents (szs.map strN) letter sb) (hS : hasS ags (Str.ofString "*") = sb) (hbd : ∀ r ∈ rules, ∀ q, 1 ≤ q ∧ q ≤ 5 → 0 ≤ r.1 q ∧ r.1 q ≤ 1000 ∧ r.2.length ≤ 1000) (hAl : ∀ q, 1 ≤ q ∧ q ≤ 5 → alOf rules q = some (if q ∈ szs then letter else Str.empty)) (hAp : ∀ q, 1 ≤ q ∧ q ≤ 5 → applies ags (nameOf q) = decide (q ∈ szs)) (hlt : letter.length ≤ 10) (hok : ∀ r ∈ ags, PyData.strOk r = true) (hag : ∀ g ∈ ags, g.length ≤ 1000) :
   Spec 8 w 191 [.ref x, .ref ls, .str letter t5, .bool sb] news (fun r news' => news' = news ∧ r = .bool true) := by
  refine (hW).el fun d la lr us a1 a2 a3 a4 b1 b2 b3 b4 k1 k2 k3 h1 h2 h3 h4 h5 => ?_
  unfold Spec
  k_fill
  intro loose mean mg mb dp un gd cn cs a₁ ccd cl outer A₀ base h₀ L m s Q E B F X N T hk hdp hu hret
  refine wpAny_call ?_
  k_dflt (walk_at "mine enter")
  (repeat' (first | (k_unfold; (try dsimp only)) | (k_end; wrow_close) | (first | ((with_reducible show wpAny _ _ (eval (Expr.ListComp _ _ _ _) _) _ _ _); (with_reducible refine holdIt ?_)) | walk1) | (dsimp only; (first | ((with_reducible show wpAny _ _ (eval (Expr.ListComp _ _ _ _) _) _ _ _); (with_reducible refine holdIt ?_)) | walk1)) | (leave1; walk_say "STEP leave1"; try dsimp only) | fail "no step"))
  unfold Hold
  rename Fr _ _ _ _ => F5
  rename News _ _ _ _ => N5
  have hil := hI.length
  refine LCg.ListComp_U F5 rfl (by decide) rfl (by decide) rfl ?_
  walk1
  refine LCg.CompSrc.ledger rfl (by k_asm) (by k_asm) hl (by rw [sizeLine_eq]; simp; omega) ?_
  intro g5
  refine compBy (fun i ys nw => nw = news ∧ StrsAre ys ((szs.take i).map strN)) ⟨rfl, .nil⟩ ?_ ?_
  · rintro i v I oI C oC D m₂ ys nw h tk E' hlt hv ⟨rfl, hys⟩ hC hx F6 N6 off ne
    obtain ⟨z, t, rfl, hz9⟩ := hI.at i v (by simpa using hv)
    have hzz := hz z (List.mem_of_getElem? hz9)
    (repeat' (first | (k_unfold; (try dsimp only)) | (k_end; wrow_close) | walk1 | (dsimp only; walk1) | (leave1; walk_say "STEP leave1"; try dsimp only) | fail "no step"))
    refine LCg.CompEnd.intro (by k_asm) N6 _ (fun p hp => hp) off (.inr ⟨_, hl, rfl, _, rfl⟩) ⟨rfl, ?_⟩
    rw [take_succ_of hz9, List.map_append]
    exact strs_snoc hys
  · rintro ys nw ⟨rfl, hys⟩
    rw [show szs.take us0.toArray.size = szs by rw [List.size_toArray, hil]; exact List.take_length] at hys
    intro D h tk F6 N6 off
    (repeat' (first | (k_unfold; (try dsimp only)) | (k_end; wrow_close) | (first | (k_here; (with_reducible show wpAny _ _ (call (Value.ref 172) _) _ _ _); with_reducible refine holdIt ?_) | walk1) | (dsimp only; (first | (k_here; (with_reducible show wpAny _ _ (call (Value.ref 172) _) _ _ _); with_reducible refine holdIt ?_) | walk1)) | (leave1; walk_say "STEP leave1"; try dsimp only) | fail "no step"))
    unfold Hold
    refine Spec.use (agents_ok w D ys _ _ letter t5 sb _ (.head _) hys (by rw [List.length_map]; omega) ?_) (by k_asm) (by k_asm) (by k_asm) (by k_asm) (by k_asm) rfl (by ktr_room) (by ktr_units) ?_
    · intro n hn9
      obtain ⟨z, hz9, rfl⟩ := List.mem_map.mp hn9
      have := hz z hz9
      exact Nat.le_trans (text_short (n := z) (by omega) (by omega)) (by decide)
    rintro r A3 h13 tk13 F13 N13 ⟨a3, vs3, k3', rfl, rfl, hf3, hs3⟩
    rw [← hA] at hs3
    (repeat' (first | (k_unfold; (try dsimp only)) | (k_end; wrow_close) | (first | ((with_reducible show wpAny _ _ (compareOp CmpOp.NotEq (Value.ref _) (Value.ref _)) _ _ _); (with_reducible refine holdIt ?_)) | walk1) | (dsimp only; (first | ((with_reducible show wpAny _ _ (compareOp CmpOp.NotEq (Value.ref _) (Value.ref _)) _ _ _); (with_reducible refine holdIt ?_)) | walk1)) | (leave1; walk_say "STEP leave1"; try dsimp only) | fail "no step"))
    unfold Hold
    refine ne_strs N13 (.tail _ (.tail _ h3)) (.head _) h5 hs3 hok (by units_room) ?_
    replace N13 := newsSub N13 fun p hp => List.Mem.tail _ (List.Mem.tail _ hp)
    (repeat' (first | (k_unfold; (try dsimp only)) | (k_end; wrow_close) | (first | (k_here; (with_reducible show wpAny _ _ (call (Value.ref 49) _) _ _ _); with_reducible refine holdIt ?_) | walk1) | (dsimp only; (first | (k_here; (with_reducible show wpAny _ _ (call (Value.ref 49) _) _ _ _); with_reducible refine holdIt ?_) | walk1)) | (leave1; walk_say "STEP leave1"; try dsimp only) | fail "no step"))
    unfold Hold
    refine Spec.use (appN_ok w x ags rv _ hW) (by k_asm) (by k_asm) (by k_asm) (by k_asm) (by k_asm) rfl (by ktr_room) (by ktr_units) ?_
    rintro r A4 h14 tk14 F14 N14 ⟨rfl, rfl⟩
    rw [hS]
    (try clear N13); (try clear F13); (try clear N6); (try clear F6); (try clear N5); (try clear F5)
    have N15 := N14
    clear N14
    (repeat' (first | (k_unfold; (try dsimp only)) | (k_end; wrow_close) | (first | ((with_reducible show wpAny _ _ (pyIter (Value.ref _)) _ _ _); (with_reducible refine holdIt ?_)) | walk1) | (dsimp only; (first | ((with_reducible show wpAny _ _ (pyIter (Value.ref _)) _ _ _); (with_reducible refine holdIt ?_)) | walk1)) | (leave1; walk_say "STEP leave1"; try dsimp only) | fail "no step"))
    all_goals (try (exact absurd (by assumption : (sb != sb) = true) (by simp)))
    unfold Hold
    rename IsRange _ _ _ _ _ _ _ _ => rg
    refine' loopRange (σ := Unit) (fun _ => A4) (fun _ => []) [Str.ofString "ahead", Str.ofString "behind", Str.ofString "name"] (fun I i _ => True) (fun _ => True) () rfl rg (small_one (by omega) (by omega) (by omega) (by omega)) (n := 5) rfl (by k_asm) (by k_asm) ?hk ?hp ?turn ?done ?fin
    case hk => kst_all
    case hp => exact fun _ _ => trivial
    case done => exact fun _ _ _ => trivial
    case turn =>
      rintro I hI c i t u h tk o hi5 hP hne F' N' s₁ rfl
      dsimp only [kstB] at F'
      have hz1 : 1 ≤ 1 + (i : Int) ∧ 1 + (i : Int) ≤ 5 := by omega
      have hWc := hW.mono (fun p hp => (.tail _ hp : p ∈ (I, o) :: A4))
      have hRc := hR.mono (fun p hp => (.tail _ hp : p ∈ (I, o) :: A4))
      have hlc := (.tail _ hl : _ ∈ (I, o) :: A4)
      have m1 := (.tail _ h1 : _ ∈ (I, o) :: A4)
      have m2 := (.tail _ h2 : _ ∈ (I, o) :: A4)
      clear hret
      (repeat' (first | (k_unfold; (try dsimp only)) | (k_end; wrow_close) | (first | (k_here; (with_reducible show wpAny _ _ (call (Value.ref 56) _) _ _ _); with_reducible refine holdIt ?_) | walk1) | (dsimp only; (first | (k_here; (with_reducible show wpAny _ _ (call (Value.ref 56) _) _ _ _); with_reducible refine holdIt ?_) | walk1)) | (leave1; walk_say "STEP leave1"; try dsimp only) | fail "no step"))
      unfold Hold
      refine Spec.use (all_ok w x ags rv rules (1 + (i : Int)) t _ hWc hRc hz1 (fun r hr => hbd r hr _ hz1)) (by k_asm) (by k_asm) (by k_asm) (by k_asm) (by k_asm) rfl (by ktr_room) (by ktr_units) ?_
      rintro r A5 h15 tk15 F15 N15 ⟨e15, t15, rfl⟩
      rw [e15] at N15
      clear e15
      rw [hAl _ hz1]
      dsimp only [alVal]
      by_cases hmem : 1 + (i : Int) ∈ szs
      · rw [if_pos hmem]
        (repeat' (first | (k_unfold; (try dsimp only)) | (k_end; wrow_close) | (first | (k_here; (with_reducible show wpAny _ _ (compareOp CmpOp.In (Value.int _ _) (Value.ref _)) _ _ _); k_dflt (refine' inI ?N ?m ?s ?_; (case N => k_asm); (case m => k_mem); (case s => assumption); k_whole)) | walk1) | (dsimp only; (first | (k_here; (with_reducible show wpAny _ _ (compareOp CmpOp.In (Value.int _ _) (Value.ref _)) _ _ _); k_dflt (refine' inI ?N ?m ?s ?_; (case N => k_asm); (case m => k_mem); (case s => assumption); k_whole)) | walk1)) | (leave1; walk_say "STEP leave1"; try dsimp only) | fail "no step"))
        all_goals (first | contradiction | exact absurd (by assumption : (letter != letter) = true) (by simp) | skip)
        have h3 : Int.fmod (1 + (i : Int)) 3 = 0 ∨ Int.fmod (1 + (i : Int)) 3 = 1 ∨ Int.fmod (1 + (i : Int)) 3 = 2 := by rw [Int.fmod_eq_emod_of_nonneg _ (by omega)]; omega
        rcases h3 with h3 | h3 | h3
        · rw [h3]
          (repeat' (first | (k_unfold; (try dsimp only)) | (k_end; wrow_close) | (first | (k_here; (with_reducible show wpAny _ _ (call (Value.ref 49) _) _ _ _); with_reducible refine holdIt ?_) | walk1) | (dsimp only; (first | (k_here; (with_reducible show wpAny _ _ (call (Value.ref 49) _) _ _ _); with_reducible refine holdIt ?_) | walk1)) | (leave1; walk_say "STEP leave1"; try dsimp only) | fail "no step"))
          unfold Hold
          have eN : nameOf (1 + (i : Int)) = Str.ofString "tAB" ++ Str.ofString (toString (1 + (i : Int))) ++ Str.ofString "" ++ Str.ofString "/Tab1Tab2Tab3Tab4Tab5" := by unfold nameOf; rw [h3]; rfl
          have eA := hAp _ hz1
          have eL := nameLen (1 + (i : Int)) (by omega)
          rw [eN] at eA eL
          refine Spec.use (app_ok w x ags rv _ _ _ (hWc.mono (fun p hp => .tail _ (.tail _ (.tail _ (.tail _ hp))))) eL hag) (by k_asm) (by k_asm) (by k_asm) (by k_asm) (by k_asm) rfl (by ktr_room) (by ktr_units) ?_
          rintro r A7 h16 tk16 F16 N16 ⟨rfl, rfl⟩
          rw [eA]
          replace N16 := newsSub N16 (fun p hp => List.Mem.tail _ (List.Mem.tail _ (List.Mem.tail _ (List.Mem.tail _ hp))))
          (first | rw [decide_eq_true hmem] | rw [decide_eq_false hmem])
          (repeat' (first | (k_unfold; (try dsimp only)) | (k_end; wrow_close) | (first | (k_here; (with_reducible show wpAny _ _ (compareOp CmpOp.In (Value.int _ _) (Value.ref _)) _ _ _); k_dflt (refine' inI ?N ?m ?s ?_; (case N => k_asm); (case m => k_mem); (case s => assumption); k_whole)) | walk1) | (dsimp only; (first | (k_here; (with_reducible show wpAny _ _ (compareOp CmpOp.In (Value.int _ _) (Value.ref _)) _ _ _); k_dflt (refine' inI ?N ?m ?s ?_; (case N => k_asm); (case m => k_mem); (case s => assumption); k_whole)) | walk1)) | (leave1; walk_say "STEP leave1"; try dsimp only) | fail "no step"))
          all_goals (try (exact absurd (by assumption : (_ != decide (1 + (i : Int) ∈ szs)) = true) (by simp [hmem])))
          · refine' ⟨c, _, _, _, _, rfl, ?b1, ?b2, ?b3, ?b4, ?b5, ?b6, ?b7, ?b8⟩
            walk_at "mine leftb"
            case b5 => exact hne
            case b8 => trivial
        · rw [h3]
          (repeat' (first | (k_unfold; (try dsimp only)) | (k_end; wrow_close) | (first | (k_here; (with_reducible show wpAny _ _ (call (Value.ref 49) _) _ _ _); with_reducible refine holdIt ?_) | walk1) | (dsimp only; (first | (k_here; (with_reducible show wpAny _ _ (call (Value.ref 49) _) _ _ _); with_reducible refine holdIt ?_) | walk1)) | (leave1; walk_say "STEP leave1"; try dsimp only) | fail "no step"))
          unfold Hold
          have eN : nameOf (1 + (i : Int)) = Str.ofString "*tAB" ++ Str.ofString (toString (1 + (i : Int))) ++ Str.ofString "" ++ Str.ofString "/Tab1Tab2Tab3Tab4Tab5" := by unfold nameOf; rw [h3]; rfl
          have eA := hAp _ hz1
          have eL := nameLen (1 + (i : Int)) (by omega)
          rw [eN] at eA eL
          refine Spec.use (app_ok w x ags rv _ _ _ (hWc.mono (fun p hp => .tail _ (.tail _ (.tail _ (.tail _ hp))))) eL hag) (by k_asm) (by k_asm) (by k_asm) (by k_asm) (by k_asm) rfl (by ktr_room) (by ktr_units) ?_
          rintro r A7 h16 tk16 F16 N16 ⟨rfl, rfl⟩
          rw [eA]
          replace N16 := newsSub N16 (fun p hp => List.Mem.tail _ (List.Mem.tail _ (List.Mem.tail _ (List.Mem.tail _ hp))))
          (first | rw [decide_eq_true hmem] | rw [decide_eq_false hmem])
          (repeat' (first | (k_unfold; (try dsimp only)) | (k_end; wrow_close) | (first | (k_here; (with_reducible show wpAny _ _ (compareOp CmpOp.In (Value.int _ _) (Value.ref _)) _ _ _); k_dflt (refine' inI ?N ?m ?s ?_; (case N => k_asm); (case m => k_mem); (case s => assumption); k_whole)) | walk1) | (dsimp only; (first | (k_here; (with_reducible show wpAny _ _ (compareOp CmpOp.In (Value.int _ _) (Value.ref _)) _ _ _); k_dflt (refine' inI ?N ?m ?s ?_; (case N => k_asm); (case m => k_mem); (case s => assumption); k_whole)) | walk1)) | (leave1; walk_say "STEP leave1"; try dsimp only) | fail "no step"))
          all_goals (try (exact absurd (by assumption : (_ != decide (1 + (i : Int) ∈ szs)) = true) (by simp [hmem])))
          · refine' ⟨c, _, _, _, _, rfl, ?b1, ?b2, ?b3, ?b4, ?b5, ?b6, ?b7, ?b8⟩
            walk_at "mine leftb"
            case b5 => exact hne
            case b8 => trivial
        · rw [h3]
          (repeat' (first | (k_unfold; (try dsimp only)) | (k_end; wrow_close) | (first | (k_here; (with_reducible show wpAny _ _ (call (Value.ref 49) _) _ _ _); with_reducible refine holdIt ?_) | walk1) | (dsimp only; (first | (k_here; (with_reducible show wpAny _ _ (call (Value.ref 49) _) _ _ _); with_reducible refine holdIt ?_) | walk1)) | (leave1; walk_say "STEP leave1"; try dsimp only) | fail "no step"))
          unfold Hold
          have eN : nameOf (1 + (i : Int)) = Str.ofString "tAB" ++ Str.ofString (toString (1 + (i : Int))) ++ Str.ofString "*" ++ Str.ofString "/Tab1Tab2Tab3Tab4Tab5" := by unfold nameOf; rw [h3]; rfl
          have eA := hAp _ hz1
          have eL := nameLen (1 + (i : Int)) (by omega)
          rw [eN] at eA eL
          refine Spec.use (app_ok w x ags rv _ _ _ (hWc.mono (fun p hp => .tail _ (.tail _ (.tail _ (.tail _ hp))))) eL hag) (by k_asm) (by k_asm) (by k_asm) (by k_asm) (by k_asm) rfl (by ktr_room) (by ktr_units) ?_
          rintro r A7 h16 tk16 F16 N16 ⟨rfl, rfl⟩
          rw [eA]
          replace N16 := newsSub N16 (fun p hp => List.Mem.tail _ (List.Mem.tail _ (List.Mem.tail _ (List.Mem.tail _ hp))))
          (first | rw [decide_eq_true hmem] | rw [decide_eq_false hmem])
          (repeat' (first | (k_unfold; (try dsimp only)) | (k_end; wrow_close) | (first | (k_here; (with_reducible show wpAny _ _ (compareOp CmpOp.In (Value.int _ _) (Value.ref _)) _ _ _); k_dflt (refine' inI ?N ?m ?s ?_; (case N => k_asm); (case m => k_mem); (case s => assumption); k_whole)) | walk1) | (dsimp only; (first | (k_here; (with_reducible show wpAny _ _ (compareOp CmpOp.In (Value.int _ _) (Value.ref _)) _ _ _); k_dflt (refine' inI ?N ?m ?s ?_; (case N => k_asm); (case m => k_mem); (case s => assumption); k_whole)) | walk1)) | (leave1; walk_say "STEP leave1"; try dsimp only) | fail "no step"))
          all_goals (try (exact absurd (by assumption : (_ != decide (1 + (i : Int) ∈ szs)) = true) (by simp [hmem])))
          · refine' ⟨c, _, _, _, _, rfl, ?b1, ?b2, ?b3, ?b4, ?b5, ?b6, ?b7, ?b8⟩
            walk_at "mine leftb"
            case b5 => exact hne
            case b8 => trivial
      · rw [if_neg hmem]
        (repeat' (first | (k_unfold; (try dsimp only)) | (k_end; wrow_close) | (first | (k_here; (with_reducible show wpAny _ _ (compareOp CmpOp.In (Value.int _ _) (Value.ref _)) _ _ _); k_dflt (refine' inI ?N ?m ?s ?_; (case N => k_asm); (case m => k_mem); (case s => assumption); k_whole)) | walk1) | (dsimp only; (first | (k_here; (with_reducible show wpAny _ _ (compareOp CmpOp.In (Value.int _ _) (Value.ref _)) _ _ _); k_dflt (refine' inI ?N ?m ?s ?_; (case N => k_asm); (case m => k_mem); (case s => assumption); k_whole)) | walk1)) | (leave1; walk_say "STEP leave1"; try dsimp only) | fail "no step"))
        all_goals (first | contradiction | skip)
        have h3 : Int.fmod (1 + (i : Int)) 3 = 0 ∨ Int.fmod (1 + (i : Int)) 3 = 1 ∨ Int.fmod (1 + (i : Int)) 3 = 2 := by rw [Int.fmod_eq_emod_of_nonneg _ (by omega)]; omega
        rcases h3 with h3 | h3 | h3
        · rw [h3]
          (repeat' (first | (k_unfold; (try dsimp only)) | (k_end; wrow_close) | (first | (k_here; (with_reducible show wpAny _ _ (call (Value.ref 49) _) _ _ _); with_reducible refine holdIt ?_) | walk1) | (dsimp only; (first | (k_here; (with_reducible show wpAny _ _ (call (Value.ref 49) _) _ _ _); with_reducible refine holdIt ?_) | walk1)) | (leave1; walk_say "STEP leave1"; try dsimp only) | fail "no step"))
          unfold Hold
          have eN : nameOf (1 + (i : Int)) = Str.ofString "tAB" ++ Str.ofString (toString (1 + (i : Int))) ++ Str.ofString "" ++ Str.ofString "/Tab1Tab2Tab3Tab4Tab5" := by unfold nameOf; rw [h3]; rfl
          have eA := hAp _ hz1
          have eL := nameLen (1 + (i : Int)) (by omega)
          rw [eN] at eA eL
          refine Spec.use (app_ok w x ags rv _ _ _ (hWc.mono (fun p hp => .tail _ (.tail _ (.tail _ (.tail _ hp))))) eL hag) (by k_asm) (by k_asm) (by k_asm) (by k_asm) (by k_asm) rfl (by ktr_room) (by ktr_units) ?_
          rintro r A7 h16 tk16 F16 N16 ⟨rfl, rfl⟩
          rw [eA]
          replace N16 := newsSub N16 (fun p hp => List.Mem.tail _ (List.Mem.tail _ (List.Mem.tail _ (List.Mem.tail _ hp))))
          (first | rw [decide_eq_true hmem] | rw [decide_eq_false hmem])
          (repeat' (first | (k_unfold; (try dsimp only)) | (k_end; wrow_close) | (first | (k_here; (with_reducible show wpAny _ _ (compareOp CmpOp.In (Value.int _ _) (Value.ref _)) _ _ _); k_dflt (refine' inI ?N ?m ?s ?_; (case N => k_asm); (case m => k_mem); (case s => assumption); k_whole)) | walk1) | (dsimp only; (first | (k_here; (with_reducible show wpAny _ _ (compareOp CmpOp.In (Value.int _ _) (Value.ref _)) _ _ _); k_dflt (refine' inI ?N ?m ?s ?_; (case N => k_asm); (case m => k_mem); (case s => assumption); k_whole)) | walk1)) | (leave1; walk_say "STEP leave1"; try dsimp only) | fail "no step"))
          all_goals (try (exact absurd (by assumption : (_ != decide (1 + (i : Int) ∈ szs)) = true) (by simp [hmem])))
          · refine' ⟨c, _, _, _, _, rfl, ?b1, ?b2, ?b3, ?b4, ?b5, ?b6, ?b7, ?b8⟩
            walk_at "mine leftb"
            case b5 => exact hne
            case b8 => trivial
        · rw [h3]
          (repeat' (first | (k_unfold; (try dsimp only)) | (k_end; wrow_close) | (first | (k_here; (with_reducible show wpAny _ _ (call (Value.ref 49) _) _ _ _); with_reducible refine holdIt ?_) | walk1) | (dsimp only; (first | (k_here; (with_reducible show wpAny _ _ (call (Value.ref 49) _) _ _ _); with_reducible refine holdIt ?_) | walk1)) | (leave1; walk_say "STEP leave1"; try dsimp only) | fail "no step"))
          unfold Hold
          have eN : nameOf (1 + (i : Int)) = Str.ofString "*tAB" ++ Str.ofString (toString (1 + (i : Int))) ++ Str.ofString "" ++ Str.ofString "/Tab1Tab2Tab3Tab4Tab5" := by unfold nameOf; rw [h3]; rfl
          have eA := hAp _ hz1
          have eL := nameLen (1 + (i : Int)) (by omega)
          rw [eN] at eA eL
          refine Spec.use (app_ok w x ags rv _ _ _ (hWc.mono (fun p hp => .tail _ (.tail _ (.tail _ (.tail _ hp))))) eL hag) (by k_asm) (by k_asm) (by k_asm) (by k_asm) (by k_asm) rfl (by ktr_room) (by ktr_units) ?_
          rintro r A7 h16 tk16 F16 N16 ⟨rfl, rfl⟩
          rw [eA]
          replace N16 := newsSub N16 (fun p hp => List.Mem.tail _ (List.Mem.tail _ (List.Mem.tail _ (List.Mem.tail _ hp))))
          (first | rw [decide_eq_true hmem] | rw [decide_eq_false hmem])
          (repeat' (first | (k_unfold; (try dsimp only)) | (k_end; wrow_close) | (first | (k_here; (with_reducible show wpAny _ _ (compareOp CmpOp.In (Value.int _ _) (Value.ref _)) _ _ _); k_dflt (refine' inI ?N ?m ?s ?_; (case N => k_asm); (case m => k_mem); (case s => assumption); k_whole)) | walk1) | (dsimp only; (first | (k_here; (with_reducible show wpAny _ _ (compareOp CmpOp.In (Value.int _ _) (Value.ref _)) _ _ _); k_dflt (refine' inI ?N ?m ?s ?_; (case N => k_asm); (case m => k_mem); (case s => assumption); k_whole)) | walk1)) | (leave1; walk_say "STEP leave1"; try dsimp only) | fail "no step"))
          all_goals (try (exact absurd (by assumption : (_ != decide (1 + (i : Int) ∈ szs)) = true) (by simp [hmem])))
          · refine' ⟨c, _, _, _, _, rfl, ?b1, ?b2, ?b3, ?b4, ?b5, ?b6, ?b7, ?b8⟩
            walk_at "mine leftb"
            case b5 => exact hne
            case b8 => trivial
        · rw [h3]
          (repeat' (first | (k_unfold; (try dsimp only)) | (k_end; wrow_close) | (first | (k_here; (with_reducible show wpAny _ _ (call (Value.ref 49) _) _ _ _); with_reducible refine holdIt ?_) | walk1) | (dsimp only; (first | (k_here; (with_reducible show wpAny _ _ (call (Value.ref 49) _) _ _ _); with_reducible refine holdIt ?_) | walk1)) | (leave1; walk_say "STEP leave1"; try dsimp only) | fail "no step"))
          unfold Hold
          have eN : nameOf (1 + (i : Int)) = Str.ofString "tAB" ++ Str.ofString (toString (1 + (i : Int))) ++ Str.ofString "*" ++ Str.ofString "/Tab1Tab2Tab3Tab4Tab5" := by unfold nameOf; rw [h3]; rfl
          have eA := hAp _ hz1
          have eL := nameLen (1 + (i : Int)) (by omega)
          rw [eN] at eA eL
          refine Spec.use (app_ok w x ags rv _ _ _ (hWc.mono (fun p hp => .tail _ (.tail _ (.tail _ (.tail _ hp))))) eL hag) (by k_asm) (by k_asm) (by k_asm) (by k_asm) (by k_asm) rfl (by ktr_room) (by ktr_units) ?_
          rintro r A7 h16 tk16 F16 N16 ⟨rfl, rfl⟩
          rw [eA]
          replace N16 := newsSub N16 (fun p hp => List.Mem.tail _ (List.Mem.tail _ (List.Mem.tail _ (List.Mem.tail _ hp))))
          (first | rw [decide_eq_true hmem] | rw [decide_eq_false hmem])
          (repeat' (first | (k_unfold; (try dsimp only)) | (k_end; wrow_close) | (first | (k_here; (with_reducible show wpAny _ _ (compareOp CmpOp.In (Value.int _ _) (Value.ref _)) _ _ _); k_dflt (refine' inI ?N ?m ?s ?_; (case N => k_asm); (case m => k_mem); (case s => assumption); k_whole)) | walk1) | (dsimp only; (first | (k_here; (with_reducible show wpAny _ _ (compareOp CmpOp.In (Value.int _ _) (Value.ref _)) _ _ _); k_dflt (refine' inI ?N ?m ?s ?_; (case N => k_asm); (case m => k_mem); (case s => assumption); k_whole)) | walk1)) | (leave1; walk_say "STEP leave1"; try dsimp only) | fail "no step"))
          all_goals (try (exact absurd (by assumption : (_ != decide (1 + (i : Int) ∈ szs)) = true) (by simp [hmem])))
          · refine' ⟨c, _, _, _, _, rfl, ?b1, ?b2, ?b3, ?b4, ?b5, ?b6, ?b7, ?b8⟩
            walk_at "mine leftb"
            case b5 => exact hne
            case b8 => trivial
    case fin =>
      rintro c u h tk g1 F' N'
      dsimp only [kstB] at F'
      dsimp only
      (repeat' (first | (k_unfold; (try dsimp only)) | (k_end; wrow_close) | walk1 | (dsimp only; walk1) | (leave1; walk_say "STEP leave1"; try dsimp only) | fail "no step"))
      refine hret _ _ _ _ (by k_asm) (by k_asm) ⟨rfl, rfl⟩
end Mine
end

section
local macro_rules | `(tactic| walk_at "subscriptTail") => `(tactic| ((with_reducible show wpAny _ _ (subscriptTail _ _ (Value.ref _) (Value.int _ _)) _ _ _); refine' itemL ?iN ?iM ?i0 ?i1 ?i2 ?_ ?i4; (case iN => k_asm); (case iM => k_mem); (case i0 => first | omega | decide); (case i1 => first | omega | (simp only [List.length_cons, List.length_nil]; decide)); (case i2 => first | assumption | exact rfl); (case i4 => with_unfolding_all rfl)))
section
local macro_rules | `(tactic| walk_at "CompSrc") => `(tactic| (with_reducible refine holdIt ?_))
section
local macro_rules | `(tactic| walk_at "call builtin:all") => `(tactic| (with_reducible refine holdIt ?_))
section
open PySem PySem.W PyProof.Rows
namespace Mine
theorem sec_QT2 {M : Model} {A : Around} {E : Value → Shared → Prop} {s : Shared} {env : Env} {p : Pos} {Q : Flow → Shared → Prop} (h : Q .next s) : wpAny M A (exec (.Pass p) env) Q E s := by
  w_top off
  k_with_none
  walk1
  exact h
end Mine
end
section
open PySem PySem.W PyProof.Rows
set_option maxRecDepth 100000
set_option maxHeartbeats 1000000
namespace Mine
/-- what _law_keeps asks of a record -/
structure KeepsOk (ags : List Str) (rules : List ((Int → Int) × Str)) (szs : List Int) (letter : Str) (sb : Bool) : Prop where
  hn : szs.length ≤ 10
  hz : ∀ z ∈ szs, 1 ≤ z ∧ z ≤ 5
  hA : ags = lawAgents (szs.map strN) letter sb
  hS : hasS ags (Str.ofString "*") = sb
  hbd : ∀ r ∈ rules, ∀ q, 1 ≤ q ∧ q ≤ 5 → 0 ≤ r.1 q ∧ r.1 q ≤ 1000 ∧ r.2.length ≤ 1000
  hAl : ∀ q, 1 ≤ q ∧ q ≤ 5 → alOf rules q = some (if q ∈ szs then letter else Str.empty)
  hAp : ∀ q, 1 ≤ q ∧ q ≤ 5 → applies ags (nameOf q) = decide (q ∈ szs)
  hlt : letter.length ≤ 10
  hok : ∀ r ∈ ags, PyData.strOk r = true
  hag : ∀ g ∈ ags, g.length ≤ 1000
theorem boolsSnoc {b : Bool} : ∀ {vs : List Value} {bs : List Bool}, LSm.BoolsAre vs bs → LSm.BoolsAre (vs ++ [.bool b]) (bs ++ [b])
  | _, _, .nil => .cons _ .nil
  | _, _, .cons c r => .cons c (boolsSnoc r)
def starOf (bs : List Bool) (zs : List Int) : Bool := zs.all fun z => bs.getD z.toNat false
theorem tb2' (w : World) {dp un : Nat} {gd : Option (List Code)} {fa : Addr} {cd0 : Value} {outer : List Env} {A₀ : Around} {base h₀ : Heap} {L : Addr} {loose : List Str} {mean : ExcName → Option Value} {mg mb : Str → Option Value} {m : Str → Option Value} {s : Shared} {Q : Flow → Shared → Prop} {E : Value → Shared → Prop}
    (B : Below A₀ base outer h₀) (X : (hd.heap_39 w.params).In h₀) (T : Top topProg loose mean mg mb h₀) (hdp : dp + 9 < recursionLimit) (hu : un + 20 * 9 < cLine)
    {c1 c5 : Obj} {sa g x ls : Addr} {gvs us rv : List Value} {bs : List Bool} {zs szs : List Int} {z0 : Int} {ags : List Str} {rules : List ((Int → Int) × Str)} {ks kg ku : Nat} {led : Led} (hm1 : m (Str.ofString "record") = some (.ref x)) (hm2 : m (Str.ofString "sizes") = some (.ref ls)) (hc1 : c1.data = .cell (some (.ref sa))) (hc5 : c5.data = .cell (some (.ref g))) (k1 : (L + 1, c1) ∈ led) (k5 : (L + 1 + 1 + 1 + 1 + 1, c5) ∈ led) (kS : (sa, W.listOf (bs.map Value.bool).toArray ks) ∈ led) (hbl : bs.length = 3) (kG : (g, W.listOf gvs.toArray kg) ∈ led) (hG : IntsAre gvs zs) (hz : ∀ z ∈ zs, 0 ≤ z ∧ z ≤ 2) (hz0 : zs[0]? = some z0) (hz3 : zs.length ≤ 3) (kU : (ls, W.listOf us.toArray ku) ∈ led) (hU : IntsAre us szs) (hE : EntAt led x ags rv) (hR : RulesAt w led rv rules) (hK : KeepsOk ags rules szs (letO z0.toNat) (starOf bs zs))
    (F : Fr h₀ L s.heap m) (N : News h₀ L s.heap led)
    (hq : ∀ (h' : Heap) (tk' : Nat), Fr h₀ L h' m → News h₀ L h' led → Q .next { s with heap := h', toks := tk' }) :
    wpAny (model PySem.Challenge.rw_rs0140_01.prog w) (ktrTop dp un gd (Str.ofString "law") lawSc L fa cd0 (lawCl L) outer) (exec (bodyStmt 2) (lawEnv L fa cd0)) Q E s := by
  refine' exec_law ?e ?e2 ?_
  case e => conv => lhs; whnf
  case e2 => conv => lhs; whnf
  revert X
  k_fill
  intro X
  have hps : ∀ p ∈ [(Str.ofString "record", Value.ref x), (Str.ofString "sizes", .ref ls)], m p.1 = some p.2 := List.forall_mem_cons.mpr ⟨hm1, List.forall_mem_cons.mpr ⟨hm2, fun _ h => nomatch h⟩⟩
  replace F := frWith _ hps F
  dsimp only [kstB] at F
  have hgl := hG.length
  obtain ⟨gt, hgt⟩ := hG.get 0 z0 hz0
  have hgpos : 0 < gvs.length := (List.getElem?_eq_some_iff.mp hgt).1
  have hzz0 := hz z0 (List.mem_of_getElem? hz0)
  have hgd0 : zs.getD (Int.toNat 0) 0 = z0 := by show zs.getD 0 0 = z0; simp [List.getD_eq_getElem?_getD, hz0]
  have hlet : Txt.item (Str.ofString "abc") z0 = letO z0.toNat := by
    have := letO_item (i := z0.toNat) (by omega)
    rwa [show (0 + ((z0.toNat : Nat) : Int)) = z0 by omega] at this
  (repeat' (first | (k_unfold; (try dsimp only)) | (k_end; wrow_close) | (first | ((with_reducible show wpAny _ _ (eval (Expr.ListComp _ _ _ _) _) _ _ _); (with_reducible refine holdIt ?_)) | walk1) | (dsimp only; (first | ((with_reducible show wpAny _ _ (eval (Expr.ListComp _ _ _ _) _) _ _ _); (with_reducible refine holdIt ?_)) | walk1)) | (leave1; walk_say "STEP leave1"; try dsimp only) | fail "no step"))
  unfold Hold
  rw [hgd0, hlet]
  rename Fr _ _ _ _ => F7
  refine LCg.ListComp_U F7 rfl (by decide) rfl (by decide) rfl ?_
  (repeat' (first | (k_unfold; (try dsimp only)) | (k_end; wrow_close) | walk1 | (dsimp only; walk1) | (leave1; walk_say "STEP leave1"; try dsimp only) | fail "no step"))
  unfold Hold
  rename Fr _ _ _ _ => F8
  rename News _ _ _ _ => N8
  refine LCg.CompSrc.ledger rfl F8 N8 kG (by rw [sizeLine_eq]; simp; omega) ?_
  intro g5
  refine compBy (fun i' ys' nw => nw = led ∧ LSm.BoolsAre ys' ((zs.take i').map fun z => bs.getD z.toNat false)) ⟨rfl, .nil⟩ ?_ ?_
  · rintro i' v I' oI' C' oC' D' m₂' ys' nw h' tk' E'' hlt' hv ⟨rfl, hys'⟩ hC' hx' F9 N9 off ne
    obtain ⟨z, tz, rfl, hz9⟩ := hG.at i' v (by simpa using hv)
    have hzz := hz z (List.mem_of_getElem? hz9)
    have hbv : (bs.map Value.bool)[z.toNat]? = some (.bool (bs.getD z.toNat false)) := by
      obtain ⟨b, hb⟩ : ∃ b, bs[z.toNat]? = some b := ⟨_, List.getElem?_eq_getElem (by omega)⟩
      rw [List.getElem?_map, List.getD_eq_getElem?_getD, hb]; rfl
    have hbl' : (bs.map Value.bool).length = 3 := by rw [List.length_map]; exact hbl
    (try clear N8); (try clear F8); (try clear F7)
    (repeat' (first | (k_unfold; (try dsimp only)) | (k_end; wrow_close) | walk1 | (dsimp only; walk1) | (leave1; walk_say "STEP leave1"; try dsimp only) | fail "no step"))
    refine LCg.CompEnd.intro (by k_asm) N9 _ (fun p hp => hp) off (.inr ⟨_, kG, rfl, _, rfl⟩) ⟨rfl, ?_⟩
    rw [take_succ_of hz9, List.map_append]
    exact boolsSnoc hys'
  · rintro ys' nw ⟨rfl, hys'⟩
    intro D' h' tk' F9 N9 off
    rw [show gvs.toArray.size = zs.length by rw [List.size_toArray, hgl], List.take_length] at hys'
    (try clear N8); (try clear F8); (try clear F7)
    (repeat' (first | (k_unfold; (try dsimp only)) | (k_end; wrow_close) | walk1 | (dsimp only; walk1) | (leave1; walk_say "STEP leave1"; try dsimp only) | fail "no step"))
    unfold Hold
    refine LSm.all_bools F9 N9 rfl (N9.isList (.head _)) hys' ?_
    intro h8 tk8 F8 N8
    rw [List.all_map, show (id ∘ fun z : Int => bs.getD z.toNat false) = fun z : Int => bs.getD z.toNat false from rfl]
    replace N8 := newsSub N8 fun p hp => List.Mem.tail _ hp
    (try clear N9); (try clear F9)
    (repeat' (first | (k_unfold; (try dsimp only)) | (k_end; wrow_close) | (first | ((with_reducible show wpAny _ _ (call (Value.ref _) _) _ _ _); (with_reducible refine holdIt ?_)) | walk1) | (dsimp only; (first | ((with_reducible show wpAny _ _ (call (Value.ref _) _) _ _ _); (with_reducible refine holdIt ?_)) | walk1)) | (leave1; walk_say "STEP leave1"; try dsimp only) | fail "no step"))
    unfold Hold
    refine Spec.use (keeps_ok w x ls us szs ku (letO z0.toNat) _ (starOf bs zs) ags rv rules nw hE hR kU hU hK.hn hK.hz hK.hA hK.hS hK.hbd hK.hAl hK.hAp hK.hlt hK.hok hK.hag) (by k_asm) (by k_asm) (by k_asm) N8 (by k_asm) rfl (by ktr_room) (by ktr_units) ?_
    rintro r A7 h16 tk16 F16 N16 ⟨rfl, rfl⟩
    (try clear N8); (try clear F8)
    (repeat' (first | (k_unfold; (try dsimp only)) | (k_end; wrow_close) | walk1 | (dsimp only; walk1) | (leave1; walk_say "STEP leave1"; try dsimp only) | fail "no step"))
    rename Fr _ _ _ _ => F9
    exact hq _ _ (frBack _ hps F9) (by k_asm)
end Mine
end

end
end
section
local macro_rules | `(tactic| walk_at "CompSrcT") => `(tactic| (with_reducible refine holdIt ?_))
section
local macro_rules | `(tactic| walk_at "exec Assign cons ListComp") => `(tactic| (with_reducible refine holdIt ?_))
section
local macro_rules | `(tactic| walk_at "compareOp Eq ref ref") => `(tactic| (with_reducible refine holdIt ?_))
section
open PySem PySem.W PyProof.Rows
namespace Mine
theorem sec_QT3 {M : Model} {A : Around} {E : Value → Shared → Prop} {s : Shared} {env : Env} {p : Pos} {Q : Flow → Shared → Prop} (h : Q .next s) : wpAny M A (exec (.Pass p) env) Q E s := by
  w_top off
  k_with_none
  walk1
  exact h
end Mine
end
section
open PySem PySem.W PyProof.Rows
set_option maxRecDepth 100000
set_option maxHeartbeats 1000000
namespace Mine
section
open PySem.Spec PyProof
theorem eqv_rows_nil : ∀ rs : List (Int × Int × Int), PyData.eqv (.list (rs.map row3)) (.list ([].map row3)) = decide (rs = [])
  | [] => rfl
  | r :: t => by simp [PyData.eqv, PyData.eqvAll]
/-- is a list of rows the empty one -/
theorem eq_rows_nil {prog : Program} {w : World} {A : Around} {E : Value → Shared → Prop} {s : Shared} {h₀ : Heap} {L a b : Addr} {news led : Led} {vs : List Value} {rs : List (Int × Int × Int)} {k k' : Nat} {Q : Value → Shared → Prop} (N : News h₀ L s.heap news) (ha : (a, W.listOf vs.toArray k) ∈ news) (hb : (b, W.listOf (List.toArray []) k') ∈ news) (H : RowsAt led vs rs) (hs : ∀ p ∈ led, p ∈ news) (hu : A.units + 64 < cLine)
    (h : Q (.bool (decide (rs = []))) s) : wpAny (model prog w) A (compareOp .Eq (.ref a) (.ref b)) Q E s := by
  obtain ⟨as, r1⟩ := reads_rows N H hs
  refine eq_dataH (reads_list_at (N _ ha).1 rfl rfl r1) (reads_list_at (N _ hb).1 rfl rfl .nil) (shaped_rows rs) (shaped_rows []) hu ?_
  have e := eqv_rows_nil rs
  rw [List.map_nil] at e
  rw [e]; exact h
end
def backOf (tp : Nat → Int) (ms : List Int) (n : Nat) : List (Int × Int × Int) := ((List.range n).filter fun j => decide (tp j ≤ ms.getD j 0)).map fun j : Nat => ((j : Int) + 1, ms.getD j 0, tp j)
theorem backOf_yes {tp : Nat → Int} {ms : List Int} {i : Nat} (h : tp i ≤ ms.getD i 0) : backOf tp ms (i + 1) = backOf tp ms i ++ [((i : Int) + 1, ms.getD i 0, tp i)] := by
  unfold backOf
  rw [List.range_succ, List.filter_append, List.map_append]
  simp only [List.filter, decide_eq_true h, List.map]
theorem backOf_no {tp : Nat → Int} {ms : List Int} {i : Nat} (h : ¬ tp i ≤ ms.getD i 0) : backOf tp ms (i + 1) = backOf tp ms i := by
  unfold backOf
  rw [List.range_succ, List.filter_append, List.map_append]
  simp only [List.filter, decide_eq_false h, List.map, List.append_nil]
theorem tb3a (w : World) {dp un : Nat} {gd : Option (List Code)} {fa : Addr} {cd0 : Value} {outer : List Env} {A₀ : Around} {base h₀ : Heap} {L : Addr} {loose : List Str} {mean : ExcName → Option Value} {mg mb : Str → Option Value} {m : Str → Option Value} {s : Shared} {Q : Flow → Shared → Prop} {E : Value → Shared → Prop}
    (B : Below A₀ base outer h₀) (X : (hd.heap_39 w.params).In h₀) (T : Top topProg loose mean mg mb h₀) (hdp : dp + 9 < recursionLimit) (hu : un + 20 * 9 < cLine)
    {c5 : Obj} {g : Addr} {gvs : List Value} {zs : List Int} {kg : Nat} {led : Led} (hc5 : c5.data = .cell (some (.ref g))) (k5 : (L + 1 + 1 + 1 + 1 + 1, c5) ∈ led) (kG : (g, W.listOf gvs.toArray kg) ∈ led) (hG : IntsAre gvs zs) (hz3 : zs.length ≤ 3) (hz1 : zs.length ≠ 1)
    (F : Fr h₀ L s.heap m) (N : News h₀ L s.heap led)
    (hq : ∀ (h' : Heap) (tk' : Nat), Fr h₀ L h' m → News h₀ L h' led → Q .next { s with heap := h', toks := tk' }) :
    wpAny (model PySem.Challenge.rw_rs0140_01.prog w) (ktrTop dp un gd (Str.ofString "law") lawSc L fa cd0 (lawCl L) outer) (exec (bodyStmt 3) (lawEnv L fa cd0)) Q E s := by
  refine' exec_law ?e ?e2 ?_
  case e => conv => lhs; whnf
  case e2 => conv => lhs; whnf
  revert X
  k_fill
  intro X
  have hgl := hG.length
  (repeat' (first | (k_unfold; (try dsimp only)) | (k_end; wrow_close) | (first | (k_here; (with_reducible show wpAny _ _ (call (Value.builtin "len") [Value.ref _]) _ _ _); k_dflt (refine' lenL ?k1 ?k2 ?k3 ?_; (case k1 => k_asm); (case k2 => first | assumption | k_mem); (case k3 => omega); k_whole)) | walk1) | (dsimp only; (first | (k_here; (with_reducible show wpAny _ _ (call (Value.builtin "len") [Value.ref _]) _ _ _); k_dflt (refine' lenL ?k1 ?k2 ?k3 ?_; (case k1 => k_asm); (case k2 => first | assumption | k_mem); (case k3 => omega); k_whole)) | walk1)) | (leave1; walk_say "STEP leave1"; try dsimp only) | fail "no step"))
  exact hq _ _ F (by k_asm)
theorem tb3b (w : World) {dp un : Nat} {gd : Option (List Code)} {fa : Addr} {cd0 : Value} {outer : List Env} {A₀ : Around} {base h₀ : Heap} {L : Addr} {loose : List Str} {mean : ExcName → Option Value} {mg mb : Str → Option Value} {m : Str → Option Value} {s : Shared} {Q : Flow → Shared → Prop} {E : Value → Shared → Prop}
    (B : Below A₀ base outer h₀) (X : (hd.heap_39 w.params).In h₀) (T : Top topProg loose mean mg mb h₀) (hdp : dp + 9 < recursionLimit) (hu : un + 20 * 9 < cLine)
    {c2 c3 c4 c5 c6 : Obj} {wa x0 lo g fr ls : Addr} {ws lws gvs us fs : List Value} {q : List (List Int × Int)} {ms szs zs : List Int} {z0 : Int} {x : List Int × Int} {st0 : Ws} {kw kl kg ku kf : Nat} {led : Led} (hm1 : m (Str.ofString "sizes") = some (.ref ls)) (hc2 : c2.data = .cell (some (.ref wa))) (hc3 : c3.data = .cell (some (.ref x0))) (hc4 : c4.data = .cell (some (.ref lo))) (hc5 : c5.data = .cell (some (.ref g))) (hc6 : c6.data = .cell (some (.ref fr)))
    (k2 : (L + 1 + 1, c2) ∈ led) (k3 : (L + 1 + 1 + 1, c3) ∈ led) (k4 : (L + 1 + 1 + 1 + 1, c4) ∈ led) (k5 : (L + 1 + 1 + 1 + 1 + 1, c5) ∈ led) (k6 : (L + 1 + 1 + 1 + 1 + 1 + 1, c6) ∈ led) (kW : (wa, W.listOf ws.toArray kw) ∈ led) {q4 : List (List Int × Int)} (hW : WalksAt led ws q4) (hwl : ws.length = 4) (hW0 : WhiteAt led x0 st0) (kL : (lo, W.listOf lws.toArray kl) ∈ led) (hLw : WhitesAt led lws q) (hll : lws.length = 3) (kG : (g, W.listOf gvs.toArray kg) ∈ led) (hG : IntsAre gvs zs) (hz1 : zs.length = 1) (hz0 : zs[0]? = some z0) (hzz0 : 0 ≤ z0 ∧ z0 ≤ 2) (hx : q[z0.toNat]? = some x) (kU : (ls, W.listOf us.toArray ku) ∈ led) (hU : IntsAre us szs) (kF : (fr, W.listOf fs.toArray kf) ∈ led) (hF : IntsAre fs ms) (hml : ms.length = 5)
    (hrw : witOf (stOf x.1 x.2) st0 = backOf (colAt q4 0) ms 5) (hl1 : lessOf st0 (stOf x.1 x.2) = decide (szs = [])) (hl2 : lessOf (stOf x.1 x.2) st0 = decide (backOf (colAt q4 0) ms 5 = []))
    (F : Fr h₀ L s.heap m) (N : News h₀ L s.heap led)
    (hq : ∀ (h' : Heap) (tk' : Nat) (m' : Str → Option Value), Fr h₀ L h' m' → (∀ y, y ∉ [Str.ofString "low", Str.ofString "back"] → m' y = m y) → News h₀ L h' led → Q .next { s with heap := h', toks := tk' }) :
    wpAny (model PySem.Challenge.rw_rs0140_01.prog w) (ktrTop dp un gd (Str.ofString "law") lawSc L fa cd0 (lawCl L) outer) (exec (bodyStmt 3) (lawEnv L fa cd0)) Q E s := by
  refine' exec_law ?e ?e2 ?_
  case e => conv => lhs; whnf
  case e2 => conv => lhs; whnf
  revert X
  k_fill
  intro X
  have hps : ∀ p ∈ [(Str.ofString "sizes", Value.ref ls)], m p.1 = some p.2 := List.forall_mem_cons.mpr ⟨hm1, fun _ h => nomatch h⟩
  replace F := frWith _ hps F
  dsimp only [kstB] at F
  have hgl := hG.length
  have hul := hU.length
  have hfl := hF.length
  have hgd0 : zs.getD (Int.toNat 0) 0 = z0 := by show zs.getD 0 0 = z0; simp [List.getD_eq_getElem?_getD, hz0]
  obtain ⟨yv, hlv⟩ : ∃ v, lws[z0.toNat]? = some v := ⟨_, List.getElem?_eq_getElem (by omega)⟩
  obtain ⟨y, x', rfl, hx', hWy⟩ := hLw _ _ hlv
  obtain rfl : x = x' := by rw [hx] at hx'; exact Option.some.inj hx'
  have hlv' : lws[(zs.getD (Int.toNat 0) 0).toNat]? = some (.ref y) := by rw [hgd0]; exact hlv
  obtain ⟨d, xs, kd, hwz, hmd, hxl, hcol⟩ := hW.col hwl (z := 0) (by omega) (by omega)
  (repeat' (first | (k_unfold; (try dsimp only)) | (k_end; wrow_close) | (first | (k_here; (with_reducible show wpAny _ _ (call (Value.builtin "len") [Value.ref _]) _ _ _); k_dflt (refine' lenL ?k1 ?k2 ?k3 ?_; (case k1 => k_asm); (case k2 => first | assumption | k_mem); (case k3 => omega); k_whole)) | walk1) | (dsimp only; (first | (k_here; (with_reducible show wpAny _ _ (call (Value.builtin "len") [Value.ref _]) _ _ _); k_dflt (refine' lenL ?k1 ?k2 ?k3 ?_; (case k1 => k_asm); (case k2 => first | assumption | k_mem); (case k3 => omega); k_whole)) | walk1)) | (leave1; walk_say "STEP leave1"; try dsimp only) | fail "no step"))
  unfold Hold
  rename Fr _ _ _ _ => F9
  refine LCt.Assign_ListComp_T F9 rfl ?sw rfl (by decide) rfl (by decide) rfl rfl rfl ?_
  case sw => with_unfolding_all rfl
  (repeat' (first | (k_unfold; (try dsimp only)) | (k_end; wrow_close) | walk1 | (dsimp only; walk1) | (leave1; walk_say "STEP leave1"; try dsimp only) | fail "no step"))
  unfold Hold
  rename IsRange _ _ _ _ _ _ _ _ => rg
  refine LCt.CompSrcT.range rfl (by k_asm) (by k_asm) rg (small_one (by omega) (by omega) (by omega) (by omega)) (n := 5) rfl (by rw [sizeLine_eq]; decide) ?_
  intro g5
  refine compTBy (fun i ys nw => ∃ tl, nw = tl ++ led ∧ RowsAt tl ys (backOf (colAt q4 0) ms i)) ⟨[], rfl, .nil⟩ ?_ ?_
  · rintro i v I oI C oC D m₂ ys nw h tk E' hlt ⟨t, rfl⟩ ⟨tl, rfl, hys⟩ hC hx F6 N6 off ne
    obtain ⟨tc, hxi⟩ := hcol i hlt
    have hxi' : xs[(0 + (i : Int)).toNat]? = some (.int (colAt q4 0 i) tc) := by rw [show (0 + (i : Int)).toNat = i by omega]; exact hxi
    have hmd' : (d, W.listOf xs.toArray kd) ∈ tl ++ led := memR hmd
    have k2' : (L + 1 + 1, c2) ∈ tl ++ led := memR k2
    have k6' : (L + 1 + 1 + 1 + 1 + 1 + 1, c6) ∈ tl ++ led := memR k6
    have kW' : (wa, W.listOf ws.toArray kw) ∈ tl ++ led := memR kW
    have kF' : (fr, W.listOf fs.toArray kf) ∈ tl ++ led := memR kF
    (repeat' (first | (k_unfold; (try dsimp only)) | (k_end; wrow_close) | walk1 | (dsimp only; walk1) | (leave1; walk_say "STEP leave1"; try dsimp only) | fail "no step"))
    · rename _ ≤ List.getD _ _ _ => hle
      rename Fr _ _ _ _ => F7
      rename News _ _ _ _ => N7
      rename_i T2 D7 _ l7
      rw [show (0 + (i : Int)).toNat = i by omega] at hle N7
      refine LCg.CompEnd.intro F7 N7 ((D7, tupObj #[.int (0 + (i : Int) + 1) (tk + 1 + 1), .int (ms.getD i 0) T2, .int (colAt q4 0 i) tc] 0) :: (tl ++ led)) (fun p hp => ?_) ⟨⟨Nat.ne_of_gt l7.1, Nat.ne_of_gt l7.2.1, Nat.ne_of_gt l7.2.2.1⟩, off⟩ trivial ⟨(D7, tupObj #[.int (0 + (i : Int) + 1) (tk + 1 + 1), .int (ms.getD i 0) T2, .int (colAt q4 0 i) tc] 0) :: tl, rfl, ?_⟩
      · simp only [List.mem_cons] at hp ⊢; grind
      · rw [backOf_yes hle, show ((i : Int) + 1) = 0 + (i : Int) + 1 by omega]
        exact (hys.mono fun p hp => .tail _ hp).snoc (.head _)
    · rename ¬ _ ≤ List.getD _ _ _ => hle
      rw [show (0 + (i : Int)).toNat = i by omega] at hle
      exact LCg.CompEnd.intro (by k_asm) N6 _ (fun p hp => hp) off trivial ⟨tl, rfl, by rw [backOf_no hle]; exact hys⟩
  · rintro ys nw ⟨tl, rfl, hys⟩
    intro D h tk F7 N7 h1
    have sK : ∀ p ∈ led, p ∈ (D, LCg.lst ys) :: (tl ++ led) := fun p hp => .tail _ (memR hp)
    have k3' := sK _ k3
    have hWy' := hWy.mono sK
    have hW0' := hW0.mono sK
    refine hWy'.el fun d1 _ _ _ _ _ _ _ _ _ _ _ _ _ _ _ _ _ _ _ _ _ q1 q2 _ _ _ _ _ _ => ?_
    refine hW0'.el fun d2 _ _ _ _ _ _ _ _ _ _ _ _ _ _ _ _ _ _ _ _ _ q3 q4' _ _ _ _ _ _ => ?_
    clear hcol
    (try clear N7_1)
    (repeat' (first | (k_unfold; (try dsimp only)) | (k_end; wrow_close) | (first | ((with_reducible show wpAny _ _ (call (Value.ref _) _) _ _ _); (with_reducible refine holdIt ?_)) | walk1) | (dsimp only; (first | ((with_reducible show wpAny _ _ (call (Value.ref _) _) _ _ _); (with_reducible refine holdIt ?_)) | walk1)) | (leave1; walk_say "STEP leave1"; try dsimp only) | fail "no step"))
    unfold Hold
    refine Spec.use (not_ok w y x0 (stOf x.1 x.2) st0 _ hWy' hW0') (by k_asm) (by k_asm) (by k_asm) N7 (by k_asm) rfl (by ktr_room) (by ktr_units) ?_
    rintro r A1 h5 tk5 F5 N5 ⟨tl3, rfl, hn3, a, vs, k, rfl, hma, hrws⟩
    replace hrws : RowsAt tl3 vs (witOf (stOf x.1 x.2) st0) := hrws
    rw [hrw] at hrws
    (repeat' (first | (k_unfold; (try dsimp only)) | (k_end; wrow_close) | (first | ((with_reducible show wpAny _ _ (compareOp CmpOp.NotEq (Value.ref _) (Value.ref _)) _ _ _); (with_reducible refine holdIt ?_)) | walk1) | (dsimp only; (first | ((with_reducible show wpAny _ _ (compareOp CmpOp.NotEq (Value.ref _) (Value.ref _)) _ _ _); (with_reducible refine holdIt ?_)) | walk1)) | (leave1; walk_say "STEP leave1"; try dsimp only) | fail "no step"))
    unfold Hold
    refine ne_rows N5 (memL hma) (memR (.head _)) hrws hys (fun p hp => memL hp) (fun p hp => memR (.tail _ (memL hp))) (by units_room) ?_
    replace N5 := newsSub N5 fun p hp => memR hp
    clear hrws hma hn3
    (repeat' (first | (k_unfold; (try dsimp only)) | (k_end; wrow_close) | (first | ((with_reducible show wpAny _ _ (call (Value.ref _) _) _ _ _); (with_reducible refine holdIt ?_)) | walk1) | (dsimp only; (first | ((with_reducible show wpAny _ _ (call (Value.ref _) _) _ _ _); (with_reducible refine holdIt ?_)) | walk1)) | (leave1; walk_say "STEP leave1"; try dsimp only) | fail "no step"))
    unfold Hold
    refine Spec.use (less_ok w x0 y st0 (stOf x.1 x.2) _ hW0' hWy') (by k_asm) (by k_asm) (by k_asm) N5 (by k_asm) rfl (by ktr_room) (by ktr_units) ?_
    rintro r A2 h6 tk6 F6 N6 ⟨rfl, rfl⟩
    rw [hl1]
    (try clear N5); (try clear F5)
    (repeat' (first | (k_unfold; (try dsimp only)) | (k_end; wrow_close) | walk1 | (dsimp only; walk1) | (leave1; walk_say "STEP leave1"; try dsimp only) | fail "no step"))
    unfold Hold
    rename News _ _ _ _ => N8
    refine ke_eq_ints (ys := []) (N8.isList (.tail _ (sK _ kU))) (N8.isList (.head _)) hU .nil (by units_room) ?_
    replace N8 := newsSub N8 fun p hp => List.Mem.tail _ hp
    (repeat' (first | (k_unfold; (try dsimp only)) | (k_end; wrow_close) | (first | ((with_reducible show wpAny _ _ (call (Value.ref _) _) _ _ _); (with_reducible refine holdIt ?_)) | walk1) | (dsimp only; (first | ((with_reducible show wpAny _ _ (call (Value.ref _) _) _ _ _); (with_reducible refine holdIt ?_)) | walk1)) | (leave1; walk_say "STEP leave1"; try dsimp only) | fail "no step"))
    unfold Hold
    refine Spec.use (less_ok w y x0 (stOf x.1 x.2) st0 _ hWy' hW0') (by k_asm) (by k_asm) (by k_asm) N8 (by k_asm) rfl (by ktr_room) (by ktr_units) ?_
    rintro r A3 h7 tk7 F7 N9 ⟨rfl, rfl⟩
    rw [hl2]
    (try clear N8); (try clear N6); (try clear F6)
    (repeat' (first | (k_unfold; (try dsimp only)) | (k_end; wrow_close) | walk1 | (dsimp only; walk1) | (leave1; walk_say "STEP leave1"; try dsimp only) | fail "no step"))
    unfold Hold
    rename News _ _ _ _ => N8
    refine eq_rows_nil N8 (.tail _ (.head _)) (.head _) hys (fun p hp => .tail _ (.tail _ (memL hp))) (by units_room) ?_
    replace N8 := newsSub N8 fun p hp => List.Mem.tail _ hp
    (repeat' (first | (k_unfold; (try dsimp only)) | (k_end; wrow_close) | walk1 | (dsimp only; walk1) | (leave1; walk_say "STEP leave1"; try dsimp only) | fail "no step"))
    rename Fr _ _ _ _ => F10
    refine hq _ _ _ F10 (fun z hz => ?_) (newsSub N8 sK)
    simp only [List.mem_cons, List.not_mem_nil, or_false, not_or] at hz
    dsimp +zetaDelta only
    rw [if_neg hz.2, if_neg hz.1]
    split <;> first | rfl | (subst_vars; exact hm1.symm)
end Mine
end

section
open PySem PySem.W PyProof.Rows
namespace Mine
theorem sec_QT4 {M : Model} {A : Around} {E : Value → Shared → Prop} {s : Shared} {env : Env} {p : Pos} {Q : Flow → Shared → Prop} (h : Q .next s) : wpAny M A (exec (.Pass p) env) Q E s := by
  w_top off
  k_with_none
  walk1
  exact h
end Mine
end
section
open PySem PySem.W PyProof.Rows
set_option maxRecDepth 100000
set_option maxHeartbeats 1000000
namespace Mine
theorem forLen : forBody.length = 4 := by rfl
theorem body_step {k : Nat} {M : Model} {A : Around} {env : Env} {Q : Flow → Shared → Prop} {E : Value → Shared → Prop} {s : Shared} (hk : k < 4) (h : wpAny M A (exec (bodyStmt k) env) (fun f s' => match f with | .next => wpAny M A (execs (forBody.drop (k + 1)) env) Q E s' | f => Q f s') E s) : wpAny M A (execs (forBody.drop k) env) Q E s := by
  have e : forBody.drop k = bodyStmt k :: forBody.drop (k + 1) := by
    unfold bodyStmt
    rw [← forLen] at hk
    rw [List.drop_eq_getElem_cons hk, List.getElem?_eq_getElem hk]
    rfl
  rw [e]; exact wpAny_execs_cons h
/-- what one turn asks of the plain law -/
def TurnOk (st0 : Ws) (q4 q : List (List Int × Int)) (bs : List Bool) (ags : List Str) (rules : List ((Int → Int) × Str)) (zs : List Int) : Prop :=
  ∀ ms : List Int, ms.length = 5 → FarOk q4 zs ms → KeepsOk ags rules (szOf (colAt q4 0) ms 5) (letO (zs.getD 0 0).toNat) (starOf bs zs) ∧
    (zs.length = 1 → ∀ x, q[(zs.getD 0 0).toNat]? = some x → witOf (stOf x.1 x.2) st0 = backOf (colAt q4 0) ms 5 ∧ lessOf st0 (stOf x.1 x.2) = decide (szOf (colAt q4 0) ms 5 = []) ∧ lessOf (stOf x.1 x.2) st0 = decide (backOf (colAt q4 0) ms 5 = []))
theorem turn9 (w : World) {dp un : Nat} {gd : Option (List Code)} {fa : Addr} {cd0 : Value} {outer : List Env} {A₀ : Around} {base h₀ : Heap} {L : Addr} {loose : List Str} {mean : ExcName → Option Value} {mg mb : Str → Option Value} {m : Str → Option Value} {s : Shared} {Q : Flow → Shared → Prop} {E : Value → Shared → Prop}
    (B : Below A₀ base outer h₀) (X : (hd.heap_39 w.params).In h₀) (T : Top topProg loose mean mg mb h₀) (hdp : dp + 9 < recursionLimit) (hu : un + 20 * 9 < cLine)
    {c1 c2 c3 c4 c5 c6 : Obj} {sa wa x0 lo g xr : Addr} {ws lws gvs rv : List Value} {bs : List Bool} {q4 q : List (List Int × Int)} {zs : List Int} {st0 : Ws} {ags : List Str} {rules : List ((Int → Int) × Str)} {ks kw kl kg : Nat} {led : Led} (hm1 : m (Str.ofString "record") = some (.ref xr))
    (hc1 : c1.data = .cell (some (.ref sa))) (hc2 : c2.data = .cell (some (.ref wa))) (hc3 : c3.data = .cell (some (.ref x0))) (hc4 : c4.data = .cell (some (.ref lo))) (hc5 : c5.data = .cell (some (.ref g))) (hc6 : ∃ v, c6.data = .cell v)
    (k1 : (L + 1, c1) ∈ led) (k2 : (L + 1 + 1, c2) ∈ led) (k3 : (L + 1 + 1 + 1, c3) ∈ led) (k4 : (L + 1 + 1 + 1 + 1, c4) ∈ led) (k5 : (L + 1 + 1 + 1 + 1 + 1, c5) ∈ led)
    (kS : (sa, W.listOf (bs.map Value.bool).toArray ks) ∈ led) (hbl : bs.length = 3) (kW : (wa, W.listOf ws.toArray kw) ∈ led) (hW : WalksAt led ws q4) (hwl : ws.length = 4) (hW0 : WhiteAt led x0 st0) (kL : (lo, W.listOf lws.toArray kl) ∈ led) (hLw : WhitesAt led lws q) (hll : lws.length = 3)
    (kG : (g, W.listOf gvs.toArray kg) ∈ led) (hG : IntsAre gvs zs) (hz : ∀ z ∈ zs, 0 ≤ z ∧ z ≤ 2) (hzp : 0 < zs.length) (hz3 : zs.length ≤ 3) (hE : EntAt led xr ags rv) (hR : RulesAt w led rv rules) (hOk : TurnOk st0 q4 q bs ags rules zs) (hne : ∀ p ∈ led, p.1 ≠ L + 1 + 1 + 1 + 1 + 1 + 1)
    (F : Fr h₀ L s.heap m) (N : News h₀ L s.heap ((L + 1 + 1 + 1 + 1 + 1 + 1, c6) :: led))
    (hq : ∀ (c6' : Obj) (h' : Heap) (tk' : Nat) (m' : Str → Option Value), Fr h₀ L h' m' → (∀ y, y ∉ [Str.ofString "sizes", Str.ofString "low", Str.ofString "back"] → m' y = m y) → (∃ v, c6'.data = .cell v) → News h₀ L h' ((L + 1 + 1 + 1 + 1 + 1 + 1, c6') :: led) → Q .next { s with heap := h', toks := tk' }) :
    wpAny (model PySem.Challenge.rw_rs0140_01.prog w) (ktrTop dp un gd (Str.ofString "law") lawSc L fa cd0 (lawCl L) outer) (execs (forBody.drop 0) (lawEnv L fa cd0)) Q E s := by
  have hz0 : zs[0]? = some (zs.getD 0 0) := by simp [List.getD_eq_getElem?_getD, List.getElem?_eq_getElem hzp]
  refine body_step (by decide) ?_
  refine tb0 w B X T hdp hu hc2 hc5 hc6 k2 k5 kW hW hwl kG hG hz hzp hz3 hne F N ?_
  intro D us ku ms c6' h1 tk1 F1 hc6' N1 hD hU hml hfar
  show wpAny _ _ (execs (forBody.drop 1) _) _ _ _
  obtain ⟨hK, hOne⟩ := hOk ms hml hfar
  obtain ⟨l1, hl1⟩ : ∃ l1, l1 = (L + 1 + 1 + 1 + 1 + 1 + 1, c6') :: (D, W.listOf us.toArray ku) :: led := ⟨_, rfl⟩
  rw [← hl1] at N1
  have s1 : ∀ p ∈ led, p ∈ l1 := fun p hp => by rw [hl1]; exact .tail _ (.tail _ hp)
  have k6 : (L + 1 + 1 + 1 + 1 + 1 + 1, c6') ∈ l1 := by rw [hl1]; exact .head _
  have kU : (D, W.listOf us.toArray ku) ∈ l1 := by rw [hl1]; exact .tail _ (.head _)
  refine body_step (by decide) ?_
  refine tb1' w B X T hdp hu hc2 hc6' (s1 _ k2) k6 (s1 _ kW) (hW.mono s1) hwl kU hU hml F1 N1 ?_
  intro D2 ys ky h2 tk2 m2 F2 hS2 N2 hY
  show wpAny _ _ (execs (forBody.drop 2) _) _ _ _
  have s2 : ∀ p ∈ led, p ∈ (D2, W.listOf (List.toArray ys) ky) :: l1 := fun p hp => .tail _ (s1 p hp)
  refine body_step (by decide) ?_
  refine tb2' w B X T hdp hu ((hS2.off _ (by decide)).trans hm1) hS2.at_ hc1 hc5 (s2 _ k1) (s2 _ k5) (s2 _ kS) hbl (s2 _ kG) hG hz hz0 hz3 (.head _) hY (hE.mono s2) (hR.mono s2) hK F2 N2 ?_
  intro h3 tk3 F3 N3
  show wpAny _ _ (execs (forBody.drop 3) _) _ _ _
  refine body_step (by decide) ?_
  have last : ∀ (h' : Heap) (tk' : Nat) (m' : Str → Option Value), Fr h₀ L h' m' → (∀ y, y ∉ [Str.ofString "low", Str.ofString "back"] → m' y = m2 y) → News h₀ L h' ((D2, W.listOf (List.toArray ys) ky) :: l1) → wpAny (model PySem.Challenge.rw_rs0140_01.prog w) (ktrTop dp un gd (Str.ofString "law") lawSc L fa cd0 (lawCl L) outer) (execs (forBody.drop 4) (lawEnv L fa cd0)) Q E { s with heap := h', toks := tk' } := by
    intro h' tk' m' F' hm' N'
    have e : forBody.drop 4 = [] := by rfl
    rw [e]
    refine wpAny_execs_nil (hq c6' h' tk' m' F' (fun y hy => ?_) ⟨_, hc6'⟩ (newsSub N' fun p hp => ?_))
    · simp only [List.mem_cons, List.not_mem_nil, or_false, not_or] at hy
      rw [hm' y (by simp [hy]), hS2.off y hy.1]
    · rw [hl1]
      simp only [List.mem_cons] at hp ⊢; grind
  by_cases h1z : zs.length = 1
  · obtain ⟨x, hx⟩ : ∃ x, q[(zs.getD 0 0).toNat]? = some x := by
      have hzz := hz _ (List.mem_of_getElem? hz0)
      obtain ⟨v, hv⟩ : ∃ v, lws[(zs.getD 0 0).toNat]? = some v := ⟨_, List.getElem?_eq_getElem (by omega)⟩
      obtain ⟨_, x, _, hx, _⟩ := hLw _ v hv
      exact ⟨x, hx⟩
    obtain ⟨o1, o2, o3⟩ := hOne h1z x hx
    refine tb3b w B X T hdp hu hS2.at_ hc2 hc3 hc4 hc5 hc6' (s2 _ k2) (s2 _ k3) (s2 _ k4) (s2 _ k5) (.tail _ k6) (s2 _ kW) (hW.mono s2) hwl (hW0.mono s2) (s2 _ kL) (hLw.mono s2) hll (s2 _ kG) hG h1z hz0 (hz _ (List.mem_of_getElem? hz0)) hx (.head _) hY (.tail _ kU) hU hml o1 o2 o3 F3 N3 ?_
    intro h4 tk4 m4 F4 hm4 N4
    exact last h4 tk4 m4 F4 hm4 N4
  · refine tb3a w B X T hdp hu hc5 (s2 _ k5) (s2 _ kG) hG hz3 h1z F3 N3 ?_
    intro h4 tk4 F4 N4
    exact last h4 tk4 m2 F4 (fun _ _ => rfl) N4
end Mine
end

section
open PySem PySem.W PyProof.Rows
namespace Mine
theorem sec_QZP {M : Model} {A : Around} {E : Value → Shared → Prop} {s : Shared} {env : Env} {p : Pos} {Q : Flow → Shared → Prop} (h : Q .next s) : wpAny M A (exec (.Pass p) env) Q E s := by
  w_top off
  k_with_none
  walk1
  exact h
end Mine
end
section
open PySem PySem.W PyProof.Rows PySem.Calls PySem.Spec
set_option maxRecDepth 100000
set_option maxHeartbeats 1000000
namespace Mine
section
variable {prog : Program} {w : World} {A : Around} {E : Value → Shared → Prop} {s : Shared}
/-- zip's next item, over any two iterators -/
theorem zipn_item {z TI TO i1 i2 l1 l2 : Addr} {k1 k2 : Nat} {xs ys : Array Value} {x y a b : Value} {At1 At2 : Nat → Heap → Prop} {Q : Value → Shared → Prop} (S1 : SubIt prog w i1 l1 xs At1) (S2 : SubIt prog w i2 l2 ys At2) (D : ZipApart z TI TO i1 i2 l1 l2)
    (hz : IsZip s.heap z TI TO .none) (hTI : IsPair s.heap TI (.ref i1) (.ref i2)) (hTO : IsPair s.heap TO a b)
    (h1 : At1 k1 s.heap) (h2 : At2 k2 s.heap) (hx : xs[k1]? = some x) (hy : ys[k2]? = some y)
    (hQ : ∀ h', IsZip h' z TI TO (rawInt s.heap.objs.size) → IsPair h' TO x y → At1 (k1 + 1) h' → At2 (k2 + 1) h' → IsPair h' s.heap.objs.size x y → h'.objs.size = s.heap.objs.size + 1 →
      (∀ c o, c ≠ z → c ≠ TO → c ≠ i1 → c ≠ i2 → s.heap.get? c = some o → h'.get? c = some o) → Q (.ref s.heap.objs.size) { s with heap := h' }) :
    wpAny (model prog w) A (Builtin.«zip.__next__» ⟨[.ref z], []⟩) (fun fin s' => ∃ v, fin = .done (.ret v) ∧ Q v s') E s := by
  show wpAny _ _ (field (.ref z) 2 >>= _) _ _ _
  refine wpAny_bind (wpAny_field hz rfl (x := .bool false) rfl ?_)
  show wpAny _ _ (field (.ref z) 3 >>= _) _ _ _
  refine wpAny_bind (wpAny_field hz rfl (x := .ref TI) rfl ?_)
  refine wpAny_bind (wpAny_seqItems hTI rfl ?_)
  show wpAny _ _ (Builtin.SmallTypes.ownedTupleIsFree (.ref z) >>= _) _ _ _
  refine wpAny_bind ?_
  unfold Builtin.SmallTypes.ownedTupleIsFree
  refine wpAny_bind (wpAny_field hz rfl (x := .none) rfl (wpAny_pure ?_))
  simp only [if_true]
  refine wpAny_bind (wpAny_rule ?_)
  refine wpAny_bind (wpAny_field hz rfl (x := .ref TO) rfl ?_)
  refine wpAny_bind (wpAny_setField_rec hz (by simp) fun h₁ hz₁ hs₁ => ?_)
  replace hz₁ : IsZip h₁ z TI TO .ellipsis := hz₁
  refine wpAny_bind ?_
  simp only [List.zipIdx_cons, List.zipIdx_nil, List.forIn_cons, List.forIn_nil]
  refine wpAny_bind (wpAny_bind (wpAny_onRaise ?_))
  show wpAny _ _ (Builtin.SmallTypes.nextOf (.ref i1) >>= _) _ _ _
  have a1 := S1.but h1 hs₁.extBut D.i1z D.l1z
  refine wpAny_bind (S1.item _ _ _ _ _ _ a1 hx fun h₂ h1₂ hs₂ => wpAny_pure ?_)
  have hTO₂ : IsPair h₂ TO a b := hs₂.extBut _ _ D.TOi1 (hs₁.extBut _ _ D.TOz hTO)
  refine wpAny_bind (wpAny_seqItems hTO₂ rfl ?_)
  refine wpAny_bind (wpAny_updateSeq_pair hTO₂ fun h₃ hTO₃ hs₃ => ?_)
  replace hTO₃ : IsPair h₃ TO x b := hTO₃
  refine wpAny_bind (wpAny_letGo (wpAny_pure ?_))
  refine wpAny_bind (wpAny_bind (wpAny_onRaise ?_))
  show wpAny _ _ (Builtin.SmallTypes.nextOf (.ref i2) >>= _) _ _ _
  have a2 := S2.but (S2.but (S2.but h2 hs₁.extBut D.i2z D.l2z) hs₂.extBut D.i12.symm D.l2i1) hs₃.extBut D.TOi2.symm D.l2TO
  refine wpAny_bind (S2.item _ _ _ _ _ _ a2 hy fun h₄ h2₄ hs₄ => wpAny_pure ?_)
  have hTO₄ : IsPair h₄ TO x b := hs₄.extBut _ _ D.TOi2 hTO₃
  refine wpAny_bind (wpAny_seqItems hTO₄ rfl ?_)
  refine wpAny_bind (wpAny_updateSeq_pair hTO₄ fun h₅ hTO₅ hs₅ => ?_)
  replace hTO₅ : IsPair h₅ TO x y := hTO₅
  refine wpAny_bind (wpAny_letGo (wpAny_pure (wpAny_pure ?_)))
  refine wpAny_bind (wpAny_seqItems hTO₅ rfl ?_)
  refine wpAny_bind (wpAny_newTuple ?_)
  have hsz : h₅.objs.size = s.heap.objs.size := by rw [hs₅.1, hs₄.1, hs₃.1, hs₂.1, hs₁.1]
  have hz₅ : IsZip h₅ z TI TO .ellipsis := hs₅.extBut _ _ D.TOz.symm (hs₄.extBut _ _ D.i2z.symm (hs₃.extBut _ _ D.TOz.symm (hs₂.extBut _ _ D.i1z.symm hz₁)))
  have hk₅ : ∀ c o, c ≠ z → c ≠ TO → c ≠ i1 → c ≠ i2 → s.heap.get? c = some o → h₅.get? c = some o := fun c o c1 c2 c3 c4 e =>
    hs₅.extBut _ _ c2 (hs₄.extBut _ _ c4 (hs₃.extBut _ _ c2 (hs₂.extBut _ _ c3 (hs₁.extBut _ _ c1 e))))
  have h1₅ : At1 (k1 + 1) h₅ := S1.but (S1.but (S1.but h1₂ hs₃.extBut D.TOi1.symm D.l1TO) hs₄.extBut D.i12 D.l1i2) hs₅.extBut D.TOi1.symm D.l1TO
  have h2₅ : At2 (k2 + 1) h₅ := S2.but h2₄ hs₅.extBut D.TOi2.symm D.l2TO
  have hzlt : z < h₅.objs.size := Heap.lt_size hz₅
  show wpAny _ _ (Builtin.SmallTypes.ownedTupleHandOut (.ref z) (.ref h₅.objs.size) >>= _) _ _ _
  refine wpAny_bind ?_
  unfold Builtin.SmallTypes.ownedTupleHandOut
  have hz₆ : IsZip (h₅.push { cls := .type "tuple", data := .seq #[x, y] }) z TI TO .ellipsis := Heap.get?_push_of_some _ hz₅
  refine wpAny_bind (wpAny_setField_rec hz₆ (by simp) fun h₇ hz₇ hs₇ => ?_)
  replace hz₇ : IsZip h₇ z TI TO (rawInt h₅.objs.size) := hz₇
  refine wpAny_setField_rec hz₇ (by simp) fun h₈ hz₈ hs₈ => ?_
  replace hz₈ : IsZip h₈ z TI TO (rawInt h₅.objs.size) := hz₈
  have up : ∀ c o, c ≠ z → h₅.get? c = some o → h₈.get? c = some o := fun c o c1 e => hs₈.extBut _ _ c1 (hs₇.extBut _ _ c1 (Heap.get?_push_of_some _ e))
  have hT₈ : IsPair h₈ h₅.objs.size x y := hs₈.extBut _ _ (Nat.ne_of_gt hzlt) (hs₇.extBut _ _ (Nat.ne_of_gt hzlt) (Heap.get?_push_size _ rfl))
  have hz8 : h₈.objs.size = h₅.objs.size + 1 := by rw [hs₈.1, hs₇.1, Heap.size_push]
  rw [hsz] at hz₈ hT₈ hz8
  refine wpAny_pure ⟨_, rfl, ?_⟩
  show Q (.ref h₅.objs.size) _
  rw [hsz]
  exact hQ h₈ hz₈ (up _ _ D.TOz hTO₅) (S1.frame _ _ _ h1₅ fun c o hc e => up _ o (by rcases hc with rfl | rfl; exact D.i1z; exact D.l1z) e) (S2.frame _ _ _ h2₅ fun c o hc e => up _ o (by rcases hc with rfl | rfl; exact D.i2z; exact D.l2z) e) hT₈ hz8 fun c o c1 c2 c3 c4 e => up c o c1 (hk₅ c o c1 c2 c3 c4 e)
theorem zipn_end {z TI TO i1 i2 l1 l2 : Addr} {k1 : Nat} {xs : Array Value} {a b : Value} {At1 : Nat → Heap → Prop} {Q : Fin → Shared → Prop} (hh : A.handled = none) (S1 : SubIt prog w i1 l1 xs At1) (D : ZipApart z TI TO i1 i2 l1 l2)
    (hz : IsZip s.heap z TI TO .none) (hTI : IsPair s.heap TI (.ref i1) (.ref i2)) (hTO : IsPair s.heap TO a b)
    (h1 : At1 k1 s.heap) (hx : xs[k1]? = none)
    (hE : ∀ h' e, (∀ c o, c ≠ z → c ≠ TO → c ≠ i1 → c ≠ i2 → s.heap.get? c = some o → h'.get? c = some o) → (∃ o, h'.get? e = some o ∧ o.cls = .type "StopIteration") → E (.ref e) { s with heap := h' }) :
    wpAny (model prog w) A (Builtin.«zip.__next__» ⟨[.ref z], []⟩) Q E s := by
  show wpAny _ _ (field (.ref z) 2 >>= _) _ _ _
  refine wpAny_bind (wpAny_field hz rfl (x := .bool false) rfl ?_)
  show wpAny _ _ (field (.ref z) 3 >>= _) _ _ _
  refine wpAny_bind (wpAny_field hz rfl (x := .ref TI) rfl ?_)
  refine wpAny_bind (wpAny_seqItems hTI rfl ?_)
  show wpAny _ _ (Builtin.SmallTypes.ownedTupleIsFree (.ref z) >>= _) _ _ _
  refine wpAny_bind ?_
  unfold Builtin.SmallTypes.ownedTupleIsFree
  refine wpAny_bind (wpAny_field hz rfl (x := .none) rfl (wpAny_pure ?_))
  simp only [if_true]
  refine wpAny_bind (wpAny_rule ?_)
  refine wpAny_bind (wpAny_field hz rfl (x := .ref TO) rfl ?_)
  refine wpAny_bind (wpAny_setField_rec hz (by simp) fun h₁ hz₁ hs₁ => ?_)
  replace hz₁ : IsZip h₁ z TI TO .ellipsis := hz₁
  refine wpAny_bind ?_
  simp only [List.zipIdx_cons, List.zipIdx_nil, List.forIn_cons, List.forIn_nil]
  refine wpAny_bind (wpAny_bind (wpAny_onRaise ?_))
  show wpAny _ _ (Builtin.SmallTypes.nextOf (.ref i1) >>= _) _ _ _
  refine wpAny_bind (S1.fin _ _ _ _ _ (by simpa using hh) (S1.but h1 hs₁.extBut D.i1z D.l1z) hx fun h₂ e hs₂ he => ?_)
  obtain ⟨oe, hoe, hce⟩ := he
  have hz₂ : IsZip h₂ z TI TO .ellipsis := hs₂ _ _ D.i1z.symm hz₁
  have hez : e ≠ z := fun x => by subst x; rw [hz₂] at hoe; cases hoe; simp at hce
  refine wpAny_setField_rec hz₂ (by simp) fun h₃ _ hs₃ => hE h₃ e (fun c o c1 _ c3 _ x => hs₃.extBut _ _ c1 (hs₂ _ _ c3 (hs₁.extBut _ _ c1 x))) ⟨oe, hs₃.extBut _ _ hez hoe, hce⟩
/-- the turns of zip over two iterators of one length -/
theorem KTurns.zip (hh : A.handled = none) {z TI TO i1 i2 l1 l2 : Addr} {xs ys : Array Value} {At1 At2 : Nat → Heap → Prop} (S1 : SubIt prog w i1 l1 xs At1) (S2 : SubIt prog w i2 l2 ys At2) (D : ZipApart z TI TO i1 i2 l1 l2) (hlen : xs.size = ys.size) {elts : List Expr} {k : Nat} {pos : Pos} :
    KTurns prog w A (.Tuple elts k pos) z [z, TI, TO, i1, i2, l1, l2] [z, TO, i1, i2] xs.size (fun i v h => ∃ T x y, v = .ref T ∧ xs[i]? = some x ∧ ys[i]? = some y ∧ h.get? T = some (tupObj #[x, y] 0) ∧ z < T)
      (fun i v h => ∃ T x y, v = .ref T ∧ xs[i]? = some x ∧ ys[i]? = some y ∧ (h.get? T = some (tupObj #[x, y] 0) ∧ z < T) ∧ IsZip h z TI TO (rawInt T) ∧ IsPair h TI (.ref i1) (.ref i2) ∧ (∃ a b, IsPair h TO a b) ∧ At1 (i + 1) h ∧ At2 (i + 1) h ∧ T ≠ z ∧ T ≠ TO ∧ T ≠ i1 ∧ T ≠ i2)
      (fun i h => IsZip h z TI TO .none ∧ IsPair h TI (.ref i1) (.ref i2) ∧ (∃ a b, IsPair h TO a b) ∧ At1 i h ∧ At2 i h) where
  sub := fun c hc => by simp at hc ⊢; rcases hc with rfl | rfl | rfl | rfl <;> simp
  frame := fun i h h' st hk => by
    obtain ⟨hz, hTI, ⟨a, b, hTO⟩, h1, h2⟩ := st
    exact ⟨hk z (by simp) _ hz, hk TI (by simp) _ hTI, ⟨a, b, hk TO (by simp) _ hTO⟩, S1.frame _ _ _ h1 fun c o hc e => hk c (by rcases hc with rfl | rfl <;> simp) o e, S2.frame _ _ _ h2 fun c o hc e => hk c (by rcases hc with rfl | rfl <;> simp) o e⟩
  item := fun i s Q E hi st hQ => by
    obtain ⟨hz, hTI, ⟨a, b, hTO⟩, h1, h2⟩ := st
    have hx : xs[i]? = some xs[i] := Array.getElem?_eq_getElem hi
    have hiy : i < ys.size := hlen ▸ hi
    have hy : ys[i]? = some ys[i] := Array.getElem?_eq_getElem hiy
    have hT : s.TypeIs (.ref z) "zip" := ⟨_, hz, rfl⟩
    have lt : ∀ {c o}, s.heap.get? c = some o → s.heap.objs.size ≠ c := fun e => Nat.ne_of_gt (Heap.lt_size e)
    unfold pyNext
    refine wpAny_bind (wpAny_attempt (wpAny_callSpecial?_slot (name := Str.ofString "__next__") hT F.slot_zip_next
      (wpAny_call_entry F.slot_zip_next hT F.entry_zip_next
        (zipn_item S1 S2 D hz hTI hTO h1 h2 hx hy fun h' a1 a2 a3 a4 a5 a6 hk => wpAny_pure (hQ (.ref s.heap.objs.size) h' s.toks
          ⟨_, _, _, rfl, hx, hy, ⟨a5, Heap.lt_size hz⟩, a1, hk _ _ D.TIz D.TITO D.TIi1 D.TIi2 hTI, ⟨_, _, a2⟩, a3, a4, lt hz, lt hTO, (by obtain ⟨_, e⟩ := S1.get _ _ h1; exact lt e), (by obtain ⟨_, e⟩ := S2.get _ _ h2; exact lt e)⟩
          fun c o hc e => hk c o (fun x => hc (by simp [x])) (fun x => hc (by simp [x])) (fun x => hc (by simp [x])) (fun x => hc (by simp [x])) e)) (F.args_zip_next_1 _))))
  go := fun i v s Q E hm hQ => by
    obtain ⟨T, x, y, rfl, hx, hy, hT, hz, hTI, ⟨a, b, hTO⟩, h1, h2, t1, t2, t3, t4⟩ := hm
    refine wpAny_letOwnedTupleGo_zip hz fun h' hz' hs' => hQ h' ⟨T, x, y, rfl, hx, hy, hs'.extBut _ _ t1 hT.1, hT.2⟩ ⟨hz', hs'.extBut _ _ D.TIz hTI, ⟨a, b, hs'.extBut _ _ D.TOz hTO⟩, S1.but h1 hs'.extBut D.i1z D.l1z, S2.but h2 hs'.extBut D.i2z D.l2z⟩ fun c o hc e => hs'.extBut _ _ (fun x => hc (by simp [x])) e
  done := fun s Q E st hQ => by
    obtain ⟨hz, hTI, ⟨a, b, hTO⟩, h1, h2⟩ := st
    have hT : s.TypeIs (.ref z) "zip" := ⟨_, hz, rfl⟩
    unfold pyNext
    refine wpAny_bind (wpAny_attempt (wpAny_callSpecial?_slot (name := Str.ofString "__next__") hT F.slot_zip_next
      (wpAny_call_entry F.slot_zip_next hT F.entry_zip_next (zipn_end hh S1 D hz hTI hTO h1 (Array.getElem?_eq_none (Nat.le_refl _)) fun h' e hk he => ?_) (F.args_zip_next_1 _))))
    obtain ⟨o, ho, hc⟩ := he
    refine wpAny_bind (wpAny_isInstance (T := "StopIteration") (b := true) ⟨o, ho, hc⟩ isSubtype_stop ?_)
    exact wpAny_pure (hQ _ _ fun c o hc e => hk c o (fun x => hc (by simp [x])) (fun x => hc (by simp [x])) (fun x => hc (by simp [x])) (fun x => hc (by simp [x])) e)
end
abbrev zlH2 (h : Heap) (l1 l2 : Addr) : Heap := (zipH1 h l1).push { cls := .type "tuple_iterator", data := .fields #[.ref l2, .int 0 0] }
abbrev zlH3 (h : Heap) (l1 l2 : Addr) : Heap := (zlH2 h l1 l2).push { cls := .type "tuple", data := .seq #[.ref h.objs.size, .ref (zipH1 h l1).objs.size] }
abbrev zlH4 (h : Heap) (l1 l2 : Addr) : Heap := (zlH3 h l1 l2).push { cls := .type "tuple", data := .seq #[.none, .none] }
abbrev zlH5 (h : Heap) (l1 l2 : Addr) : Heap := (zlH4 h l1 l2).push { cls := .type "zip", data := .fields #[.none, .bool false, .bool false, .ref (zlH2 h l1 l2).objs.size, .ref (zlH3 h l1 l2).objs.size] }
theorem meets_zip_lt (l1 l2 : Addr) (xs ys : Array Value) :
    Meets (Builtin.«zip.__new__» ⟨[.type "zip", .ref l1, .ref l2], []⟩) (fun _ R s => s.heap.IsList l1 xs ∧ s.heap.IsTuple l2 ys ∧
      R (.ok (.ret (.ref (zlH4 s.heap l1 l2).objs.size))) { s with heap := zlH5 s.heap l1 l2 }) :=
  .of_wp fun prog w A R s h => by
    obtain ⟨hp, g, d, tk, os⟩ := s; obtain ⟨hl1, hl2, h⟩ := h
    have hsub := sub_zip
    have hL1 : Heap.IsList (Shared.heap ⟨hp, g, d, tk, os⟩) l1 xs := hl1
    have hL2 : Heap.IsTuple (Shared.heap ⟨hp.push { cls := .type "list_iterator", data := .fields #[.ref l1, .int 0 0] }, g, d, tk, os⟩) l2 ys := Heap.IsTuple.at hl2 fun o e => Heap.get?_push_of_some _ e
    wp_walk using wpAny_pyIter_list hL1, wpAny_pyIter_tuple hL2
    exact ⟨_, rfl, h⟩
section
variable {prog : Program} {w : World} {A : Around} {E : Value → Shared → Prop} {s : Shared}
theorem call_zip_lt {l1 l2 : Addr} {xs ys : Array Value} {Q : Value → Shared → Prop} (hl1 : s.heap.IsList l1 xs) (hl2 : s.heap.IsTuple l2 ys)
    (h : ∀ h', IsZip h' (s.heap.objs.size + 4) (s.heap.objs.size + 2) (s.heap.objs.size + 3) .none → IsPair h' (s.heap.objs.size + 2) (.ref s.heap.objs.size) (.ref (s.heap.objs.size + 1)) →
      IsPair h' (s.heap.objs.size + 3) .none .none → h'.IsListIter s.heap.objs.size l1 0 → h'.IsTupleIter (s.heap.objs.size + 1) l2 0 → h'.objs.size = s.heap.objs.size + 5 →
      (∀ c o, s.heap.get? c = some o → h'.get? c = some o) → Q (.ref (s.heap.objs.size + 4)) { s with heap := h' }) :
    wpAny (model prog w) A (call (.type "zip") [.ref l1, .ref l2]) Q E s := by
  refine callType_new F.called_zip (by decide) (F.typeCall_zip_2 _ _) (F.newCall_zip_2 _ _) (fun obj => F.args_object_init_3 obj _ _) F.entry_zip_new
    (meets_zip_lt l1 l2 xs ys) ⟨hl1, hl2, ?_⟩
  have z1 : (zipH1 s.heap l1).objs.size = s.heap.objs.size + 1 := Heap.size_push ..
  have z2 : (zlH2 s.heap l1 l2).objs.size = s.heap.objs.size + 2 := by rw [Heap.size_push, z1]
  have z3 : (zlH3 s.heap l1 l2).objs.size = s.heap.objs.size + 3 := by rw [Heap.size_push, z2]
  have z4 : (zlH4 s.heap l1 l2).objs.size = s.heap.objs.size + 4 := by rw [Heap.size_push, z3]
  have z5 : (zlH5 s.heap l1 l2).objs.size = s.heap.objs.size + 5 := by rw [Heap.size_push, z4]
  have g5 : (zlH5 s.heap l1 l2).get? (zlH4 s.heap l1 l2).objs.size = some _ := Heap.get?_push_size _ rfl
  have g4 : (zlH5 s.heap l1 l2).get? (zlH3 s.heap l1 l2).objs.size = some _ := Heap.get?_push_of_some _ (Heap.get?_push_size _ rfl)
  have g3 : (zlH5 s.heap l1 l2).get? (zlH2 s.heap l1 l2).objs.size = some _ := Heap.get?_push_of_some _ (Heap.get?_push_of_some _ (Heap.get?_push_size _ rfl))
  have g2 : (zlH5 s.heap l1 l2).get? (zipH1 s.heap l1).objs.size = some _ := Heap.get?_push_of_some _ (Heap.get?_push_of_some _ (Heap.get?_push_of_some _ (Heap.get?_push_size _ rfl)))
  have g1 : (zlH5 s.heap l1 l2).get? s.heap.objs.size = some _ := Heap.get?_push_of_some _ (Heap.get?_push_of_some _ (Heap.get?_push_of_some _ (Heap.get?_push_of_some _ (Heap.get?_push_size _ rfl))))
  show _ ∧ _
  rw [z2, z3, z4] at g5
  rw [z1, z2] at g3
  rw [z3] at g4
  rw [z1] at g2
  rw [z4]
  exact ⟨⟨_, g5, rfl⟩, h _ g5 g3 g4 ⟨_, g1, rfl, rfl⟩ ⟨_, g2, rfl, rfl⟩ z5 fun c o x =>
    Heap.get?_push_of_some _ (Heap.get?_push_of_some _ (Heap.get?_push_of_some _ (Heap.get?_push_of_some _ (Heap.get?_push_of_some _ x))))⟩
theorem zip_apart {n l1 l2 : Addr} (h1 : l1 < n) (h2 : l2 < n) : ZipApart (n + 4) (n + 2) (n + 3) n (n + 1) l1 l2 := by
  have a1 : @LT.lt Nat _ l1 n := h1
  have a2 : @LT.lt Nat _ l2 n := h2
  constructor <;> (intro e; have e' : @Eq Nat _ _ := e; omega)
end
end Mine
end

section
open PySem PySem.W PyProof.Rows
namespace Mine
theorem sec_QZK {M : Model} {A : Around} {E : Value → Shared → Prop} {s : Shared} {env : Env} {p : Pos} {Q : Flow → Shared → Prop} (h : Q .next s) : wpAny M A (exec (.Pass p) env) Q E s := by
  w_top off
  k_with_none
  walk1
  exact h
end Mine
end
section
open PySem PySem.W PyProof.Rows PySem.Calls PySem.Spec
set_option maxRecDepth 100000
set_option maxHeartbeats 1000000
namespace Mine
abbrev zown (Z : Addr) (o4 o3 o2 o1 o0 : Obj) : Led := [(Z + 4, o4), (Z + 3, o3), (Z + 2, o2), (Z + 1, o1), (Z, o0)]
abbrev zwr (Z : Addr) : List Addr := [Z + 4, Z + 3, Z, Z + 1]
section
variable {prog : Program} {w : World} {A : Around} {E : Value → Shared → Prop} {s : Shared} {env : Env} {h₀ : Heap} {body : List Stmt} {Q : Flow → Shared → Prop}
theorem zipCore {σ : Type} {elts : List Expr} {ek : Nat} {pos : Pos} {Z l1 l2 : Addr} {lo1 lo2 : Obj} {xs ys : List Value} {At1 At2 : Nat → Heap → Prop} {m₀ : Str → Option Value} (Ld : σ → Led) (ps : σ → List (Str × Value)) (stored : List Str) (PP : Addr → Nat → σ → Prop) (Fin : σ → Prop) (Rel : Shared → Prop) (c₀ : σ)
    (hh : A.handled = none) (hlen : xs.length = ys.length) (S1 : SubIt prog w Z l1 xs.toArray At1) (S2 : SubIt prog w (Z + 1) l2 ys.toArray At2) (hm1 : ∀ c, (l1, lo1) ∈ Ld c) (hm2 : ∀ c, (l2, lo2) ∈ Ld c)
    (hz : IsZip s.heap (Z + 4) (Z + 2) (Z + 3) .none) (hTI : IsPair s.heap (Z + 2) (.ref Z) (.ref (Z + 1))) (hTO : IsPair s.heap (Z + 3) .none .none) (h1 : At1 0 s.heap) (h2 : At2 0 s.heap)
    (hLZ : env.locals < Z) (hlt : ∀ p ∈ Ld c₀, p.1 < Z)
    (hR0 : Rel s) (hRm : ∀ s' h tk, Rel s' → Rel { s' with heap := h, toks := tk })
    (F : Fr h₀ env.locals s.heap m₀) (N : News h₀ env.locals s.heap (Ld c₀)) (hk : ∀ p ∈ ps c₀, m₀ p.1 = some p.2) (hp : PP Z 0 c₀)
    (turn : ∀ (c : σ) i T x y (u : Str → Option Value) s₁ o4 o3 o2 o1 o0, xs[i]? = some x → ys[i]? = some y → PP Z i c → (∀ p ∈ Ld c, p.1 ∉ zwr Z) → @LT.lt Nat _ (Z + 4) T → Rel s₁ →
      Fr h₀ env.locals s₁.heap (kstB (fun z => if stored.contains z then u z else m₀ z) (ps c)) → News h₀ env.locals s₁.heap ((T, tupObj #[x, y] 0) :: (Z + 4, o4) :: (Z + 3, o3) :: (Z + 2, o2) :: (Z + 1, o1) :: (Z, o0) :: Ld c) →
      wpAny (model prog w) A (assign (.Tuple elts ek pos) env (.ref T)) (fun _ s₂ => wpAny (model prog w) A (execs body env) (TurnK h₀ env.locals m₀ stored Ld ps (zwr Z) (zown Z o4 o3 o2 o1 o0) Rel (PP Z (i + 1)) Fin Q) E s₂) E s₁)
    (done : ∀ c, PP Z xs.length c → Fin c)
    (fin : ∀ (c : σ) (u : Str → Option Value) s₁, Fin c → Rel s₁ → Fr h₀ env.locals s₁.heap (kstB (fun z => if stored.contains z then u z else m₀ z) (ps c)) → News h₀ env.locals s₁.heap (Ld c) → Q .next s₁) :
    LoopS prog w A env (.Tuple elts ek pos) body Q E (.ref (Z + 4)) s := by
  have hl1 : l1 < Z := hlt _ (hm1 c₀)
  have hl2 : l2 < Z := hlt _ (hm2 c₀)
  have D : ZipApart (Z + 4) (Z + 2) (Z + 3) Z (Z + 1) l1 l2 := zip_apart hl1 hl2
  have g0 : ∀ a, Z ≤ a → h₀.get? a = none := fun a ha => by
    cases q : h₀.get? a with
    | none => rfl
    | some o' => exact absurd (Nat.lt_of_lt_of_le (Heap.lt_size q) F.above) (Nat.not_lt.mpr (Nat.le_of_lt (Nat.lt_of_lt_of_le hLZ ha)))
  have eL : ∀ n, Z + n ≠ env.locals := fun n => Nat.ne_of_gt (Nat.lt_of_lt_of_le hLZ (Nat.le_add_right _ _))
  refine loopK (σ := σ) Ld ps stored (PP Z) Fin Rel c₀ (KTurns.zip (elts := elts) (k := ek) (pos := pos) hh S1 S2 D (by simpa using hlen)) ⟨hz, hTI, ⟨_, _, hTO⟩, h1, h2⟩ ?_ ?_ ?_ hR0 hRm F N ?_ hk hp ?_ (fun c h => done c (by simpa using h)) fin
  · rintro i h ⟨q1, q2, ⟨a, b, q3⟩, q4, q5⟩ x hx
    simp only [List.mem_cons, List.not_mem_nil, or_false] at hx
    rcases hx with rfl | rfl | rfl | rfl | rfl | rfl | rfl
    · exact ⟨_, q1⟩
    · exact ⟨_, q2⟩
    · exact ⟨_, q3⟩
    · exact S1.get _ _ q4
    · exact S2.get _ _ q5
    · exact S1.getS _ _ q4
    · exact S2.getS _ _ q5
  · intro hm
    simp only [List.mem_cons, List.not_mem_nil, or_false] at hm
    rcases hm with e | e | e | e | e | e | e
    · exact eL 4 e.symm
    · exact eL 2 e.symm
    · exact eL 3 e.symm
    · exact eL 0 e.symm
    · exact eL 1 e.symm
    · exact (N _ (hm1 c₀)).2.1 e.symm
    · exact (N _ (hm2 c₀)).2.1 e.symm
  · intro b hb
    simp only [List.mem_cons, List.not_mem_nil, or_false] at hb
    rcases hb with rfl | rfl | rfl | rfl
    · exact g0 _ (Nat.le_add_right _ _)
    · exact g0 _ (Nat.le_add_right _ _)
    · exact g0 _ (Nat.le_refl _)
    · exact g0 _ (Nat.le_add_right _ _)
  · intro p hp' hm
    have := hlt p hp'
    simp only [List.mem_cons, List.not_mem_nil, or_false] at hm
    have a1 : @LT.lt Nat _ p.1 Z := this
    rcases hm with e | e | e | e <;> (have e' : @Eq Nat _ _ := e; omega)
  · rintro c i v u s₁ own hi ⟨T, x, y, rfl, hx, hy, hT, hzT⟩ hPc hoff hown hall hR F₁ N₁
    have mk : ∀ b ∈ [Z + 4, Z + 3, Z + 2, Z + 1, Z], ∃ o, (b, o) ∈ own := fun b hb => by
      simp only [List.mem_cons, List.not_mem_nil, or_false] at hb
      rcases hb with rfl | rfl | rfl | rfl | rfl
      · exact hall _ (by simp) (g0 _ (Nat.le_add_right _ _))
      · exact hall _ (by simp) (g0 _ (Nat.le_add_right _ _))
      · exact hall _ (by simp) (g0 _ (Nat.le_add_right _ _))
      · exact hall _ (by simp) (g0 _ (Nat.le_add_right _ _))
      · exact hall _ (by simp) (g0 _ (Nat.le_refl _))
    obtain ⟨o4, k4⟩ := mk (Z + 4) (by simp)
    obtain ⟨o3, k3⟩ := mk (Z + 3) (by simp)
    obtain ⟨o2, k2⟩ := mk (Z + 2) (by simp)
    obtain ⟨o1, k1⟩ := mk (Z + 1) (by simp)
    obtain ⟨o0, k0⟩ := mk Z (by simp)
    have inA : ∀ p ∈ own, p ∈ Ld c ++ own := fun p hp => memR hp
    have zsub : ∀ p ∈ zown Z o4 o3 o2 o1 o0, p ∈ own := fun p hp => by
      simp only [List.mem_cons, List.not_mem_nil, or_false] at hp
      rcases hp with rfl | rfl | rfl | rfl | rfl <;> assumption
    have N₂ : News h₀ env.locals s₁.heap ((T, tupObj #[x, y] 0) :: (Z + 4, o4) :: (Z + 3, o3) :: (Z + 2, o2) :: (Z + 1, o1) :: (Z, o0) :: Ld c) := by
      refine newsCons F₁ (newsSub N₁ fun p hp => ?_) hT (Nat.lt_trans (Nat.lt_of_lt_of_le hLZ (Nat.le_add_right _ _)) hzT)
      have hz5 := zsub p
      simp only [List.mem_cons, List.not_mem_nil, or_false] at hz5 hp
      rcases hp with h | h | h | h | h | h
      · exact memR (hz5 (.inl h))
      · exact memR (hz5 (.inr (.inl h)))
      · exact memR (hz5 (.inr (.inr (.inl h))))
      · exact memR (hz5 (.inr (.inr (.inr (.inl h)))))
      · exact memR (hz5 (.inr (.inr (.inr (.inr h)))))
      · exact memL h
    have own_is : ∀ p ∈ own, p ∈ zown Z o4 o3 o2 o1 o0 ∨ ∀ c, p ∈ Ld c := by
      intro p hp
      have g := (N₁ p (memR hp)).1
      have same : ∀ {b : Addr} {o : Obj}, p.1 = b → (b, o) ∈ Ld c ++ own → p = (b, o) := fun {b o} e hm => by
        have g2 := (N₁ _ hm).1
        rw [e] at g
        exact Prod.ext e (Option.some.inj (g.symm.trans g2))
      have h7 := hown p hp
      simp only [List.mem_cons, List.not_mem_nil, or_false] at h7
      rcases h7 with e | e | e | e | e | e | e
      · exact .inl (by rw [same e (inA _ k4)]; simp)
      · exact .inl (by rw [same e (inA _ k2)]; simp)
      · exact .inl (by rw [same e (inA _ k3)]; simp)
      · exact .inl (by rw [same e (inA _ k0)]; simp)
      · exact .inl (by rw [same e (inA _ k1)]; simp)
      · exact .inr fun c' => by rw [same e (memL (hm1 c))]; exact hm1 c'
      · exact .inr fun c' => by rw [same e (memL (hm2 c))]; exact hm2 c'
    have up : ∀ {T' : σ → Prop} {s₂ : Shared}, LeftK h₀ env.locals m₀ stored Ld ps (zwr Z) (zown Z o4 o3 o2 o1 o0) Rel T' s₂ → LeftK h₀ env.locals m₀ stored Ld ps (zwr Z) own Rel T' s₂ := by
      rintro T' s₂ ⟨c', m', nw, hR', F', N', hown', hsub, ho', q1, q2, hP'⟩
      refine ⟨c', m', nw, hR', F', N', fun p hp => ?_, hsub, ho', q1, q2, hP'⟩
      rcases own_is p hp with h | h
      · exact hown' _ h
      · exact hsub _ (h c')
    refine wpAny_mono (turn c i T x y u s₁ o4 o3 o2 o1 o0 (by simpa using hx) (by simpa using hy) hPc hoff hzT hR F₁ N₂) (fun _ s₂ h₂ => wpAny_mono h₂ (fun f s₃ h₃ => ?_) fun _ _ e => e) fun _ _ e => e
    cases f with
    | ret v => exact h₃
    | brk => exact up h₃
    | next => exact up h₃
    | cont => exact up h₃
/-- zip of two lists of the ledger's -/
theorem zipLL {σ : Type} {elts : List Expr} {ek : Nat} {pos : Pos} {l1 l2 : Addr} {k1 k2 : Nat} {xs ys : List Value} {m₀ : Str → Option Value} (Ld : σ → Led) (ps : σ → List (Str × Value)) (stored : List Str) (PP : Addr → Nat → σ → Prop) (Fin : σ → Prop) (Rel : Shared → Prop) (c₀ : σ)
    (hh : A.handled = none) (hlen : xs.length = ys.length) (hm1 : ∀ c, (l1, W.listOf xs.toArray k1) ∈ Ld c) (hm2 : ∀ c, (l2, W.listOf ys.toArray k2) ∈ Ld c)
    (hR0 : Rel s) (hRm : ∀ s' h tk, Rel s' → Rel { s' with heap := h, toks := tk })
    (F : Fr h₀ env.locals s.heap m₀) (N : News h₀ env.locals s.heap (Ld c₀)) (hk : ∀ p ∈ ps c₀, m₀ p.1 = some p.2) (hp : ∀ Z, (∀ p ∈ Ld c₀, p.1 < Z) → PP Z 0 c₀)
    (turn : ∀ Z, (∀ p ∈ Ld c₀, p.1 < Z) → env.locals < Z → ∀ (c : σ) i T x y (u : Str → Option Value) s₁ o4 o3 o2 o1 o0, xs[i]? = some x → ys[i]? = some y → PP Z i c → (∀ p ∈ Ld c, p.1 ∉ zwr Z) → @LT.lt Nat _ (Z + 4) T → Rel s₁ →
      Fr h₀ env.locals s₁.heap (kstB (fun z => if stored.contains z then u z else m₀ z) (ps c)) → News h₀ env.locals s₁.heap ((T, tupObj #[x, y] 0) :: (Z + 4, o4) :: (Z + 3, o3) :: (Z + 2, o2) :: (Z + 1, o1) :: (Z, o0) :: Ld c) →
      wpAny (model prog w) A (assign (.Tuple elts ek pos) env (.ref T)) (fun _ s₂ => wpAny (model prog w) A (execs body env) (TurnK h₀ env.locals m₀ stored Ld ps (zwr Z) (zown Z o4 o3 o2 o1 o0) Rel (PP Z (i + 1)) Fin Q) E s₂) E s₁)
    (done : ∀ Z c, PP Z xs.length c → Fin c)
    (fin : ∀ (c : σ) (u : Str → Option Value) s₁, Fin c → Rel s₁ → Fr h₀ env.locals s₁.heap (kstB (fun z => if stored.contains z then u z else m₀ z) (ps c)) → News h₀ env.locals s₁.heap (Ld c) → Q .next s₁) :
    wpAny (model prog w) A (call (.type "zip") [.ref l1, .ref l2]) (fun xv s₁ => wpAny (model prog w) A (pyIter xv) (fun it s₂ => LoopS prog w A env (.Tuple elts ek pos) body Q E it s₂) E s₁) E s := by
  have hlt : ∀ p ∈ Ld c₀, p.1 < s.heap.objs.size := fun p hp => Heap.lt_size (N p hp).1
  refine call_zip_2 (N.isList (hm1 c₀)) (N.isList (hm2 c₀)) fun h' hz hTI hTO hi1 hi2 hsz hk' => ?_
  refine wpAny_pyIter_zip hz ?_
  exact zipCore (Z := s.heap.objs.size) (s := { s with heap := h' }) Ld ps stored PP Fin Rel c₀ hh hlen (SubIt.list (Nat.ne_of_lt (hlt _ (hm1 c₀)))) (SubIt.list (Nat.ne_of_lt (Nat.lt_succ_of_lt (hlt _ (hm2 c₀))))) hm1 hm2 hz hTI hTO
    ⟨hi1, (N.isList (hm1 c₀)).at fun o e => hk' _ o e⟩ ⟨hi2, (N.isList (hm2 c₀)).at fun o e => hk' _ o e⟩ F.ns.lt hlt (hRm s _ s.toks hR0) hRm (F.keeps hk') (newsKeep N hk') hk (hp _ hlt) (turn _ hlt F.ns.lt) (done _) fin
/-- zip of a list and a tuple of the ledger's -/
theorem zipLT {σ : Type} {elts : List Expr} {ek : Nat} {pos : Pos} {l1 l2 : Addr} {k1 k2 : Nat} {xs ys : List Value} {m₀ : Str → Option Value} (Ld : σ → Led) (ps : σ → List (Str × Value)) (stored : List Str) (PP : Addr → Nat → σ → Prop) (Fin : σ → Prop) (Rel : Shared → Prop) (c₀ : σ)
    (hh : A.handled = none) (hlen : xs.length = ys.length) (hm1 : ∀ c, (l1, W.listOf xs.toArray k1) ∈ Ld c) (hm2 : ∀ c, (l2, tupObj ys.toArray k2) ∈ Ld c)
    (hR0 : Rel s) (hRm : ∀ s' h tk, Rel s' → Rel { s' with heap := h, toks := tk })
    (F : Fr h₀ env.locals s.heap m₀) (N : News h₀ env.locals s.heap (Ld c₀)) (hk : ∀ p ∈ ps c₀, m₀ p.1 = some p.2) (hp : ∀ Z, (∀ p ∈ Ld c₀, p.1 < Z) → PP Z 0 c₀)
    (turn : ∀ Z, (∀ p ∈ Ld c₀, p.1 < Z) → env.locals < Z → ∀ (c : σ) i T x y (u : Str → Option Value) s₁ o4 o3 o2 o1 o0, xs[i]? = some x → ys[i]? = some y → PP Z i c → (∀ p ∈ Ld c, p.1 ∉ zwr Z) → @LT.lt Nat _ (Z + 4) T → Rel s₁ →
      Fr h₀ env.locals s₁.heap (kstB (fun z => if stored.contains z then u z else m₀ z) (ps c)) → News h₀ env.locals s₁.heap ((T, tupObj #[x, y] 0) :: (Z + 4, o4) :: (Z + 3, o3) :: (Z + 2, o2) :: (Z + 1, o1) :: (Z, o0) :: Ld c) →
      wpAny (model prog w) A (assign (.Tuple elts ek pos) env (.ref T)) (fun _ s₂ => wpAny (model prog w) A (execs body env) (TurnK h₀ env.locals m₀ stored Ld ps (zwr Z) (zown Z o4 o3 o2 o1 o0) Rel (PP Z (i + 1)) Fin Q) E s₂) E s₁)
    (done : ∀ Z c, PP Z xs.length c → Fin c)
    (fin : ∀ (c : σ) (u : Str → Option Value) s₁, Fin c → Rel s₁ → Fr h₀ env.locals s₁.heap (kstB (fun z => if stored.contains z then u z else m₀ z) (ps c)) → News h₀ env.locals s₁.heap (Ld c) → Q .next s₁) :
    wpAny (model prog w) A (call (.type "zip") [.ref l1, .ref l2]) (fun xv s₁ => wpAny (model prog w) A (pyIter xv) (fun it s₂ => LoopS prog w A env (.Tuple elts ek pos) body Q E it s₂) E s₁) E s := by
  have hlt : ∀ p ∈ Ld c₀, p.1 < s.heap.objs.size := fun p hp => Heap.lt_size (N p hp).1
  have htup := tupIs N (hm2 c₀)
  refine call_zip_lt (N.isList (hm1 c₀)) htup fun h' hz hTI hTO hi1 hi2 hsz hk' => ?_
  refine wpAny_pyIter_zip hz ?_
  exact zipCore (Z := s.heap.objs.size) (s := { s with heap := h' }) Ld ps stored PP Fin Rel c₀ hh hlen (SubIt.list (Nat.ne_of_lt (hlt _ (hm1 c₀)))) (SubIt.tup (Nat.ne_of_lt (Nat.lt_succ_of_lt (hlt _ (hm2 c₀))))) hm1 hm2 hz hTI hTO
    ⟨hi1, (N.isList (hm1 c₀)).at fun o e => hk' _ o e⟩ ⟨hi2, htup.at fun o e => hk' _ o e⟩ F.ns.lt hlt (hRm s _ s.toks hR0) hRm (F.keeps hk') (newsKeep N hk') hk (hp _ hlt) (turn _ hlt F.ns.lt) (done _) fin
end
end Mine
end

end
end
end
end
section
local macro_rules | `(tactic| walk_at "binaryOp Add ref ref") => `(tactic| (k_here; (with_reducible show wpAny _ _ (binaryOp _ (Value.ref _) (Value.ref _)) _ _ _); k_dflt (refine' addN ?k1 ?k2 ?k3 ?k4 ?k5 ?_; (case k1 => k_asm); (case k2 => k_asm); (case k3 => k_mem); (case k4 => k_mem); (case k5 => exact Nat.le_of_ble_eq_true rfl); k_whole); intro D' h' F' N' l1; (try k_lt l1); (try k_sweep)))
section
local macro_rules | `(tactic| walk_at "exec For Tuple Call") => `(tactic| (k_here; (with_unfolding_all refine' For_S ?_ (hE := (by assumption)))))
section
local macro_rules | `(tactic| walk_at "execs cons") => `(tactic| (with_reducible refine holdIt ?_))
section
open PySem PySem.W PyProof.Rows
namespace Mine
theorem sec_QT5 {M : Model} {A : Around} {E : Value → Shared → Prop} {s : Shared} {env : Env} {p : Pos} {Q : Flow → Shared → Prop} (h : Q .next s) : wpAny M A (exec (.Pass p) env) Q E s := by
  w_top off
  k_with_none
  walk1
  exact h
end Mine
end
section
open PySem PySem.W PyProof.Rows
set_option maxRecDepth 100000
set_option maxHeartbeats 1000000
namespace Mine
theorem execs_fold {M : Model} {E : Value → Shared → Prop} {s : Shared} {dp un : Nat} {gd : Option (List Code)} {fa L : Addr} {cd : Value} {outer : List Env} {bd : List Stmt} {sk : ScopeKind} {nms : List (Str × NameKind)} {ig ic : Bool} {mr : List (Str × Const)} {Q : Flow → Shared → Prop} (e : forBody.drop 0 = bd) (e2 : lawSc = ⟨sk, nms, ig, ic, mr⟩)
    (h : wpAny M (ktrTop dp un gd (Str.ofString "law") lawSc L fa cd (lawCl L) outer) (execs (forBody.drop 0) (lawEnv L fa cd)) Q E s) :
    wpAny M (ktrTop dp un gd (Str.ofString "law") ⟨sk, nms, ig, ic, mr⟩ L fa cd (lawCells L) outer) (execs bd (envX (Str.ofString "law") ⟨sk, nms, ig, ic, mr⟩ L fa cd (lawCells L))) Q E s := by
  rw [lawCl_is, e] at h
  unfold lawEnv at h
  rw [lawCl_is, e2] at h
  exact h
structure GC where
  cg : Obj
  cf : Obj
theorem grps_ok : ∀ zs ∈ grps, (∀ z ∈ zs, 0 ≤ z ∧ z ≤ 2) ∧ 0 < zs.length ∧ zs.length ≤ 3 := by decide
theorem seg9 (w : World) {dp un : Nat} {gd : Option (List Code)} {fa : Addr} {cd0 : Value} {outer : List Env} {A₀ : Around} {base h₀ : Heap} {L : Addr} {loose : List Str} {mean : ExcName → Option Value} {mg mb : Str → Option Value} {m : Str → Option Value} {s : Shared} {Q : Flow → Shared → Prop} {E : Value → Shared → Prop}
    (B : Below A₀ base outer h₀) (X : (hd.heap_39 w.params).In h₀) (T : Top topProg loose mean mg mb h₀) (hdp : dp + 9 < recursionLimit) (hu : un + 20 * 9 < cLine)
    (hE : PassesOwn (model PySem.Challenge.rw_rs0140_01.prog w) (ktrTop dp un gd (Str.ofString "law") lawSc L fa cd0 (lawCl L) outer) (lawEnv L fa cd0) E)
    {c1 c2 c3 c4 c5 c6 : Obj} {sa wa x0 lo lr go z1 z2 z3 zp zl zr : Addr} {ws lws gs : List Value} {bs : List Bool} {q4 q : List (List Int × Int)} {st0 : Ws} {ks kw kl kr kg : Nat} {KK : Led}
    (hm1 : m (Str.ofString "records") = some (.ref lr)) (hm2 : m (Str.ofString "pair") = some (.ref zp)) (hm3 : m (Str.ofString "left") = some (.ref zl)) (hm4 : m (Str.ofString "right") = some (.ref zr)) (hm5 : m (Str.ofString "groups") = some (.ref go))
    (hc1 : c1.data = .cell (some (.ref sa))) (hc2 : c2.data = .cell (some (.ref wa))) (hc3 : c3.data = .cell (some (.ref x0))) (hc4 : c4.data = .cell (some (.ref lo))) (hc5 : ∃ v, c5.data = .cell v) (hc6 : ∃ v, c6.data = .cell v)
    (k1 : (L + 1, c1) ∈ KK) (k2 : (L + 1 + 1, c2) ∈ KK) (k3 : (L + 1 + 1 + 1, c3) ∈ KK) (k4 : (L + 1 + 1 + 1 + 1, c4) ∈ KK)
    (kS : (sa, W.listOf (bs.map Value.bool).toArray ks) ∈ KK) (hbl : bs.length = 3) (kW : (wa, W.listOf ws.toArray kw) ∈ KK) (hW : WalksAt KK ws q4) (hwl : ws.length = 4) (hW0 : WhiteAt KK x0 st0) (kL : (lo, W.listOf lws.toArray kl) ∈ KK) (hLw : WhitesAt KK lws q) (hll : lws.length = 3)
    (kR : (lr, W.listOf #[.ref z1, .ref z2, .ref z3] kr) ∈ KK) (kG : (go, W.listOf gs.toArray kg) ∈ KK) (hG : GroupsAt KK gs grps)
    (hEn : ∀ (i : Nat) v zs, [Value.ref z1, .ref z2, .ref z3, .ref zp, .ref zl, .ref zr][i]? = some v → grps[i]? = some zs → ∃ a ags rv rules, v = .ref a ∧ EntAt KK a ags rv ∧ RulesAt w KK rv rules ∧ TurnOk st0 q4 q bs ags rules zs)
    (h5 : ∀ p ∈ KK, p.1 ≠ L + 1 + 1 + 1 + 1 + 1) (h6 : ∀ p ∈ KK, p.1 ≠ L + 1 + 1 + 1 + 1 + 1 + 1) (hlk : ∀ p ∈ KK, p.1 ≠ L)
    (F : Fr h₀ L s.heap m) (N : News h₀ L s.heap ((L + 1 + 1 + 1 + 1 + 1, c5) :: (L + 1 + 1 + 1 + 1 + 1 + 1, c6) :: KK))
    (hq : ∀ (h' : Heap) (tk' : Nat) (m' : Str → Option Value), Fr h₀ L h' m' → News h₀ L h' KK → Q .next { s with heap := h', toks := tk' }) :
    wpAny (model PySem.Challenge.rw_rs0140_01.prog w) (ktrTop dp un gd (Str.ofString "law") lawSc L fa cd0 (lawCl L) outer) (exec (lawStmt 9) (lawEnv L fa cd0)) Q E s := by
  refine' exec_lawE ?e ?e2 hE ?_
  case e => conv => lhs; whnf
  case e2 => conv => lhs; whnf
  clear hE
  revert X
  k_fill
  intro X hE
  obtain ⟨cv5, hcv5⟩ := hc5
  obtain ⟨cv6, hcv6⟩ := hc6
  have hps : ∀ p ∈ [(Str.ofString "records", Value.ref lr), (Str.ofString "pair", .ref zp), (Str.ofString "left", .ref zl), (Str.ofString "right", .ref zr), (Str.ofString "groups", .ref go)], m p.1 = some p.2 := List.forall_mem_cons.mpr ⟨hm1, List.forall_mem_cons.mpr ⟨hm2, List.forall_mem_cons.mpr ⟨hm3, List.forall_mem_cons.mpr ⟨hm4, List.forall_mem_cons.mpr ⟨hm5, fun _ h => nomatch h⟩⟩⟩⟩⟩
  replace F := frWith _ hps F
  dsimp only [kstB] at F
  (repeat' (first | (k_unfold; (try dsimp only)) | (k_end; wrow_close) | (first | ((with_reducible show wpAny _ _ (call (Value.type "zip") _) _ _ _); (with_reducible refine holdIt ?_)) | walk1) | (dsimp only; (first | ((with_reducible show wpAny _ _ (call (Value.type "zip") _) _ _ _); (with_reducible refine holdIt ?_)) | walk1)) | (leave1; walk_say "STEP leave1"; try dsimp only) | fail "no step"))
  unfold Hold
  rename_i lx _ lx1 D9 h9 F9 N9 lD
  obtain ⟨KQ, hKs, kQ1, hq5, hq6, N8⟩ : ∃ KQ, (∀ p ∈ KK, p ∈ KQ) ∧ (D9, W.listOf (List.toArray [Value.ref z1, .ref z2, .ref z3, .ref zp, .ref zl, .ref zr]) 0) ∈ KQ ∧ (∀ p ∈ KQ, p.1 ≠ L + 1 + 1 + 1 + 1 + 1) ∧ (∀ p ∈ KQ, p.1 ≠ L + 1 + 1 + 1 + 1 + 1 + 1) ∧ News h₀ L h9 ((L + 1 + 1 + 1 + 1 + 1, c5) :: (L + 1 + 1 + 1 + 1 + 1 + 1, c6) :: KQ) :=
    ⟨(D9, W.listOf (List.toArray [Value.ref z1, .ref z2, .ref z3, .ref zp, .ref zl, .ref zr]) 0) :: KK, fun p hp => List.Mem.tail _ hp, List.Mem.head _, allCons (Nat.ne_of_gt lD.2.1) h5, allCons (Nat.ne_of_gt lD.2.2.1) h6, newsSub N9 fun p hp => by simp only [List.mem_cons] at hp ⊢; grind⟩
  clear N9 lD lx1
  refine' zipLL (σ := GC) (xs := [Value.ref z1, .ref z2, .ref z3, .ref zp, .ref zl, .ref zr]) (ys := gs) (fun c => (L + 1 + 1 + 1 + 1 + 1, c.cg) :: (L + 1 + 1 + 1 + 1 + 1 + 1, c.cf) :: KQ) (fun _ => []) [Str.ofString "record", Str.ofString "sizes", Str.ofString "low", Str.ofString "back"] (fun Z i c => (∃ v, c.cg.data = .cell v) ∧ ∃ v, c.cf.data = .cell v) (fun c => True) (HT s) ⟨c5, c6⟩ rfl hG.1.symm (fun c => .tail _ (.tail _ kQ1)) (fun c => .tail _ (.tail _ (hKs _ kG))) ?hr HT.move F9 N8 ?hk ?hp ?turn ?done ?fin
  case hr => exact HT.mk
  case hk => exact fun _ h => nomatch h
  case hp => exact fun Z hZ => ⟨⟨_, hcv5⟩, _, hcv6⟩
  case done => exact fun Z c h => trivial
  case turn =>
    rintro Z hZ hLZ c i T9 x y u s₁ o4 o3 o2 o1 o0 hx hy ⟨⟨v5, g5⟩, v6, g6⟩ hoff hT hS F' N'
    obtain ⟨g, gvs, kgi, zs, rfl, hzs, hmg, hIg⟩ := hG.2 i y hy
    obtain ⟨a, ags, rv, rules, rfl, hEa, hRa, hOk⟩ := hEn i x zs hx hzs
    obtain ⟨hz, hzp, hz3⟩ := grps_ok zs (List.mem_of_getElem? hzs)
    dsimp only [kstB] at F'
    have hZ5 : @LT.lt Nat _ (L + 1 + 1 + 1 + 1 + 1) Z := hZ _ (.head _)
    have hZ6 : @LT.lt Nat _ (L + 1 + 1 + 1 + 1 + 1 + 1) Z := hZ _ (.tail _ (.head _))
    clear hq N8 F9
    (repeat' (first | (k_unfold; (try dsimp only)) | (k_end; wrow_close) | walk1 | (dsimp only; walk1) | (leave1; walk_say "STEP leave1"; try dsimp only) | fail "no step"))
    unfold Hold
    rename Fr _ _ _ _ => F5
    rename News _ _ _ _ => N5
    rename _ = Data.cell (some (Value.ref g)) => d9
    rename Obj => o9
    obtain ⟨NL, hNL, N6⟩ : ∃ NL, NL = (T9, tupObj #[.ref a, .ref g] 0) :: (Z + 4, o4) :: (Z + 3, o3) :: (Z + 2, o2) :: (Z + 1, o1) :: (Z, o0) :: (L + 1 + 1 + 1 + 1 + 1, o9) :: KQ ∧ News h₀ L _ ((L + 1 + 1 + 1 + 1 + 1 + 1, c.cf) :: NL) := ⟨_, rfl, newsSub N5 fun p hp => by simp only [List.mem_cons] at hp ⊢; grind⟩
    have sQ : ∀ p ∈ KQ, p ∈ NL := fun p hp => by rw [hNL]; exact .tail _ (.tail _ (.tail _ (.tail _ (.tail _ (.tail _ (.tail _ hp))))))
    have sN : ∀ p ∈ KK, p ∈ NL := fun p hp => sQ p (hKs p hp)
    have k5 : (L + 1 + 1 + 1 + 1 + 1, o9) ∈ NL := by rw [hNL]; exact .tail _ (.tail _ (.tail _ (.tail _ (.tail _ (.tail _ (.head _))))))
    have hne : ∀ p ∈ NL, p.1 ≠ L + 1 + 1 + 1 + 1 + 1 + 1 := by
      rw [hNL]
      have hT6 : @LT.lt Nat _ (L + 1 + 1 + 1 + 1 + 1 + 1) T9 := Nat.lt_trans hZ6 (Nat.lt_of_le_of_lt (Nat.le_add_right _ _) hT)
      refine allCons (Nat.ne_of_gt hT6) (allCons ?_ (allCons ?_ (allCons ?_ (allCons ?_ (allCons ?_ (allCons ?_ hq6))))))
      all_goals (refine neN ?_; dsimp only; omega)
    clear N5
    refine execs_fold rfl rfl ?_
    refine turn9 w B X T hdp hu (led := NL) (if_pos rfl) hc1 hc2 hc3 hc4 d9 ⟨_, g6⟩ (sN _ k1) (sN _ k2) (sN _ k3) (sN _ k4) k5 (sN _ kS) hbl (sN _ kW) (hW.mono sN) hwl (hW0.mono sN) (sN _ kL) (hLw.mono sN) hll (sN _ hmg) hIg hz hzp hz3 (hEa.mono sN) (hRa.mono sN) hOk hne F5 N6 ?_
    intro c6' h' tk' m' F7 hm' hc6' N7
    obtain ⟨hh, tkk, rfl⟩ := hS
    refine' ⟨⟨o9, c6'⟩, _, _, HT.mk, F7, N7, ?a3, ?a4, ?a5, ?a6, ?a7, ⟨⟨_, d9⟩, hc6'⟩⟩
    case a3 =>
      intro p hp
      rw [hNL]
      simp only [List.mem_cons, List.not_mem_nil, or_false] at hp ⊢
      rcases hp with h | h | h | h | h <;> simp [h]
    case a4 =>
      intro p hp
      rcases List.mem_cons.mp hp with rfl | hp
      · exact .tail _ k5
      · rcases List.mem_cons.mp hp with rfl | hp
        · exact .head _
        · exact .tail _ (sQ p hp)
    case a5 => exact allCons (hoff (L + 1 + 1 + 1 + 1 + 1, c.cg) (.head _)) (allCons (hoff (L + 1 + 1 + 1 + 1 + 1 + 1, c.cf) (.tail _ (.head _))) fun p hp => hoff p (.tail _ (.tail _ hp)))
    case a6 => exact fun _ h => nomatch h
    case a7 =>
      intro z h2 h3
      simp only [List.contains_cons, List.contains_nil, Bool.or_false, Bool.or_eq_false_iff, beq_eq_false_iff_ne, ne_eq] at h3
      rw [hm' z (by simp [h3])]
      simp [h3]
  case fin =>
    rintro c u s₁ hI9 ⟨h9, tk9, rfl⟩ F9 N9
    exact hq h9 tk9 _ F9 (newsSub N9 fun p hp => .tail _ (.tail _ (hKs p hp)))
end Mine
end

section
open PySem PySem.W PyProof.Rows
namespace Mine
theorem sec_QPA {M : Model} {A : Around} {E : Value → Shared → Prop} {s : Shared} {env : Env} {p : Pos} {Q : Flow → Shared → Prop} (h : Q .next s) : wpAny M A (exec (.Pass p) env) Q E s := by
  w_top off
  k_with_none
  walk1
  exact h
end Mine
end
section
open PySem PySem.W PyProof.Rows
set_option maxRecDepth 100000
set_option maxHeartbeats 1000000
namespace Mine
def five : List Int := [1, 2, 3, 4, 5]
def upto4 : List Int := [0, 1, 2, 3, 4]
theorem mem_five {z : Int} : z ∈ five ↔ 1 ≤ z ∧ z ≤ 5 := by simp only [five, List.mem_cons, List.not_mem_nil, or_false]; omega
theorem mem_upto4 {z : Int} : z ∈ upto4 ↔ 0 ≤ z ∧ z ≤ 4 := by simp only [upto4, List.mem_cons, List.not_mem_nil, or_false]; omega
/-! the text of a lead -/
abbrev rowCs (rows : List Int) : List Nat := rows.flatMap fun r => List.replicate r.toNat 32 ++ [9]
theorem row_is : ∀ r ∈ upto4, (textRow r).cps.toList = List.replicate r.toNat 32 ++ [9] := by decide +kernel
theorem blanks_is : ∀ b ∈ upto4, (Txt.mul (Str.ofString " ") b).cps.toList = List.replicate b.toNat 32 := by decide +kernel
theorem fold_glue (g : Array Nat) : ∀ (rest : List Str) (acc : Array Nat), (rest.foldl (fun acc p => acc ++ g ++ p.cps) acc).toList = acc.toList ++ rest.flatMap fun p => g.toList ++ p.cps.toList
  | [], acc => by simp
  | p :: r, acc => by
    rw [List.foldl_cons, fold_glue g r]
    simp [List.append_assoc]
theorem rows_is {rows : List Int} (h : ∀ r ∈ rows, 0 ≤ r ∧ r ≤ 4) : (Txt.join (Str.ofString "") (rows.map textRow)).cps.toList = rowCs rows := by
  cases rows with
  | nil => decide +kernel
  | cons r0 rest =>
    show ((rest.map textRow).foldl (fun acc p => acc ++ (Str.ofString "").cps ++ p.cps) (textRow r0).cps).toList = _
    rw [fold_glue, row_is _ (mem_upto4.mpr (h _ (.head _)))]
    have e : (Str.ofString "").cps.toList = [] := by decide +kernel
    rw [e, rowCs, List.flatMap_cons]
    congr 1
    have hr : ∀ r ∈ rest, 0 ≤ r ∧ r ≤ 4 := fun r hr => h r (.tail _ hr)
    clear e h
    induction rest with
    | nil => rfl
    | cons a t ih =>
      simp only [List.map_cons, List.flatMap_cons]
      rw [row_is _ (mem_upto4.mpr (hr a (.head _))), ih fun r hx => hr r (.tail _ hx)]
      simp
theorem lead_is {rows : List Int} {b : Int} (hb : 0 ≤ b ∧ b ≤ 4) (h : ∀ r ∈ rows, 0 ≤ r ∧ r ≤ 4) : (leadText rows b).cps.toList = rowCs rows ++ List.replicate b.toNat 32 := by
  unfold leadText
  rw [Str.cps_append, Array.toList_append, rows_is h, blanks_is b (mem_upto4.mpr hb)]
/-! the machine that reads rows -/
theorem run_row (l : List Nat) : ∀ (k : Nat) (st : Ws), wsRun (List.replicate k 32 ++ 9 :: l) st = wsRun l ⟨bump st.cs (st.b + k), 0, st.n + k + 1, st.nt + 1⟩
  | 0, st => by simp [wsRun]
  | k + 1, st => by
    rw [List.replicate_succ, List.cons_append, wsRun, if_pos rfl, run_row l k]
    simp only [Ws.mk.injEq, true_and, and_true]
    have e1 : st.b + 1 + (k : Int) = st.b + ((k + 1 : Nat) : Int) := by omega
    have e2 : st.n + 1 + (k : Int) + 1 = st.n + ((k + 1 : Nat) : Int) + 1 := by omega
    rw [e1, e2]
theorem run_end (l : List Nat) : ∀ (k : Nat) (st : Ws), wsRun (List.replicate k 32 ++ 120 :: l) st = ⟨st.cs, st.b + k, st.n + k, st.nt⟩
  | 0, st => by simp [wsRun]
  | k + 1, st => by
    rw [List.replicate_succ, List.cons_append, wsRun, if_pos rfl, run_end l k]
    simp only [Ws.mk.injEq, true_and, and_true]
    omega
theorem run_rows (tail : List Nat) : ∀ (rows : List Int) (cs : List Int) (n nt : Int), (∀ r ∈ rows, 0 ≤ r) → wsRun (rowCs rows ++ tail) ⟨cs, 0, n, nt⟩ = wsRun tail ⟨rows.foldl bump cs, 0, n + rows.sum + rows.length, nt + rows.length⟩
  | [], cs, n, nt, _ => by simp [rowCs]
  | r :: rest, cs, n, nt, h => by
    have h0 := h r (.head _)
    have ih := run_rows tail rest (bump cs r) (n + r.toNat + 1) (nt + 1) fun x hx => h x (.tail _ hx)
    rw [rowCs, List.flatMap_cons, List.append_assoc, List.append_assoc, List.singleton_append, run_row]
    have e1 : (0 : Int) + (r.toNat : Int) = r := by omega
    simp only [e1]
    rw [ih]
    congr 1
    simp only [Ws.mk.injEq, List.foldl_cons, true_and, List.sum_cons, List.length_cons]
    omega
theorem stOf_is {rows : List Int} {b : Int} (hb : 0 ≤ b ∧ b ≤ 4) (h : ∀ r ∈ rows, 0 ≤ r ∧ r ≤ 4) : stOf rows b = ⟨rows.foldl bump [], b, rows.sum + rows.length + b, rows.length⟩ := by
  unfold stOf lineOf
  rw [Str.cps_append, Array.toList_append, lead_is hb h, show (Str.ofString "x \t").cps.toList = 120 :: [32, 9] by decide +kernel, List.append_assoc, run_rows _ _ _ _ _ fun r hr => (h r hr).1, run_end]
  simp only [Ws.mk.injEq, true_and]
  omega
/-! the walked column -/
theorem col_blanks (ts : Int) (l : List Nat) : ∀ (k : Nat) (c : Int), colRun ts (List.replicate k 32 ++ l) c = colRun ts l (c + k)
  | 0, c => by simp
  | k + 1, c => by
    rw [List.replicate_succ, List.cons_append, colRun, if_neg (by decide), col_blanks ts l k]
    congr 1
    omega
theorem col_rows {ts : Int} (h1 : 1 ≤ ts) (tail : List Nat) : ∀ (rows : List Int) (m : Int), (∀ r ∈ rows, 0 ≤ r) → colRun ts (rowCs rows ++ tail) (ts * m) = colRun ts tail (ts * (m + ((rows.map fun r => Int.fdiv r ts).sum + rows.length)))
  | [], m, _ => by simp [rowCs]
  | r :: rest, m, h => by
    rw [rowCs, List.flatMap_cons, List.append_assoc, List.append_assoc, List.singleton_append, col_blanks, colRun, if_pos rfl]
    have e : ts * m + (r.toNat : Int) - Int.fmod (ts * m + (r.toNat : Int)) ts + ts = ts * (m + Int.fdiv r ts + 1) := by
      rw [Int.toNat_of_nonneg (h r (.head _)), Int.add_comm (ts * m) r, Int.add_mul_fmod_self_left]
      have := Int.mul_fdiv_add_fmod r ts
      rw [Int.mul_add, Int.mul_add]
      omega
    rw [e, col_rows h1 tail rest _ fun x hx => h x (.tail _ hx)]
    congr 2
    simp only [List.map_cons, List.sum_cons, List.length_cons]
    omega
theorem col_is {rows : List Int} {b ts : Int} (hb : 0 ≤ b ∧ b ≤ 4) (h : ∀ r ∈ rows, 0 ≤ r ∧ r ≤ 4) (h1 : 1 ≤ ts) : colRun ts (leadText rows b).cps.toList 0 = b + ts * ((rows.map fun r => Int.fdiv r ts).sum + rows.length) := by
  rw [lead_is hb h]
  have e := col_rows h1 (List.replicate b.toNat 32) rows 0 fun r hr => (h r hr).1
  rw [Int.mul_zero, Int.zero_add] at e
  rw [e]
  have e2 := col_blanks ts [] b.toNat (ts * ((rows.map fun r => Int.fdiv r ts).sum + rows.length))
  rw [List.append_nil] at e2
  rw [e2, colRun]
  omega
/-! the sum of a column -/
def wSum (ts : Int) : Nat → List Int → Int
  | _, [] => 0
  | k, c :: r => Int.fdiv k ts * c + wSum ts (k + 1) r
theorem wSum_append (ts : Int) : ∀ (a b : List Int) (k : Nat), wSum ts k (a ++ b) = wSum ts k a + wSum ts (k + a.length) b
  | [], b, k => by simp [wSum]
  | c :: r, b, k => by
    rw [List.cons_append, wSum, wSum, wSum_append ts r b (k + 1), List.length_cons, show k + 1 + r.length = k + (r.length + 1) by omega]
    omega
theorem wSum_zeros (ts : Int) : ∀ (n k : Nat), wSum ts k (List.replicate n 0) = 0
  | 0, _ => rfl
  | n + 1, k => by rw [List.replicate_succ, wSum, wSum_zeros ts n]; simp
theorem wSum_set (ts : Int) : ∀ (l : List Int) (i k : Nat), i < l.length → wSum ts k (l.set i (l.getD i 0 + 1)) = wSum ts k l + Int.fdiv ((k + i : Nat) : Int) ts
  | [], _, _, h => by simp at h
  | c :: r, 0, k, _ => by
    simp only [List.set_cons_zero, List.getD_cons_zero, wSum, Nat.add_zero]
    rw [Int.mul_add]; omega
  | c :: r, i + 1, k, h => by
    have ih := wSum_set ts r i (k + 1) (by simpa using h)
    simp only [List.set_cons_succ, List.getD_cons_succ, wSum]
    rw [ih, show k + 1 + i = k + (i + 1) by omega]
    omega
theorem flat_zeros : ∀ n : Nat, (List.replicate n [(0 : Int)]).flatten = List.replicate n 0
  | 0 => rfl
  | n + 1 => by rw [List.replicate_succ, List.flatten_cons, flat_zeros n]; rfl
theorem grown_sum (ts : Int) (cs : List Int) (b : Int) : wSum ts 0 (grown cs b) = wSum ts 0 cs := by
  unfold grown
  split
  · rw [flat_zeros, wSum_append, wSum_zeros]; omega
  · rfl
theorem grown_len {cs : List Int} {b : Int} (h : 0 ≤ b) : b.toNat < (grown cs b).length := by
  unfold grown
  split
  · rw [flat_zeros]; simp; omega
  · omega
theorem bump_sum {ts : Int} {cs : List Int} {r : Int} (h : 0 ≤ r) : wSum ts 0 (bump cs r) = wSum ts 0 cs + Int.fdiv r ts := by
  unfold bump
  rw [wSum_set ts _ _ _ (grown_len h), grown_sum, Nat.zero_add, Int.toNat_of_nonneg h]
theorem bumps_sum {ts : Int} : ∀ (rows cs : List Int), (∀ r ∈ rows, 0 ≤ r) → wSum ts 0 (rows.foldl bump cs) = wSum ts 0 cs + (rows.map fun r => Int.fdiv r ts).sum
  | [], cs, _ => by simp
  | r :: rest, cs, h => by
    rw [List.foldl_cons, bumps_sum rest _ fun x hx => h x (.tail _ hx), bump_sum (h r (.head _)), List.map_cons, List.sum_cons]
    omega
theorem bump_len_is {cs : List Int} {r : Int} (h : 0 ≤ r) : ((bump cs r).length : Int) = max (cs.length : Int) (r + 1) := by
  unfold bump grown
  rw [List.length_set]
  split
  · rw [flat_zeros]; simp; omega
  · omega
theorem wSum_range (ts : Int) : ∀ (l : List Int) (k : Nat), wSum ts k l = ((List.range l.length).map fun j => Int.fdiv ((k + j : Nat) : Int) ts * l.getD j 0).sum
  | [], _ => rfl
  | c :: r, k => by
    rw [wSum, wSum_range ts r (k + 1), List.length_cons, List.range_succ_eq_map, List.map_cons, List.sum_cons, List.map_map]
    congr 2
    refine List.map_congr_left fun j _ => ?_
    simp only [Function.comp, Nat.succ_eq_add_one, List.getD_cons_succ]
    rw [show k + 1 + j = k + (j + 1) by omega]
theorem fdiv_small {i ts : Int} (h0 : 0 ≤ i) (h : i < ts) : Int.fdiv i ts = 0 := by
  rw [Int.fdiv_eq_ediv_of_nonneg _ (by omega)]; exact Int.ediv_eq_zero_of_lt h0 h
theorem sum_zeros {l : List Nat} {f : Nat → Int} (h : ∀ j ∈ l, f j = 0) : (l.map f).sum = 0 := by
  induction l with
  | nil => rfl
  | cons a t ih => rw [List.map_cons, List.sum_cons, h a (.head _), ih fun j hj => h j (.tail _ hj)]; rfl
theorem ilSum_is {cs : List Int} {ts : Int} (h1 : 1 ≤ ts) : ilSum cs ts = wSum ts 0 cs := by
  rw [wSum_range]
  unfold ilSum
  simp only [Nat.zero_add]
  by_cases hl : (cs.length : Int) ≤ ts
  · rw [show ((cs.length : Int) - ts).toNat = 0 by omega]
    rw [sum_zeros fun j hj => by rw [fdiv_small (by omega) (by have := List.mem_range.mp hj; omega), Int.zero_mul]]
    rfl
  · obtain ⟨t, rfl⟩ := Int.eq_ofNat_of_zero_le (show 0 ≤ ts by omega)
    obtain ⟨m, hm⟩ : ∃ m, cs.length = t + m := ⟨cs.length - t, by omega⟩
    rw [hm, show (((t + m : Nat) : Int) - (t : Int)).toNat = m by omega, List.range_add, List.map_append, List.sum_append, sum_zeros (l := List.range t) fun j hj => by rw [fdiv_small (by omega) (by have := List.mem_range.mp hj; omega), Int.zero_mul]]
    rw [Int.zero_add, List.map_map]
    unfold rangeKs
    rw [List.map_map]
    congr 1
/-! columns -/
def ind (x : List Int × Int) (t : Int) : Int := indentOf (stOf x.1 x.2) t
section
variable {x y : List Int × Int} {t : Int}
theorem ind_is (h : LowOk x.1 x.2) (ht : 1 ≤ t) : ind x t = x.2 + t * ((x.1.map fun r => Int.fdiv r t).sum + x.1.length) := by
  unfold ind
  rw [stOf_is h.2.2 h.1]
  unfold indentOf
  simp only
  rw [ilSum_is ht, bumps_sum x.1 [] fun r hr => (h.1 r hr).1]
  simp [wSum]
theorem ind_col (h : LowOk x.1 x.2) (ht : 1 ≤ t) : colRun t (leadText x.1 x.2).cps.toList 0 = ind x t := by
  rw [ind_is h ht, col_is h.2.2 h.1 ht]
theorem fdivs_small {t : Int} (ht : 1 ≤ t) : ∀ {l : List Int}, (∀ r ∈ l, 0 ≤ r ∧ r ≤ 4) → 0 ≤ (l.map fun r => Int.fdiv r t).sum ∧ (l.map fun r => Int.fdiv r t).sum ≤ 4 * l.length
  | [], _ => by simp
  | r :: l, h => by
    have ih := fdivs_small ht fun z hz => h z (List.Mem.tail _ hz)
    have h0 := h r (.head _)
    have e : 0 ≤ Int.fdiv r t ∧ Int.fdiv r t ≤ 4 := by
      rw [Int.fdiv_eq_ediv_of_nonneg _ (by omega)]
      exact ⟨Int.ediv_nonneg h0.1 (by omega), Int.le_trans (Int.ediv_le_self _ h0.1) h0.2⟩
    simp only [List.map_cons, List.sum_cons, List.length_cons]
    omega
theorem ind_low (h : LowOk x.1 x.2) (ht : 1 ≤ t ∧ t ≤ 5) : 0 ≤ ind x t ∧ ind x t ≤ 100 := by
  have h1 := fdivs_small ht.1 h.1
  rw [ind_is h ht.1]
  obtain ⟨_, h2, h3⟩ := h
  generalize hs : (x.1.map fun r => Int.fdiv r t).sum + (x.1.length : Int) = s
  have h4 : 0 ≤ s ∧ s ≤ 15 := by omega
  have h5 := Int.mul_le_mul ht.2 h4.2 h4.1 (by decide)
  have h6 := Int.mul_nonneg (show 0 ≤ t by omega) h4.1
  omega
theorem ind_top (h : TopOk x.1 x.2) (ht : 1 ≤ t) : 1 ≤ ind x t := by
  have h1 := fdivs_small ht h.1
  rw [ind_is h.low ht]
  obtain ⟨_, h2, h3, h4⟩ := h
  generalize hs : (x.1.map fun r => Int.fdiv r t).sum = s at *
  have h6 := Int.mul_nonneg (show 0 ≤ t by omega) (show 0 ≤ s + (x.1.length : Int) by omega)
  rcases h4 with h4 | h4
  · have h7 := List.length_pos_of_mem h4
    have h8 := Int.mul_pos (show 0 < t by omega) (show 0 < s + (x.1.length : Int) by omega)
    omega
  · omega
theorem bumps_le {m : Int} : ∀ (rows cs : List Int), (∀ r ∈ rows, 0 ≤ r ∧ r ≤ 4) → (cs.length : Int) ≤ 5 → ((rows.foldl bump cs).length : Int) ≤ 5 ∧ (cs.length : Int) ≤ (rows.foldl bump cs).length ∧ ∀ r ∈ rows, r + 1 ≤ ((rows.foldl bump cs).length : Int)
  | [], cs, _, h => ⟨h, Int.le_refl _, fun _ h => nomatch h⟩
  | r :: rest, cs, h, hc => by
    have h0 := h r (.head _)
    have e := bump_len_is (cs := cs) h0.1
    have ih := bumps_le (m := m) rest (bump cs r) (fun z hz => h z (.tail _ hz)) (by omega)
    refine ⟨ih.1, ?_, fun z hz => ?_⟩
    · have := ih.2.1
      rw [List.foldl_cons]; omega
    · rcases List.mem_cons.mp hz with rfl | hz
      · have := ih.2.1
        rw [List.foldl_cons]; omega
      · exact ih.2.2 z hz
/-- the longest row of blanks -/
def lng (st : Ws) : Int := max ((st.cs.length : Int) - 1) st.b
theorem lng_low (h : LowOk x.1 x.2) : lng (stOf x.1 x.2) ≤ 4 := by
  have e := bumps_le (m := 0) x.1 [] h.1 (by decide)
  have h2 := h.2.2
  unfold lng
  rw [stOf_is h.2.2 h.1]
  dsimp only
  omega
theorem lng_top (h : TopOk x.1 x.2) : lng (stOf x.1 x.2) = 4 := by
  have e := bumps_le (m := 0) x.1 [] h.1 (by decide)
  have h2 := h.2.2.1
  have h3 := lng_low h.low
  unfold lng at h3 ⊢
  rw [stOf_is h.2.2.1 h.1] at h3 ⊢
  dsimp only at h3 ⊢
  rcases h.2.2.2 with h4 | h4
  · have := e.2.2 4 h4
    omega
  · omega
theorem top_is (hx : LowOk x.1 x.2) (hy : LowOk y.1 y.2) (h : TopOk x.1 x.2 ∨ TopOk y.1 y.2) : topSize (stOf x.1 x.2) (stOf y.1 y.2) = 5 := by
  have h1 := lng_low hx
  have h2 := lng_low hy
  show max (lng (stOf x.1 x.2)) (lng (stOf y.1 y.2)) + 1 = 5
  rcases h with h | h
  · have := lng_top h; omega
  · have := lng_top h; omega
/-! the rows of a witness -/
theorem notRows_is (st st' : Ws) : ∀ n, notRows st st' n = ((rangeKs 1 n).filter fun ts => decide (indentOf st' ts ≤ indentOf st ts)).map fun ts => (ts, indentOf st ts, indentOf st' ts)
  | 0 => rfl
  | n + 1 => by
    have e : rangeKs 1 (n + 1) = rangeKs 1 n ++ [1 + (n : Int)] := by simp [rangeKs, List.range_succ]
    rw [notRows_succ, notStep, notRows_is st st' n, e, List.filter_append, List.map_append]
    split
    · rename_i hh
      simp [List.filter, hh]
    · rename_i hh
      simp [List.filter, hh]
theorem range_five : rangeKs 1 5 = five := by decide
theorem wit_is (hx : LowOk x.1 x.2) (hy : LowOk y.1 y.2) (h : TopOk x.1 x.2 ∨ TopOk y.1 y.2) : witOf (stOf x.1 x.2) (stOf y.1 y.2) = (five.filter fun t => decide (ind y t ≤ ind x t)).map fun t => (t, ind x t, ind y t) := by
  unfold witOf
  rw [top_is hx hy h, show (5 : Int).toNat = 5 from rfl, notRows_is, range_five]
  rfl
end
end Mine
end

section
open PySem PySem.W PyProof.Rows
namespace Mine
theorem sec_QPB {M : Model} {A : Around} {E : Value → Shared → Prop} {s : Shared} {env : Env} {p : Pos} {Q : Flow → Shared → Prop} (h : Q .next s) : wpAny M A (exec (.Pass p) env) Q E s := by
  w_top off
  k_with_none
  walk1
  exact h
end Mine
end
section
open PySem PySem.W PyProof.Rows
set_option maxRecDepth 100000
set_option maxHeartbeats 1000000
namespace Mine
/-! names -/
def fmtS (s : List Int) : Str := (if 1 < s.length then Str.ofString "at tab sizes" else Str.ofString "at tab size") ++ Str.ofString " " ++ Txt.join (Str.ofString ", ") (s.map strN)
theorem fmt_s (rows : List (Int × Int × Int)) : fmtText rows = fmtS (rows.map (·.1)) := by
  unfold fmtText fmtS firstsOf
  rw [List.length_map, List.map_map]; rfl
def subs : List Int → List (List Int)
  | [] => [[]]
  | a :: r => subs r ++ (subs r).map (a :: ·)
theorem filter_subs (p : Int → Bool) : ∀ l : List Int, l.filter p ∈ subs l
  | [] => .head _
  | a :: r => by
    have ih := filter_subs p r
    rw [List.filter_cons, subs]
    split
    · exact List.mem_append.mpr (.inr (List.mem_map_of_mem ih))
    · exact List.mem_append.mpr (.inl ih)
theorem named_all : ∀ s ∈ subs five, namedOf (fmtS s) = s.map strN := by decide +kernel
abbrev star : Str := Str.ofString "*"
abbrev tabZ (z : Int) : Str := tabN (strN z)
theorem tab_inj : ∀ z ∈ five, ∀ y ∈ five, decide (tabZ z = tabZ y) = decide (z = y) := by decide +kernel
theorem tab_star : ∀ z ∈ five, decide (star = tabZ z) = false := by decide +kernel
theorem star_tab : ∀ z ∈ five, decide (tabZ z = star) = false := by decide +kernel
theorem tab_ok : ∀ z ∈ five, PyData.strOk (tabZ z) = true ∧ (tabZ z).length ≤ 1000 := by decide +kernel
theorem star_ok : PyData.strOk star = true ∧ star.length ≤ 1000 := by decide +kernel
theorem name_short : ∀ z ∈ five, (strN z).length ≤ 1000 := by decide +kernel
theorem hits_all : ∀ z ∈ five, ∀ q ∈ five, agentHits (tabZ z) (Txt.lower (firstPart (nameOf q))) = decide (q = z) := by decide +kernel
theorem hits_star (y : Str) : agentHits star y = false := by
  unfold agentHits
  rw [show (star != Str.ofString "*") = false by decide +kernel, Bool.false_and]
def plainAg (s : List Int) (st : Bool) : List Str := (if st = true then [star] else []) ++ s.map tabZ
def Five (s : List Int) : Prop := ∀ z ∈ s, z ∈ five
section
variable {s s' : List Int} {l l' : Str} {st st' : Bool} {z q : Int}
theorem agents_is : lawAgents (s.map strN) l st = if l = Str.ofString "a" then (plainAg s st).reverse else plainAg s st := by
  unfold lawAgents plainAg
  rw [List.map_map]; rfl
theorem any_agents (p : Str → Bool) : (lawAgents (s.map strN) l st).any p = (plainAg s st).any p := by
  rw [agents_is]
  split
  · rw [List.any_reverse]
  · rfl
theorem any_plain (p : Str → Bool) : (plainAg s st).any p = ((st && p star) || s.any fun z => p (tabZ z)) := by
  unfold plainAg
  rw [List.any_append, List.any_map]
  cases st <;> simp [Function.comp_def]
theorem has_star (hs : Five s) : hasS (lawAgents (s.map strN) l st) star = st := by
  unfold hasS
  rw [any_agents, any_plain]
  have e : (s.any fun z => decide (star = tabZ z)) = false := by
    rw [List.any_eq_false]
    intro z hz
    rw [tab_star z (hs z hz)]; decide
  rw [e]; simp
theorem has_tab (hs : Five s) (hz : z ∈ five) : hasS (lawAgents (s.map strN) l st) (tabZ z) = decide (z ∈ s) := by
  unfold hasS
  rw [any_agents, any_plain, star_tab z hz, Bool.and_false, Bool.false_or, Bool.eq_iff_iff, List.any_eq_true, decide_eq_true_eq]
  constructor
  · rintro ⟨y, hy, e⟩
    rw [tab_inj z hz y (hs y hy), decide_eq_true_eq] at e
    rw [e]; exact hy
  · intro h
    exact ⟨z, h, by simp⟩
theorem applies_is (hs : Five s) (hq : q ∈ five) : applies (lawAgents (s.map strN) l st) (nameOf q) = decide (q ∈ s) := by
  unfold applies
  rw [any_agents, any_plain, hits_star, Bool.and_false, Bool.false_or, Bool.eq_iff_iff, List.any_eq_true, decide_eq_true_eq]
  constructor
  · rintro ⟨y, hy, e⟩
    rw [hits_all y (hs y hy) q hq, decide_eq_true_eq] at e
    rw [e]; exact hy
  · intro h
    exact ⟨q, h, by rw [hits_all q hq q hq]; simp⟩
theorem all_agents {P : Str → Prop} (h1 : P star) (h2 : ∀ z ∈ five, P (tabZ z)) (hs : Five s) : ∀ g ∈ lawAgents (s.map strN) l st, P g := by
  have h : ∀ g ∈ plainAg s st, P g := by
    intro g hg
    rcases List.mem_append.mp hg with hg | hg
    · split at hg
      · rw [List.mem_singleton.mp hg]; exact h1
      · cases hg
    · obtain ⟨z, hz, rfl⟩ := List.mem_map.mp hg
      exact h2 z (hs z hz)
  intro g hg
  rw [agents_is] at hg
  split at hg
  · exact h g (List.mem_reverse.mp hg)
  · exact h g hg
theorem agents_len (hs : s.length ≤ 5) : (lawAgents (s.map strN) l st).length ≤ 6 := by
  rw [agents_is]
  have h : (plainAg s st).length ≤ 6 := by
    unfold plainAg
    rw [List.length_append, List.length_map]
    cases st <;> simp <;> omega
  split
  · rw [List.length_reverse]; exact h
  · exact h
/-- what two records' agents have in common -/
theorem meet_agents (hs : Five s) (hs' : Five s') : (lawAgents (s.map strN) l st).filter (hasS (lawAgents (s'.map strN) l' st')) = lawAgents ((s.filter fun z => decide (z ∈ s')).map strN) l (st && st') := by
  have h : (plainAg s st).filter (hasS (lawAgents (s'.map strN) l' st')) = plainAg (s.filter fun z => decide (z ∈ s')) (st && st') := by
    unfold plainAg
    rw [List.filter_append]
    congr 1
    · have e : hasS (lawAgents (s'.map strN) l' st') star = st' := has_star hs'
      cases st
      · rfl
      · rw [if_pos rfl, Bool.true_and, List.filter_cons, e]; rfl
    · rw [List.filter_map]
      congr 1
      exact List.filter_congr fun z hz => has_tab hs' (hs z hz)
  rw [agents_is (s := s), agents_is (s := s.filter fun z => decide (z ∈ s'))]
  split
  · rw [List.filter_reverse, h]
  · exact h
end
/-! rules -/
section
variable {top : List Int × Int} {t q : Int} {l : Str}
theorem cols_get {x : List Int × Int} (h : LowOk x.1 x.2) {j : Nat} (hj : j < 5) : (colsTo x 5).getD j 0 = ind x ((j : Int) + 1) := by
  unfold colsTo rangeKs
  rw [List.map_map, List.getD_eq_getElem?_getD, List.getElem?_map, List.getElem?_range hj]
  simp only [Option.map_some, Option.getD_some, Function.comp]
  rw [ind_col h (by omega), Int.add_comm]
theorem fn_col (h : LowOk top.1 top.2) (hq : 1 ≤ q ∧ q ≤ 5) : fnCol (colsTo top 5) q = ind top q := by
  unfold fnCol
  rw [cols_get h (by omega)]
  congr 1; omega
/-- after some records: how far the rules reach, and what they tell -/
def AlIs (l : Str) (i0 : Int) (b : Bool) (st : Int × Option Str) : Prop := ∃ M, st = (M, some (if b = true then l else Str.empty)) ∧ i0 ≤ M ∧ (b = true ↔ M = i0)
theorem al_first {i0 ix : Int} {r1 r2 : (Int → Int) × Str} (h0 : 1 ≤ i0) (hx : 0 ≤ ix) (e1 : r1.1 q = ix) (e2 : r2.1 q = i0) (v1 : r1.2 = Str.empty) (v2 : r2.2 = l) : AlIs l i0 (decide (ix ≤ i0)) (alStep q (alStep q (-1, none) r1) r2) := by
  unfold alStep
  rw [e1, e2, v1, v2]
  rw [if_neg (show ¬ i0 = 0 by omega)]
  by_cases c0 : ix = 0
  · rw [if_pos c0]
    dsimp only
    rw [if_pos (by omega)]
    exact ⟨i0, by rw [if_pos (by rw [decide_eq_true_eq]; omega)], Int.le_refl _, by rw [decide_eq_true_eq]; omega⟩
  · rw [if_neg c0]
    dsimp only
    rw [if_pos (show (-1 : Int) < ix by omega)]
    dsimp only
    by_cases c1 : ix < i0
    · rw [if_pos c1]
      exact ⟨i0, by rw [if_pos (by rw [decide_eq_true_eq]; omega)], Int.le_refl _, by rw [decide_eq_true_eq]; omega⟩
    · rw [if_neg c1]
      by_cases c2 : i0 = ix
      · rw [if_pos ⟨c2, rfl⟩]
        exact ⟨ix, by rw [if_pos (by rw [decide_eq_true_eq]; omega)], by omega, by rw [decide_eq_true_eq]; omega⟩
      · rw [if_neg fun h => c2 h.1]
        exact ⟨ix, by rw [if_neg (by rw [decide_eq_true_eq]; omega)], by omega, by rw [decide_eq_true_eq]; omega⟩
theorem al_more {i0 ix : Int} {b : Bool} {st : Int × Option Str} {r1 r2 : (Int → Int) × Str} (hl : l ≠ Str.empty) (h0 : 1 ≤ i0) (hx : 0 ≤ ix) (e1 : r1.1 q = ix) (e2 : r2.1 q = i0) (v1 : r1.2 = Str.empty) (h : AlIs l i0 b st) : AlIs l i0 (b && decide (ix ≤ i0)) (alStep q (alStep q st r1) r2) := by
  obtain ⟨M, rfl, hM, hb⟩ := h
  have step1 : AlIs l i0 (b && decide (ix ≤ i0)) (alStep q (M, some (if b = true then l else Str.empty)) r1) := by
    unfold alStep
    rw [e1, v1]
    dsimp only
    by_cases c0 : ix = 0
    · rw [if_pos c0, decide_eq_true (show ix ≤ i0 by omega), Bool.and_true]
      exact ⟨M, rfl, hM, hb⟩
    · rw [if_neg c0]
      by_cases c1 : M < ix
      · rw [if_pos c1, decide_eq_false (show ¬ ix ≤ i0 by omega), Bool.and_false]
        exact ⟨ix, rfl, by omega, by simp; omega⟩
      · rw [if_neg c1]
        have e : (b && decide (ix ≤ i0)) = b := by
          cases b
          · rfl
          · have := hb.mp rfl
            rw [decide_eq_true (by omega)]; rfl
        rw [e]
        by_cases hc : ix = M ∧ some (if b = true then l else Str.empty) = some Str.empty
        · rw [if_pos hc]
          have hb' : b = false := by
            cases b
            · rfl
            · exact absurd (Option.some.inj hc.2) hl
          subst hb'
          exact ⟨M, rfl, hM, hb⟩
        · rw [if_neg hc]
          exact ⟨M, rfl, hM, hb⟩
  generalize (b && decide (ix ≤ i0)) = b' at *
  obtain ⟨M', e', hM', hb'⟩ := step1
  rw [e']
  unfold alStep
  rw [e2]
  dsimp only
  rw [if_neg (by omega), if_neg (by omega)]
  by_cases hc : i0 = M' ∧ some (if b' = true then l else Str.empty) = some Str.empty
  · have hb1 := hb'.mpr hc.1.symm
    subst hb1
    exact absurd (Option.some.inj hc.2) hl
  · rw [if_neg hc]
    exact ⟨M', rfl, hM', hb'⟩
def rulesFor (cols : List Int) (ps : List ((List Int × Int) × Str)) : List ((Int → Int) × Str) := ps.flatMap fun p => rulO cols p.1 p.2
theorem empty_is : Str.ofString "" = Str.empty := by decide +kernel
theorem al_fold (hT : TopOk top.1 top.2) (hl : l ≠ Str.empty) (hq : 1 ≤ q ∧ q ≤ 5) : ∀ (ps : List ((List Int × Int) × Str)) (b : Bool) (st : Int × Option Str), (∀ p ∈ ps, LowOk p.1.1 p.1.2) → AlIs l (ind top q) b st → AlIs l (ind top q) (b && ps.all fun p => decide (ind p.1 q ≤ ind top q)) ((rulesFor (colsTo top 5) ps).foldl (alStep q) st)
  | [], b, st, _, h => by simpa [rulesFor] using h
  | p :: ps, b, st, hp, h => by
    have h1 := ind_low (hp p (.head _)) hq
    have h2 := al_more hl (ind_top hT hq.1) h1.1 (r1 := (indentOf (stOf p.1.1 p.1.2), Str.ofString "")) (r2 := (fnCol (colsTo top 5), p.2)) rfl (fn_col hT.low hq) empty_is h
    have h3 := al_fold hT hl hq ps _ _ (fun x hx => hp x (.tail _ hx)) h2
    rw [List.all_cons, ← Bool.and_assoc]
    exact h3
theorem al_is (hT : TopOk top.1 top.2) (hq : 1 ≤ q ∧ q ≤ 5) {p : (List Int × Int) × Str} {ps : List ((List Int × Int) × Str)} (hp : ∀ x ∈ p :: ps, LowOk x.1.1 x.1.2) (hl : p.2 ≠ Str.empty) : alOf (rulesFor (colsTo top 5) (p :: ps)) q = some (if ((p :: ps).all fun p => decide (ind p.1 q ≤ ind top q)) = true then p.2 else Str.empty) := by
  have h1 := ind_low (hp p (.head _)) hq
  have h2 := al_first (ind_top hT hq.1) h1.1 (r1 := (indentOf (stOf p.1.1 p.1.2), Str.ofString "")) (r2 := (fnCol (colsTo top 5), p.2)) (l := p.2) rfl (fn_col hT.low hq) empty_is rfl
  obtain ⟨M, e, _, _⟩ := al_fold hT hl hq ps _ _ (fun x hx => hp x (.tail _ hx)) h2
  unfold alOf
  show (List.foldl (alStep q) (alStep q (alStep q (-1, none) _) _) (rulesFor (colsTo top 5) ps)).2 = _
  rw [e, List.all_cons]
end
end Mine
end

section
open PySem PySem.W PyProof.Rows
namespace Mine
theorem sec_QPC {M : Model} {A : Around} {E : Value → Shared → Prop} {s : Shared} {env : Env} {p : Pos} {Q : Flow → Shared → Prop} (h : Q .next s) : wpAny M A (exec (.Pass p) env) Q E s := by
  w_top off
  k_with_none
  walk1
  exact h
end Mine
end
section
open PySem PySem.W PyProof.Rows
set_option maxRecDepth 100000
set_option maxHeartbeats 1000000
namespace Mine
def lowAt (q : List (List Int × Int)) (z : Int) : List Int × Int := (q[z.toNat]?).getD ([], 0)
/-- the sizes at which the top's column is no smaller than that of any of the lows -/
def gsz (top : List Int × Int) (xs : List (List Int × Int)) : List Int := five.filter fun t => xs.all fun x => decide (ind x t ≤ ind top t)
theorem five_is : five = (List.range 5).map (fun j : Nat => (j : Int) + 1) := by decide
section
variable {top x y : List Int × Int} {q xs ys : List (List Int × Int)} {zs ms : List Int} {z t : Int} {j : Nat}
theorem gsz_five : Five (gsz top xs) := fun z hz => (List.mem_filter.mp hz).1
theorem gsz_len : (gsz top xs).length ≤ 5 := List.length_filter_le _ _
theorem mem_gsz (hz : z ∈ five) : z ∈ gsz top xs ↔ (xs.all fun x => decide (ind x z ≤ ind top z)) = true := by
  unfold gsz; rw [List.mem_filter]; exact ⟨fun h => h.2, fun h => ⟨hz, h⟩⟩
theorem gsz_meet : ((gsz top xs).filter fun z => decide (z ∈ gsz top ys)) = gsz top (xs ++ ys) := by
  show ((five.filter _).filter _) = five.filter _
  rw [List.filter_filter]
  refine List.filter_congr fun z hz => ?_
  rw [List.all_append, Bool.eq_iff_iff, Bool.and_eq_true, Bool.and_eq_true, decide_eq_true_eq, mem_gsz hz]
  exact And.comm
theorem low_mem (hl : q.length = 3) (hz : 0 ≤ z ∧ z ≤ 2) : lowAt q z ∈ q := by
  unfold lowAt
  rw [List.getElem?_eq_getElem (show z.toNat < q.length by omega)]
  exact List.getElem_mem _
theorem col_top (h : LowOk top.1 top.2) (hj : j < 5) : colAt (top :: q) 0 j = ind top ((j : Int) + 1) := by
  unfold colAt
  exact cols_get h hj
theorem col_low (hz : 0 ≤ z) (h : LowOk (lowAt q z).1 (lowAt q z).2) (hj : j < 5) : colAt (top :: q) (z + 1) j = ind (lowAt q z) ((j : Int) + 1) := by
  unfold colAt
  rw [show (z + 1).toNat = z.toNat + 1 by omega, List.getElem?_cons_succ]
  exact cols_get h hj
theorem far_at {q4 : List (List Int × Int)} (hfar : FarOk q4 zs ms) (hml : ms.length = 5) (hj : j < 5) : IsMax (ms.getD j 0) (zs.map fun z => colAt q4 (z + 1) j) := by
  rw [List.getD_eq_getElem?_getD, List.getElem?_eq_getElem (by omega)]
  exact hfar j _ (List.getElem?_eq_getElem (by omega))
theorem far_le (hl : q.length = 3) (hlow : ∀ x ∈ q, LowOk x.1 x.2) (hz : ∀ z ∈ zs, 0 ≤ z ∧ z ≤ 2) (hfar : FarOk (top :: q) zs ms) (hml : ms.length = 5) (hj : j < 5) (c : Int) : decide (ms.getD j 0 ≤ c) = (zs.map (lowAt q)).all fun x => decide (ind x ((j : Int) + 1) ≤ c) := by
  obtain ⟨h1, h2⟩ := far_at hfar hml hj
  have e : ∀ z ∈ zs, colAt (top :: q) (z + 1) j = ind (lowAt q z) ((j : Int) + 1) := fun z h => col_low (hz z h).1 (hlow _ (low_mem hl (hz z h))) hj
  rw [Bool.eq_iff_iff, decide_eq_true_eq, List.all_eq_true]
  constructor
  · intro h x hx
    obtain ⟨z, hz', rfl⟩ := List.mem_map.mp hx
    have := h2 _ (List.mem_map_of_mem (f := fun z => colAt (top :: q) (z + 1) j) hz')
    rw [e z hz'] at this
    rw [decide_eq_true_eq]
    exact Int.le_trans this h
  · intro h
    obtain ⟨z, hz', e'⟩ := List.mem_map.mp h1
    rw [← e', e z hz']
    exact of_decide_eq_true (h _ (List.mem_map_of_mem hz'))
theorem sz_is (hT : LowOk top.1 top.2) (hl : q.length = 3) (hlow : ∀ x ∈ q, LowOk x.1 x.2) (hz : ∀ z ∈ zs, 0 ≤ z ∧ z ≤ 2) (hfar : FarOk (top :: q) zs ms) (hml : ms.length = 5) : szOf (colAt (top :: q) 0) ms 5 = gsz top (zs.map (lowAt q)) := by
  unfold szOf gsz
  rw [five_is, List.filter_map]
  congr 1
  refine List.filter_congr fun j hj => ?_
  have hj' := List.mem_range.mp hj
  rw [col_top hT hj', far_le hl hlow hz hfar hml hj']
  rfl
theorem back_is (hT : LowOk top.1 top.2) (hl : q.length = 3) (hlow : ∀ x ∈ q, LowOk x.1 x.2) (hz : 0 ≤ z ∧ z ≤ 2) (hfar : FarOk (top :: q) [z] ms) (hml : ms.length = 5) : backOf (colAt (top :: q) 0) ms 5 = (five.filter fun t => decide (ind top t ≤ ind (lowAt q z) t)).map fun t => (t, ind (lowAt q z) t, ind top t) := by
  have e : ∀ j < 5, ms.getD j 0 = ind (lowAt q z) ((j : Int) + 1) := by
    intro j hj
    have h := (far_at hfar hml hj).1
    rw [List.map_cons, List.map_nil, List.mem_singleton] at h
    rw [h]
    exact col_low hz.1 (hlow _ (low_mem hl hz)) hj
  unfold backOf
  rw [five_is, List.filter_map, List.map_map]
  have e2 : ((List.range 5).filter fun j => decide (colAt (top :: q) 0 j ≤ ms.getD j 0)) = (List.range 5).filter ((fun t => decide (ind top t ≤ ind (lowAt q z) t)) ∘ fun j : Nat => (j : Int) + 1) := by
    refine List.filter_congr fun j hj => ?_
    have hj' := List.mem_range.mp hj
    rw [col_top hT hj', e j hj']; rfl
  rw [e2]
  refine List.map_congr_left fun j hj => ?_
  have hj' := List.mem_range.mp (List.mem_filter.mp hj).1
  rw [col_top hT hj', e j hj']; rfl
/-! less -/
theorem ind_one (h : LowOk x.1 x.2) : (stOf x.1 x.2).n = ind x 1 := by
  rw [ind_is h (by decide), stOf_is h.2.2 h.1]
  dsimp only
  have e : (x.1.map fun r => Int.fdiv r 1) = x.1 := by
    rw [show (fun r => Int.fdiv r 1) = (id : Int → Int) from funext fun r => Int.fdiv_one r, List.map_id]
  rw [e]; omega
theorem simple_ind (h : LowOk x.1 x.2) (hc : ((stOf x.1 x.2).cs.length : Int) ≤ 1) (ht : 1 ≤ t) : ind x t = x.2 + t * (x.1.length : Int) ∧ (TopOk x.1 x.2 → x.2 = 4) ∧ (stOf x.1 x.2).nt = x.1.length := by
  rw [stOf_is h.2.2 h.1] at hc ⊢
  have e := (bumps_le (m := 0) x.1 [] h.1 (by decide)).2.2
  have h0 : ∀ r ∈ x.1, r = 0 := fun r hr => by
    have := e r hr
    have := h.1 r hr
    dsimp only at hc
    omega
  refine ⟨?_, fun hT => ?_, rfl⟩
  · rw [ind_is h ht]
    have hs : ∀ l : List Int, (∀ r ∈ l, r = 0) → (l.map fun r => Int.fdiv r t).sum = 0 := by
      intro l
      induction l with
      | nil => intro _; rfl
      | cons a r ih =>
        intro hh
        rw [List.map_cons, List.sum_cons, hh a (.head _), ih fun z hz => hh z (.tail _ hz), Int.zero_fdiv]
        rfl
    rw [hs x.1 h0, Int.zero_add]
  · rcases hT.2.2.2 with h4 | h4
    · have := h0 4 h4; omega
    · exact h4
theorem no_five {p : Int → Bool} : (five.filter p = []) ↔ p 1 = false ∧ p 2 = false ∧ p 3 = false ∧ p 4 = false ∧ p 5 = false := by
  rw [List.filter_eq_nil_iff]
  simp only [five, List.mem_cons, List.not_mem_nil, or_false, forall_eq_or_imp, forall_eq, Bool.not_eq_true]
theorem less_is (hx : LowOk x.1 x.2) (hy : LowOk y.1 y.2) (h : TopOk x.1 x.2 ∨ TopOk y.1 y.2) : lessOf (stOf x.1 x.2) (stOf y.1 y.2) = decide ((five.filter fun t => decide (ind y t ≤ ind x t)) = []) := by
  rw [Bool.eq_iff_iff, decide_eq_true_eq, no_five]
  simp only [decide_eq_false_iff_not, Int.not_le]
  unfold lessOf
  rw [ind_one hx, ind_one hy]
  split
  · rename_i hc
    constructor
    · intro hf; cases hf
    · rintro ⟨h1, _⟩; omega
  · rename_i hc
    split
    · rename_i hs
      have a1 := simple_ind hx hs.1 (t := 1) (by decide)
      have b1 := simple_ind hy hs.2 (t := 1) (by decide)
      have h4 : x.2 = 4 ∨ y.2 = 4 := h.elim (fun h => .inl (a1.2.1 h)) fun h => .inr (b1.2.1 h)
      rw [a1.2.2, b1.2.2, decide_eq_true_eq]
      rw [a1.1, b1.1] at hc
      rw [a1.1, b1.1, (simple_ind hx hs.1 (t := 2) (by decide)).1, (simple_ind hy hs.2 (t := 2) (by decide)).1, (simple_ind hx hs.1 (t := 3) (by decide)).1, (simple_ind hy hs.2 (t := 3) (by decide)).1, (simple_ind hx hs.1 (t := 4) (by decide)).1, (simple_ind hy hs.2 (t := 4) (by decide)).1, (simple_ind hx hs.1 (t := 5) (by decide)).1, (simple_ind hy hs.2 (t := 5) (by decide)).1]
      have l1 := hx.2
      have l2 := hy.2
      omega
    · rw [top_is hx hy h, show ((5 : Int) - 1).toNat = 4 by decide, show rangeKs 2 4 = [2, 3, 4, 5] by decide]
      simp only [List.all_cons, List.all_nil, Bool.and_true, Bool.and_eq_true, decide_eq_true_eq]
      show (ind x 2 < ind y 2 ∧ ind x 3 < ind y 3 ∧ ind x 4 < ind y 4 ∧ ind x 5 < ind y 5) ↔ _
      constructor
      · rintro ⟨h2, h3, h4, h5⟩
        exact ⟨by omega, h2, h3, h4, h5⟩
      · rintro ⟨_, h2, h3, h4, h5⟩
        exact ⟨h2, h3, h4, h5⟩
/-! records -/
theorem wit_sizes (hT : TopOk top.1 top.2) (hx : LowOk x.1 x.2) : witOf (stOf top.1 top.2) (stOf x.1 x.2) = (gsz top [x]).map fun t => (t, ind top t, ind x t) := by
  rw [wit_is hT.low hx (.inl hT)]
  congr 1
  exact List.filter_congr fun z hz => by simp
theorem wit_names (hT : TopOk top.1 top.2) (hx : LowOk x.1 x.2) : namedOf (fmtText (witOf (stOf top.1 top.2) (stOf x.1 x.2))) = (gsz top [x]).map strN := by
  rw [fmt_s, wit_sizes hT hx, List.map_map]
  have e : (gsz top [x]).map ((fun r : Int × Int × Int => r.1) ∘ fun t => (t, ind top t, ind x t)) = gsz top [x] := by
    rw [show ((fun r : Int × Int × Int => r.1) ∘ fun t => (t, ind top t, ind x t)) = (id : Int → Int) from rfl, List.map_id]
  rw [e]
  exact named_all _ (filter_subs _ _)
theorem rows_ok' (hT : TopOk top.1 top.2) (hx : LowOk x.1 x.2) : RowsOk (witOf (stOf top.1 top.2) (stOf x.1 x.2)) := by
  have h5 : (gsz top [x]).length ≤ 5 := gsz_len
  refine ⟨?_, fun r hr => ?_, ?_, fun n hn => ?_⟩
  · rw [wit_sizes hT hx, List.length_map]; omega
  · rw [wit_sizes hT hx] at hr
    obtain ⟨t, ht, rfl⟩ := List.mem_map.mp hr
    have := mem_five.mp (gsz_five t ht)
    dsimp only; omega
  · rw [wit_names hT hx, List.length_map]; omega
  · rw [wit_names hT hx] at hn
    obtain ⟨t, ht, rfl⟩ := List.mem_map.mp hn
    exact name_short t (gsz_five t ht)
theorem ag_is (hT : TopOk top.1 top.2) (hx : LowOk x.1 x.2) (l : Str) (b : Bool) : agO (stOf top.1 top.2) x l b = lawAgents ((gsz top [x]).map strN) l b := by
  unfold agO
  rw [wit_names hT hx]
theorem keeps_of {p : (List Int × Int) × Str} {ps : List ((List Int × Int) × Str)} {sb : Bool} (hT : TopOk top.1 top.2) (hp : ∀ x ∈ p :: ps, LowOk x.1.1 x.1.2) (hlen : ∀ x ∈ p :: ps, x.2.length ≤ 10) (hl : p.2 ≠ Str.empty) : KeepsOk (lawAgents ((gsz top ((p :: ps).map (·.1))).map strN) p.2 sb) (rulesFor (colsTo top 5) (p :: ps)) (gsz top ((p :: ps).map (·.1))) p.2 sb where
  hn := Nat.le_trans gsz_len (by decide)
  hz := fun z hz => mem_five.mp (gsz_five z hz)
  hA := rfl
  hS := has_star gsz_five
  hbd := by
    intro r hr q hq
    obtain ⟨y, hy, hr⟩ := List.mem_flatMap.mp hr
    rcases List.mem_cons.mp hr with rfl | hr
    · have h := ind_low (hp y hy) hq
      refine ⟨h.1, Int.le_trans h.2 (by decide), ?_⟩
      show (Str.ofString "").length ≤ 1000
      decide +kernel
    · rw [List.mem_singleton.mp hr]
      have h := ind_low hT.low hq
      dsimp only
      rw [fn_col hT.low hq]
      exact ⟨h.1, Int.le_trans h.2 (by decide), Nat.le_trans (hlen y hy) (by decide)⟩
  hAl := by
    intro q hq
    rw [al_is hT hq hp hl]
    congr 1
    have e : (q ∈ gsz top ((p :: ps).map (·.1))) ↔ ((p :: ps).all fun p => decide (ind p.1 q ≤ ind top q)) = true := by
      rw [mem_gsz (mem_five.mpr hq), List.all_map]; rfl
    by_cases c : q ∈ gsz top ((p :: ps).map (·.1))
    · rw [if_pos (e.mp c), if_pos c]
    · rw [if_neg (fun h => c (e.mpr h)), if_neg c]
  hAp := fun q hq => applies_is gsz_five (mem_five.mpr hq)
  hlt := hlen p (.head _)
  hok := all_agents star_ok.1 (fun z hz => (tab_ok z hz).1) gsz_five
  hag := all_agents star_ok.2 (fun z hz => (tab_ok z hz).2) gsz_five
theorem letO_ok : ∀ k, (letO k).length ≤ 10 ∧ letO k ≠ Str.empty
  | 0 => by decide +kernel
  | 1 => by decide +kernel
  | _ + 2 => by
    show (Str.ofString "c").length ≤ 10 ∧ Str.ofString "c" ≠ Str.empty
    decide +kernel
theorem turn_of {z0 : Int} {zr : List Int} {bs : List Bool} (hT : TopOk top.1 top.2) (hl : q.length = 3) (hlow : ∀ x ∈ q, LowOk x.1 x.2) (hz : ∀ z ∈ z0 :: zr, 0 ≤ z ∧ z ≤ 2) {A : List Str} {R : List ((Int → Int) × Str)}
    (hA : A = lawAgents ((gsz top ((z0 :: zr).map (lowAt q))).map strN) (letO z0.toNat) (starOf bs (z0 :: zr))) (hR : R = rulesFor (colsTo top 5) ((z0 :: zr).map fun z => (lowAt q z, letO z.toNat))) : TurnOk (stOf top.1 top.2) (top :: q) q bs A R (z0 :: zr) := by
  intro ms hml hfar
  rw [sz_is hT.low hl hlow hz hfar hml]
  refine ⟨?_, fun h1 x hx => ?_⟩
  · have hk := keeps_of (sb := starOf bs (z0 :: zr)) (p := (lowAt q z0, letO z0.toNat)) (ps := zr.map fun z => (lowAt q z, letO z.toNat)) hT (fun x hx => by
      rcases List.mem_cons.mp hx with rfl | hx
      · exact hlow _ (low_mem hl (hz z0 (.head _)))
      · obtain ⟨z, hz', rfl⟩ := List.mem_map.mp hx
        exact hlow _ (low_mem hl (hz z (.tail _ hz')))) (fun x hx => by
      rcases List.mem_cons.mp hx with rfl | hx
      · exact (letO_ok _).1
      · obtain ⟨z, hz', rfl⟩ := List.mem_map.mp hx
        exact (letO_ok _).1) (letO_ok _).2
    have e : ((lowAt q z0, letO z0.toNat) :: zr.map fun z => (lowAt q z, letO z.toNat)).map (·.1) = (z0 :: zr).map (lowAt q) := by
      rw [List.map_cons, List.map_map, List.map_cons]; rfl
    rw [e] at hk
    rw [hA, hR]
    exact hk
  · obtain rfl : zr = [] := List.eq_nil_of_length_eq_zero (by simpa using h1)
    have hz0 := hz z0 (.head _)
    have ex : x = lowAt q z0 := by
      unfold lowAt
      rw [show z0 = (([z0] : List Int).getD 0 0) from rfl]
      rw [hx]; rfl
    subst ex
    have hL := hlow _ (low_mem hl hz0)
    rw [back_is hT.low hl hlow hz0 hfar hml]
    refine ⟨wit_is hL hT.low (.inr hT), ?_, ?_⟩
    · rw [less_is hT.low hL (.inl hT)]
      congr 1
      have e : gsz top ([z0].map (lowAt q)) = five.filter fun t => decide (ind (lowAt q z0) t ≤ ind top t) := List.filter_congr fun z hz => by simp
      rw [e]
    · rw [less_is hL hT.low (.inr hT), Bool.eq_iff_iff, decide_eq_true_eq, decide_eq_true_eq, List.map_eq_nil_iff]
end
end Mine
end

end
end
end
end
section
open PySem PySem.W PyProof.Rows
namespace Mine
theorem sec_QJ1 {M : Model} {A : Around} {E : Value → Shared → Prop} {s : Shared} {env : Env} {p : Pos} {Q : Flow → Shared → Prop} (h : Q .next s) : wpAny M A (exec (.Pass p) env) Q E s := by
  w_top off
  k_with_none
  walk1
  exact h
end Mine
end
section
open PySem PySem.W PyProof.Rows
set_option maxRecDepth 100000
set_option maxHeartbeats 1000000
namespace Mine
noncomputable def lawRest (k : Nat) : List Stmt := lawBody.drop k
theorem lawLen : lawBody.length = 11 := by rfl
theorem rest_step {k : Nat} (h : k < 11) : lawRest k = lawStmt k :: lawRest (k + 1) := by
  unfold lawRest lawStmt
  rw [← lawLen] at h
  rw [List.drop_eq_getElem_cons h, List.getElem?_eq_getElem h]
  rfl
theorem step {k : Nat} {M : Model} {A : Around} {env : Env} {Q : Flow → Shared → Prop} {E : Value → Shared → Prop} {s : Shared} (hk : k < 11) (h : wpAny M A (exec (lawStmt k) env) (fun f s' => match f with | .next => wpAny M A (execs (lawRest (k + 1)) env) Q E s' | f => Q f s') E s) : wpAny M A (execs (lawRest k) env) Q E s := by
  rw [rest_step hk]; exact wpAny_execs_cons h
theorem sameOf {s s' : Shared} {h : Heap} {tk : Nat} (x : Same { s with heap := h, toks := tk } s') : Same s s' := ⟨x.1, x.2.1, x.2.2⟩
theorem newsTabs {h₀ h : Heap} {L : Addr} {led : Led} {t1 t2 : Array Value} (N : News h₀ L h led) (h1 : tb1 t1 ∈ led) (h2 : tb2 t2 ∈ led) : News h₀ L h [tb1 t1, tb2 t2] := newsSub N (allCons h1 (allCons h2 allNil))
theorem RulesAt.app {w : World} {news : Led} {rv1 rv2 : List Value} {r1 r2 : List ((Int → Int) × Str)} (h1 : RulesAt w news rv1 r1) (h2 : RulesAt w news rv2 r2) : RulesAt w news (rv1 ++ rv2) (r1 ++ r2) := by
  refine ⟨by rw [List.length_append, List.length_append, h1.1, h2.1], fun i v e => ?_⟩
  by_cases hi : i < rv1.length
  · rw [List.getElem?_append_left hi] at e
    obtain ⟨y, g, u, a, b, c⟩ := h1.2 i v e
    exact ⟨y, g, u, a, by rw [List.getElem?_append_left (by rw [← h1.1]; exact hi)]; exact b, c⟩
  · rw [List.getElem?_append_right (by omega)] at e
    obtain ⟨y, g, u, a, b, c⟩ := h2.2 _ v e
    exact ⟨y, g, u, a, by rw [List.getElem?_append_right (by rw [← h1.1]; omega), ← h1.1]; exact b, c⟩
/-- the last statement -/
theorem seg10 {M : Model} {A : Around} {env : Env} {Q : Flow → Shared → Prop} {E : Value → Shared → Prop} {s : Shared} (h : Q (.ret (.bool true)) s) : wpAny M A (exec (lawStmt 10) env) Q E s := by
  have e : ∃ k p p2, lawStmt 10 = .Return (some (.Constant (.bool true) k p)) p2 := ⟨_, _, _, by conv => lhs; whnf⟩
  obtain ⟨k, p, p2, e⟩ := e
  rw [e]
  exact wpAny_Return_some (wpAny_Constant_bool h)
abbrev six (L : Addr) (c1 c2 c3 c4 c5 c6 : Obj) (KX : Led) : Led := (L + 1, c1) :: (L + 1 + 1, c2) :: (L + 1 + 1 + 1, c3) :: (L + 1 + 1 + 1 + 1, c4) :: (L + 1 + 1 + 1 + 1 + 1, c5) :: (L + 1 + 1 + 1 + 1 + 1 + 1, c6) :: KX
theorem three {α : Type} {l : List α} (h : l.length = 3) : ∃ a b c, l = [a, b, c] := by
  rcases l with _ | ⟨a, _ | ⟨b, _ | ⟨c, _ | ⟨d, l⟩⟩⟩⟩ <;> simp at h
  exact ⟨a, b, c, rfl⟩
theorem meet3 {top x1 x2 x3 : List Int × Int} {l : Str} {b1 b2 b3 : Bool} : (lawAgents ((gsz top [x1]).map strN) l b1).filter (hasS (lawAgents ((gsz top [x2]).map strN) (letO 1) b2)) = lawAgents ((gsz top [x1, x2]).map strN) l (b1 && b2) := by
  rw [meet_agents gsz_five gsz_five, gsz_meet]; rfl
/-- what each of the six records is like -/
theorem six_turns {w : World} {led : Led} {top x1 x2 x3 : List Int × Int} {b1 b2 b3 : Bool} {z1 z2 z3 zp zl zr : Addr} {rv1 rv2 rv3 : List Value} (hT : TopOk top.1 top.2) (hlow : ∀ x ∈ [x1, x2, x3], LowOk x.1 x.2)
    (E1 : EntAt led z1 (agO (stOf top.1 top.2) x1 (letO 0) b1) rv1) (E2 : EntAt led z2 (agO (stOf top.1 top.2) x2 (letO 1) b2) rv2) (E3 : EntAt led z3 (agO (stOf top.1 top.2) x3 (letO 2) b3) rv3)
    (R1 : RulesAt w led rv1 (rulO (colsTo top 5) x1 (letO 0))) (R2 : RulesAt w led rv2 (rulO (colsTo top 5) x2 (letO 1))) (R3 : RulesAt w led rv3 (rulO (colsTo top 5) x3 (letO 2)))
    (EP : EntAt led zp ((agO (stOf top.1 top.2) x1 (letO 0) b1).filter (hasS (agO (stOf top.1 top.2) x2 (letO 1) b2))) (rv1 ++ rv2))
    (EL : EntAt led zl (((agO (stOf top.1 top.2) x1 (letO 0) b1).filter (hasS (agO (stOf top.1 top.2) x2 (letO 1) b2))).filter (hasS (agO (stOf top.1 top.2) x3 (letO 2) b3))) ((rv1 ++ rv2) ++ rv3))
    (ER : EntAt led zr ((agO (stOf top.1 top.2) x3 (letO 2) b3).filter (hasS ((agO (stOf top.1 top.2) x2 (letO 1) b2).filter (hasS (agO (stOf top.1 top.2) x1 (letO 0) b1))))) (rv3 ++ (rv2 ++ rv1))) :
    ∀ (i : Nat) v zs, [Value.ref z1, .ref z2, .ref z3, .ref zp, .ref zl, .ref zr][i]? = some v → grps[i]? = some zs → ∃ a ags rv rules, v = .ref a ∧ EntAt led a ags rv ∧ RulesAt w led rv rules ∧ TurnOk (stOf top.1 top.2) (top :: [x1, x2, x3]) [x1, x2, x3] [b1, b2, b3] ags rules zs := by
  have h1 := hlow x1 (.head _)
  have h2 := hlow x2 (.tail _ (.head _))
  have h3 := hlow x3 (.tail _ (.tail _ (.head _)))
  have a1 := ag_is hT h1 (letO 0) b1
  have a2 := ag_is hT h2 (letO 1) b2
  have a3 := ag_is hT h3 (letO 2) b3
  have aP : (agO (stOf top.1 top.2) x1 (letO 0) b1).filter (hasS (agO (stOf top.1 top.2) x2 (letO 1) b2)) = lawAgents ((gsz top [x1, x2]).map strN) (letO 0) (b1 && b2) := by
    rw [a1, a2, meet_agents gsz_five gsz_five, gsz_meet]; rfl
  have aL : ((agO (stOf top.1 top.2) x1 (letO 0) b1).filter (hasS (agO (stOf top.1 top.2) x2 (letO 1) b2))).filter (hasS (agO (stOf top.1 top.2) x3 (letO 2) b3)) = lawAgents ((gsz top [x1, x2, x3]).map strN) (letO 0) ((b1 && b2) && b3) := by
    rw [aP, a3, meet_agents gsz_five gsz_five, gsz_meet]; rfl
  have aR : (agO (stOf top.1 top.2) x3 (letO 2) b3).filter (hasS ((agO (stOf top.1 top.2) x2 (letO 1) b2).filter (hasS (agO (stOf top.1 top.2) x1 (letO 0) b1)))) = lawAgents ((gsz top [x3, x2, x1]).map strN) (letO 2) (b3 && (b2 && b1)) := by
    rw [a1, a2, a3, meet_agents gsz_five gsz_five, gsz_meet, meet_agents gsz_five gsz_five, gsz_meet]; rfl
  intro i v zs hv hz
  rcases i with _ | _ | _ | _ | _ | _ | i
  · obtain rfl := Option.some.inj hv
    obtain rfl := Option.some.inj hz
    exact ⟨_, _, _, _, rfl, E1, R1, turn_of hT rfl hlow (by decide) (a1.trans (by cases b1 <;> rfl)) rfl⟩
  · obtain rfl := Option.some.inj hv
    obtain rfl := Option.some.inj hz
    exact ⟨_, _, _, _, rfl, E2, R2, turn_of hT rfl hlow (by decide) (a2.trans (by cases b2 <;> rfl)) rfl⟩
  · obtain rfl := Option.some.inj hv
    obtain rfl := Option.some.inj hz
    exact ⟨_, _, _, _, rfl, E3, R3, turn_of hT rfl hlow (by decide) (a3.trans (by cases b3 <;> rfl)) rfl⟩
  · obtain rfl := Option.some.inj hv
    obtain rfl := Option.some.inj hz
    exact ⟨_, _, _, _, rfl, EP, R1.app R2, turn_of hT rfl hlow (by decide) (aP.trans (by cases b1 <;> cases b2 <;> rfl)) rfl⟩
  · obtain rfl := Option.some.inj hv
    obtain rfl := Option.some.inj hz
    exact ⟨_, _, _, _, rfl, EL, (R1.app R2).app R3, turn_of hT rfl hlow (by decide) (aL.trans (by cases b1 <;> cases b2 <;> cases b3 <;> rfl)) rfl⟩
  · obtain rfl := Option.some.inj hv
    obtain rfl := Option.some.inj hz
    exact ⟨_, _, _, _, rfl, ER, R3.app (R2.app R1), turn_of hT rfl hlow (by decide) (aR.trans (by cases b1 <;> cases b2 <;> cases b3 <;> rfl)) rfl⟩
  · simp at hv
theorem allIn {a b : Led} {x : Addr × Obj} (h : x ∈ b) (h2 : ∀ p ∈ a, p ∈ b) : ∀ p ∈ x :: a, p ∈ b := List.forall_mem_cons.mpr ⟨h, h2⟩
theorem rest5 (w : World) {dp un : Nat} {gd : Option (List Code)} {fa : Addr} {cd0 : Value} {outer : List Env} {A₀ : Around} {base h₀ : Heap} {L : Addr} {loose : List Str} {mean : ExcName → Option Value} {mg mb : Str → Option Value} {m : Str → Option Value} {s : Shared} {Q : Flow → Shared → Prop} {E : Value → Shared → Prop}
    (B : Below A₀ base outer h₀) (X : (hd.heap_39 w.params).In h₀) (T : Top topProg loose mean mg mb h₀) (hdp : dp + 9 < recursionLimit) (hu : un + 20 * 9 < cLine)
    (hE : PassesOwn (model PySem.Challenge.rw_rs0140_01.prog w) (ktrTop dp un gd (Str.ofString "law") lawSc L fa cd0 (lawCl L) outer) (lawEnv L fa cd0) E)
    {c1 c2 c3 c4 c5 c6 : Obj} {sa wa x0 lo D z1 z2 z3 : Addr} {top x1 x2 x3 : List Int × Int} {b1 b2 b3 : Bool} {ws lws rv1 rv2 rv3 : List Value} {ks kw kl kr : Nat} {t1 t2 : Array Value} {K4 : Led}
    (hm1 : m (Str.ofString "records") = some (.ref D)) (hc1 : c1.data = .cell (some (.ref sa))) (hc2 : c2.data = .cell (some (.ref wa))) (hc3 : c3.data = .cell (some (.ref x0))) (hc4 : c4.data = .cell (some (.ref lo))) (hc5 : ∃ v, c5.data = .cell v) (hc6 : ∃ v, c6.data = .cell v)
    (kk1 : (L + 1, c1) ∈ K4) (kk2 : (L + 1 + 1, c2) ∈ K4) (kk3 : (L + 1 + 1 + 1, c3) ∈ K4) (kk4 : (L + 1 + 1 + 1 + 1, c4) ∈ K4)
    (kS : (sa, W.listOf ([b1, b2, b3].map Value.bool).toArray ks) ∈ K4) (kW : (wa, W.listOf ws.toArray kw) ∈ K4) (hW : WalksAt K4 ws (top :: [x1, x2, x3])) (hwl : ws.length = 4) (hW0 : WhiteAt K4 x0 (stOf top.1 top.2)) (kL : (lo, W.listOf lws.toArray kl) ∈ K4) (hLw : WhitesAt K4 lws [x1, x2, x3]) (hll : lws.length = 3)
    (kR : (D, W.listOf #[.ref z1, .ref z2, .ref z3] kr) ∈ K4) (kt1 : tb1 t1 ∈ K4) (kt2 : tb2 t2 ∈ K4) (off5 : ∀ p ∈ K4, p.1 ≠ L + 1 + 1 + 1 + 1 + 1) (off6 : ∀ p ∈ K4, p.1 ≠ L + 1 + 1 + 1 + 1 + 1 + 1) (offL : ∀ p ∈ K4, p.1 ≠ L)
    (E1' : EntAt K4 z1 (agO (stOf top.1 top.2) x1 (letO 0) b1) rv1) (E2' : EntAt K4 z2 (agO (stOf top.1 top.2) x2 (letO 1) b2) rv2) (E3' : EntAt K4 z3 (agO (stOf top.1 top.2) x3 (letO 2) b3) rv3)
    (R1' : RulesAt w K4 rv1 (rulO (colsTo top 5) x1 (letO 0))) (R2' : RulesAt w K4 rv2 (rulO (colsTo top 5) x2 (letO 1))) (R3' : RulesAt w K4 rv3 (rulO (colsTo top 5) x3 (letO 2)))
    (hT : TopOk top.1 top.2) (hlow : ∀ x ∈ [x1, x2, x3], LowOk x.1 x.2)
    (F4 : Fr h₀ L s.heap m) (N4' : News h₀ L s.heap ((L + 1 + 1 + 1 + 1 + 1, c5) :: (L + 1 + 1 + 1 + 1 + 1 + 1, c6) :: K4)) (hQ : ∀ s' m' t1 t2, Fr h₀ L s'.heap m' → News h₀ L s'.heap [tb1 t1, tb2 t2] → Same s s' → Q (.ret (.bool true)) s') :
    wpAny (model PySem.Challenge.rw_rs0140_01.prog w) (ktrTop dp un gd (Str.ofString "law") lawSc L fa cd0 (lawCl L) outer) (execs (lawRest 5) (lawEnv L fa cd0)) Q E s := by
  have ag6 : ∀ x ∈ [x1, x2, x3], ∀ l b, (agO (stOf top.1 top.2) x l b).length ≤ 6 := fun x hx l b => by rw [ag_is hT (hlow x hx)]; exact agents_len gsz_len
  have a1 := ag6 x1 (.head _) (letO 0) b1
  have a2 := ag6 x2 (.tail _ (.head _)) (letO 1) b2
  have a3 := ag6 x3 (.tail _ (.tail _ (.head _))) (letO 2) b3
  have v1 : rv1.length = 2 := R1'.1
  have v2 : rv2.length = 2 := R2'.1
  have v3 : rv3.length = 2 := R3'.1
  have aP := Nat.le_trans (List.length_filter_le (hasS (agO (stOf top.1 top.2) x2 (letO 1) b2)) (agO (stOf top.1 top.2) x1 (letO 0) b1)) a1
  with_reducible refine step (by decide) ?_
  refine seg5 w B X T hdp hu (led := (L + 1 + 1 + 1 + 1 + 1, c5) :: (L + 1 + 1 + 1 + 1 + 1 + 1, c6) :: K4) (ag3 := []) (rv3 := []) hm1 (.tail _ (.tail _ kR)) (E1'.mono fun p hp => .tail _ (.tail _ hp)) (E2'.mono fun p hp => .tail _ (.tail _ hp)) (Nat.le_trans a1 (by decide)) (Nat.le_trans a2 (by decide)) (by omega) (by omega) F4 N4' ?_
  intro zp tl5 h5 tk5 m5 F5 hS5 N5 hn5 EP
  show wpAny _ _ (execs (lawRest 6) _) _ _ _
  obtain ⟨l5, el5⟩ : ∃ l5, l5 = tl5 ++ ((L + 1 + 1 + 1 + 1 + 1, c5) :: (L + 1 + 1 + 1 + 1 + 1 + 1, c6) :: K4) := ⟨_, rfl⟩
  rw [← el5] at N5
  have s5 : ∀ p ∈ K4, p ∈ l5 := fun p hp => by rw [el5]; exact memR (.tail _ (.tail _ hp))
  have EP' : EntAt l5 zp _ _ := EP.mono fun p hp => by rw [el5]; exact memL hp
  with_reducible refine step (by decide) ?_
  refine seg6 w B X T hdp hu (led := l5) (ag1 := []) (ag2 := []) (rv1 := []) (rv2 := []) ((hS5.off _ (by decide)).trans hm1) hS5.at_ (s5 _ kR) EP' (E3'.mono s5) (Nat.le_trans aP (by decide)) (Nat.le_trans a3 (by decide)) (by rw [List.length_append]; omega) (by omega) F5 N5 ?_
  intro zl tl6 h6 tk6 m6 F6 hS6 N6 hn6 EL
  show wpAny _ _ (execs (lawRest 7) _) _ _ _
  obtain ⟨l6, el6⟩ : ∃ l6, l6 = tl6 ++ l5 := ⟨_, rfl⟩
  rw [← el6] at N6
  have s6 : ∀ p ∈ l5, p ∈ l6 := fun p hp => by rw [el6]; exact memR hp
  have EL' : EntAt l6 zl _ _ := EL.mono fun p hp => by rw [el6]; exact memL hp
  with_reducible refine step (by decide) ?_
  refine seg7 w B X T hdp hu (led := l6) ((hS6.off _ (by decide)).trans ((hS5.off _ (by decide)).trans hm1)) (s6 _ (s5 _ kR)) (E1'.mono fun p hp => s6 p (s5 p hp)) (E2'.mono fun p hp => s6 p (s5 p hp)) (E3'.mono fun p hp => s6 p (s5 p hp)) (Nat.le_trans a1 (by decide)) (Nat.le_trans a2 (by decide)) (Nat.le_trans a3 (by decide)) (by omega) (by omega) (by omega) F6 N6 ?_
  intro zr tl7 h7 tk7 m7 F7 hS7 N7 hn7 ER
  show wpAny _ _ (execs (lawRest 8) _) _ _ _
  obtain ⟨l7, el7⟩ : ∃ l7, l7 = tl7 ++ l6 := ⟨_, rfl⟩
  rw [← el7] at N7
  have s7 : ∀ p ∈ l6, p ∈ l7 := fun p hp => by rw [el7]; exact memR hp
  with_reducible refine step (by decide) ?_
  with_reducible refine seg8 w B X T hdp hu F7 N7 ?_
  intro go gs kg tl8 h8 tk8 m8 F8 hS8 N8 hn8 kG hG
  show wpAny _ _ (execs (lawRest 9) _) _ _ _
  -- all that is new, ahead of the two open cells
  obtain ⟨K9, eK9⟩ : ∃ K9, K9 = tl8 ++ (tl7 ++ (tl6 ++ (tl5 ++ K4))) := ⟨_, rfl⟩
  have N9 : News h₀ L h8 ((L + 1 + 1 + 1 + 1 + 1, c5) :: (L + 1 + 1 + 1 + 1 + 1 + 1, c6) :: K9) := newsSub N8 (by
    rw [eK9, el7, el6, el5]
    refine allIn (memR (memR (memR (memR (.head _))))) (allIn (memR (memR (memR (memR (.tail _ (.head _)))))) ?_)
    exact fun p hp => (List.mem_append.mp hp).elim memL fun hp => memR ((List.mem_append.mp hp).elim memL fun hp => memR ((List.mem_append.mp hp).elim memL fun hp => memR ((List.mem_append.mp hp).elim memL fun hp => memR (.tail _ (.tail _ hp))))))
  have t8 : ∀ p ∈ tl8, p ∈ K9 := fun p hp => by rw [eK9]; exact memL hp
  have t7 : ∀ p ∈ tl7, p ∈ K9 := fun p hp => by rw [eK9]; exact memR (memL hp)
  have t6 : ∀ p ∈ tl6, p ∈ K9 := fun p hp => by rw [eK9]; exact memR (memR (memL hp))
  have t5 : ∀ p ∈ tl5, p ∈ K9 := fun p hp => by rw [eK9]; exact memR (memR (memR (memL hp)))
  have t4 : ∀ p ∈ K4, p ∈ K9 := fun p hp => by rw [eK9]; exact memR (memR (memR (memR hp)))
  have c6in : (L + 1 + 1 + 1 + 1 + 1 + 1, c6) ∈ l5 := by rw [el5]; exact memR (.tail _ (.head _))
  have new6 : ∀ a : Addr, @LE.le Nat _ a (L + 1 + 1 + 1 + 1 + 1 + 1) → (∀ p ∈ K4, p.1 ≠ a) → ∀ p ∈ K9, p.1 ≠ a := by
    intro a ha hK
    rw [eK9]
    have hb : ∀ {b : Addr}, @LT.lt Nat _ (L + 1 + 1 + 1 + 1 + 1 + 1) b → b ≠ a := fun h => Nat.ne_of_gt (Nat.lt_of_le_of_lt ha h)
    exact allApp (fun p hp => hb (hn8 p hp _ (s7 _ (s6 _ c6in)))) (allApp (fun p hp => hb (hn7 p hp _ (s6 _ c6in))) (allApp (fun p hp => hb (hn6 p hp _ c6in)) (allApp (fun p hp => hb (hn5 p hp _ (.tail _ (.head _)))) hK)))
  have hs : ∀ {y : Str}, y ≠ Str.ofString "groups" → y ≠ Str.ofString "right" → m8 y = m6 y := fun h1 h2 => (hS8.off _ h1).trans (hS7.off _ h2)
  with_reducible refine step (by decide) ?_
  with_reducible refine seg9 w B X T hdp hu hE (KK := K9) (st0 := stOf top.1 top.2) (q4 := top :: [x1, x2, x3]) (q := [x1, x2, x3]) (bs := [b1, b2, b3]) ((hs (by decide) (by decide)).trans ((hS6.off _ (by decide)).trans ((hS5.off _ (by decide)).trans hm1))) ((hs (by decide) (by decide)).trans ((hS6.off _ (by decide)).trans hS5.at_)) ((hs (by decide) (by decide)).trans hS6.at_) ((hS8.off _ (by decide)).trans hS7.at_) hS8.at_ hc1 hc2 hc3 hc4 hc5 hc6 (t4 _ kk1) (t4 _ kk2) (t4 _ kk3) (t4 _ kk4) (t4 _ kS) rfl (t4 _ kW) (hW.mono t4) hwl (hW0.mono t4) (t4 _ kL) (hLw.mono t4) hll (t4 _ kR) (t8 _ kG) (hG.mono t8) (six_turns hT hlow (E1'.mono t4) (E2'.mono t4) (E3'.mono t4) (R1'.mono t4) (R2'.mono t4) (R3'.mono t4) (EP.mono t5) (EL.mono t6) (ER.mono t7)) (new6 _ (Nat.le_succ _) off5) (new6 _ (Nat.le_refl _) off6) (new6 L (leN (by omega)) offL) F8 N9 ?_
  intro h9 tk9 m9 F9 N9'
  show wpAny _ _ (execs (lawRest 10) _) _ _ _
  with_reducible refine step (by decide) (seg10 ?_)
  exact hQ _ _ _ _ F9 (newsTabs N9' (t4 _ kt1) (t4 _ kt2)) ⟨rfl, rfl, id⟩
theorem rest4 (w : World) {dp un : Nat} {gd : Option (List Code)} {fa : Addr} {cd0 : Value} {outer : List Env} {A₀ : Around} {base h₀ : Heap} {L : Addr} {loose : List Str} {mean : ExcName → Option Value} {mg mb : Str → Option Value} {m : Str → Option Value} {s : Shared} {Q : Flow → Shared → Prop} {E : Value → Shared → Prop}
    (B : Below A₀ base outer h₀) (X : (hd.heap_39 w.params).In h₀) (T : Top topProg loose mean mg mb h₀) (hdp : dp + 9 < recursionLimit) (hu : un + 20 * 9 < cLine)
    (hE : PassesOwn (model PySem.Challenge.rw_rs0140_01.prog w) (ktrTop dp un gd (Str.ofString "law") lawSc L fa cd0 (lawCl L) outer) (lawEnv L fa cd0) E)
    {c1 c2 c3 c4 c5 c6 : Obj} {sa wa x0 lo : Addr} {top x1 x2 x3 : List Int × Int} {b1 b2 b3 : Bool} {ws lws : List Value} {ks kw kl : Nat} {KX : Led}
    (hc1 : c1.data = .cell (some (.ref sa))) (hc2 : c2.data = .cell (some (.ref wa))) (hc3 : c3.data = .cell (some (.ref x0))) (hc4 : c4.data = .cell (some (.ref lo))) (hc5 : ∃ v, c5.data = .cell v) (hc6 : ∃ v, c6.data = .cell v)
    (kS : (sa, W.listOf ([b1, b2, b3].map Value.bool).toArray ks) ∈ KX) (kW : (wa, W.listOf ws.toArray kw) ∈ KX) (hW : WalksAt KX ws (top :: [x1, x2, x3])) (hwl : ws.length = 4) (hW0 : WhiteAt KX x0 (stOf top.1 top.2)) (kL : (lo, W.listOf lws.toArray kl) ∈ KX) (hLw : WhitesAt KX lws [x1, x2, x3]) (hll : lws.length = 3)
    (hT : TopOk top.1 top.2) (hlow : ∀ x ∈ [x1, x2, x3], LowOk x.1 x.2) (hL : @LT.lt Nat _ 181 L) (hKX : ∀ p ∈ KX, @LT.lt Nat _ (L + 1 + 1 + 1 + 1 + 1 + 1) p.1)
    (F : Fr h₀ L s.heap m) (N : News h₀ L s.heap (tb1 #[] :: tb2 #[] :: six L c1 c2 c3 c4 c5 c6 KX)) (hQ : ∀ s' m' t1 t2, Fr h₀ L s'.heap m' → News h₀ L s'.heap [tb1 t1, tb2 t2] → Same s s' → Q (.ret (.bool true)) s') :
    wpAny (model PySem.Challenge.rw_rs0140_01.prog w) (ktrTop dp un gd (Str.ofString "law") lawSc L fa cd0 (lawCl L) outer) (execs (lawRest 4) (lawEnv L fa cd0)) Q E s := by
  have sK : ∀ p ∈ KX, p ∈ six L c1 c2 c3 c4 c5 c6 KX := fun p hp => .tail _ (.tail _ (.tail _ (.tail _ (.tail _ (.tail _ hp)))))
  obtain ⟨v0, hv0⟩ : ∃ v, ws[0]? = some v := ⟨_, List.getElem?_eq_getElem (by omega)⟩
  obtain ⟨lw, w0s, k0, y0, rfl, hy0, kw0, hI0⟩ := hW 0 v0 hv0
  obtain rfl := Option.some.inj hy0
  have hcl : (colsTo top 5).length = 5 := colsTo_len
  with_reducible refine step (by decide) ?_
  refine seg4 w B X T hdp hu (KK := six L c1 c2 c3 c4 c5 c6 KX) (KF := KX) (bs := [b1, b2, b3]) (q := [x1, x2, x3]) sK hc1 hc2 hc3 hc4 (.head _) (.tail _ (.head _)) (.tail _ (.tail _ (.head _))) (.tail _ (.tail _ (.tail _ (.head _)))) (sK _ kS) (sK _ kW) hv0 kw0 hI0 hcl (hW0.mono sK) (sK _ kL) hLw hll rfl rfl hwl (fun x hx => rows_ok' hT (hlow x hx)) F N ?h181 ?_
  case h181 => exact allCons (by refine ltN ?_; dsimp only; omega) (allCons (by refine ltN ?_; dsimp only; omega) (allCons (by refine ltN ?_; dsimp only; omega) (allCons (by refine ltN ?_; dsimp only; omega) (allCons (by refine ltN ?_; dsimp only; omega) (allCons (by refine ltN ?_; dsimp only; omega) fun p hp => Nat.lt_trans (ltN (by omega)) (hKX p hp))))))
  intro D rs kr c s4 m4 F4 hS4 N4 ht1 ht2 hKD hcd hrl hR hSm
  show wpAny _ _ (execs (lawRest 5) _) _ _ _
  obtain ⟨r1, r2, r3, rfl⟩ := three hrl
  obtain ⟨z1, rv1, y1, g1, rfl, e1, f1, E1, R1⟩ := hR 0 r1 rfl
  obtain ⟨z2, rv2, y2, g2, rfl, e2, f2, E2, R2⟩ := hR 1 r2 rfl
  obtain ⟨z3, rv3, y3, g3, rfl, e3, f3, E3, R3⟩ := hR 2 r3 rfl
  obtain rfl := Option.some.inj e1
  obtain rfl := Option.some.inj e2
  obtain rfl := Option.some.inj e3
  obtain rfl := Option.some.inj f1
  obtain rfl := Option.some.inj f2
  obtain rfl := Option.some.inj f3
  clear hR e1 e2 e3 f1 f2 f3
  -- the ledger from here on: the two open cells, and the rest
  obtain ⟨K4, eK4⟩ : ∃ K4, K4 = (D, W.listOf #[.ref z1, .ref z2, .ref z3] kr) :: tb1 c.t1 :: tb2 c.t2 :: (c.cd ++ (c.tl ++ ((L + 1, c1) :: (L + 1 + 1, c2) :: (L + 1 + 1 + 1, c3) :: (L + 1 + 1 + 1 + 1, c4) :: KX))) := ⟨_, rfl⟩
  have N4' : News h₀ L s4.heap ((L + 1 + 1 + 1 + 1 + 1, c5) :: (L + 1 + 1 + 1 + 1 + 1 + 1, c6) :: K4) := newsSub N4 (by rw [eK4]; intro p hp; simp only [List.mem_cons, List.mem_append] at hp ⊢; grind)
  have kR : (D, W.listOf #[.ref z1, .ref z2, .ref z3] kr) ∈ K4 := by rw [eK4]; exact .head _
  have kt1 : tb1 c.t1 ∈ K4 := by rw [eK4]; exact .tail _ (.head _)
  have kt2 : tb2 c.t2 ∈ K4 := by rw [eK4]; exact .tail _ (.tail _ (.head _))
  have sT : ∀ p ∈ c.tl, p ∈ K4 := fun p hp => by rw [eK4]; exact .tail _ (.tail _ (.tail _ (memR (memL hp))))
  have sX : ∀ p ∈ (L + 1, c1) :: (L + 1 + 1, c2) :: (L + 1 + 1 + 1, c3) :: (L + 1 + 1 + 1 + 1, c4) :: KX, p ∈ K4 := fun p hp => by rw [eK4]; exact .tail _ (.tail _ (.tail _ (memR (memR hp))))
  have sX' : ∀ p ∈ KX, p ∈ K4 := fun p hp => sX p (.tail _ (.tail _ (.tail _ (.tail _ hp))))
  have hD6 : @LT.lt Nat _ (L + 1 + 1 + 1 + 1 + 1 + 1) D := hKD _ (.tail _ (.tail _ (.tail _ (.tail _ (.tail _ (.head _))))))
  have off : ∀ a : Addr, @LE.le Nat _ (L + 1 + 1 + 1 + 1 + 1) a → @LE.le Nat _ a (L + 1 + 1 + 1 + 1 + 1 + 1) → ∀ p ∈ K4, p.1 ≠ a := by
    intro a ha ha'
    rw [eK4]
    have ha6 : ∀ {b : Addr}, @LT.lt Nat _ (L + 1 + 1 + 1 + 1 + 1 + 1) b → b ≠ a := fun h => Nat.ne_of_gt (Nat.lt_of_le_of_lt ha' h)
    refine allCons (ha6 hD6) (allCons (Nat.ne_of_lt (Nat.lt_of_lt_of_le (show @LT.lt Nat _ 138 (L + 1 + 1 + 1 + 1 + 1) by omega) ha)) (allCons (Nat.ne_of_lt (Nat.lt_of_lt_of_le (show @LT.lt Nat _ 181 (L + 1 + 1 + 1 + 1 + 1) by omega) ha)) (allApp (fun p hp => ha6 (Nat.lt_trans hD6 (hcd p (memL hp)))) (allApp (fun p hp => ha6 (Nat.lt_trans hD6 (hcd p (memR hp)))) (allCons (Nat.ne_of_lt (Nat.lt_of_lt_of_le (ltN (by omega)) ha)) (allCons (Nat.ne_of_lt (Nat.lt_of_lt_of_le (ltN (by omega)) ha)) (allCons (Nat.ne_of_lt (Nat.lt_of_lt_of_le (ltN (by omega)) ha)) (allCons (Nat.ne_of_lt (Nat.lt_of_lt_of_le (ltN (by omega)) ha)) fun p hp => ha6 (hKX p hp)))))))))
  have off5 := off (L + 1 + 1 + 1 + 1 + 1) (Nat.le_refl _) (Nat.le_succ _)
  have off6 := off (L + 1 + 1 + 1 + 1 + 1 + 1) (Nat.le_succ _) (Nat.le_refl _)
  have sR : ∀ p ∈ c.tl ++ (c.cd ++ KX), p ∈ K4 := fun p hp => (List.mem_append.mp hp).elim (sT p) fun h => (List.mem_append.mp h).elim (fun h => by rw [eK4]; exact .tail _ (.tail _ (.tail _ (memL h)))) (sX' p)
  have R1' := R1.mono sR
  have R2' := R2.mono sR
  have R3' := R3.mono sR
  have E1' := E1.mono sT
  have E2' := E2.mono sT
  have E3' := E3.mono sT
  have kk1 : (L + 1, c1) ∈ K4 := sX _ (.head _)
  have kk2 : (L + 1 + 1, c2) ∈ K4 := sX _ (.tail _ (.head _))
  have kk3 : (L + 1 + 1 + 1, c3) ∈ K4 := sX _ (.tail _ (.tail _ (.head _)))
  have kk4 : (L + 1 + 1 + 1 + 1, c4) ∈ K4 := sX _ (.tail _ (.tail _ (.tail _ (.head _))))
  have kL' : @LT.lt Nat _ L (L + 1 + 1 + 1 + 1 + 1) := ltN (by omega)
  have offL : ∀ p ∈ K4, p.1 ≠ L := by
    rw [eK4]
    have ha6 : ∀ {b : Addr}, @LT.lt Nat _ (L + 1 + 1 + 1 + 1 + 1 + 1) b → b ≠ L := fun h => Nat.ne_of_gt (Nat.lt_trans (ltN (by omega)) h)
    exact allCons (ha6 hD6) (allCons (Nat.ne_of_lt (Nat.lt_trans (show @LT.lt Nat _ 138 181 by decide) hL)) (allCons (Nat.ne_of_lt hL) (allApp (fun p hp => ha6 (Nat.lt_trans hD6 (hcd p (memL hp)))) (allApp (fun p hp => ha6 (Nat.lt_trans hD6 (hcd p (memR hp)))) (allCons (Nat.ne_of_gt (ltN (by omega))) (allCons (Nat.ne_of_gt (ltN (by omega))) (allCons (Nat.ne_of_gt (ltN (by omega))) (allCons (Nat.ne_of_gt (ltN (by omega))) fun p hp => ha6 (hKX p hp)))))))))
  clear eK4 R1 R2 R3 E1 E2 E3 sR sT sX hcd hKD N4 N ht1 ht2
  refine rest5 w B X T hdp hu hE hS4.at_ hc1 hc2 hc3 hc4 hc5 hc6 kk1 kk2 kk3 kk4 (sX' _ kS) (sX' _ kW) (hW.mono sX') hwl (hW0.mono sX') (sX' _ kL) (hLw.mono sX') hll kR kt1 kt2 off5 off6 offL E1' E2' E3' R1' R2' R3' hT hlow F4 N4' ?_
  intro s' m' ta tt F9 N9 hS9
  exact hQ s' m' ta tt F9 N9 (hSm.trans hS9)
theorem rest0 (w : World) {dp un : Nat} {gd : Option (List Code)} {fa : Addr} {cd0 : Value} {outer : List Env} {A₀ : Around} {base h₀ : Heap} {L : Addr} {loose : List Str} {mean : ExcName → Option Value} {mg mb : Str → Option Value} {m : Str → Option Value} {s : Shared} {Q : Flow → Shared → Prop} {E : Value → Shared → Prop}
    (B : Below A₀ base outer h₀) (X : (hd.heap_39 w.params).In h₀) (T : Top topProg loose mean mg mb h₀) (hdp : dp + 9 < recursionLimit) (hu : un + 20 * 9 < cLine)
    (hE : PassesOwn (model PySem.Challenge.rw_rs0140_01.prog w) (ktrTop dp un gd (Str.ofString "law") lawSc L fa cd0 (lawCl L) outer) (lawEnv L fa cd0) E)
    {c1 c2 c3 c4 c5 c6 : Obj} {ls : Addr} {vs : List Value} {ns : List Int} (hm1 : m (Str.ofString "script") = some (.ref ls)) (hc1 : ∃ v, c1.data = .cell v) (hc2 : ∃ v, c2.data = .cell v) (hc3 : ∃ v, c3.data = .cell v) (hc4 : ∃ v, c4.data = .cell v) (hc5 : ∃ v, c5.data = .cell v) (hc6 : ∃ v, c6.data = .cell v) (hLs : h₀.IsList ls vs.toArray) (hI : IntsAre vs ns) (hn : ns.length ≤ 63) (hL : @LT.lt Nat _ 181 L)
    (F : Fr h₀ L s.heap m) (N : News h₀ L s.heap [(L + 1 + 1 + 1 + 1 + 1 + 1, c6), (L + 1 + 1 + 1 + 1 + 1, c5), (L + 1 + 1 + 1 + 1, c4), (L + 1 + 1 + 1, c3), (L + 1 + 1, c2), (L + 1, c1), tb1 #[], tb2 #[]]) (hQ : ∀ s' m' t1 t2, Fr h₀ L s'.heap m' → News h₀ L s'.heap [tb1 t1, tb2 t2] → Same s s' → Q (.ret (.bool true)) s') :
    wpAny (model PySem.Challenge.rw_rs0140_01.prog w) (ktrTop dp un gd (Str.ofString "law") lawSc L fa cd0 (lawCl L) outer) (execs (lawRest 0) (lawEnv L fa cd0)) Q E s := by
  have far : ∀ {KX : Led} (a : Addr), @LE.le Nat _ a (L + 1 + 1 + 1 + 1 + 1 + 1) → (∀ p ∈ KX, @LT.lt Nat _ (L + 1 + 1 + 1 + 1 + 1 + 1) p.1) → ∀ p ∈ KX, p.1 ≠ a := fun a ha h p hp => Nat.ne_of_gt (Nat.lt_of_le_of_lt ha (h p hp))
  have tabs : ∀ a : Addr, @LE.le Nat _ L a → (tb1 #[]).1 ≠ a ∧ (tb2 #[]).1 ≠ a := fun a ha => ⟨Nat.ne_of_lt (Nat.lt_trans (show @LT.lt Nat _ 138 181 by decide) (Nat.lt_of_lt_of_le hL ha)), Nat.ne_of_lt (Nat.lt_of_lt_of_le hL ha)⟩
  have N0 : News h₀ L s.heap ((L + 1, c1) :: (tb1 #[] :: tb2 #[] :: (L + 1 + 1, c2) :: (L + 1 + 1 + 1, c3) :: (L + 1 + 1 + 1 + 1, c4) :: (L + 1 + 1 + 1 + 1 + 1, c5) :: [(L + 1 + 1 + 1 + 1 + 1 + 1, c6)])) := newsSub N (by intro p hp; simp only [List.mem_cons, List.mem_append, List.not_mem_nil, or_false] at hp ⊢; grind)
  have T1 := tabs (L + 1) (leN (by omega))
  with_reducible refine step (by decide) ?_
  refine seg0 w B X T hdp hu (t0 := s.toks) hc1 hm1 hLs hI hn ?ne1 F N0 ?_
  case ne1 => exact allCons T1.1 (allCons T1.2 (allCons (by refine neN ?_; dsimp only; omega) (allCons (by refine neN ?_; dsimp only; omega) (allCons (by refine neN ?_; dsimp only; omega) (allCons (by refine neN ?_; dsimp only; omega) (allCons (by refine neN ?_; dsimp only; omega) allNil))))))
  intro la sa us k ks q bs r0 b0 c1' tl0 h1 tk1 m1 F1 hS1 hc1' N1 hn0 kla kS hLe hT hql hlow hbl
  show wpAny _ _ (execs (lawRest 1) _) _ _ _
  have hX0 : ∀ p ∈ tl0, @LT.lt Nat _ (L + 1 + 1 + 1 + 1 + 1 + 1) p.1 := fun p hp => hn0 p hp _ (.tail _ (.tail _ (.tail _ (.tail _ (.tail _ (.tail _ (.tail _ (.head _))))))))
  obtain ⟨x1, x2, x3, rfl⟩ := three hql
  obtain ⟨b1, b2, b3, rfl⟩ := three hbl
  have N1' : News h₀ L h1 ((L + 1 + 1, c2) :: (tb1 #[] :: tb2 #[] :: (L + 1, c1') :: (L + 1 + 1 + 1, c3) :: (L + 1 + 1 + 1 + 1, c4) :: (L + 1 + 1 + 1 + 1 + 1, c5) :: (L + 1 + 1 + 1 + 1 + 1 + 1, c6) :: tl0)) := newsSub N1 (by intro p hp; simp only [List.mem_cons, List.mem_append, List.not_mem_nil, or_false] at hp ⊢; grind)
  clear N N0 N1
  have T2 := tabs (L + 1 + 1) (leN (by omega))
  have s0 : ∀ {a1 a2 a3 a4 a5 a6 a7 : Addr × Obj}, ∀ p ∈ tl0, p ∈ a1 :: a2 :: a3 :: a4 :: a5 :: a6 :: a7 :: tl0 := fun p hp => .tail _ (.tail _ (.tail _ (.tail _ (.tail _ (.tail _ (.tail _ hp))))))
  with_reducible refine step (by decide) ?_
  refine seg1 w B X T hdp hu hc2 hS1.at_ (s0 _ kla) hLe rfl ?ne2 F1 N1' ?_
  case ne2 => exact allCons T2.1 (allCons T2.2 (allCons (by refine neN ?_; dsimp only; omega) (allCons (by refine neN ?_; dsimp only; omega) (allCons (by refine neN ?_; dsimp only; omega) (allCons (by refine neN ?_; dsimp only; omega) (allCons (by refine neN ?_; dsimp only; omega) (far _ (leN (by omega)) hX0)))))))
  intro D1 ws kw c2' tl1 h2 tk2 F2 hc2' N2 hD1 htl1 hwl hW
  show wpAny _ _ (execs (lawRest 2) _) _ _ _
  have hD16 : @LT.lt Nat _ (L + 1 + 1 + 1 + 1 + 1 + 1) D1 := hD1 _ (.tail _ (.tail _ (.tail _ (.tail _ (.tail _ (.tail _ (.tail _ (.head _))))))))
  obtain ⟨K1, eK1⟩ : ∃ K1, K1 = (D1, W.listOf ws.toArray kw) :: (tl1 ++ tl0) := ⟨_, rfl⟩
  have hX1 : ∀ p ∈ K1, @LT.lt Nat _ (L + 1 + 1 + 1 + 1 + 1 + 1) p.1 := by rw [eK1]; exact allCons hD16 (allApp (fun p hp => Nat.lt_trans hD16 (htl1 p hp)) hX0)
  have N2' : News h₀ L h2 ((L + 1 + 1 + 1, c3) :: (tb1 #[] :: tb2 #[] :: (L + 1, c1') :: (L + 1 + 1, c2') :: (L + 1 + 1 + 1 + 1, c4) :: (L + 1 + 1 + 1 + 1 + 1, c5) :: (L + 1 + 1 + 1 + 1 + 1 + 1, c6) :: K1)) := newsSub N2 (by rw [eK1]; intro p hp; simp only [List.mem_cons, List.mem_append, List.not_mem_nil, or_false] at hp ⊢; grind)
  have kW : (D1, W.listOf ws.toArray kw) ∈ K1 := by rw [eK1]; exact .head _
  have hW' : WalksAt K1 ws _ := hW.mono fun p hp => by rw [eK1]; exact .tail _ (memL hp)
  have s1 : ∀ p ∈ tl0, p ∈ K1 := fun p hp => by rw [eK1]; exact .tail _ (memR hp)
  clear eK1 N1' N2 hW
  obtain ⟨t0, t1, t2, t3, rfl⟩ : ∃ t0 t1 t2 t3, us = [.str (leadText r0 b0) t0, .str (leadText x1.1 x1.2) t1, .str (leadText x2.1 x2.2) t2, .str (leadText x3.1 x3.2) t3] := by
    cases hLe with | cons h => cases h with | cons h => cases h with | cons h => cases h with | cons h => cases h with | nil => exact ⟨_, _, _, _, rfl⟩
  have T3 := tabs (L + 1 + 1 + 1) (leN (by omega))
  have hmL : m1 (Str.ofString "leads") = some (.ref la) := hS1.at_
  with_reducible refine step (by decide) ?_
  refine seg2 w B X T hdp hu hc3 hmL (.tail _ (.tail _ (.tail _ (.tail _ (.tail _ (.tail _ (.tail _ (s1 _ kla)))))))) hT.low ?ne3 F2 N2' ?_
  case ne3 => exact allCons T3.1 (allCons T3.2 (allCons (by refine neN ?_; dsimp only; omega) (allCons (by refine neN ?_; dsimp only; omega) (allCons (by refine neN ?_; dsimp only; omega) (allCons (by refine neN ?_; dsimp only; omega) (allCons (by refine neN ?_; dsimp only; omega) (far _ (leN (by omega)) hX1)))))))
  intro x0 c3' tl2 h3 tk3 F3 hc3' N3 hn2 hW0
  show wpAny _ _ (execs (lawRest 3) _) _ _ _
  obtain ⟨K2, eK2⟩ : ∃ K2, K2 = tl2 ++ K1 := ⟨_, rfl⟩
  have hX2 : ∀ p ∈ K2, @LT.lt Nat _ (L + 1 + 1 + 1 + 1 + 1 + 1) p.1 := by rw [eK2]; exact allApp (fun p hp => hn2 p hp _ (.tail _ (.tail _ (.tail _ (.tail _ (.tail _ (.tail _ (.tail _ (.head _))))))))) hX1
  have N3' : News h₀ L h3 ((L + 1 + 1 + 1 + 1, c4) :: (tb1 #[] :: tb2 #[] :: (L + 1, c1') :: (L + 1 + 1, c2') :: (L + 1 + 1 + 1, c3') :: (L + 1 + 1 + 1 + 1 + 1, c5) :: (L + 1 + 1 + 1 + 1 + 1 + 1, c6) :: K2)) := newsSub N3 (by rw [eK2]; intro p hp; simp only [List.mem_cons, List.mem_append, List.not_mem_nil, or_false] at hp ⊢; grind)
  have hW0' : WhiteAt K2 x0 _ := hW0.mono fun p hp => by rw [eK2]; exact memL hp
  have s2 : ∀ p ∈ K1, p ∈ K2 := fun p hp => by rw [eK2]; exact memR hp
  clear eK2 N2' N3 hW0
  have T4 := tabs (L + 1 + 1 + 1 + 1) (leN (by omega))
  with_reducible refine step (by decide) ?_
  refine seg3 w B X T hdp hu hc4 hmL (.tail _ (.tail _ (.tail _ (.tail _ (.tail _ (.tail _ (.tail _ (s2 _ (s1 _ kla))))))))) hlow ?ne4 F3 N3' ?_
  case ne4 => exact allCons T4.1 (allCons T4.2 (allCons (by refine neN ?_; dsimp only; omega) (allCons (by refine neN ?_; dsimp only; omega) (allCons (by refine neN ?_; dsimp only; omega) (allCons (by refine neN ?_; dsimp only; omega) (allCons (by refine neN ?_; dsimp only; omega) (far _ (leN (by omega)) hX2)))))))
  intro D3 lws kl c4' tl3 h4 tk4 F4 hc4' N4 hD3 htl3 hll hLw
  show wpAny _ _ (execs (lawRest 4) _) _ _ _
  have hD36 : @LT.lt Nat _ (L + 1 + 1 + 1 + 1 + 1 + 1) D3 := hD3 _ (.tail _ (.tail _ (.tail _ (.tail _ (.tail _ (.tail _ (.tail _ (.head _))))))))
  obtain ⟨K3, eK3⟩ : ∃ K3, K3 = (D3, W.listOf lws.toArray kl) :: (tl3 ++ K2) := ⟨_, rfl⟩
  have hX3 : ∀ p ∈ K3, @LT.lt Nat _ (L + 1 + 1 + 1 + 1 + 1 + 1) p.1 := by rw [eK3]; exact allCons hD36 (allApp (fun p hp => Nat.lt_trans hD36 (htl3 p hp)) hX2)
  have N4' : News h₀ L h4 (tb1 #[] :: tb2 #[] :: six L c1' c2' c3' c4' c5 c6 K3) := newsSub N4 (by rw [eK3]; intro p hp; simp only [List.mem_cons, List.mem_append, List.not_mem_nil, or_false] at hp ⊢; grind)
  have s3 : ∀ p ∈ K2, p ∈ K3 := fun p hp => by rw [eK3]; exact .tail _ (memR hp)
  have kL : (D3, W.listOf lws.toArray kl) ∈ K3 := by rw [eK3]; exact .head _
  have hLw' : WhitesAt K3 lws _ := hLw.mono fun p hp => by rw [eK3]; exact .tail _ (memL hp)
  clear eK3 N3' N4 hLw
  refine rest4 w B X T hdp hu hE (top := (r0, b0)) hc1' hc2' hc3' hc4' hc5 hc6 (s3 _ (s2 _ (s1 _ kS))) (s3 _ (s2 _ kW)) (hW'.mono fun p hp => s3 p (s2 p hp)) hwl (hW0'.mono s3) kL hLw' hll hT hlow hL hX3 F4 N4' ?_
  intro s' m' ta tt F9 N9 hS9
  exact hQ s' m' ta tt F9 N9 ⟨hS9.1, hS9.2.1, hS9.2.2⟩
end Mine
end

section
open PySem PySem.W PyProof.Rows
namespace Mine
theorem sec_QJ0 {M : Model} {A : Around} {E : Value → Shared → Prop} {s : Shared} {env : Env} {p : Pos} {Q : Flow → Shared → Prop} (h : Q .next s) : wpAny M A (exec (.Pass p) env) Q E s := by
  w_top off
  k_with_none
  walk1
  exact h
end Mine
end
section
open PySem PySem.W PyProof.Rows
set_option maxRecDepth 100000
set_option maxHeartbeats 4000000
namespace Mine
/-- what a law's way must show at its end, the tables laid aside -/
def EndG (tabs : List (Addr × Addr)) (s₁ : Shared) (r : Result) (s' : Shared) : Prop :=
  r = .ok (.ret (.bool true)) ∧ (∀ b o, (ghostOf s₁.heap tabs).get? b = some o → s'.heap.get? b = some o) ∧ s'.os = s₁.os ∧ AllBare s'.gens ∧ GrownAll tabs s'.heap
theorem end_of {cw : ClaimW} {cl : Str → Option Addr} {mean : ExcName → Option Value} {args : List WData} {s₁ : Shared} {tabs : List (Addr × Addr)} (hT : TabsAt tabs s₁.heap) (hr : ∀ cls, cw.raises args cls = false) (hp : cw.post args (.bool true) args = true)
    {r : Result} {s' : Shared} (h : EndG tabs s₁ r s') : GoodWG cw cl mean args s₁ r s' := by
  obtain ⟨rfl, hk, hos, hg, hgr⟩ := h
  have tabs_are : ∀ b o, b ∈ tabs.map (·.2) → s₁.heap.get? b = some o → isCodeTable s₁.heap b ∧ o = tabObj #[] ∧ ∃ ps, s'.heap.get? b = some (tabObj ps) := by
    intro b o hb e
    obtain ⟨q, hq, rfl⟩ := List.mem_map.mp hb
    have h2 := hT q hq
    have e3 : some o = some (tabObj #[]) := e.symm.trans h2.2
    exact ⟨(h2.1.tab h2.2).isCodeTable, Option.some.inj e3, hgr.get q hq⟩
  refine ⟨.inl ⟨.bool true, .bool true, [], rfl, hr, .bool true, hp, fun _ => ⟨.nil, fun _ h => nomatch h⟩⟩, ⟨fun b o e => ?_, fun b o e => ?_⟩, hos, hg⟩
  · by_cases hb : b ∈ tabs.map (·.2)
    · obtain ⟨ht, rfl, ps, hP⟩ := tabs_are b o hb e
      exact .inr (.inl ⟨ht, rfl, #[], ps, rfl, by rw [hP, Array.empty_append]⟩)
    · exact .inl (hk b o (ghost_ne e hb))
  · by_cases hb : b ∈ tabs.map (·.2)
    · obtain ⟨_, _, ps, hP⟩ := tabs_are b o hb e
      exact ⟨_, hP⟩
    · exact ⟨o, hk b o (ghost_ne e hb)⟩
end Mine
open Mine in
theorem PySem.Challenge.cw_rs0140_01_holds : PySem.Challenge.rw_rs0140_01.Holds := by
  w_on
  refine holds_law (by kernel_rfl) fun said => ?_
  refine holds_open (q := hd.view_39) (loose := [Str.ofString "Whitespace"]) (Xt := fun s => xlAt hd.view_39 [] s && recOk (RowW.records PySem.Challenge.rw_rs0140_01.row.toRowW) s) (XP := XL hd.view_39 []) (Yf := Hook.obs hd.hook) (Ya := Hook.val hd.hook) (YP := Hook.says hd.hook) (N := 2526) hd.left (Hook.of hd.hook) (Hook.keeps hd.hook) (fun s e => xl_of s (Bool.and_eq_true_iff.mp e).1) XL.keeps (by rfl) (by rfl) (by rfl) (fun s e => recFacts_of (Bool.and_eq_true_iff.mp e).2) (by rfl) said (by kernel_rfl) ⟨rfl, rfl, rfl, rfl, rfl, by kernel_rfl⟩ ?hw ?hc
  case hw => w_witness2
  k_fill
  intro w s₀ s₁ mg mb G Y fa o pm cd doc dV kV ho hdd hcd hD hmg hg args vals as hpre hlay hrd hwl hlo
  have KX := km_in_of Y
  have hT8 := km_tabs_of Y
  have X := (Ground.X G).1
  have V := (Ground.X G).2
  refine Ground.open G ?_
  intro T B D TE TW
  try (refine guard_noD D (by decide +kernel) ?_; clear D)
  have hT9 : TabsAt [(142, 138), (185, 181)] _ := List.forall_mem_cons.mpr ⟨tab_of (x := Str.ofString "format_witnesses") (c := 142) (P := 138) T KX rfl (by kernel_rfl), List.forall_mem_cons.mpr ⟨⟨codeHd_of_K (c := 185) (P := 181) KX (by kernel_rfl), hT8 181 (.head _)⟩, fun _ h => nomatch h⟩⟩
  clear hmg
  wrow_args hpre hlay hrd hwl hlo
  all_goals (first | refine callC_kw (enter_call ?_) | refine enter_call ?_)
  all_goals w_top on
  all_goals refine codeAny_mono ?_ (fun r s' (hq : EndG [(142, 138), (185, 181)] s₁ r s') => end_of hT9 ?hr9 ?hp9 hq)
  case hr9 => exact fun _ => rfl
  case hp9 => wrow_post
  all_goals w_call any ho hdd hcd hD T F
  all_goals clear hdd
  all_goals kn_ghosts F T
  all_goals k_drop
  (all_goals try k_fold)
  rename Fr _ _ _ _ => F9
  rename News _ _ _ _ => N9
  rename Below _ _ _ _ => B9
  rename Top _ _ _ _ _ _ => T9
  rename Frag.In _ _ => X9
  rename IntsAre _ _ => I9
  rename Heap.IsList (ghostOf _ _) _ _ => L9
  rename_i o6 o5 o4 o3 o2 o1 q6 q5 q4 q3 q2 q1 q0 l6 l5
  refine rest0 w (s := { heap := _, gens := s₁.gens, drawn := s₁.drawn, toks := _, os := s₁.os }) (L := s₁.heap.objs.size) (fa := fa) (cd0 := cd) (outer := []) (c1 := o1) (c2 := o2) (c3 := o3) (c4 := o4) (c5 := o5) (c6 := o6) B9 X9 T9 ?p1 ?p2 ?p3 ?c0 ⟨_, q1⟩ ⟨_, q2⟩ ⟨_, q3⟩ ⟨_, q4⟩ ⟨_, q5⟩ ⟨_, q6⟩ L9 I9 ?p4 l5.2 F9 N9 ?p6
  case p1 => decide
  case p2 => decide
  case p3 => exact PySem.PassesOwn.leaving
  case c0 => exact rfl
  case p4 => omega
  case p6 =>
    intro s' m' t1 t2 F N S
    exact ⟨rfl, F.keep, S.1, S.2.2 (AllBare.of_eq hg), GrownAt.of N (.head _), GrownAt.of N (.tail _ (.head _)), trivial⟩
end

end
end
end
end
end
end
end
end
end
end
end